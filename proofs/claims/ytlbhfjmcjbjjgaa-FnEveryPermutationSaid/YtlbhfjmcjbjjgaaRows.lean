/-
  No cell of these rows narrows 'for every input' (looked for: loops, veiled, ifaces, maps, wideKeys, modest, calm, conditions, laid).
  DERIVED. THE GIVEN ROWS OF THIS SEAT. 8 by the template 'for every input the law returns true; each argument reads behind the call as it read before'; 0 by the template 'total and deterministic' (their statements: YtlbhfjmcjbjjgaaTotals.lean).
  GIVEN WITH THE SEED: the statements are not yours to turn. If you find one false, say at which input.
  Laid BY PROGRAM, IN A SANDBOX (cutbox-rows.mjs): the forced cells as the released guide's own fill.sh prints them over the translation de919d25b9e244a6… (all of the seat's roots in one cut). By AI agents, Wed Nov 11 2026. No macro, syntax, notation, axiom, sorry.
-/
import Derived.Test.YtlbhfjmcjbjjgaaChecked
import GoSem.Claim
import GoSem.ClaimJoined
import GoSem.ClaimMapViews
import Derived.JoinedTies
import Derived.KernelRfl
namespace Go.Proofs.Ytlbhfjmcjbjjgaa
/- THE CELL 'sum', in the pinned program and in every row, IS THE sha256 OF THE DUMP (.gsa) THAT YtlbhfjmcjbjjgaaProg.lean LOADS. Nothing in Lean hashes anything: it is a label: what it is worth is what the hold of that sum in a sandbox is worth. -/
noncomputable def Try.pinned : Pinned := { name := "ytlbhfjmcjbjjgaa", sum := "de919d25b9e244a6a42814f07b2fa087b7a4296a1f13c39a4f3b900868819135", checked := Try.checked }
namespace Rows
def none {H : Type} : Left H := { results := [], args := [] }

/-- 'laws.FnTailStays': WHATEVER THE INPUT: true; the input reads as it did. -/
def fnTailStaysSpec : ChangeSpec := { name := "fnTailStays", fn := fun _ => fun
  | [d1, d2, d3, d4] => { results := [.lit (.bool true)], args := [d1, d2, d3, d4] }
  | _ => none }
def fnTailStaysRow : OpenClaim := { program := "ytlbhfjmcjbjjgaa", sum := "de919d25b9e244a6a42814f07b2fa087b7a4296a1f13c39a4f3b900868819135", func := "loop.example/lib-g01435/laws.FnTailStays", spec := "fnTailStays", unfollowed := true, recurses := true, apart := false }
def FnTailStaysSaid : Prop := fnTailStaysRow.holds Try.pinned (OpenSpec.ofChange fnTailStaysSpec)

/-- ITS FALSE NEIGHBOUR: 'it returns false'. Refute it at one input. -/
def fnTailStaysWrong : ChangeSpec := { name := "fnTailStays", fn := fun _ => fun
  | [d1, d2, d3, d4] => { results := [.lit (.bool false)], args := [d1, d2, d3, d4] }
  | _ => none }
def FnTailStaysWrongFalsely : Prop := fnTailStaysRow.holds Try.pinned (OpenSpec.ofChange fnTailStaysWrong)

/-- 'laws.FnFurtherWords': WHATEVER THE INPUT: true; the input reads as it did. -/
def fnFurtherWordsSpec : ChangeSpec := { name := "fnFurtherWords", fn := fun _ => fun
  | [d1, d2, d3] => { results := [.lit (.bool true)], args := [d1, d2, d3] }
  | _ => none }
def fnFurtherWordsRow : OpenClaim := { program := "ytlbhfjmcjbjjgaa", sum := "de919d25b9e244a6a42814f07b2fa087b7a4296a1f13c39a4f3b900868819135", func := "loop.example/lib-g01435/laws.FnFurtherWords", spec := "fnFurtherWords", unfollowed := true, recurses := true, apart := false }
def FnFurtherWordsSaid : Prop := fnFurtherWordsRow.holds Try.pinned (OpenSpec.ofChange fnFurtherWordsSpec)

/-- ITS FALSE NEIGHBOUR: 'it returns false'. Refute it at one input. -/
def fnFurtherWordsWrong : ChangeSpec := { name := "fnFurtherWords", fn := fun _ => fun
  | [d1, d2, d3] => { results := [.lit (.bool false)], args := [d1, d2, d3] }
  | _ => none }
def FnFurtherWordsWrongFalsely : Prop := fnFurtherWordsRow.holds Try.pinned (OpenSpec.ofChange fnFurtherWordsWrong)

/-- 'laws.FnScriptInTwo': WHATEVER THE INPUT: true; the input reads as it did. -/
def fnScriptInTwoSpec : ChangeSpec := { name := "fnScriptInTwo", fn := fun _ => fun
  | [d1, d2, d3] => { results := [.lit (.bool true)], args := [d1, d2, d3] }
  | _ => none }
def fnScriptInTwoRow : OpenClaim := { program := "ytlbhfjmcjbjjgaa", sum := "de919d25b9e244a6a42814f07b2fa087b7a4296a1f13c39a4f3b900868819135", func := "loop.example/lib-g01435/laws.FnScriptInTwo", spec := "fnScriptInTwo", unfollowed := true, recurses := true, apart := false }
def FnScriptInTwoSaid : Prop := fnScriptInTwoRow.holds Try.pinned (OpenSpec.ofChange fnScriptInTwoSpec)

/-- ITS FALSE NEIGHBOUR: 'it returns false'. Refute it at one input. -/
def fnScriptInTwoWrong : ChangeSpec := { name := "fnScriptInTwo", fn := fun _ => fun
  | [d1, d2, d3] => { results := [.lit (.bool false)], args := [d1, d2, d3] }
  | _ => none }
def FnScriptInTwoWrongFalsely : Prop := fnScriptInTwoRow.holds Try.pinned (OpenSpec.ofChange fnScriptInTwoWrong)

/-- 'laws.FnShuffleDraws': WHATEVER THE INPUT: true; the input reads as it did. -/
def fnShuffleDrawsSpec : ChangeSpec := { name := "fnShuffleDraws", fn := fun _ => fun
  | [d1, d2] => { results := [.lit (.bool true)], args := [d1, d2] }
  | _ => none }
def fnShuffleDrawsRow : OpenClaim := { program := "ytlbhfjmcjbjjgaa", sum := "de919d25b9e244a6a42814f07b2fa087b7a4296a1f13c39a4f3b900868819135", func := "loop.example/lib-g01435/laws.FnShuffleDraws", spec := "fnShuffleDraws", unfollowed := true, recurses := true, apart := false }
def FnShuffleDrawsSaid : Prop := fnShuffleDrawsRow.holds Try.pinned (OpenSpec.ofChange fnShuffleDrawsSpec)

/-- ITS FALSE NEIGHBOUR: 'it returns false'. Refute it at one input. -/
def fnShuffleDrawsWrong : ChangeSpec := { name := "fnShuffleDraws", fn := fun _ => fun
  | [d1, d2] => { results := [.lit (.bool false)], args := [d1, d2] }
  | _ => none }
def FnShuffleDrawsWrongFalsely : Prop := fnShuffleDrawsRow.holds Try.pinned (OpenSpec.ofChange fnShuffleDrawsWrong)

/-- 'laws.FnEveryPermutation': WHATEVER THE INPUT: true; the input reads as it did. -/
def fnEveryPermutationSpec : ChangeSpec := { name := "fnEveryPermutation", fn := fun _ => fun
  | [d] => { results := [.lit (.bool true)], args := [d] }
  | _ => none }
def fnEveryPermutationRow : OpenClaim := { program := "ytlbhfjmcjbjjgaa", sum := "de919d25b9e244a6a42814f07b2fa087b7a4296a1f13c39a4f3b900868819135", func := "loop.example/lib-g01435/laws.FnEveryPermutation", spec := "fnEveryPermutation", unfollowed := true, recurses := true, apart := false }
def FnEveryPermutationSaid : Prop := fnEveryPermutationRow.holds Try.pinned (OpenSpec.ofChange fnEveryPermutationSpec)

/-- ITS FALSE NEIGHBOUR: 'it returns false'. Refute it at one input. -/
def fnEveryPermutationWrong : ChangeSpec := { name := "fnEveryPermutation", fn := fun _ => fun
  | [d] => { results := [.lit (.bool false)], args := [d] }
  | _ => none }
def FnEveryPermutationWrongFalsely : Prop := fnEveryPermutationRow.holds Try.pinned (OpenSpec.ofChange fnEveryPermutationWrong)

/-- 'laws.FnPermIsShuffle': WHATEVER THE INPUT: true; the input reads as it did. -/
def fnPermIsShuffleSpec : ChangeSpec := { name := "fnPermIsShuffle", fn := fun _ => fun
  | [d1, d2] => { results := [.lit (.bool true)], args := [d1, d2] }
  | _ => none }
def fnPermIsShuffleRow : OpenClaim := { program := "ytlbhfjmcjbjjgaa", sum := "de919d25b9e244a6a42814f07b2fa087b7a4296a1f13c39a4f3b900868819135", func := "loop.example/lib-g01435/laws.FnPermIsShuffle", spec := "fnPermIsShuffle", unfollowed := true, recurses := true, apart := false }
def FnPermIsShuffleSaid : Prop := fnPermIsShuffleRow.holds Try.pinned (OpenSpec.ofChange fnPermIsShuffleSpec)

/-- ITS FALSE NEIGHBOUR: 'it returns false'. Refute it at one input. -/
def fnPermIsShuffleWrong : ChangeSpec := { name := "fnPermIsShuffle", fn := fun _ => fun
  | [d1, d2] => { results := [.lit (.bool false)], args := [d1, d2] }
  | _ => none }
def FnPermIsShuffleWrongFalsely : Prop := fnPermIsShuffleRow.holds Try.pinned (OpenSpec.ofChange fnPermIsShuffleWrong)

/-- 'laws.FnSwapsTellApart': WHATEVER THE INPUT: true; the input reads as it did. -/
def fnSwapsTellApartSpec : ChangeSpec := { name := "fnSwapsTellApart", fn := fun _ => fun
  | [d1, d2, d3] => { results := [.lit (.bool true)], args := [d1, d2, d3] }
  | _ => none }
def fnSwapsTellApartRow : OpenClaim := { program := "ytlbhfjmcjbjjgaa", sum := "de919d25b9e244a6a42814f07b2fa087b7a4296a1f13c39a4f3b900868819135", func := "loop.example/lib-g01435/laws.FnSwapsTellApart", spec := "fnSwapsTellApart", unfollowed := true, recurses := true, apart := false }
def FnSwapsTellApartSaid : Prop := fnSwapsTellApartRow.holds Try.pinned (OpenSpec.ofChange fnSwapsTellApartSpec)

/-- ITS FALSE NEIGHBOUR: 'it returns false'. Refute it at one input. -/
def fnSwapsTellApartWrong : ChangeSpec := { name := "fnSwapsTellApart", fn := fun _ => fun
  | [d1, d2, d3] => { results := [.lit (.bool false)], args := [d1, d2, d3] }
  | _ => none }
def FnSwapsTellApartWrongFalsely : Prop := fnSwapsTellApartRow.holds Try.pinned (OpenSpec.ofChange fnSwapsTellApartWrong)

/-- 'laws.FnSwapsUndone': WHATEVER THE INPUT: true; the input reads as it did. -/
def fnSwapsUndoneSpec : ChangeSpec := { name := "fnSwapsUndone", fn := fun _ => fun
  | [d1, d2] => { results := [.lit (.bool true)], args := [d1, d2] }
  | _ => none }
def fnSwapsUndoneRow : OpenClaim := { program := "ytlbhfjmcjbjjgaa", sum := "de919d25b9e244a6a42814f07b2fa087b7a4296a1f13c39a4f3b900868819135", func := "loop.example/lib-g01435/laws.FnSwapsUndone", spec := "fnSwapsUndone", unfollowed := true, recurses := true, apart := false }
def FnSwapsUndoneSaid : Prop := fnSwapsUndoneRow.holds Try.pinned (OpenSpec.ofChange fnSwapsUndoneSpec)

/-- ITS FALSE NEIGHBOUR: 'it returns false'. Refute it at one input. -/
def fnSwapsUndoneWrong : ChangeSpec := { name := "fnSwapsUndone", fn := fun _ => fun
  | [d1, d2] => { results := [.lit (.bool false)], args := [d1, d2] }
  | _ => none }
def FnSwapsUndoneWrongFalsely : Prop := fnSwapsUndoneRow.holds Try.pinned (OpenSpec.ofChange fnSwapsUndoneWrong)

/- THE SECOND FORM. 'bulk': how many values and letters a reading holds, each counted each time it is reached (what is shared counts as often as it is met; a slice's spare places count too). A statement '..UptoSaid' is the law's where the arguments, and the package variables that the reading takes, are together of bulk at most 1048576: NARROWER than '..Said'. Prove '..Said' where nothing that the law and all that it calls make is longer than what came in: it says more and counts as full. Else prove '..UptoSaid'. A law counts once. -/
mutual
def uptoBulk {H : Type} : DataW H → Nat
  | .lit (.string bytes) => bytes.length + 1
  | .lit _ => 1
  | .nil => 1
  | .ptr d => uptoBulk d + 1
  | .slice elems spare => uptoBulkAll elems + uptoBulkAll spare + 1
  | .agg parts => uptoBulkAll parts + 1
  | .iface _ d => uptoBulk d + 1
  | .map entries => uptoBulkEntries entries + 1
  | .held _ => 1
def uptoBulkAll {H : Type} : List (DataW H) → Nat
  | [] => 0
  | d :: r => uptoBulk d + uptoBulkAll r
def uptoBulkEntries {H : Type} : List (Lit × DataW H) → Nat
  | [] => 0
  | x :: r => uptoBulkEntry x + uptoBulkEntries r
def uptoBulkEntry {H : Type} : Lit × DataW H → Nat
  | (.string bytes, d) => bytes.length + uptoBulk d + 1
  | (_, d) => uptoBulk d + 1
 end
def uptoSmall : (H : Type) → List (DataW H) → Bool := fun _ ds => decide (uptoBulkAll ds ≤ 1048576)
def OpenSpec.upto (s : _root_.Go.ChangeSpec) : _root_.Go.OpenSpec := { _root_.Go.OpenSpec.ofChange s with cond := some uptoSmall }

/-- 'laws.FnTailStays', WHERE WHAT IT READS IS OF BULK AT MOST 1048576: true; the input reads as it did. -/
def fnTailStaysUptoRow : OpenClaim := { program := "ytlbhfjmcjbjjgaa", sum := "de919d25b9e244a6a42814f07b2fa087b7a4296a1f13c39a4f3b900868819135", func := "loop.example/lib-g01435/laws.FnTailStays", spec := "fnTailStays", unfollowed := true, recurses := true, apart := false, narrowed := true }
def FnTailStaysUptoSaid : Prop := fnTailStaysUptoRow.holds Try.pinned (OpenSpec.upto fnTailStaysSpec)

/-- 'laws.FnFurtherWords', WHERE WHAT IT READS IS OF BULK AT MOST 1048576: true; the input reads as it did. -/
def fnFurtherWordsUptoRow : OpenClaim := { program := "ytlbhfjmcjbjjgaa", sum := "de919d25b9e244a6a42814f07b2fa087b7a4296a1f13c39a4f3b900868819135", func := "loop.example/lib-g01435/laws.FnFurtherWords", spec := "fnFurtherWords", unfollowed := true, recurses := true, apart := false, narrowed := true }
def FnFurtherWordsUptoSaid : Prop := fnFurtherWordsUptoRow.holds Try.pinned (OpenSpec.upto fnFurtherWordsSpec)

/-- 'laws.FnScriptInTwo', WHERE WHAT IT READS IS OF BULK AT MOST 1048576: true; the input reads as it did. -/
def fnScriptInTwoUptoRow : OpenClaim := { program := "ytlbhfjmcjbjjgaa", sum := "de919d25b9e244a6a42814f07b2fa087b7a4296a1f13c39a4f3b900868819135", func := "loop.example/lib-g01435/laws.FnScriptInTwo", spec := "fnScriptInTwo", unfollowed := true, recurses := true, apart := false, narrowed := true }
def FnScriptInTwoUptoSaid : Prop := fnScriptInTwoUptoRow.holds Try.pinned (OpenSpec.upto fnScriptInTwoSpec)

/-- 'laws.FnShuffleDraws', WHERE WHAT IT READS IS OF BULK AT MOST 1048576: true; the input reads as it did. -/
def fnShuffleDrawsUptoRow : OpenClaim := { program := "ytlbhfjmcjbjjgaa", sum := "de919d25b9e244a6a42814f07b2fa087b7a4296a1f13c39a4f3b900868819135", func := "loop.example/lib-g01435/laws.FnShuffleDraws", spec := "fnShuffleDraws", unfollowed := true, recurses := true, apart := false, narrowed := true }
def FnShuffleDrawsUptoSaid : Prop := fnShuffleDrawsUptoRow.holds Try.pinned (OpenSpec.upto fnShuffleDrawsSpec)

/-- 'laws.FnEveryPermutation', WHERE WHAT IT READS IS OF BULK AT MOST 1048576: true; the input reads as it did. -/
def fnEveryPermutationUptoRow : OpenClaim := { program := "ytlbhfjmcjbjjgaa", sum := "de919d25b9e244a6a42814f07b2fa087b7a4296a1f13c39a4f3b900868819135", func := "loop.example/lib-g01435/laws.FnEveryPermutation", spec := "fnEveryPermutation", unfollowed := true, recurses := true, apart := false, narrowed := true }
def FnEveryPermutationUptoSaid : Prop := fnEveryPermutationUptoRow.holds Try.pinned (OpenSpec.upto fnEveryPermutationSpec)

/-- 'laws.FnPermIsShuffle', WHERE WHAT IT READS IS OF BULK AT MOST 1048576: true; the input reads as it did. -/
def fnPermIsShuffleUptoRow : OpenClaim := { program := "ytlbhfjmcjbjjgaa", sum := "de919d25b9e244a6a42814f07b2fa087b7a4296a1f13c39a4f3b900868819135", func := "loop.example/lib-g01435/laws.FnPermIsShuffle", spec := "fnPermIsShuffle", unfollowed := true, recurses := true, apart := false, narrowed := true }
def FnPermIsShuffleUptoSaid : Prop := fnPermIsShuffleUptoRow.holds Try.pinned (OpenSpec.upto fnPermIsShuffleSpec)

/-- 'laws.FnSwapsTellApart', WHERE WHAT IT READS IS OF BULK AT MOST 1048576: true; the input reads as it did. -/
def fnSwapsTellApartUptoRow : OpenClaim := { program := "ytlbhfjmcjbjjgaa", sum := "de919d25b9e244a6a42814f07b2fa087b7a4296a1f13c39a4f3b900868819135", func := "loop.example/lib-g01435/laws.FnSwapsTellApart", spec := "fnSwapsTellApart", unfollowed := true, recurses := true, apart := false, narrowed := true }
def FnSwapsTellApartUptoSaid : Prop := fnSwapsTellApartUptoRow.holds Try.pinned (OpenSpec.upto fnSwapsTellApartSpec)

/-- 'laws.FnSwapsUndone', WHERE WHAT IT READS IS OF BULK AT MOST 1048576: true; the input reads as it did. -/
def fnSwapsUndoneUptoRow : OpenClaim := { program := "ytlbhfjmcjbjjgaa", sum := "de919d25b9e244a6a42814f07b2fa087b7a4296a1f13c39a4f3b900868819135", func := "loop.example/lib-g01435/laws.FnSwapsUndone", spec := "fnSwapsUndone", unfollowed := true, recurses := true, apart := false, narrowed := true }
def FnSwapsUndoneUptoSaid : Prop := fnSwapsUndoneUptoRow.holds Try.pinned (OpenSpec.upto fnSwapsUndoneSpec)

end Rows
end Go.Proofs.Ytlbhfjmcjbjjgaa
