/-
  No cell of these rows narrows 'for every input' (looked for: loops, veiled, ifaces, maps, wideKeys, modest, calm, conditions, laid).
  DERIVED. THE GIVEN ROWS OF THIS SEAT. 7 by the template 'for every input the law returns true; each argument reads behind the call as it read before'; 0 by the template 'total and deterministic' (their statements: YtgjopehkmfbafaaTotals.lean).
  GIVEN WITH THE SEED: the statements are not yours to turn. If you find one false, say at which input.
  Laid BY PROGRAM, IN A SANDBOX (cutbox-rows.mjs): the forced cells as the released guide's own fill.sh prints them over the translation 9583e6acabe6fe30… (all of the seat's roots in one cut). By AI agents, Wed Nov 11 2026. No macro, syntax, notation, axiom, sorry.
-/
import Derived.Test.YtgjopehkmfbafaaChecked
import GoSem.Claim
import GoSem.ClaimJoined
import GoSem.ClaimMapViews
import Derived.JoinedTies
import Derived.KernelRfl
namespace Go.Proofs.Ytgjopehkmfbafaa
/- THE CELL 'sum', in the pinned program and in every row, IS THE sha256 OF THE DUMP (.gsa) THAT YtgjopehkmfbafaaProg.lean LOADS. Nothing in Lean hashes anything: it is a label: what it is worth is what the hold of that sum in a sandbox is worth. -/
noncomputable def Try.pinned : Pinned := { name := "ytgjopehkmfbafaa", sum := "9583e6acabe6fe3088d56d50264b905446de54c10d345c16eeb9b4bfe9cc36cb", checked := Try.checked }
namespace Rows
def none {H : Type} : Left H := { results := [], args := [] }

/-- 'laws.FnExactFloat64s': WHATEVER THE INPUT: true; the input reads as it did. -/
def fnExactFloat64sSpec : ChangeSpec := { name := "fnExactFloat64s", fn := fun _ => fun
  | [d1, d2] => { results := [.lit (.bool true)], args := [d1, d2] }
  | _ => none }
def fnExactFloat64sRow : OpenClaim := { program := "ytgjopehkmfbafaa", sum := "9583e6acabe6fe3088d56d50264b905446de54c10d345c16eeb9b4bfe9cc36cb", func := "loop.example/lib-g01435/laws.FnExactFloat64s", spec := "fnExactFloat64s", unfollowed := true, recurses := true, apart := false }
def FnExactFloat64sSaid : Prop := fnExactFloat64sRow.holds Try.pinned (OpenSpec.ofChange fnExactFloat64sSpec)

/-- ITS FALSE NEIGHBOUR: 'it returns false'. Refute it at one input. -/
def fnExactFloat64sWrong : ChangeSpec := { name := "fnExactFloat64s", fn := fun _ => fun
  | [d1, d2] => { results := [.lit (.bool false)], args := [d1, d2] }
  | _ => none }
def FnExactFloat64sWrongFalsely : Prop := fnExactFloat64sRow.holds Try.pinned (OpenSpec.ofChange fnExactFloat64sWrong)

/-- 'laws.FnFloatBits': WHATEVER THE INPUT: true; the input reads as it did. -/
def fnFloatBitsSpec : ChangeSpec := { name := "fnFloatBits", fn := fun _ => fun
  | [d1, d2] => { results := [.lit (.bool true)], args := [d1, d2] }
  | _ => none }
def fnFloatBitsRow : OpenClaim := { program := "ytgjopehkmfbafaa", sum := "9583e6acabe6fe3088d56d50264b905446de54c10d345c16eeb9b4bfe9cc36cb", func := "loop.example/lib-g01435/laws.FnFloatBits", spec := "fnFloatBits", unfollowed := true, recurses := true, apart := false }
def FnFloatBitsSaid : Prop := fnFloatBitsRow.holds Try.pinned (OpenSpec.ofChange fnFloatBitsSpec)

/-- ITS FALSE NEIGHBOUR: 'it returns false'. Refute it at one input. -/
def fnFloatBitsWrong : ChangeSpec := { name := "fnFloatBits", fn := fun _ => fun
  | [d1, d2] => { results := [.lit (.bool false)], args := [d1, d2] }
  | _ => none }
def FnFloatBitsWrongFalsely : Prop := fnFloatBitsRow.holds Try.pinned (OpenSpec.ofChange fnFloatBitsWrong)

/-- 'laws.FnSmallFloats': WHATEVER THE INPUT: true; the input reads as it did. -/
def fnSmallFloatsSpec : ChangeSpec := { name := "fnSmallFloats", fn := fun _ => fun
  | [d1, d2] => { results := [.lit (.bool true)], args := [d1, d2] }
  | _ => none }
def fnSmallFloatsRow : OpenClaim := { program := "ytgjopehkmfbafaa", sum := "9583e6acabe6fe3088d56d50264b905446de54c10d345c16eeb9b4bfe9cc36cb", func := "loop.example/lib-g01435/laws.FnSmallFloats", spec := "fnSmallFloats", unfollowed := true, recurses := true, apart := false }
def FnSmallFloatsSaid : Prop := fnSmallFloatsRow.holds Try.pinned (OpenSpec.ofChange fnSmallFloatsSpec)

/-- ITS FALSE NEIGHBOUR: 'it returns false'. Refute it at one input. -/
def fnSmallFloatsWrong : ChangeSpec := { name := "fnSmallFloats", fn := fun _ => fun
  | [d1, d2] => { results := [.lit (.bool false)], args := [d1, d2] }
  | _ => none }
def FnSmallFloatsWrongFalsely : Prop := fnSmallFloatsRow.holds Try.pinned (OpenSpec.ofChange fnSmallFloatsWrong)

/-- 'laws.FnOneWordEach': WHATEVER THE INPUT: true; the input reads as it did. -/
def fnOneWordEachSpec : ChangeSpec := { name := "fnOneWordEach", fn := fun _ => fun
  | [d] => { results := [.lit (.bool true)], args := [d] }
  | _ => none }
def fnOneWordEachRow : OpenClaim := { program := "ytgjopehkmfbafaa", sum := "9583e6acabe6fe3088d56d50264b905446de54c10d345c16eeb9b4bfe9cc36cb", func := "loop.example/lib-g01435/laws.FnOneWordEach", spec := "fnOneWordEach", unfollowed := true, recurses := true, apart := false }
def FnOneWordEachSaid : Prop := fnOneWordEachRow.holds Try.pinned (OpenSpec.ofChange fnOneWordEachSpec)

/-- ITS FALSE NEIGHBOUR: 'it returns false'. Refute it at one input. -/
def fnOneWordEachWrong : ChangeSpec := { name := "fnOneWordEach", fn := fun _ => fun
  | [d] => { results := [.lit (.bool false)], args := [d] }
  | _ => none }
def FnOneWordEachWrongFalsely : Prop := fnOneWordEachRow.holds Try.pinned (OpenSpec.ofChange fnOneWordEachWrong)

/-- 'laws.FnPlainDraws': WHATEVER THE INPUT: true; the input reads as it did. -/
def fnPlainDrawsSpec : ChangeSpec := { name := "fnPlainDraws", fn := fun _ => fun
  | [d] => { results := [.lit (.bool true)], args := [d] }
  | _ => none }
def fnPlainDrawsRow : OpenClaim := { program := "ytgjopehkmfbafaa", sum := "9583e6acabe6fe3088d56d50264b905446de54c10d345c16eeb9b4bfe9cc36cb", func := "loop.example/lib-g01435/laws.FnPlainDraws", spec := "fnPlainDraws", unfollowed := true, recurses := true, apart := false }
def FnPlainDrawsSaid : Prop := fnPlainDrawsRow.holds Try.pinned (OpenSpec.ofChange fnPlainDrawsSpec)

/-- ITS FALSE NEIGHBOUR: 'it returns false'. Refute it at one input. -/
def fnPlainDrawsWrong : ChangeSpec := { name := "fnPlainDraws", fn := fun _ => fun
  | [d] => { results := [.lit (.bool false)], args := [d] }
  | _ => none }
def FnPlainDrawsWrongFalsely : Prop := fnPlainDrawsRow.holds Try.pinned (OpenSpec.ofChange fnPlainDrawsWrong)

/-- 'laws.FnFloatOfN': WHATEVER THE INPUT: true; the input reads as it did. -/
def fnFloatOfNSpec : ChangeSpec := { name := "fnFloatOfN", fn := fun _ => fun
  | [d] => { results := [.lit (.bool true)], args := [d] }
  | _ => none }
def fnFloatOfNRow : OpenClaim := { program := "ytgjopehkmfbafaa", sum := "9583e6acabe6fe3088d56d50264b905446de54c10d345c16eeb9b4bfe9cc36cb", func := "loop.example/lib-g01435/laws.FnFloatOfN", spec := "fnFloatOfN", unfollowed := true, recurses := true, apart := false }
def FnFloatOfNSaid : Prop := fnFloatOfNRow.holds Try.pinned (OpenSpec.ofChange fnFloatOfNSpec)

/-- ITS FALSE NEIGHBOUR: 'it returns false'. Refute it at one input. -/
def fnFloatOfNWrong : ChangeSpec := { name := "fnFloatOfN", fn := fun _ => fun
  | [d] => { results := [.lit (.bool false)], args := [d] }
  | _ => none }
def FnFloatOfNWrongFalsely : Prop := fnFloatOfNRow.holds Try.pinned (OpenSpec.ofChange fnFloatOfNWrong)

/-- 'laws.FnPowersUseOne': WHATEVER THE INPUT: true; the input reads as it did. -/
def fnPowersUseOneSpec : ChangeSpec := { name := "fnPowersUseOne", fn := fun _ => fun
  | [d1, d2] => { results := [.lit (.bool true)], args := [d1, d2] }
  | _ => none }
def fnPowersUseOneRow : OpenClaim := { program := "ytgjopehkmfbafaa", sum := "9583e6acabe6fe3088d56d50264b905446de54c10d345c16eeb9b4bfe9cc36cb", func := "loop.example/lib-g01435/laws.FnPowersUseOne", spec := "fnPowersUseOne", unfollowed := true, recurses := true, apart := false }
def FnPowersUseOneSaid : Prop := fnPowersUseOneRow.holds Try.pinned (OpenSpec.ofChange fnPowersUseOneSpec)

/-- ITS FALSE NEIGHBOUR: 'it returns false'. Refute it at one input. -/
def fnPowersUseOneWrong : ChangeSpec := { name := "fnPowersUseOne", fn := fun _ => fun
  | [d1, d2] => { results := [.lit (.bool false)], args := [d1, d2] }
  | _ => none }
def FnPowersUseOneWrongFalsely : Prop := fnPowersUseOneRow.holds Try.pinned (OpenSpec.ofChange fnPowersUseOneWrong)

/- THE SECOND FORM. 'bulk': how many values and letters a reading holds, each counted each time it is reached (what is shared counts as often as it is met; a slice's spare places count too). A statement '..UptoSaid' is the law's where the arguments, and the package variables that the reading takes, are together of bulk at most 1048576: NARROWER than '..Said'. Prove '..Said' where nothing that the law and all that it calls make is longer than what came in: it says more and counts as full. Else prove '..UptoSaid'. A law counts once. -/
mutual
def uptoBulk {H : Type} : DataW H → Nat
  | .lit (.string bytes) => bytes.length + 1
  | .lit _ => 1
  | .nil => 1
  | .ptr d => uptoBulk d + 1
  | .slice elems spare => uptoBulkAll elems + uptoBulkAll spare + 1
  | .agg parts => uptoBulkAll parts + 1
  | .iface _ d => uptoBulk d + 1
  | .map entries => uptoBulkEntries entries + 1
  | .held _ => 1
def uptoBulkAll {H : Type} : List (DataW H) → Nat
  | [] => 0
  | d :: r => uptoBulk d + uptoBulkAll r
def uptoBulkEntries {H : Type} : List (Lit × DataW H) → Nat
  | [] => 0
  | x :: r => uptoBulkEntry x + uptoBulkEntries r
def uptoBulkEntry {H : Type} : Lit × DataW H → Nat
  | (.string bytes, d) => bytes.length + uptoBulk d + 1
  | (_, d) => uptoBulk d + 1
 end
def uptoSmall : (H : Type) → List (DataW H) → Bool := fun _ ds => decide (uptoBulkAll ds ≤ 1048576)
def OpenSpec.upto (s : _root_.Go.ChangeSpec) : _root_.Go.OpenSpec := { _root_.Go.OpenSpec.ofChange s with cond := some uptoSmall }

/-- 'laws.FnExactFloat64s', WHERE WHAT IT READS IS OF BULK AT MOST 1048576: true; the input reads as it did. -/
def fnExactFloat64sUptoRow : OpenClaim := { program := "ytgjopehkmfbafaa", sum := "9583e6acabe6fe3088d56d50264b905446de54c10d345c16eeb9b4bfe9cc36cb", func := "loop.example/lib-g01435/laws.FnExactFloat64s", spec := "fnExactFloat64s", unfollowed := true, recurses := true, apart := false, narrowed := true }
def FnExactFloat64sUptoSaid : Prop := fnExactFloat64sUptoRow.holds Try.pinned (OpenSpec.upto fnExactFloat64sSpec)

/-- 'laws.FnFloatBits', WHERE WHAT IT READS IS OF BULK AT MOST 1048576: true; the input reads as it did. -/
def fnFloatBitsUptoRow : OpenClaim := { program := "ytgjopehkmfbafaa", sum := "9583e6acabe6fe3088d56d50264b905446de54c10d345c16eeb9b4bfe9cc36cb", func := "loop.example/lib-g01435/laws.FnFloatBits", spec := "fnFloatBits", unfollowed := true, recurses := true, apart := false, narrowed := true }
def FnFloatBitsUptoSaid : Prop := fnFloatBitsUptoRow.holds Try.pinned (OpenSpec.upto fnFloatBitsSpec)

/-- 'laws.FnSmallFloats', WHERE WHAT IT READS IS OF BULK AT MOST 1048576: true; the input reads as it did. -/
def fnSmallFloatsUptoRow : OpenClaim := { program := "ytgjopehkmfbafaa", sum := "9583e6acabe6fe3088d56d50264b905446de54c10d345c16eeb9b4bfe9cc36cb", func := "loop.example/lib-g01435/laws.FnSmallFloats", spec := "fnSmallFloats", unfollowed := true, recurses := true, apart := false, narrowed := true }
def FnSmallFloatsUptoSaid : Prop := fnSmallFloatsUptoRow.holds Try.pinned (OpenSpec.upto fnSmallFloatsSpec)

/-- 'laws.FnOneWordEach', WHERE WHAT IT READS IS OF BULK AT MOST 1048576: true; the input reads as it did. -/
def fnOneWordEachUptoRow : OpenClaim := { program := "ytgjopehkmfbafaa", sum := "9583e6acabe6fe3088d56d50264b905446de54c10d345c16eeb9b4bfe9cc36cb", func := "loop.example/lib-g01435/laws.FnOneWordEach", spec := "fnOneWordEach", unfollowed := true, recurses := true, apart := false, narrowed := true }
def FnOneWordEachUptoSaid : Prop := fnOneWordEachUptoRow.holds Try.pinned (OpenSpec.upto fnOneWordEachSpec)

/-- 'laws.FnPlainDraws', WHERE WHAT IT READS IS OF BULK AT MOST 1048576: true; the input reads as it did. -/
def fnPlainDrawsUptoRow : OpenClaim := { program := "ytgjopehkmfbafaa", sum := "9583e6acabe6fe3088d56d50264b905446de54c10d345c16eeb9b4bfe9cc36cb", func := "loop.example/lib-g01435/laws.FnPlainDraws", spec := "fnPlainDraws", unfollowed := true, recurses := true, apart := false, narrowed := true }
def FnPlainDrawsUptoSaid : Prop := fnPlainDrawsUptoRow.holds Try.pinned (OpenSpec.upto fnPlainDrawsSpec)

/-- 'laws.FnFloatOfN', WHERE WHAT IT READS IS OF BULK AT MOST 1048576: true; the input reads as it did. -/
def fnFloatOfNUptoRow : OpenClaim := { program := "ytgjopehkmfbafaa", sum := "9583e6acabe6fe3088d56d50264b905446de54c10d345c16eeb9b4bfe9cc36cb", func := "loop.example/lib-g01435/laws.FnFloatOfN", spec := "fnFloatOfN", unfollowed := true, recurses := true, apart := false, narrowed := true }
def FnFloatOfNUptoSaid : Prop := fnFloatOfNUptoRow.holds Try.pinned (OpenSpec.upto fnFloatOfNSpec)

/-- 'laws.FnPowersUseOne', WHERE WHAT IT READS IS OF BULK AT MOST 1048576: true; the input reads as it did. -/
def fnPowersUseOneUptoRow : OpenClaim := { program := "ytgjopehkmfbafaa", sum := "9583e6acabe6fe3088d56d50264b905446de54c10d345c16eeb9b4bfe9cc36cb", func := "loop.example/lib-g01435/laws.FnPowersUseOne", spec := "fnPowersUseOne", unfollowed := true, recurses := true, apart := false, narrowed := true }
def FnPowersUseOneUptoSaid : Prop := fnPowersUseOneUptoRow.holds Try.pinned (OpenSpec.upto fnPowersUseOneSpec)

end Rows
end Go.Proofs.Ytgjopehkmfbafaa
