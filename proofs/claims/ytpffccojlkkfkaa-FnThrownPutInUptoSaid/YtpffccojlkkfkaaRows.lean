/-
  No cell of these rows narrows 'for every input' (looked for: loops, veiled, ifaces, maps, wideKeys, modest, calm, conditions, laid).
  DERIVED. THE GIVEN ROWS OF THIS SEAT. 12 by the template 'for every input the law returns true; each argument reads behind the call as it read before'; 0 by the template 'total and deterministic' (their statements: YtpffccojlkkfkaaTotals.lean).
  GIVEN WITH THE SEED: the statements are not yours to turn. If you find one false, say at which input.
  Laid BY PROGRAM, IN A SANDBOX (cutbox-rows.mjs): the forced cells as the released guide's own fill.sh prints them over the translation c1a3ab774c9efb8f… (all of the seat's roots in one cut). By AI agents, Wed Nov 11 2026. No macro, syntax, notation, axiom, sorry.
-/
import Derived.Test.YtpffccojlkkfkaaChecked
import GoSem.Claim
import GoSem.ClaimJoined
import GoSem.ClaimMapViews
import Derived.JoinedTies
import Derived.KernelRfl
namespace Go.Proofs.Ytpffccojlkkfkaa
/- THE CELL 'sum', in the pinned program and in every row, IS THE sha256 OF THE DUMP (.gsa) THAT YtpffccojlkkfkaaProg.lean LOADS. Nothing in Lean hashes anything: it is a label: what it is worth is what the hold of that sum in a sandbox is worth. -/
noncomputable def Try.pinned : Pinned := { name := "ytpffccojlkkfkaa", sum := "c1a3ab774c9efb8f8764c7ec059e1f27372634c36ae7bfa856d7bea1e75bce84", checked := Try.checked }
namespace Rows
def none {H : Type} : Left H := { results := [], args := [] }

/-- 'laws.FnGreatKindsAgree': WHATEVER THE INPUT: true; the input reads as it did. -/
def fnGreatKindsAgreeSpec : ChangeSpec := { name := "fnGreatKindsAgree", fn := fun _ => fun
  | [d1, d2] => { results := [.lit (.bool true)], args := [d1, d2] }
  | _ => none }
def fnGreatKindsAgreeRow : OpenClaim := { program := "ytpffccojlkkfkaa", sum := "c1a3ab774c9efb8f8764c7ec059e1f27372634c36ae7bfa856d7bea1e75bce84", func := "loop.example/lib-g01435/laws.FnGreatKindsAgree", spec := "fnGreatKindsAgree", unfollowed := true, recurses := true, apart := false }
def FnGreatKindsAgreeSaid : Prop := fnGreatKindsAgreeRow.holds Try.pinned (OpenSpec.ofChange fnGreatKindsAgreeSpec)

/-- ITS FALSE NEIGHBOUR: 'it returns false'. Refute it at one input. -/
def fnGreatKindsAgreeWrong : ChangeSpec := { name := "fnGreatKindsAgree", fn := fun _ => fun
  | [d1, d2] => { results := [.lit (.bool false)], args := [d1, d2] }
  | _ => none }
def FnGreatKindsAgreeWrongFalsely : Prop := fnGreatKindsAgreeRow.holds Try.pinned (OpenSpec.ofChange fnGreatKindsAgreeWrong)

/-- 'laws.FnAsManyWords': WHATEVER THE INPUT: true; the input reads as it did. -/
def fnAsManyWordsSpec : ChangeSpec := { name := "fnAsManyWords", fn := fun _ => fun
  | [d1, d2, d3] => { results := [.lit (.bool true)], args := [d1, d2, d3] }
  | _ => none }
def fnAsManyWordsRow : OpenClaim := { program := "ytpffccojlkkfkaa", sum := "c1a3ab774c9efb8f8764c7ec059e1f27372634c36ae7bfa856d7bea1e75bce84", func := "loop.example/lib-g01435/laws.FnAsManyWords", spec := "fnAsManyWords", unfollowed := true, recurses := true, apart := false }
def FnAsManyWordsSaid : Prop := fnAsManyWordsRow.holds Try.pinned (OpenSpec.ofChange fnAsManyWordsSpec)

/-- ITS FALSE NEIGHBOUR: 'it returns false'. Refute it at one input. -/
def fnAsManyWordsWrong : ChangeSpec := { name := "fnAsManyWords", fn := fun _ => fun
  | [d1, d2, d3] => { results := [.lit (.bool false)], args := [d1, d2, d3] }
  | _ => none }
def FnAsManyWordsWrongFalsely : Prop := fnAsManyWordsRow.holds Try.pinned (OpenSpec.ofChange fnAsManyWordsWrong)

/-- 'laws.FnBoundsAsDefined': WHATEVER THE INPUT: true; the input reads as it did. -/
def fnBoundsAsDefinedSpec : ChangeSpec := { name := "fnBoundsAsDefined", fn := fun _ => fun
  | [d1, d2] => { results := [.lit (.bool true)], args := [d1, d2] }
  | _ => none }
def fnBoundsAsDefinedRow : OpenClaim := { program := "ytpffccojlkkfkaa", sum := "c1a3ab774c9efb8f8764c7ec059e1f27372634c36ae7bfa856d7bea1e75bce84", func := "loop.example/lib-g01435/laws.FnBoundsAsDefined", spec := "fnBoundsAsDefined", unfollowed := true, recurses := true, apart := false }
def FnBoundsAsDefinedSaid : Prop := fnBoundsAsDefinedRow.holds Try.pinned (OpenSpec.ofChange fnBoundsAsDefinedSpec)

/-- ITS FALSE NEIGHBOUR: 'it returns false'. Refute it at one input. -/
def fnBoundsAsDefinedWrong : ChangeSpec := { name := "fnBoundsAsDefined", fn := fun _ => fun
  | [d1, d2] => { results := [.lit (.bool false)], args := [d1, d2] }
  | _ => none }
def FnBoundsAsDefinedWrongFalsely : Prop := fnBoundsAsDefinedRow.holds Try.pinned (OpenSpec.ofChange fnBoundsAsDefinedWrong)

/-- 'laws.FnKindsAgree': WHATEVER THE INPUT: true; the input reads as it did. -/
def fnKindsAgreeSpec : ChangeSpec := { name := "fnKindsAgree", fn := fun _ => fun
  | [d1, d2] => { results := [.lit (.bool true)], args := [d1, d2] }
  | _ => none }
def fnKindsAgreeRow : OpenClaim := { program := "ytpffccojlkkfkaa", sum := "c1a3ab774c9efb8f8764c7ec059e1f27372634c36ae7bfa856d7bea1e75bce84", func := "loop.example/lib-g01435/laws.FnKindsAgree", spec := "fnKindsAgree", unfollowed := true, recurses := true, apart := false }
def FnKindsAgreeSaid : Prop := fnKindsAgreeRow.holds Try.pinned (OpenSpec.ofChange fnKindsAgreeSpec)

/-- ITS FALSE NEIGHBOUR: 'it returns false'. Refute it at one input. -/
def fnKindsAgreeWrong : ChangeSpec := { name := "fnKindsAgree", fn := fun _ => fun
  | [d1, d2] => { results := [.lit (.bool false)], args := [d1, d2] }
  | _ => none }
def FnKindsAgreeWrongFalsely : Prop := fnKindsAgreeRow.holds Try.pinned (OpenSpec.ofChange fnKindsAgreeWrong)

/-- 'laws.FnBoundsInARow': WHATEVER THE INPUT: true; the input reads as it did. -/
def fnBoundsInARowSpec : ChangeSpec := { name := "fnBoundsInARow", fn := fun _ => fun
  | [d1, d2, d3] => { results := [.lit (.bool true)], args := [d1, d2, d3] }
  | _ => none }
def fnBoundsInARowRow : OpenClaim := { program := "ytpffccojlkkfkaa", sum := "c1a3ab774c9efb8f8764c7ec059e1f27372634c36ae7bfa856d7bea1e75bce84", func := "loop.example/lib-g01435/laws.FnBoundsInARow", spec := "fnBoundsInARow", unfollowed := true, recurses := true, apart := false }
def FnBoundsInARowSaid : Prop := fnBoundsInARowRow.holds Try.pinned (OpenSpec.ofChange fnBoundsInARowSpec)

/-- ITS FALSE NEIGHBOUR: 'it returns false'. Refute it at one input. -/
def fnBoundsInARowWrong : ChangeSpec := { name := "fnBoundsInARow", fn := fun _ => fun
  | [d1, d2, d3] => { results := [.lit (.bool false)], args := [d1, d2, d3] }
  | _ => none }
def FnBoundsInARowWrongFalsely : Prop := fnBoundsInARowRow.holds Try.pinned (OpenSpec.ofChange fnBoundsInARowWrong)

/-- 'laws.FnEachNumber': WHATEVER THE INPUT: true; the input reads as it did. -/
def fnEachNumberSpec : ChangeSpec := { name := "fnEachNumber", fn := fun _ => fun
  | [d1, d2] => { results := [.lit (.bool true)], args := [d1, d2] }
  | _ => none }
def fnEachNumberRow : OpenClaim := { program := "ytpffccojlkkfkaa", sum := "c1a3ab774c9efb8f8764c7ec059e1f27372634c36ae7bfa856d7bea1e75bce84", func := "loop.example/lib-g01435/laws.FnEachNumber", spec := "fnEachNumber", unfollowed := true, recurses := true, apart := false }
def FnEachNumberSaid : Prop := fnEachNumberRow.holds Try.pinned (OpenSpec.ofChange fnEachNumberSpec)

/-- ITS FALSE NEIGHBOUR: 'it returns false'. Refute it at one input. -/
def fnEachNumberWrong : ChangeSpec := { name := "fnEachNumber", fn := fun _ => fun
  | [d1, d2] => { results := [.lit (.bool false)], args := [d1, d2] }
  | _ => none }
def FnEachNumberWrongFalsely : Prop := fnEachNumberRow.holds Try.pinned (OpenSpec.ofChange fnEachNumberWrong)

/-- 'laws.FnFinerBound': WHATEVER THE INPUT: true; the input reads as it did. -/
def fnFinerBoundSpec : ChangeSpec := { name := "fnFinerBound", fn := fun _ => fun
  | [d1, d2, d3] => { results := [.lit (.bool true)], args := [d1, d2, d3] }
  | _ => none }
def fnFinerBoundRow : OpenClaim := { program := "ytpffccojlkkfkaa", sum := "c1a3ab774c9efb8f8764c7ec059e1f27372634c36ae7bfa856d7bea1e75bce84", func := "loop.example/lib-g01435/laws.FnFinerBound", spec := "fnFinerBound", unfollowed := true, recurses := true, apart := false }
def FnFinerBoundSaid : Prop := fnFinerBoundRow.holds Try.pinned (OpenSpec.ofChange fnFinerBoundSpec)

/-- ITS FALSE NEIGHBOUR: 'it returns false'. Refute it at one input. -/
def fnFinerBoundWrong : ChangeSpec := { name := "fnFinerBound", fn := fun _ => fun
  | [d1, d2, d3] => { results := [.lit (.bool false)], args := [d1, d2, d3] }
  | _ => none }
def FnFinerBoundWrongFalsely : Prop := fnFinerBoundRow.holds Try.pinned (OpenSpec.ofChange fnFinerBoundWrong)

/-- 'laws.FnInOrder': WHATEVER THE INPUT: true; the input reads as it did. -/
def fnInOrderSpec : ChangeSpec := { name := "fnInOrder", fn := fun _ => fun
  | [d1, d2] => { results := [.lit (.bool true)], args := [d1, d2] }
  | _ => none }
def fnInOrderRow : OpenClaim := { program := "ytpffccojlkkfkaa", sum := "c1a3ab774c9efb8f8764c7ec059e1f27372634c36ae7bfa856d7bea1e75bce84", func := "loop.example/lib-g01435/laws.FnInOrder", spec := "fnInOrder", unfollowed := true, recurses := true, apart := false }
def FnInOrderSaid : Prop := fnInOrderRow.holds Try.pinned (OpenSpec.ofChange fnInOrderSpec)

/-- ITS FALSE NEIGHBOUR: 'it returns false'. Refute it at one input. -/
def fnInOrderWrong : ChangeSpec := { name := "fnInOrder", fn := fun _ => fun
  | [d1, d2] => { results := [.lit (.bool false)], args := [d1, d2] }
  | _ => none }
def FnInOrderWrongFalsely : Prop := fnInOrderRow.holds Try.pinned (OpenSpec.ofChange fnInOrderWrong)

/-- 'laws.FnNumberOfWord': WHATEVER THE INPUT: true; the input reads as it did. -/
def fnNumberOfWordSpec : ChangeSpec := { name := "fnNumberOfWord", fn := fun _ => fun
  | [d1, d2] => { results := [.lit (.bool true)], args := [d1, d2] }
  | _ => none }
def fnNumberOfWordRow : OpenClaim := { program := "ytpffccojlkkfkaa", sum := "c1a3ab774c9efb8f8764c7ec059e1f27372634c36ae7bfa856d7bea1e75bce84", func := "loop.example/lib-g01435/laws.FnNumberOfWord", spec := "fnNumberOfWord", unfollowed := true, recurses := true, apart := false }
def FnNumberOfWordSaid : Prop := fnNumberOfWordRow.holds Try.pinned (OpenSpec.ofChange fnNumberOfWordSpec)

/-- ITS FALSE NEIGHBOUR: 'it returns false'. Refute it at one input. -/
def fnNumberOfWordWrong : ChangeSpec := { name := "fnNumberOfWord", fn := fun _ => fun
  | [d1, d2] => { results := [.lit (.bool false)], args := [d1, d2] }
  | _ => none }
def FnNumberOfWordWrongFalsely : Prop := fnNumberOfWordRow.holds Try.pinned (OpenSpec.ofChange fnNumberOfWordWrong)

/-- 'laws.FnThrownAway': WHATEVER THE INPUT: true; the input reads as it did. -/
def fnThrownAwaySpec : ChangeSpec := { name := "fnThrownAway", fn := fun _ => fun
  | [d1, d2] => { results := [.lit (.bool true)], args := [d1, d2] }
  | _ => none }
def fnThrownAwayRow : OpenClaim := { program := "ytpffccojlkkfkaa", sum := "c1a3ab774c9efb8f8764c7ec059e1f27372634c36ae7bfa856d7bea1e75bce84", func := "loop.example/lib-g01435/laws.FnThrownAway", spec := "fnThrownAway", unfollowed := true, recurses := true, apart := false }
def FnThrownAwaySaid : Prop := fnThrownAwayRow.holds Try.pinned (OpenSpec.ofChange fnThrownAwaySpec)

/-- ITS FALSE NEIGHBOUR: 'it returns false'. Refute it at one input. -/
def fnThrownAwayWrong : ChangeSpec := { name := "fnThrownAway", fn := fun _ => fun
  | [d1, d2] => { results := [.lit (.bool false)], args := [d1, d2] }
  | _ => none }
def FnThrownAwayWrongFalsely : Prop := fnThrownAwayRow.holds Try.pinned (OpenSpec.ofChange fnThrownAwayWrong)

/-- 'laws.FnThrownLeftOut': WHATEVER THE INPUT: true; the input reads as it did. -/
def fnThrownLeftOutSpec : ChangeSpec := { name := "fnThrownLeftOut", fn := fun _ => fun
  | [d1, d2] => { results := [.lit (.bool true)], args := [d1, d2] }
  | _ => none }
def fnThrownLeftOutRow : OpenClaim := { program := "ytpffccojlkkfkaa", sum := "c1a3ab774c9efb8f8764c7ec059e1f27372634c36ae7bfa856d7bea1e75bce84", func := "loop.example/lib-g01435/laws.FnThrownLeftOut", spec := "fnThrownLeftOut", unfollowed := true, recurses := true, apart := false }
def FnThrownLeftOutSaid : Prop := fnThrownLeftOutRow.holds Try.pinned (OpenSpec.ofChange fnThrownLeftOutSpec)

/-- ITS FALSE NEIGHBOUR: 'it returns false'. Refute it at one input. -/
def fnThrownLeftOutWrong : ChangeSpec := { name := "fnThrownLeftOut", fn := fun _ => fun
  | [d1, d2] => { results := [.lit (.bool false)], args := [d1, d2] }
  | _ => none }
def FnThrownLeftOutWrongFalsely : Prop := fnThrownLeftOutRow.holds Try.pinned (OpenSpec.ofChange fnThrownLeftOutWrong)

/-- 'laws.FnThrownPutIn': WHATEVER THE INPUT: true; the input reads as it did. -/
def fnThrownPutInSpec : ChangeSpec := { name := "fnThrownPutIn", fn := fun _ => fun
  | [d1, d2, d3, d4] => { results := [.lit (.bool true)], args := [d1, d2, d3, d4] }
  | _ => none }
def fnThrownPutInRow : OpenClaim := { program := "ytpffccojlkkfkaa", sum := "c1a3ab774c9efb8f8764c7ec059e1f27372634c36ae7bfa856d7bea1e75bce84", func := "loop.example/lib-g01435/laws.FnThrownPutIn", spec := "fnThrownPutIn", unfollowed := true, recurses := true, apart := false }
def FnThrownPutInSaid : Prop := fnThrownPutInRow.holds Try.pinned (OpenSpec.ofChange fnThrownPutInSpec)

/-- ITS FALSE NEIGHBOUR: 'it returns false'. Refute it at one input. -/
def fnThrownPutInWrong : ChangeSpec := { name := "fnThrownPutIn", fn := fun _ => fun
  | [d1, d2, d3, d4] => { results := [.lit (.bool false)], args := [d1, d2, d3, d4] }
  | _ => none }
def FnThrownPutInWrongFalsely : Prop := fnThrownPutInRow.holds Try.pinned (OpenSpec.ofChange fnThrownPutInWrong)

/- THE SECOND FORM. 'bulk': how many values and letters a reading holds, each counted each time it is reached (what is shared counts as often as it is met; a slice's spare places count too). A statement '..UptoSaid' is the law's where the arguments, and the package variables that the reading takes, are together of bulk at most 1048576: NARROWER than '..Said'. Prove '..Said' where nothing that the law and all that it calls make is longer than what came in: it says more and counts as full. Else prove '..UptoSaid'. A law counts once. -/
mutual
def uptoBulk {H : Type} : DataW H → Nat
  | .lit (.string bytes) => bytes.length + 1
  | .lit _ => 1
  | .nil => 1
  | .ptr d => uptoBulk d + 1
  | .slice elems spare => uptoBulkAll elems + uptoBulkAll spare + 1
  | .agg parts => uptoBulkAll parts + 1
  | .iface _ d => uptoBulk d + 1
  | .map entries => uptoBulkEntries entries + 1
  | .held _ => 1
def uptoBulkAll {H : Type} : List (DataW H) → Nat
  | [] => 0
  | d :: r => uptoBulk d + uptoBulkAll r
def uptoBulkEntries {H : Type} : List (Lit × DataW H) → Nat
  | [] => 0
  | x :: r => uptoBulkEntry x + uptoBulkEntries r
def uptoBulkEntry {H : Type} : Lit × DataW H → Nat
  | (.string bytes, d) => bytes.length + uptoBulk d + 1
  | (_, d) => uptoBulk d + 1
 end
def uptoSmall : (H : Type) → List (DataW H) → Bool := fun _ ds => decide (uptoBulkAll ds ≤ 1048576)
def OpenSpec.upto (s : _root_.Go.ChangeSpec) : _root_.Go.OpenSpec := { _root_.Go.OpenSpec.ofChange s with cond := some uptoSmall }

/-- 'laws.FnGreatKindsAgree', WHERE WHAT IT READS IS OF BULK AT MOST 1048576: true; the input reads as it did. -/
def fnGreatKindsAgreeUptoRow : OpenClaim := { program := "ytpffccojlkkfkaa", sum := "c1a3ab774c9efb8f8764c7ec059e1f27372634c36ae7bfa856d7bea1e75bce84", func := "loop.example/lib-g01435/laws.FnGreatKindsAgree", spec := "fnGreatKindsAgree", unfollowed := true, recurses := true, apart := false, narrowed := true }
def FnGreatKindsAgreeUptoSaid : Prop := fnGreatKindsAgreeUptoRow.holds Try.pinned (OpenSpec.upto fnGreatKindsAgreeSpec)

/-- 'laws.FnAsManyWords', WHERE WHAT IT READS IS OF BULK AT MOST 1048576: true; the input reads as it did. -/
def fnAsManyWordsUptoRow : OpenClaim := { program := "ytpffccojlkkfkaa", sum := "c1a3ab774c9efb8f8764c7ec059e1f27372634c36ae7bfa856d7bea1e75bce84", func := "loop.example/lib-g01435/laws.FnAsManyWords", spec := "fnAsManyWords", unfollowed := true, recurses := true, apart := false, narrowed := true }
def FnAsManyWordsUptoSaid : Prop := fnAsManyWordsUptoRow.holds Try.pinned (OpenSpec.upto fnAsManyWordsSpec)

/-- 'laws.FnBoundsAsDefined', WHERE WHAT IT READS IS OF BULK AT MOST 1048576: true; the input reads as it did. -/
def fnBoundsAsDefinedUptoRow : OpenClaim := { program := "ytpffccojlkkfkaa", sum := "c1a3ab774c9efb8f8764c7ec059e1f27372634c36ae7bfa856d7bea1e75bce84", func := "loop.example/lib-g01435/laws.FnBoundsAsDefined", spec := "fnBoundsAsDefined", unfollowed := true, recurses := true, apart := false, narrowed := true }
def FnBoundsAsDefinedUptoSaid : Prop := fnBoundsAsDefinedUptoRow.holds Try.pinned (OpenSpec.upto fnBoundsAsDefinedSpec)

/-- 'laws.FnKindsAgree', WHERE WHAT IT READS IS OF BULK AT MOST 1048576: true; the input reads as it did. -/
def fnKindsAgreeUptoRow : OpenClaim := { program := "ytpffccojlkkfkaa", sum := "c1a3ab774c9efb8f8764c7ec059e1f27372634c36ae7bfa856d7bea1e75bce84", func := "loop.example/lib-g01435/laws.FnKindsAgree", spec := "fnKindsAgree", unfollowed := true, recurses := true, apart := false, narrowed := true }
def FnKindsAgreeUptoSaid : Prop := fnKindsAgreeUptoRow.holds Try.pinned (OpenSpec.upto fnKindsAgreeSpec)

/-- 'laws.FnBoundsInARow', WHERE WHAT IT READS IS OF BULK AT MOST 1048576: true; the input reads as it did. -/
def fnBoundsInARowUptoRow : OpenClaim := { program := "ytpffccojlkkfkaa", sum := "c1a3ab774c9efb8f8764c7ec059e1f27372634c36ae7bfa856d7bea1e75bce84", func := "loop.example/lib-g01435/laws.FnBoundsInARow", spec := "fnBoundsInARow", unfollowed := true, recurses := true, apart := false, narrowed := true }
def FnBoundsInARowUptoSaid : Prop := fnBoundsInARowUptoRow.holds Try.pinned (OpenSpec.upto fnBoundsInARowSpec)

/-- 'laws.FnEachNumber', WHERE WHAT IT READS IS OF BULK AT MOST 1048576: true; the input reads as it did. -/
def fnEachNumberUptoRow : OpenClaim := { program := "ytpffccojlkkfkaa", sum := "c1a3ab774c9efb8f8764c7ec059e1f27372634c36ae7bfa856d7bea1e75bce84", func := "loop.example/lib-g01435/laws.FnEachNumber", spec := "fnEachNumber", unfollowed := true, recurses := true, apart := false, narrowed := true }
def FnEachNumberUptoSaid : Prop := fnEachNumberUptoRow.holds Try.pinned (OpenSpec.upto fnEachNumberSpec)

/-- 'laws.FnFinerBound', WHERE WHAT IT READS IS OF BULK AT MOST 1048576: true; the input reads as it did. -/
def fnFinerBoundUptoRow : OpenClaim := { program := "ytpffccojlkkfkaa", sum := "c1a3ab774c9efb8f8764c7ec059e1f27372634c36ae7bfa856d7bea1e75bce84", func := "loop.example/lib-g01435/laws.FnFinerBound", spec := "fnFinerBound", unfollowed := true, recurses := true, apart := false, narrowed := true }
def FnFinerBoundUptoSaid : Prop := fnFinerBoundUptoRow.holds Try.pinned (OpenSpec.upto fnFinerBoundSpec)

/-- 'laws.FnInOrder', WHERE WHAT IT READS IS OF BULK AT MOST 1048576: true; the input reads as it did. -/
def fnInOrderUptoRow : OpenClaim := { program := "ytpffccojlkkfkaa", sum := "c1a3ab774c9efb8f8764c7ec059e1f27372634c36ae7bfa856d7bea1e75bce84", func := "loop.example/lib-g01435/laws.FnInOrder", spec := "fnInOrder", unfollowed := true, recurses := true, apart := false, narrowed := true }
def FnInOrderUptoSaid : Prop := fnInOrderUptoRow.holds Try.pinned (OpenSpec.upto fnInOrderSpec)

/-- 'laws.FnNumberOfWord', WHERE WHAT IT READS IS OF BULK AT MOST 1048576: true; the input reads as it did. -/
def fnNumberOfWordUptoRow : OpenClaim := { program := "ytpffccojlkkfkaa", sum := "c1a3ab774c9efb8f8764c7ec059e1f27372634c36ae7bfa856d7bea1e75bce84", func := "loop.example/lib-g01435/laws.FnNumberOfWord", spec := "fnNumberOfWord", unfollowed := true, recurses := true, apart := false, narrowed := true }
def FnNumberOfWordUptoSaid : Prop := fnNumberOfWordUptoRow.holds Try.pinned (OpenSpec.upto fnNumberOfWordSpec)

/-- 'laws.FnThrownAway', WHERE WHAT IT READS IS OF BULK AT MOST 1048576: true; the input reads as it did. -/
def fnThrownAwayUptoRow : OpenClaim := { program := "ytpffccojlkkfkaa", sum := "c1a3ab774c9efb8f8764c7ec059e1f27372634c36ae7bfa856d7bea1e75bce84", func := "loop.example/lib-g01435/laws.FnThrownAway", spec := "fnThrownAway", unfollowed := true, recurses := true, apart := false, narrowed := true }
def FnThrownAwayUptoSaid : Prop := fnThrownAwayUptoRow.holds Try.pinned (OpenSpec.upto fnThrownAwaySpec)

/-- 'laws.FnThrownLeftOut', WHERE WHAT IT READS IS OF BULK AT MOST 1048576: true; the input reads as it did. -/
def fnThrownLeftOutUptoRow : OpenClaim := { program := "ytpffccojlkkfkaa", sum := "c1a3ab774c9efb8f8764c7ec059e1f27372634c36ae7bfa856d7bea1e75bce84", func := "loop.example/lib-g01435/laws.FnThrownLeftOut", spec := "fnThrownLeftOut", unfollowed := true, recurses := true, apart := false, narrowed := true }
def FnThrownLeftOutUptoSaid : Prop := fnThrownLeftOutUptoRow.holds Try.pinned (OpenSpec.upto fnThrownLeftOutSpec)

/-- 'laws.FnThrownPutIn', WHERE WHAT IT READS IS OF BULK AT MOST 1048576: true; the input reads as it did. -/
def fnThrownPutInUptoRow : OpenClaim := { program := "ytpffccojlkkfkaa", sum := "c1a3ab774c9efb8f8764c7ec059e1f27372634c36ae7bfa856d7bea1e75bce84", func := "loop.example/lib-g01435/laws.FnThrownPutIn", spec := "fnThrownPutIn", unfollowed := true, recurses := true, apart := false, narrowed := true }
def FnThrownPutInUptoSaid : Prop := fnThrownPutInUptoRow.holds Try.pinned (OpenSpec.upto fnThrownPutInSpec)

end Rows
end Go.Proofs.Ytpffccojlkkfkaa
