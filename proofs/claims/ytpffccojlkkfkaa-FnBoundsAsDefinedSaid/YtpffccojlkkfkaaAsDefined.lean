/-
  The walk of FnBoundsAsDefined.
-/
import Derived.Test.YtpffccojlkkfkaaSpecNs
import Derived.Test.YtpffccojlkkfkaaLists
import Derived.Test.YtpffccojlkkfkaaSameW
namespace Go.Proofs.Ytpffccojlkkfkaa
open Go.RowKit
set_option linter.unusedVariables false

set_option maxRecDepth 100000 in
set_option maxHeartbeats 2000000 in
theorem fnBoundsAsDefined_walk (a0 : Option Addr) (len0 cap0 b0 : Nat) (ws0 : List Nat) (a1 : Option Addr) (len1 cap1 b1 : Nat) (ws1 : List Nat) (w : World) (A0 : Arg u64 18446744073709551616 8 w a0 len0 cap0 b0 ws0) (A1 : Arg u64 18446744073709551616 8 w a1 len1 cap1 b1 ws1) :
    Calls Try.prog 5 #[.slice a0 len0 cap0, .slice a1 len1 cap1] w fun e w' => e = .returned (.bool true) ∧ Below w.heap.size w w' := by
  have hs0 := A0.small
  have hs1 := A1.small
  have HL0 := Lib.hid A0.length
  have hpl : (pos ws1).length ≤ len1 := by rw [← A1.length]; exact List.length_filter_le _ _
  have hpb := pos_bounds ws1 _ A1.fit
  go_enter Try.func5, Try.ntmps5
  go_wp2_with fail
  refine (positive_any a1 b1 len1 cap1 ws1 _ A1).mono ?_
  rintro e w1 ⟨gL, cL, rfl, rL, hgL, s1⟩
  generalize pos ws1 = ns at *
  obtain ⟨L, hL⟩ : ∃ L, L = ns.length := ⟨_, rfl⟩
  rw [← hL] at hpl rL
  rw [← hL]
  have HL := Lib.hid hL
  clear hL
  go_wp2_with fail
  refine (uint64Ns_any a0 b0 len0 cap0 ws0 _ gL L cL ns _ A0.size A0.fit (A0.reads.kept s1 (fun h => h)) A0.nil (by omega) HL.out.symm hpb rL.reads (by omega)).mono ?_
  rintro e w2 ⟨gV, cV, gU, cU, rfl, rV, rU, hgV, s2⟩
  have st2 := s1.trans s2
  have rL2 := rL.kept s2 (fun h => h)
  clear rL s1 s2
  go_wp2_with fail
  refine (specUint64Ns_any a0 b0 len0 cap0 ws0 _ gL L cL ns _ HL0.out A0.fit (A0.reads.kept st2 (fun h => h)) (by omega) HL.out.symm hpb rL2.reads (by omega)).mono ?_
  rintro e w3 ⟨gX, cX, gY, cY, rfl, rX, rY, hgX, s3⟩
  have st3 := st2.trans s3
  have rV3 := rV.kept s3 (fun h => h)
  have rU3 := rU.kept s3 (fun h => h)
  rw [vals_words] at rV3 rX
  rw [uses_counts] at rU3 rY
  clear rV rU rL2 st2 s3
  go_wp2_with fail
  refine (sameWords_any _ _ L cV L cX gV gX _ _ _ rV3.len rX.len rV3.reads rX.reads (by omega)).mono ?_
  rintro e w4 ⟨rfl, s4⟩
  simp only [decide_true]
  go_wp2_with fail
  have rU4 := rU3.kept s4 (fun h => h)
  have rY4 := rY.kept s4 (fun h => h)
  refine (sameCounts_any _ _ L cU L cY gU gY _ _ _ rU4.len rY4.len rU4.reads rY4.reads (by omega)).mono ?_
  rintro e w5 ⟨rfl, s5⟩
  simp only [decide_true]
  go_wp2_with fail
  go_ret
  exact ⟨rfl, ((st3.trans s4).trans s5).below (Nat.le_refl _) (fun k h => h.elim)⟩
end Go.Proofs.Ytpffccojlkkfkaa
