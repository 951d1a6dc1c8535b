/-
  The walk of FnThrownLeftOut.
-/
import Derived.Test.YtpffccojlkkfkaaHelpB
import Derived.Test.YtpffccojlkkfkaaOnePer
import Derived.Test.YtpffccojlkkfkaaLists
import Derived.Test.YtpffccojlkkfkaaSameW
namespace Go.Proofs.Ytpffccojlkkfkaa
open Go.RowKit
set_option linter.unusedVariables false

set_option maxRecDepth 100000 in
set_option maxHeartbeats 2000000 in
theorem fnThrownLeftOut_walk (a0 : Option Addr) (len0 cap0 b0 : Nat) (ws0 : List Nat) (a1 : Option Addr) (len1 cap1 b1 : Nat) (ws1 : List Nat) (w : World) (A0 : Arg u64 18446744073709551616 8 w a0 len0 cap0 b0 ws0) (A1 : Arg u64 18446744073709551616 8 w a1 len1 cap1 b1 ws1) :
    Calls Try.prog 13 #[.slice a0 len0 cap0, .slice a1 len1 cap1] w fun e w' => e = .returned (.bool true) ∧ Below w.heap.size w w' := by
  have hs0 := A0.small
  have hs1 := A1.small
  have HL0 := Lib.hid A0.length
  have hpl : (pos ws1).length ≤ len1 := by rw [← A1.length]; exact List.length_filter_le _ _
  have hpb := pos_bounds ws1 _ A1.fit
  go_enter Try.func13, Try.ntmps13
  go_wp2_with fail
  refine (positive_any a1 b1 len1 cap1 ws1 _ A1).mono ?_
  rintro e w1 ⟨gL, cL, rfl, rL, hgL, s1⟩
  generalize pos ws1 = ns at *
  obtain ⟨L, hL⟩ : ∃ L, L = ns.length := ⟨_, rfl⟩
  rw [← hL] at hpl rL
  rw [← hL]
  have HL := Lib.hid hL
  clear hL
  go_wp2_with fail
  refine (uint64Ns_any a0 b0 len0 cap0 ws0 _ gL L cL ns _ A0.size A0.fit (A0.reads.kept s1 (fun h => h)) A0.nil (by omega) HL.out.symm hpb rL.reads (by omega)).mono ?_
  rintro e w2 ⟨gV, cV, gU, cU, rfl, rV, rU, hgV, s2⟩
  have st2 := s1.trans s2
  have rL2 := rL.kept s2 (fun h => h)
  clear rL s1 s2
  go_wp2_with fail
  have hz2 := st2.size
  go_loopg [8, 38] L (fun k o i wr => ∃ j g1 c1 : Nat, k = L - j ∧ j ≤ L ∧ o = .slice (some ⟨g1, 0, none⟩) j c1 ∧ i = .int .i64 (j : Int) ∧ Row wr 26 g1 j c1 (((lefts ws0 ns).take j).map u64) ∧ w2.heap.size ≤ g1 ∧ Still w2 wr)
  case atStart => exact ⟨0, w2.heap.size, 0, rfl, Nat.zero_le _, rfl, rfl, Row.empty _ _, Nat.le_refl _, (Turned.refl _ _).alloc _⟩
  case round =>
    obtain ⟨j, g1, c1, hk, hj, rfl, rfl, hrow, hg1, hst⟩ := hrel
    have Hk := Lib.hid hk
    clear hk
    by_cases hlt : j < L
    · have hjn : j < ns.length := by rw [← HL.out]; exact hlt
      have hcu := (rU.kept hst (fun h => h)).cell (uses_get ws0 ns j hjn)
      obtain ⟨hb1, hb2⟩ := hpb ns[j] (List.getElem_mem hjn)
      have f1 := (fin_spec ws0 ns[j] (drawsEnd ws0 0 (ns.take j)) hb1 hb2).1
      obtain ⟨u1, u2⟩ := used_small ws0 ns j (by rw [HL0.out]; omega) (by rw [← HL.out]; omega)
      have u3 := u2 ns[j]
      have htk := lefts_take ws0 ns j hjn
      have Ht := Lib.hid htk
      clear u2 htk
      generalize (fin ws0 ns[j] (drawsEnd ws0 0 (ns.take j))).2 = u at *
      have Hu1 : Hid ((u : Int) - 1 = ((u - 1 : Nat) : Int)) := by show _ = _; omega
      go_wp2_with fail
      refine (wordAt_any a0 b0 len0 cap0 ws0 (u - 1) _ _ Hu1.out HL0.out (A0.reads.kept (st2.trans hst) (fun h => h))).mono ?_
      rintro e w' ⟨rfl, rfl⟩
      generalize wordAt ws0 (u - 1) = x at *
      clear hcu
      go_wp2_with (at_builtin; refine wpList_push rfl _ _ 22 rfl 26 (.int .u64 0) 8 Try.underlying22 Try.infoU64 rfl g1 j c1 _ rfl hrow (.int .u64 (x : Nat)) rfl rfl (by omega) (by omega) ?_)
      intro g1' c1' w3 hr3 hat3 hT3
      have hst3 := hst.then hT3 (fun k hk e => by subst e; omega)
      have hz := hst.size
      go_wp2
      go_roundg (L - (j + 1))
      case measure => rw [Hk.out]; omega
      case rel =>
        refine ⟨j + 1, g1', c1', rfl, by omega, rfl, by go_num, ?_, by omega, hst3⟩
        rw [Ht.out, List.map_append, List.map_take]
        exact hr3
    · obtain rfl : L = j := by omega
      rw [List.take_of_length_le (by rw [lefts_length, ← HL.out]; exact Nat.le_refl _)] at hrow
      have stw := st2.trans hst
      have rLw := rL2.kept hst (fun h => h)
      have rVw := rV.kept hst (fun h => h)
      clear rL2 rV rU st2 hst Hk
      go_wp2_with fail
      refine (uint64Ns_any _ g1 L c1 (lefts ws0 ns) _ gL L cL ns _ hrow.len (lefts_fit ws0 ns A0.fit) hrow.reads (fun h => by cases h) (by omega) HL.out.symm hpb rLw.reads (by omega)).mono ?_
      rintro e w3 ⟨gX, cX, gY, cY, rfl, rX, rY, hgX, s3⟩
      have st3 := stw.trans s3
      have rV3 := rVw.kept s3 (fun h => h)
      rw [lefts_vals ws0 ns hpb, vals_words] at rX
      rw [vals_words] at rV3
      rw [one_per_uses _ ns (lefts_kept ws0 ns hpb)] at rY
      clear rLw rVw stw s3 hrow
      go_wp2_with fail
      refine (sameWords_any _ _ L cX L cV gX gV _ _ _ rX.len rV3.len rX.reads rV3.reads (by omega)).mono ?_
      rintro e w4 ⟨rfl, s4⟩
      have st4 := st3.trans s4
      have rY4 := rY.kept s4 (fun h => h)
      simp only [decide_true]
      go_wp2_with fail
      go_loopg [69] L (fun k i wr => ∃ j : Nat, k = L - j ∧ j ≤ L ∧ i = .int .i64 (j : Int) ∧ wr = w4)
      case atStart => exact ⟨0, rfl, Nat.zero_le _, rfl, rfl⟩
      case round =>
        obtain ⟨j, hk, hj, rfl, rfl⟩ := hrel
        have Hk := Lib.hid hk
        clear hk
        by_cases hlt : j < L
        · have hcu : wr.cell? ⟨gY, j, none⟩ = some (.int .i64 ((j : Int) + 1)) := rY4.cell (by
            have : j < ns.length := by rw [← HL.out]; exact hlt
            simp [this])
          go_wp2_with fail
          go_roundg (L - (j + 1))
          case measure => rw [Hk.out]; omega
          case rel => exact ⟨j + 1, rfl, by omega, by go_num, rfl⟩
        · go_wp2_with fail
          go_ret
          exact ⟨rfl, st4.below (Nat.le_refl _) (fun k h => h.elim)⟩
end Go.Proofs.Ytpffccojlkkfkaa
