/-
  The walk of FnThrownAway.
-/
import Derived.Test.YtpffccojlkkfkaaHelpB
import Derived.Test.YtpffccojlkkfkaaFin
namespace Go.Proofs.Ytpffccojlkkfkaa
open Go.RowKit
set_option linter.unusedVariables false

set_option maxRecDepth 100000 in
set_option maxHeartbeats 2000000 in
theorem fnThrownAway_walk (a0 : Option Addr) (len0 cap0 b0 : Nat) (ws0 : List Nat) (a1 : Option Addr) (len1 cap1 b1 : Nat) (ws1 : List Nat) (w : World) (A0 : Arg u64 18446744073709551616 8 w a0 len0 cap0 b0 ws0) (A1 : Arg u64 18446744073709551616 8 w a1 len1 cap1 b1 ws1) :
    Calls Try.prog 12 #[.slice a0 len0 cap0, .slice a1 len1 cap1] w fun e w' => e = .returned (.bool true) ∧ Below w.heap.size w w' := by
  have hs0 := A0.small
  have hs1 := A1.small
  have HL0 := Lib.hid A0.length
  have hpl : (pos ws1).length ≤ len1 := by rw [← A1.length]; exact List.length_filter_le _ _
  have hpb := pos_bounds ws1 _ A1.fit
  go_enter Try.func12, Try.ntmps12
  go_wp2_with fail
  refine (positive_any a1 b1 len1 cap1 ws1 _ A1).mono ?_
  rintro e w1 ⟨gL, cL, rfl, rL, hgL, s1⟩
  generalize pos ws1 = ns at *
  obtain ⟨L, hL⟩ : ∃ L, L = ns.length := ⟨_, rfl⟩
  rw [← hL] at hpl rL
  rw [← hL]
  have HL := Lib.hid hL
  clear hL
  go_wp2_with fail
  refine (uint64Ns_any a0 b0 len0 cap0 ws0 _ gL L cL ns _ A0.size A0.fit (A0.reads.kept s1 (fun h => h)) A0.nil (by omega) HL.out.symm hpb rL.reads (by omega)).mono ?_
  rintro e w2 ⟨gV, cV, gU, cU, rfl, rV, rU, hgV, s2⟩
  have st2 := s1.trans s2
  have rL2 := rL.kept s2 (fun h => h)
  clear rL s1 s2 rV
  go_wp2_with fail
  go_loopg [8, 33] L (fun k at' i wr => ∃ j : Nat, k = L - j ∧ j ≤ L ∧ at' = .int .i64 (drawsEnd ws0 0 (ns.take j) : Nat) ∧ i = .int .i64 (j : Int) ∧ wr = w2)
  case atStart => exact ⟨0, rfl, Nat.zero_le _, rfl, rfl, rfl⟩
  case round =>
    obtain ⟨j, hk, hj, rfl, rfl, rfl⟩ := hrel
    have Hk := Lib.hid hk
    clear hk
    by_cases hlt : j < L
    · have hjn : j < ns.length := by rw [← HL.out]; exact hlt
      have hcl : wr.cell? ⟨gL, j, none⟩ = some (.int .u64 (ns[j] : Nat)) := rL2.cell (words_get ns j hjn)
      have hcu := rU.cell (uses_get ws0 ns j hjn)
      obtain ⟨hb1, hb2⟩ := hpb ns[j] (List.getElem_mem hjn)
      obtain ⟨f1, f2, f3, _⟩ := fin_spec ws0 ns[j] (drawsEnd ws0 0 (ns.take j)) hb1 hb2
      obtain ⟨u1, u2⟩ := used_small ws0 ns j (by rw [HL0.out]; omega) (by rw [← HL.out]; omega)
      have u3 := u2 ns[j]
      obtain ⟨_, hsn2⟩ := draws_take ws0 ns j hjn
      have Hs := Lib.hid hsn2
      clear hsn2 u2
      generalize ns[j] = n at *
      generalize drawsEnd ws0 0 (ns.take j) = q at *
      generalize (fin ws0 n q).2 = u at *
      have hd1 : decide (u ≤ q) = false := by simp; omega
      have hd2 : decide ((u : Int) ≤ (q : Int)) = false := by simp; omega
      have F2 := Lib.hid f2
      have F3 := Lib.hid f3
      clear f2 f3
      go_wp2_with fail
      obtain ⟨wo, rfl⟩ : ∃ wo : World, wo = wr := ⟨_, rfl⟩
      go_loopg [8] (u - q) (fun k at' wr => ∃ t : Nat, k = u - t ∧ q ≤ t ∧ t ≤ u - 1 ∧ at' = .int .i64 (t : Int) ∧ wr = wo)
      case atStart => exact ⟨q, rfl, Nat.le_refl _, by omega, rfl, rfl⟩
      case round =>
        obtain ⟨t, hk, ht1, ht2, rfl, rfl⟩ := hrel
        have Hk2 := Lib.hid hk
        clear hk
        by_cases hin : t < u - 1
        · have hin' : (t : Int) < (u : Int) - 1 := by omega
          have hx := A0.word t
          have hth := F2.out t ht1 hin
          have Hth := Lib.hid hth
          clear hth
          go_wp2_with fail
          refine (wordAt_any a0 b0 len0 cap0 ws0 t _ _ rfl HL0.out (A0.reads.kept st2 (fun h => h))).mono ?_
          rintro e w' ⟨rfl, rfl⟩
          go_wp2_with fail
          refine (isThrown_any _ n _ hx hb1 hb2).mono ?_
          rintro e w' ⟨rfl, rfl⟩
          rw [Hth.out]
          go_wp2_with fail
          go_roundg (u - (t + 1))
          case measure => rw [Hk2.out]; omega
          case rel => exact ⟨t + 1, rfl, by omega, by omega, by go_num, rfl⟩
        · obtain rfl : u - 1 = t := by omega
          have hin' : ¬ ((u - 1 : Nat) : Int) < (u : Int) - 1 := by omega
          have hx := A0.word (u - 1)
          go_wp2_with fail
          refine (wordAt_any a0 b0 len0 cap0 ws0 (u - 1) _ _ rfl HL0.out (A0.reads.kept st2 (fun h => h))).mono ?_
          rintro e w' ⟨rfl, rfl⟩
          go_wp2_with fail
          refine (isThrown_any _ n _ hx hb1 hb2).mono ?_
          rintro e w' ⟨rfl, rfl⟩
          rw [F3.out]
          go_wp2_with fail
          go_roundg (L - (j + 1))
          case measure => rw [Hk.out]; omega
          case rel =>
            refine ⟨j + 1, rfl, by omega, ?_, by go_num, rfl⟩
            rw [Hs.out]
            congr 1
            omega
    · go_wp2_with fail
      go_ret
      exact ⟨rfl, st2.below (Nat.le_refl _) (fun k h => h.elim)⟩
end Go.Proofs.Ytpffccojlkkfkaa
