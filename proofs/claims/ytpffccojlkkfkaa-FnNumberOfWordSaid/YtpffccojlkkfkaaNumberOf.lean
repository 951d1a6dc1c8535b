/-
  The walk of FnNumberOfWord.
-/
import Derived.Test.YtpffccojlkkfkaaHelpB
import Derived.Test.YtpffccojlkkfkaaFin
namespace Go.Proofs.Ytpffccojlkkfkaa
open Go.RowKit
set_option linter.unusedVariables false

set_option maxRecDepth 100000 in
set_option maxHeartbeats 2000000 in
theorem fnNumberOfWord_walk (a0 : Option Addr) (len0 cap0 b0 : Nat) (ws0 : List Nat) (a1 : Option Addr) (len1 cap1 b1 : Nat) (ws1 : List Nat) (w : World) (A0 : Arg u64 18446744073709551616 8 w a0 len0 cap0 b0 ws0) (A1 : Arg u64 18446744073709551616 8 w a1 len1 cap1 b1 ws1) :
    Calls Try.prog 11 #[.slice a0 len0 cap0, .slice a1 len1 cap1] w fun e w' => e = .returned (.bool true) ∧ Below w.heap.size w w' := by
  have hs0 := A0.small
  have hs1 := A1.small
  have HL0 := Lib.hid A0.length
  have hpl : (pos ws1).length ≤ len1 := by rw [← A1.length]; exact List.length_filter_le _ _
  have hpb := pos_bounds ws1 _ A1.fit
  go_enter Try.func11, Try.ntmps11
  go_wp2_with fail
  refine (positive_any a1 b1 len1 cap1 ws1 _ A1).mono ?_
  rintro e w1 ⟨gL, cL, rfl, rL, hgL, s1⟩
  generalize pos ws1 = ns at *
  obtain ⟨L, hL⟩ : ∃ L, L = ns.length := ⟨_, rfl⟩
  rw [← hL] at hpl rL
  rw [← hL]
  have HL := Lib.hid hL
  clear hL
  go_wp2_with fail
  refine (uint64Ns_any a0 b0 len0 cap0 ws0 _ gL L cL ns _ A0.size A0.fit (A0.reads.kept s1 (fun h => h)) A0.nil (by omega) HL.out.symm hpb rL.reads (by omega)).mono ?_
  rintro e w2 ⟨gV, cV, gU, cU, rfl, rV, rU, hgV, s2⟩
  have st2 := s1.trans s2
  have rL2 := rL.kept s2 (fun h => h)
  clear rL s1 s2
  go_wp2_with fail
  go_loopg [35] L (fun k i wr => ∃ j : Nat, k = L - j ∧ j ≤ L ∧ i = .int .i64 (j : Int) ∧ wr = w2)
  case atStart => exact ⟨0, rfl, Nat.zero_le _, rfl, rfl⟩
  case round =>
    obtain ⟨j, hk, hj, rfl, rfl⟩ := hrel
    have Hk := Lib.hid hk
    clear hk
    by_cases hlt : j < L
    · have hjn : j < ns.length := by rw [← HL.out]; exact hlt
      have hcl : wr.cell? ⟨gL, j, none⟩ = some (.int .u64 (ns[j] : Nat)) := rL2.cell (words_get ns j hjn)
      have hcu := rU.cell (uses_get ws0 ns j hjn)
      have hcv := rV.cell (vals_get .u64 ws0 ns j hjn)
      obtain ⟨hb1, hb2⟩ := hpb ns[j] (List.getElem_mem hjn)
      obtain ⟨f1, _, _, f4⟩ := fin_spec ws0 ns[j] (drawsEnd ws0 0 (ns.take j)) hb1 hb2
      obtain ⟨u1, u2⟩ := used_small ws0 ns j (by rw [HL0.out]; omega) (by rw [← HL.out]; omega)
      have u3 := u2 ns[j]
      clear u2
      rw [f4] at hcv
      clear f4
      generalize ns[j] = n at *
      generalize drawsEnd ws0 0 (ns.take j) = q at *
      generalize (fin ws0 n q).2 = u at *
      have hu1 : ((u - 1 : Nat) : Int) = (u : Int) - 1 := by omega
      have Hu1 := Lib.hid hu1.symm
      clear hu1
      have hx := A0.word (u - 1)
      go_wp2_with fail
      refine (wordAt_any a0 b0 len0 cap0 ws0 (u - 1) _ _ Hu1.out HL0.out (A0.reads.kept st2 (fun h => h))).mono ?_
      rintro e w' ⟨rfl, rfl⟩
      generalize wordAt ws0 (u - 1) = x at *
      go_wp2_with fail
      refine (product_any x n hx hb2 _).mono ?_
      rintro e w' ⟨rfl, rfl⟩
      have hand := and_pred x n hx hb1 hb2
      cases hp : isPow n with
      | true =>
        have Hp := Lib.hid hp
        have hdr : drawn x n = x &&& (n - 1) := by simp [drawn, hp]
        rw [hdr] at hcv
        clear hp hdr
        generalize x &&& (n - 1) = v at *
        go_wp2_with fail
        refine (isPower_any n _ hb1 hb2).mono ?_
        rintro e w' ⟨rfl, rfl⟩
        rw [Hp.out]
        go_wp2_with fail
        refine (isPower_any n _ hb1 hb2).mono ?_
        rintro e w' ⟨rfl, rfl⟩
        rw [Hp.out]
        go_wp2_with fail
        go_roundg (L - (j + 1))
        case measure => rw [Hk.out]; omega
        case rel => exact ⟨j + 1, rfl, by omega, by go_num, rfl⟩
      | false =>
        have Hp := Lib.hid hp
        have hdr : drawn x n = hiOf x n := by simp [drawn, hp]
        rw [hdr] at hcv
        clear hp hdr
        go_wp2_with fail
        refine (isPower_any n _ hb1 hb2).mono ?_
        rintro e w' ⟨rfl, rfl⟩
        rw [Hp.out]
        go_wp2_with fail
        refine (isPower_any n _ hb1 hb2).mono ?_
        rintro e w' ⟨rfl, rfl⟩
        rw [Hp.out]
        go_wp2_with fail
        go_roundg (L - (j + 1))
        case measure => rw [Hk.out]; omega
        case rel => exact ⟨j + 1, rfl, by omega, by go_num, rfl⟩
    · go_wp2_with fail
      go_ret
      exact ⟨rfl, st2.below (Nat.le_refl _) (fun k h => h.elim)⟩
end Go.Proofs.Ytpffccojlkkfkaa
