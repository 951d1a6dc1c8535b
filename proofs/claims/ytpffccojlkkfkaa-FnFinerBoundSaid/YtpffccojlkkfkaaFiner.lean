/-
  The walk of FnFinerBound.
-/
import Derived.Test.YtpffccojlkkfkaaOne
namespace Go.Proofs.Ytpffccojlkkfkaa
open Go.RowKit
set_option linter.unusedVariables false

set_option maxRecDepth 100000 in
set_option maxHeartbeats 2000000 in
theorem fnFinerBound_walk (a0 : Option Addr) (len0 cap0 b0 : Nat) (ws0 : List Nat) (n1 n2 : Nat) (w : World) (A0 : Arg u64 18446744073709551616 8 w a0 len0 cap0 b0 ws0) (l1 : n1 < 18446744073709551616) (l2 : n2 < 256) :
    Calls Try.prog 9 #[.slice a0 len0 cap0, .int .u64 (n1 : Int), .int .u8 (n2 : Int)] w fun e w' => e = .returned (.bool true) ∧ Below w.heap.size w w' := by
  have hs0 := A0.small
  by_cases h0 : n1 = 0
  · subst h0
    go_enter Try.func9, Try.ntmps9
    go_wp2_with fail
    go_ret
    exact ⟨rfl, Below.refl _ _⟩
  have hz : ((n1 : Int) == 0) = false := by simp; omega
  have hb1 : 1 ≤ n1 := by omega
  clear h0
  by_cases h0 : n2 = 0
  · subst h0
    go_enter Try.func9, Try.ntmps9
    go_wp2_with fail
    go_ret
    exact ⟨rfl, Below.refl _ _⟩
  have hz2 : ((n2 : Int) == 0) = false := by simp; omega
  have ht : 0 < n2 := by omega
  clear h0
  have HM : Hid (hiOf n1 n2 = n1 * n2 / 18446744073709551616 ∧ loOf n1 n2 = n1 * n2 % 18446744073709551616) := ⟨rfl, rfl⟩
  by_cases hh : hiOf n1 n2 = 0
  · have hmul : n1 * n2 < 18446744073709551616 := by
      have := HM.out.1
      rw [hh] at this
      omega
    have hlo : loOf n1 n2 = n1 * n2 := by rw [HM.out.2]; exact Nat.mod_eq_of_lt hmul
    have hpos : 1 ≤ n1 * n2 := Nat.mul_pos hb1 ht
    have hhz : ((hiOf n1 n2 : Int) != 0) = false := by rw [hh]; rfl
    have Hlo := Lib.hid hlo
    have FI := Lib.hid (fun x => finer x n1 n2 hb1 l1 ht hpos hmul)
    clear hlo hh
    cases hp : isPow n1 with
    | true =>
      have Hp := Lib.hid hp
      clear hp
      go_enter Try.func9, Try.ntmps9
      go_wp2_with fail
      refine (product_any n1 n2 l1 (by omega) _).mono ?_
      rintro e w' ⟨rfl, rfl⟩
      go_wp2_with fail
      refine (isPower_any n1 _ hb1 l1).mono ?_
      rintro e w' ⟨rfl, rfl⟩
      rw [Hp.out]
      go_wp2_with fail
      go_ret
      exact ⟨rfl, Below.refl _ _⟩
    | false =>
      have Hp := Lib.hid hp
      clear hp
      cases hq : isPow (n1 * n2) with
      | true =>
        have Hq := Lib.hid hq
        clear hq
        go_enter Try.func9, Try.ntmps9
        go_wp2_with fail
        refine (product_any n1 n2 l1 (by omega) _).mono ?_
        rintro e w' ⟨rfl, rfl⟩
        go_wp2_with fail
        refine (isPower_any n1 _ hb1 l1).mono ?_
        rintro e w' ⟨rfl, rfl⟩
        rw [Hp.out]
        go_wp2_with fail
        refine (isPower_any (loOf n1 n2) _ (by rw [Hlo.out]; exact hpos) (by rw [Hlo.out]; exact hmul)).mono ?_
        rintro e w' ⟨rfl, rfl⟩
        rw [show isPow (loOf n1 n2) = true by rw [Hlo.out]; exact Hq.out]
        go_wp2_with fail
        go_ret
        exact ⟨rfl, Below.refl _ _⟩
      | false =>
        have Hq := Lib.hid hq
        clear hq
        go_enter Try.func9, Try.ntmps9
        go_wp2_with fail
        refine (product_any n1 n2 l1 (by omega) _).mono ?_
        rintro e w' ⟨rfl, rfl⟩
        go_wp2_with fail
        refine (isPower_any n1 _ hb1 l1).mono ?_
        rintro e w' ⟨rfl, rfl⟩
        rw [Hp.out]
        go_wp2_with fail
        refine (isPower_any (loOf n1 n2) _ (by rw [Hlo.out]; exact hpos) (by rw [Hlo.out]; exact hmul)).mono ?_
        rintro e w' ⟨rfl, rfl⟩
        rw [show isPow (loOf n1 n2) = false by rw [Hlo.out]; exact Hq.out]
        go_wp2_with fail
        go_loopg [40] len0 (fun k i wr => ∃ j : Nat, k = len0 - j ∧ j ≤ len0 ∧ i = .int .i64 (j : Int) ∧ Still w wr)
        case atStart => exact ⟨0, rfl, Nat.zero_le _, rfl, Turned.refl _ _⟩
        case round =>
          obtain ⟨j, hk, hj, rfl, hst⟩ := hrel
          have Hk := Lib.hid hk
          clear hk
          by_cases hlt : j < len0
          · have hx := A0.word j
            obtain ⟨off, rfl, hc⟩ := A0.at hlt
            have hd := hst.cell hc (fun h => h)
            clear hc
            have P1 := one_pos (wordAt ws0 j) n1 hb1 l1
            generalize wordAt ws0 j = x at *
            have hlm : loOf n1 n2 < 18446744073709551616 := by rw [Hlo.out]; exact hmul
            have hlp : 1 ≤ loOf n1 n2 := by rw [Hlo.out]; exact hpos
            have P2 := one_pos x (loOf n1 n2) hlp hlm
            have bp := one_lt x n1 hx hb1
            have io := FI.out x Hp.out Hq.out
            rw [← Hlo.out] at io
            have IO := Lib.hid io
            clear io
            go_wp2_with fail
            refine (drawnBy_any x n1 _ hx hb1 l1).mono ?_
            rintro e w3 ⟨rfl, s3⟩
            go_wp2_with fail
            refine (drawnBy_any x (loOf n1 n2) _ hx hlp hlm).mono ?_
            rintro e w4 ⟨rfl, s4⟩
            have hst4 := (hst.trans s3).trans s4
            clear s3 s4 hd
            generalize one x n1 = p at *
            generalize one x (loOf n1 n2) = q at *
            obtain ⟨pv, pu⟩ := p
            obtain ⟨qv, qu⟩ := q
            simp only at P1 P2 bp
            have bp2 : pv < 18446744073709551616 := by omega
            obtain ⟨P1a, P1b⟩ := P1
            obtain ⟨P2a, P2b⟩ := P2
            by_cases c1 : pu = 1
            · have d1 : ((pu : Int) == 1) = true := by simp; omega
              by_cases c2 : qu = 1
              · have d2 : ((qu : Int) == 1) = true := by simp; omega
                have c4 : qv / n2 = pv := IO.out c1 c2
                have c5 : (qv : Int) / (n2 : Int) = (pv : Int) := by rw [← c4]; rfl
                have c6 : (qv : Int).tdiv (n2 : Int) = (pv : Int) := by rw [← c4]; rfl
                have c7 : IntKind.u64.wrap (pv : Int) = (pv : Int) := Mul64.wrapN pv bp2
                clear c1 c2 c4
                go_wp2_with fail
                go_roundg (len0 - (j + 1))
                case measure => rw [Hk.out]; omega
                case rel => exact ⟨j + 1, rfl, by omega, by go_num, hst4⟩
              · have d2 : ((qu : Int) == 1) = false := by simp; omega
                clear c1 c2
                go_wp2_with fail
                go_roundg (len0 - (j + 1))
                case measure => rw [Hk.out]; omega
                case rel => exact ⟨j + 1, rfl, by omega, by go_num, hst4⟩
            · have d1 : ((pu : Int) == 1) = false := by simp; omega
              clear c1
              go_wp2_with fail
              go_roundg (len0 - (j + 1))
              case measure => rw [Hk.out]; omega
              case rel => exact ⟨j + 1, rfl, by omega, by go_num, hst4⟩
          · go_wp2_with fail
            go_ret
            exact ⟨rfl, hst.below (Nat.le_refl _) (fun k h => h.elim)⟩
  · have hhz : ((hiOf n1 n2 : Int) != 0) = true := by rw [bne_iff_ne]; omega
    clear hh
    go_enter Try.func9, Try.ntmps9
    go_wp2_with fail
    refine (product_any n1 n2 l1 (by omega) _).mono ?_
    rintro e w' ⟨rfl, rfl⟩
    go_wp2_with fail
    go_ret
    exact ⟨rfl, Below.refl _ _⟩
end Go.Proofs.Ytpffccojlkkfkaa
