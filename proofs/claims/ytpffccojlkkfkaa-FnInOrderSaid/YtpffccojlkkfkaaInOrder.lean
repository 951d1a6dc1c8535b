/-
  The walk of FnInOrder.
-/
import Derived.Test.YtpffccojlkkfkaaOne
namespace Go.Proofs.Ytpffccojlkkfkaa
open Go.RowKit
set_option linter.unusedVariables false

set_option maxRecDepth 100000 in
set_option maxHeartbeats 2000000 in
theorem fnInOrder_walk (a0 : Option Addr) (len0 cap0 b0 : Nat) (ws0 : List Nat) (n1 : Nat) (w : World) (A0 : Arg u64 18446744073709551616 8 w a0 len0 cap0 b0 ws0) (l1 : n1 < 18446744073709551616) :
    Calls Try.prog 10 #[.slice a0 len0 cap0, .int .u64 (n1 : Int)] w fun e w' => e = .returned (.bool true) ∧ Below w.heap.size w w' := by
  have hs0 := A0.small
  by_cases h0 : n1 = 0
  · subst h0
    go_enter Try.func10, Try.ntmps10
    go_wp2_with fail
    go_ret
    exact ⟨rfl, Below.refl _ _⟩
  · have hb1 : 1 ≤ n1 := by omega
    have hz : ((n1 : Int) == 0) = false := by simp; omega
    cases hp : isPow n1 with
    | true =>
      have Hp := Lib.hid hp
      clear hp
      go_enter Try.func10, Try.ntmps10
      go_wp2_with fail
      refine (isPower_any n1 _ hb1 l1).mono ?_
      rintro e w' ⟨rfl, rfl⟩
      rw [Hp.out]
      go_wp2_with fail
      go_ret
      exact ⟨rfl, Below.refl _ _⟩
    | false =>
      have Hp := Lib.hid hp
      clear hp
      go_enter Try.func10, Try.ntmps10
      go_wp2_with fail
      refine (isPower_any n1 _ hb1 l1).mono ?_
      rintro e w' ⟨rfl, rfl⟩
      rw [Hp.out]
      go_wp2_with fail
      go_loopg [21] len0 (fun k i wr => ∃ j : Nat, k = len0 - j ∧ j ≤ len0 ∧ i = .int .i64 (j : Int) ∧ Still w wr)
      case atStart => exact ⟨0, rfl, Nat.zero_le _, rfl, Turned.refl _ _⟩
      case round =>
        obtain ⟨j, hk, hj, rfl, hst⟩ := hrel
        have Hk := Lib.hid hk
        clear hk
        by_cases hlt : j < len0
        · have hx := A0.word j
          obtain ⟨off, rfl, hc⟩ := A0.at hlt
          have hd := hst.cell hc (fun h => h)
          clear hc
          have P1 := one_pos (wordAt ws0 j) n1 hb1 l1
          generalize hxj : wordAt ws0 j = x at *
          have Hxj := Lib.hid hxj
          clear hxj
          go_wp2_with fail
          clear hd
          obtain ⟨wo, rfl⟩ : ∃ wo : World, wo = wr := ⟨_, rfl⟩
          go_loopg [27] len0 (fun k i wr => ∃ l : Nat, k = len0 - l ∧ l ≤ len0 ∧ i = .int .i64 (l : Int) ∧ Still w wr)
          case atStart => exact ⟨0, rfl, Nat.zero_le _, rfl, hst⟩
          case round =>
            obtain ⟨l, hk, hl, rfl, hst2⟩ := hrel
            have Hk2 := Lib.hid hk
            clear hk
            by_cases hlt2 : l < len0
            · have hy := A0.word l
              obtain ⟨off', he, hc⟩ := A0.at hlt2
              obtain rfl : off' = off := by simpa using he.symm
              have hd := hst2.cell hc (fun h => h)
              clear hc he
              have P2 := one_pos (wordAt ws0 l) n1 hb1 l1
              generalize wordAt ws0 l = y at *
              have IO := Lib.hid (in_order x y n1 hb1 l1 Hp.out)
              go_wp2_with fail
              refine (drawnBy_any x n1 _ hx hb1 l1).mono ?_
              rintro e w3 ⟨rfl, s3⟩
              go_wp2_with fail
              refine (drawnBy_any y n1 _ hy hb1 l1).mono ?_
              rintro e w4 ⟨rfl, s4⟩
              have hst4 := (hst2.trans s3).trans s4
              clear s3 s4 hd
              generalize one x n1 = p at *
              generalize one y n1 = q at *
              obtain ⟨pv, pu⟩ := p
              obtain ⟨qv, qu⟩ := q
              simp only at P1 P2
              obtain ⟨P1a, P1b⟩ := P1
              obtain ⟨P2a, P2b⟩ := P2
              by_cases c1 : pu = 1
              · have d1 : ((pu : Int) == 1) = true := by simp; omega
                by_cases c2 : qu = 1
                · have d2 : ((qu : Int) == 1) = true := by simp; omega
                  by_cases c3 : x ≤ y
                  · have c4 : pv ≤ qv := IO.out c1 c2 c3
                    clear c1 c2
                    go_wp2_with fail
                    go_roundg (len0 - (l + 1))
                    case measure => rw [Hk2.out]; omega
                    case rel => exact ⟨l + 1, rfl, by omega, by go_num, hst4⟩
                  · clear c1 c2
                    go_wp2_with fail
                    go_roundg (len0 - (l + 1))
                    case measure => rw [Hk2.out]; omega
                    case rel => exact ⟨l + 1, rfl, by omega, by go_num, hst4⟩
                · have d2 : ((qu : Int) == 1) = false := by simp; omega
                  clear c1 c2
                  go_wp2_with fail
                  go_roundg (len0 - (l + 1))
                  case measure => rw [Hk2.out]; omega
                  case rel => exact ⟨l + 1, rfl, by omega, by go_num, hst4⟩
              · have d1 : ((pu : Int) == 1) = false := by simp; omega
                clear c1
                go_wp2_with fail
                go_roundg (len0 - (l + 1))
                case measure => rw [Hk2.out]; omega
                case rel => exact ⟨l + 1, rfl, by omega, by go_num, hst4⟩
            · go_wp2_with fail
              go_roundg (len0 - (j + 1))
              case measure => rw [Hk.out]; omega
              case rel => exact ⟨j + 1, rfl, by omega, by go_num, hst2⟩
        · go_wp2_with fail
          go_ret
          exact ⟨rfl, hst.below (Nat.le_refl _) (fun k h => h.elim)⟩
end Go.Proofs.Ytpffccojlkkfkaa
