/-
  The reference's product, bit by bit, and what stands on it.
-/
import Derived.Test.YtpffccojlkkfkaaHelpB
namespace Go.Proofs.Ytpffccojlkkfkaa
open Go.RowKit
set_option linter.unusedVariables false

theorem split_step (q y p H Lo : Nat) (hy : y < 18446744073709551616) (hq : q * y = H * 18446744073709551616 + Lo) (hL : Lo < 18446744073709551616) :
    (p = 2 * q → hiOf p y = 2 * H + Lo / 9223372036854775808 ∧ loOf p y = 2 * Lo % 18446744073709551616) ∧
    (p = 2 * q + 1 → loOf p y = (2 * Lo % 18446744073709551616 + y) % 18446744073709551616 ∧ hiOf p y = 2 * H + Lo / 9223372036854775808 + (if (2 * Lo % 18446744073709551616 + y) % 18446744073709551616 < y then 1 else 0)) := by
  unfold hiOf loOf
  refine ⟨?_, ?_⟩
  · rintro rfl
    have e : 2 * q * y = 2 * H * 18446744073709551616 + 2 * Lo := by rw [Nat.mul_assoc, hq]; omega
    rw [e]
    omega
  · rintro rfl
    have e : (2 * q + 1) * y = 2 * H * 18446744073709551616 + (2 * Lo + y) := by rw [Nat.add_mul, Nat.mul_assoc, hq]; omega
    rw [e]
    split <;> omega
theorem halves (x t : Nat) (ht : t < 64) : x / 2 ^ (63 - t) = 2 * (x / 2 ^ (64 - t)) + x / 2 ^ (63 - t) % 2 := by
  have e : (2 : Nat) ^ (64 - t) = 2 ^ (63 - t) * 2 := by rw [← Nat.pow_succ]; congr 1; omega
  rw [e, ← Nat.div_div_eq_div_mul]
  omega
theorem hi_small (x y t : Nat) (ht : t < 64) (hx : x < 18446744073709551616) (hy : y < 18446744073709551616) : hiOf (x / 2 ^ (64 - t)) y < 9223372036854775808 := by
  have h1 : x / 2 ^ (64 - t) < 9223372036854775808 := by
    rw [Nat.div_lt_iff_lt_mul (Nat.two_pow_pos _)]
    have : 2 ^ 1 ≤ 2 ^ (64 - t) := Nat.pow_le_pow_right (by omega) (by omega)
    omega
  unfold hiOf
  rw [Nat.div_lt_iff_lt_mul (by omega)]
  have h2 : x / 2 ^ (64 - t) * y ≤ 9223372036854775807 * 18446744073709551615 := Nat.mul_le_mul (by omega) (by omega)
  omega
theorem hi_lt (p y : Nat) (hp : p < 18446744073709551616) (hy : y < 18446744073709551616) : hiOf p y < 18446744073709551616 := by
  unfold hiOf
  rw [Nat.div_lt_iff_lt_mul (by omega)]
  have h2 : p * y ≤ 18446744073709551615 * 18446744073709551615 := Nat.mul_le_mul (by omega) (by omega)
  omega
theorem or_bit (H b : Nat) (hH : H < 9223372036854775808) (hb : b < 2) : bits .or .u64 ((H : Int) * 2) ((b : Nat) : Int) = ((2 * H + b : Nat) : Int) := by
  have e : (H : Int) * 2 = ((2 * H : Nat) : Int) := by omega
  rw [e, bits_or_u64_nat _ _ (by omega) (by omega)]
  have := Nat.two_pow_add_eq_or_of_lt (i := 1) (b := b) (by simpa using hb) H
  rw [Nat.pow_one] at this
  rw [this]

set_option maxHeartbeats 1000000 in
theorem specProduct_any (x y : Nat) (hx : x < 18446744073709551616) (hy : y < 18446744073709551616) (w : World) :
    Calls Try.prog 43 #[.int .u64 (x : Int), .int .u64 (y : Int)] w fun e w' => e = .returned (.tuple #[.int .u64 (hiOf x y : Nat), .int .u64 (loOf x y : Nat)]) ∧ w = w' := by
  go_enter Try.func43, Try.ntmps43
  go_wp2_with fail
  go_loopg [6, 7, 8] 64 (fun k h l i wr => ∃ t : Nat, k = 64 - t ∧ t ≤ 64 ∧ h = .int .u64 (hiOf (x / 2 ^ (64 - t)) y : Nat) ∧ l = .int .u64 (loOf (x / 2 ^ (64 - t)) y : Nat) ∧ i = .int .i64 (63 - (t : Int)) ∧ w = wr)
  case atStart =>
    have e : x / 2 ^ (64 - 0) = 0 := Nat.div_eq_of_lt (by simpa using hx)
    refine ⟨0, rfl, by omega, ?_, ?_, rfl, rfl⟩
    · rw [e]; simp [hiOf]
    · rw [e]; simp [loOf]
  case round =>
    obtain ⟨t, hk, ht, rfl, rfl, rfl, rfl⟩ := hrel
    have Hk := Lib.hid hk
    clear hk
    by_cases hlt : t < 64
    · have hH := hi_small x y t hlt hx hy
      have hq : x / 2 ^ (64 - t) * y = hiOf (x / 2 ^ (64 - t)) y * 18446744073709551616 + loOf (x / 2 ^ (64 - t)) y := (Nat.div_add_mod' _ _).symm
      have hLo : loOf (x / 2 ^ (64 - t)) y < 18446744073709551616 := Nat.mod_lt _ (by omega)
      have hhalf := halves x t hlt
      obtain ⟨s0, s1⟩ := split_step _ y (x / 2 ^ (63 - t)) _ _ hy hq hLo
      have ep : (x : Int) / 2 ^ (63 - t) = ((x / 2 ^ (63 - t) : Nat) : Int) := by rw [Int.natCast_ediv, Int.natCast_pow]; rfl
      have hpx : x / 2 ^ (63 - t) < 18446744073709551616 := Nat.lt_of_le_of_lt (Nat.div_le_self _ _) hx
      have hand : bits .and .u64 ((x : Int) / 2 ^ (63 - t)) 1 = ((x / 2 ^ (63 - t) % 2 : Nat) : Int) := by
        rw [ep]
        have := bits_and_u64_nat (x / 2 ^ (63 - t)) 1 hpx (by omega)
        rw [Nat.and_one_is_mod] at this
        exact this
      have hip := hi_lt (x / 2 ^ (63 - t)) y hpx hy
      have e64 : 64 - (t + 1) = 63 - t := by omega
      have HE := Lib.hid e64
      clear e64 ep hpx hq
      generalize hiOf (x / 2 ^ (64 - t)) y = H at *
      generalize loOf (x / 2 ^ (64 - t)) y = Lo at *
      have hb : Lo / 9223372036854775808 < 2 := by omega
      have hor : bits .or .u64 ((H : Int) * 2) ((Lo : Int) / 9223372036854775808) = ((2 * H + Lo / 9223372036854775808 : Nat) : Int) := or_bit H _ hH hb
      have hl1 : IntKind.u64.wrap ((Lo : Int) * 2) = ((2 * Lo % 18446744073709551616 : Nat) : Int) := by rw [IntKind.wrap_u64]; omega
      have hH1 : 2 * H + Lo / 9223372036854775808 < 18446744073709551616 := by omega
      have hL1 : 2 * Lo % 18446744073709551616 < 18446744073709551616 := Nat.mod_lt _ (by omega)
      generalize 2 * H + Lo / 9223372036854775808 = H1 at *
      generalize 2 * Lo % 18446744073709551616 = L1 at *
      have hl2 : IntKind.u64.wrap ((L1 : Int) + y) = (((L1 + y) % 18446744073709551616 : Nat) : Int) := by rw [IntKind.wrap_u64]; omega
      generalize (L1 + y) % 18446744073709551616 = L2 at *
      rcases Nat.mod_two_eq_zero_or_one (x / 2 ^ (63 - t)) with hz | hz
      · obtain ⟨e1, e2⟩ := s0 (by omega)
        rw [hz] at hand
        have hand' : (bits .and .u64 ((x : Int) / 2 ^ (63 - t)) 1 == 1) = false := by rw [hand]; rfl
        have E1 := Lib.hid e1
        have E2 := Lib.hid e2
        clear s0 s1 hhalf hz hand e1 e2 hl2
        go_wp2_with fail
        go_roundg (64 - (t + 1))
        case measure => rw [Hk.out]; omega
        case rel => exact ⟨t + 1, rfl, by omega, by rw [HE.out, E1.out], by rw [HE.out, E2.out], by go_num, rfl⟩
      · obtain ⟨e2, e1⟩ := s1 (by omega)
        rw [hz] at hand
        have hand' : (bits .and .u64 ((x : Int) / 2 ^ (63 - t)) 1 == 1) = true := by rw [hand]; rfl
        have E2 := Lib.hid e2
        clear s0 s1 hhalf hz hand e2
        by_cases hc : L2 < y
        · rw [if_pos hc] at e1
          have hH2 : H1 + 1 < 18446744073709551616 := by omega
          have E1 := Lib.hid e1
          clear e1
          go_wp2_with fail
          go_roundg (64 - (t + 1))
          case measure => rw [Hk.out]; omega
          case rel => exact ⟨t + 1, rfl, by omega, by rw [HE.out, E1.out]; go_num, by rw [HE.out, E2.out], by go_num, rfl⟩
        · rw [if_neg hc] at e1
          have E1 := Lib.hid e1
          clear e1
          go_wp2_with fail
          go_roundg (64 - (t + 1))
          case measure => rw [Hk.out]; omega
          case rel => exact ⟨t + 1, rfl, by omega, by rw [HE.out, E1.out]; rfl, by rw [HE.out, E2.out], by go_num, rfl⟩
    · obtain rfl : t = 64 := by omega
      have HE : Hid (x / 2 ^ (64 - 64) = x) := by show _ = _; simp
      rw [HE.out]
      go_wp2_with fail
      go_ret2
      exact ⟨rfl, rfl⟩

theorem specWordAt_any (a : Option Addr) (b n c : Nat) (ws : List Nat) (k : Nat) (w : World) (hn : ws.length = n) (hr : Reads w a b (ws.map u64)) :
    Calls Try.prog 37 #[.slice a n c, .int .i64 (k : Int)] w fun e w' => e = .returned (.int .u64 (wordAt ws k : Nat)) ∧ w = w' := by
  by_cases hlt : k < n
  · obtain ⟨off, rfl, hc⟩ := hr.at (i := k) (by simp; omega)
    have hd : w.cell? ⟨b, off + k, none⟩ = some (.int .u64 (wordAt ws k : Nat)) := by rw [hc]; simp [wordAt, u64, List.getElem?_eq_getElem (show k < ws.length by omega)]
    clear hc hr hn
    go_enter Try.func37, Try.ntmps37
    go_wp2_with fail
    go_ret
    exact ⟨rfl, rfl⟩
  · have hw : wordAt ws k = 18446744073709551615 := by simp [wordAt, List.getElem?_eq_none (show ws.length ≤ k by omega)]
    have Hw := Lib.hid hw
    clear hw hn hr
    go_enter Try.func37, Try.ntmps37
    go_wp2_with fail
    go_ret
    exact ⟨by rw [Hw.out]; rfl, rfl⟩

theorem specThrown_any (x n : Nat) (w : World) (hx : x < 18446744073709551616) (h1 : 1 ≤ n) (h2 : n < 18446744073709551616) :
    Calls Try.prog 36 #[.int .u64 (x : Int), .int .u64 (n : Int)] w fun e w' => e = .returned (.bool (thrown x n)) ∧ w = w' := by
  have hnr := neg_rem n h1 h2
  have Ht : Hid (thrown x n = (!isPow n && decide (loOf x n < thr n))) := rfl
  cases hp : isPow n with
  | true =>
    rw [hp] at Ht
    have hand := and_pred_pow n h1 h2 hp
    clear hp
    go_enter Try.func36, Try.ntmps36
    go_wp2_with fail
    refine (specProduct_any x n hx h2 _).mono ?_
    rintro e w' ⟨rfl, rfl⟩
    go_wp2_with fail
    go_ret
    exact ⟨by rw [Ht.out]; rfl, rfl⟩
  | false =>
    rw [hp] at Ht
    have hand : (bits .and .u64 (n : Int) ((n : Int) - 1) != 0) = true := by
      have := and_pred_not n h1 h2 hp
      simpa using this
    clear hp
    go_enter Try.func36, Try.ntmps36
    go_wp2_with fail
    refine (specProduct_any x n hx h2 _).mono ?_
    rintro e w' ⟨rfl, rfl⟩
    go_wp2_with fail
    go_ret
    exact ⟨by rw [Ht.out]; simp, rfl⟩

theorem specDrawn_any (x n : Nat) (w : World) (hx : x < 18446744073709551616) (h1 : 1 ≤ n) (h2 : n < 18446744073709551616) :
    Calls Try.prog 38 #[.int .u64 (x : Int), .int .u64 (n : Int)] w fun e w' => e = .returned (.int .u64 (drawn x n : Nat)) ∧ w = w' := by
  cases hp : isPow n with
  | true =>
    have Hd : Hid (drawn x n = x &&& (n - 1)) := by show _ = _; simp [drawn, hp]
    have hand := and_pred_pow n h1 h2 hp
    have hand2 := and_pred x n hx h1 h2
    clear hp
    go_enter Try.func38, Try.ntmps38
    go_wp2_with fail
    go_ret
    exact ⟨by rw [Hd.out]; rfl, rfl⟩
  | false =>
    have Hd : Hid (drawn x n = hiOf x n) := by show _ = _; simp [drawn, hp]
    have hand := and_pred_not n h1 h2 hp
    clear hp
    go_enter Try.func38, Try.ntmps38
    go_wp2_with fail
    refine (specProduct_any x n hx h2 _).mono ?_
    rintro e w' ⟨rfl, rfl⟩
    go_wp2_with fail
    go_ret
    exact ⟨by rw [Hd.out]; rfl, rfl⟩
end Go.Proofs.Ytpffccojlkkfkaa
