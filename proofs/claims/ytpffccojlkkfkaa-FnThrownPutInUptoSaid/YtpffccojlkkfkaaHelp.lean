/-
  The statements' own helpers on bounds: the product by halves, powers of two, words thrown away, the bounds that are not 0.
-/
import Derived.Test.YtpffccojlkkfkaaBounds
import Derived.Test.YtpffccojlkkfkaaFrame
namespace Go.Proofs.Ytpffccojlkkfkaa
open Go.RowKit
set_option linter.unusedVariables false

theorem product_plain (x y : Nat) (hx : x < 18446744073709551616) (hy : y < 18446744073709551616) :
    x % 4294967296 * (y % 4294967296) < 18446744073709551616 ∧ x / 4294967296 * (y % 4294967296) < 18446744073709551616 ∧ x % 4294967296 * (y / 4294967296) < 18446744073709551616 ∧ x / 4294967296 * (y / 4294967296) < 18446744073709551616 ∧
    x / 4294967296 * (y / 4294967296) + x / 4294967296 * (y % 4294967296) / 4294967296 < 18446744073709551616 ∧
    x / 4294967296 * (y / 4294967296) + x / 4294967296 * (y % 4294967296) / 4294967296 + x % 4294967296 * (y / 4294967296) / 4294967296 < 18446744073709551616 ∧
    x / 4294967296 * (y / 4294967296) + x / 4294967296 * (y % 4294967296) / 4294967296 + x % 4294967296 * (y / 4294967296) / 4294967296 + (x % 4294967296 * (y % 4294967296) / 4294967296 + x / 4294967296 * (y % 4294967296) % 4294967296 + x % 4294967296 * (y / 4294967296) % 4294967296) / 4294967296 = hiOf x y ∧ hiOf x y < 18446744073709551616 ∧
    (x % 4294967296 * (y % 4294967296) / 4294967296 + x / 4294967296 * (y % 4294967296) % 4294967296 + x % 4294967296 * (y / 4294967296) % 4294967296) * 4294967296 % 18446744073709551616 + x % 4294967296 * (y % 4294967296) % 4294967296 = loOf x y := by
  have e : x * y = (x / 4294967296) * (y / 4294967296) * (4294967296 * 4294967296) + ((x / 4294967296) * (y % 4294967296) + (x % 4294967296) * (y / 4294967296)) * 4294967296 + (x % 4294967296) * (y % 4294967296) := by
    rw [← Lib.split_mul, Nat.div_add_mod' x 4294967296, Nat.div_add_mod' y 4294967296]
  have ha := Lib.half_mul_le (a := x / 4294967296) (b := y / 4294967296) (by omega) (by omega)
  have hb := Lib.half_mul_le (a := x / 4294967296) (b := y % 4294967296) (by omega) (by omega)
  have hc := Lib.half_mul_le (a := x % 4294967296) (b := y / 4294967296) (by omega) (by omega)
  have hd := Lib.half_mul_le (a := x % 4294967296) (b := y % 4294967296) (by omega) (by omega)
  unfold hiOf loOf
  rw [e]
  generalize (x / 4294967296) * (y / 4294967296) = a at *
  generalize (x / 4294967296) * (y % 4294967296) = b at *
  generalize (x % 4294967296) * (y / 4294967296) = c at *
  generalize (x % 4294967296) * (y % 4294967296) = d at *
  refine ⟨by omega, by omega, by omega, by omega, by omega, by omega, by omega, by omega, by omega⟩

theorem or_low (m l : Nat) (hl : l < 4294967296) : bits .or .u64 ((m * 4294967296 % 18446744073709551616 : Nat) : Int) ((l : Nat) : Int) = ((m * 4294967296 % 18446744073709551616 + l : Nat) : Int) := by
  rw [bits_or_u64_nat _ _ (Nat.mod_lt _ (by omega)) (by omega)]
  have e : m * 4294967296 % 18446744073709551616 = 2 ^ 32 * (m % 4294967296) := by omega
  rw [e, Nat.two_pow_add_eq_or_of_lt (i := 32) (by simpa using hl)]

set_option maxHeartbeats 1000000 in
theorem product_any (x y : Nat) (hx : x < 18446744073709551616) (hy : y < 18446744073709551616) (w : World) :
    Calls Try.prog 28 #[.int .u64 (x : Int), .int .u64 (y : Int)] w fun e w' => e = .returned (.tuple #[.int .u64 (hiOf x y : Nat), .int .u64 (loOf x y : Nat)]) ∧ w = w' := by
  have HP := Lib.hid (product_plain x y hx hy)
  go_enter Try.func28, Try.ntmps28
  go_wp2
  obtain ⟨bd, bb, bc, ba, b1, b2, hhi, bh, hlo⟩ := HP.out
  have ml : x % 4294967296 * (y % 4294967296) / 4294967296 + x / 4294967296 * (y % 4294967296) % 4294967296 < 18446744073709551616 := by omega
  have mm : x % 4294967296 * (y % 4294967296) / 4294967296 + x / 4294967296 * (y % 4294967296) % 4294967296 + x % 4294967296 * (y / 4294967296) % 4294967296 < 18446744073709551616 := by omega
  have mulK : ∀ a : Nat, (a : Int) * 4294967296 = ((a * 4294967296 : Nat) : Int) := fun a => by omega
  have lw : x % 4294967296 * (y % 4294967296) % 4294967296 < 4294967296 := Nat.mod_lt _ (by omega)
  simp only [Mul64.maskN x hx, Mul64.maskN y hy, Mul64.divN, Mul64.mulN, Mul64.addN, Mul64.wrapN _ bd, Mul64.wrapN _ bb, Mul64.wrapN _ bc, Mul64.wrapN _ ba, Mul64.maskN _ bd, Mul64.maskN _ bb, Mul64.maskN _ bc, Mul64.wrapN _ b1, Mul64.wrapN _ b2, Mul64.wrapN _ ml, Mul64.wrapN _ mm, mulK, Mul64.wrapM, or_low _ _ lw, hhi, hlo, Nat.mod_eq_of_lt bh]
  go_ret2
  exact ⟨rfl, rfl⟩

theorem isPower_any (n : Nat) (w : World) (h1 : 1 ≤ n) (h2 : n < 18446744073709551616) :
    Calls Try.prog 20 #[.int .u64 (n : Int)] w fun e w' => e = .returned (.bool (isPow n)) ∧ w = w' := by
  have ha := and_pred n n h2 h1 h2
  go_enter Try.func20, Try.ntmps20
  go_wp2
  go_ret
  refine ⟨?_, rfl⟩
  show Ending.returned (.bool _) = _
  congr 2
  simp only [isPow]
  rw [Bool.eq_iff_iff]
  simp

theorem isThrown_any (x n : Nat) (w : World) (hx : x < 18446744073709551616) (h1 : 1 ≤ n) (h2 : n < 18446744073709551616) :
    Calls Try.prog 30 #[.int .u64 (x : Int), .int .u64 (n : Int)] w fun e w' => e = .returned (.bool (thrown x n)) ∧ w = w' := by
  have hnr := neg_rem n h1 h2
  have Ht : Hid (thrown x n = (!isPow n && decide (loOf x n < thr n))) := rfl
  cases hp : isPow n with
  | true =>
    rw [hp] at Ht
    go_enter Try.func30, Try.ntmps30
    go_wp2_with fail
    refine (product_any x n hx h2 _).mono ?_
    rintro e w' ⟨rfl, rfl⟩
    go_wp2_with fail
    refine (isPower_any n _ h1 h2).mono ?_
    rintro e w' ⟨rfl, rfl⟩
    rw [hp]
    clear hp
    go_wp2_with fail
    go_ret
    exact ⟨by rw [Ht.out]; rfl, rfl⟩
  | false =>
    rw [hp] at Ht
    go_enter Try.func30, Try.ntmps30
    go_wp2_with fail
    refine (product_any x n hx h2 _).mono ?_
    rintro e w' ⟨rfl, rfl⟩
    go_wp2_with fail
    refine (isPower_any n _ h1 h2).mono ?_
    rintro e w' ⟨rfl, rfl⟩
    rw [hp]
    clear hp
    go_wp2_with fail
    go_ret
    exact ⟨by rw [Ht.out]; simp, rfl⟩

theorem wordAt_any (a : Option Addr) (b n c : Nat) (ws : List Nat) (k : Nat) (K : Int) (w : World) (hK : K = (k : Int)) (hn : ws.length = n) (hr : Reads w a b (ws.map u64)) :
    Calls Try.prog 29 #[.slice a n c, .int .i64 K] w fun e w' => e = .returned (.int .u64 (wordAt ws k : Nat)) ∧ w = w' := by
  subst hK
  by_cases hlt : k < n
  · obtain ⟨off, rfl, hc⟩ := hr.at (i := k) (by simp; omega)
    have hd : w.cell? ⟨b, off + k, none⟩ = some (.int .u64 (wordAt ws k : Nat)) := by rw [hc]; simp [wordAt, u64, List.getElem?_eq_getElem (show k < ws.length by omega)]
    clear hc hr hn
    have h0 : (0 : Int) ≤ (k : Int) := by omega
    go_enter Try.func29, Try.ntmps29
    go_wp2_with fail
    go_ret
    exact ⟨rfl, rfl⟩
  · have hw : wordAt ws k = 18446744073709551615 := by simp [wordAt, List.getElem?_eq_none (show ws.length ≤ k by omega)]
    have Hw := Lib.hid hw
    clear hw hn hr
    go_enter Try.func29, Try.ntmps29
    go_wp2_with fail
    go_ret
    exact ⟨by rw [Hw.out]; rfl, rfl⟩
end Go.Proofs.Ytpffccojlkkfkaa
