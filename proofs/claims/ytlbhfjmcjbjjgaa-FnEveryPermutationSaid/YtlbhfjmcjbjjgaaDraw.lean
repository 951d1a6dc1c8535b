/-
  math/bits.Mul64 and Rand's uint64n over given words: what it returns, and which words it uses.
-/
import Derived.Test.YtlbhfjmcjbjjgaaSrc
import Derived.Lib.Mul64
import Derived.Laws.Bits64b
import Derived.Deep.LoopGhost
namespace Go.Proofs.Ytlbhfjmcjbjjgaa
open Go.RowKit
set_option linter.unusedVariables false

namespace Mul64
theorem maskN (a : Nat) (ha : a < 18446744073709551616) : bits .and .u64 (a : Int) 4294967295 = ((a % 4294967296 : Nat) : Int) := by
  have h := bits_and_u64_nat a 4294967295 ha (by omega)
  have e : a &&& 4294967295 = a % 4294967296 := Nat.and_two_pow_sub_one_eq_mod a 32
  rw [e] at h
  exact h
theorem divN (a : Nat) : (a : Int) / 4294967296 = ((a / 4294967296 : Nat) : Int) := by omega
theorem mulN (a b : Nat) : (a : Int) * (b : Int) = ((a * b : Nat) : Int) := (Int.natCast_mul a b).symm
theorem addN (a b : Nat) : (a : Int) + (b : Int) = ((a + b : Nat) : Int) := (Int.natCast_add a b).symm
theorem wrapN (a : Nat) (ha : a < 18446744073709551616) : IntKind.u64.wrap (a : Int) = (a : Int) := by rw [IntKind.wrap_u64]; omega
theorem wrapM (a : Nat) : IntKind.u64.wrap (a : Int) = ((a % 18446744073709551616 : Nat) : Int) := by rw [IntKind.wrap_u64]; omega
end Mul64

set_option maxHeartbeats 1000000 in
theorem mul64_any (x y : Nat) (hx : x < 18446744073709551616) (hy : y < 18446744073709551616) (w : World) :
    Calls Try.prog 31 #[.int .u64 (x : Int), .int .u64 (y : Int)] w fun e w' => e = .returned (.tuple #[.int .u64 (x * y / 18446744073709551616 : Nat), .int .u64 (x * y % 18446744073709551616 : Nat)]) ∧ w = w' := by
  obtain ⟨bd, bt, bw, hhi⟩ := Lib.mul64_hi x y hx hy
  have ba := Lib.half_mul_le (a := x / 4294967296) (b := y / 4294967296) (by omega) (by omega)
  have bb := Lib.half_mul_le (a := x / 4294967296) (b := y % 4294967296) (by omega) (by omega)
  have bc := Lib.half_mul_le (a := x % 4294967296) (b := y / 4294967296) (by omega) (by omega)
  have ba' : x / 4294967296 * (y / 4294967296) < 18446744073709551616 := by omega
  have bb' : x / 4294967296 * (y % 4294967296) < 18446744073709551616 := by omega
  have bc' : x % 4294967296 * (y / 4294967296) < 18446744073709551616 := by omega
  have bh1 : x / 4294967296 * (y / 4294967296) + (x / 4294967296 * (y % 4294967296) + x % 4294967296 * (y % 4294967296) / 4294967296) / 4294967296 < 18446744073709551616 := by omega
  have bh : x / 4294967296 * (y / 4294967296) + (x / 4294967296 * (y % 4294967296) + x % 4294967296 * (y % 4294967296) / 4294967296) / 4294967296 + ((x / 4294967296 * (y % 4294967296) + x % 4294967296 * (y % 4294967296) / 4294967296) % 4294967296 + x % 4294967296 * (y / 4294967296)) / 4294967296 < 18446744073709551616 := by omega
  go_enter Try.func31, Try.ntmps31
  go_wp2
  simp only [Mul64.maskN x hx, Mul64.maskN y hy, Mul64.divN, Mul64.mulN, Mul64.addN, Mul64.wrapN _ bd, Mul64.wrapN _ bb', Mul64.wrapN _ bt, Mul64.maskN _ bt, Mul64.wrapN _ bc', Mul64.wrapN _ bw, Mul64.wrapN _ ba', Mul64.wrapN _ bh1, Mul64.wrapN _ bh, Mul64.wrapM (x * y)]
  rw [hhi]
  go_ret2
  exact ⟨rfl, rfl⟩

theorem and_pred (x n : Nat) (hx : x < 18446744073709551616) (h1 : 1 ≤ n) (h2 : n < 18446744073709551616) : bits .and .u64 (x : Int) ((n : Int) - 1) = ((x &&& (n - 1) : Nat) : Int) := by
  have := bits_and_u64_nat x (n - 1) hx (by omega)
  rw [show (((n - 1 : Nat)) : Int) = (n : Int) - 1 by omega] at this
  exact this
theorem and_pred_pow (n : Nat) (h1 : 1 ≤ n) (h2 : n < 18446744073709551616) (hp : isPow n = true) : bits .and .u64 (n : Int) ((n : Int) - 1) = 0 := by
  rw [and_pred n n h2 h1 h2]
  simp only [isPow, beq_iff_eq] at hp
  rw [hp]; rfl
theorem and_pred_not (n : Nat) (h1 : 1 ≤ n) (h2 : n < 18446744073709551616) (hp : isPow n = false) : (bits .and .u64 (n : Int) ((n : Int) - 1) == 0) = false := by
  rw [and_pred n n h2 h1 h2]
  simp only [isPow, beq_eq_false_iff_ne, ne_eq] at hp ⊢
  omega

/-- uint64n at a power of two. -/
theorem uint64n_pow (r s g cap i n : Nat) (ws : List Nat) (w : World) (h : Src w r s g cap ws i) (hi : i < 4611686018427387904) (h1 : 1 ≤ n) (h2 : n < 18446744073709551616) (hp : isPow n = true) :
    Calls Try.prog 27 #[.pointer (some ⟨r, 0, none⟩), .int .u64 (n : Int)] w fun e w' => e = .returned (.int .u64 ((fin ws n i).1 : Nat)) ∧ Src w' r s g cap ws (fin ws n i).2 ∧ Turns s w w' := by
  have hand := and_pred_pow n h1 h2 hp
  have hx := wordAt_lt ws i h.fit
  have hand2 := and_pred (wordAt ws i) n hx h1 h2
  rw [fin_pow ws n i hp]
  go_enter Try.func27, Try.ntmps27
  go_wp2_with (go_at_call 30; refine (word_any r s g cap i ws _ h hi).mono ?_; rintro e w' ⟨rfl, h1, hT⟩)
  go_ret
  exact ⟨rfl, h1, hT⟩

theorem mulOf_any (x y : Nat) (hx : x < 18446744073709551616) (hy : y < 18446744073709551616) (w : World) :
    Calls Try.prog 31 #[.int .u64 (x : Int), .int .u64 (y : Int)] w fun e w' => e = .returned (.tuple #[.int .u64 (hiOf x y : Nat), .int .u64 (loOf x y : Nat)]) ∧ w = w' := mul64_any x y hx hy w

theorem neg_rem (n : Nat) (h1 : 1 ≤ n) (h2 : n < 18446744073709551616) : (IntKind.u64.wrap (-(n : Int))).tmod (n : Int) = (thr n : Int) := by
  have e : IntKind.u64.wrap (-(n : Int)) = ((18446744073709551616 - n : Nat) : Int) := by rw [IntKind.wrap_u64]; omega
  rw [e, ← Int.ofNat_tmod]
  rfl
theorem thr_lt (n : Nat) (h1 : 1 ≤ n) : thr n < n := Nat.mod_lt _ h1

set_option maxHeartbeats 1000000 in
/-- uint64n at a bound that is no power of two. -/
theorem uint64n_not (r s g cap i n : Nat) (ws : List Nat) (w : World) (h : Src w r s g cap ws i) (hi : i < 4611686018427387904) (hl : ws.length < 4611686018427387904) (h1 : 1 ≤ n) (h2 : n < 18446744073709551616) (hp : isPow n = false) :
    Calls Try.prog 27 #[.pointer (some ⟨r, 0, none⟩), .int .u64 (n : Int)] w fun e w' => e = .returned (.int .u64 ((fin ws n i).1 : Nat)) ∧ Src w' r s g cap ws (fin ws n i).2 ∧ Turns s w w' := by
  have hand := and_pred_not n h1 h2 hp
  have hx := wordAt_lt ws i h.fit
  have hnr := neg_rem n h1 h2
  have ht := thr_lt n h1
  by_cases hlt : loOf (wordAt ws i) n < n
  · go_enter Try.func27, Try.ntmps27
    go_wp2_with fail
    refine (word_any r s g cap i ws _ h hi).mono ?_
    rintro e w1 ⟨rfl, hs1, hT1⟩
    go_wp2_with fail
    refine (mulOf_any _ n hx h2 _).mono ?_
    rintro e w' ⟨rfl, rfl⟩
    go_wp2_with fail
    go_loopg [5, 6] (ws.length + 1 - i) (fun k hi lo wr => ∃ j : Nat, k = ws.length + 1 - j ∧ j < 4611686018427387904 ∧ hi = .int .u64 (hiOf (wordAt ws j) n : Nat) ∧ lo = .int .u64 (loOf (wordAt ws j) n : Nat) ∧ Src wr r s g cap ws (j + 1) ∧ Turns s w wr ∧ Hid (fin ws n i = fin ws n j))
    case atStart => exact ⟨i, rfl, hi, rfl, rfl, hs1, hT1, rfl⟩
    case round =>
      obtain ⟨j, hk, hj, rfl, rfl, hsj, hTj, hfin⟩ := hrel
      have Hk := Lib.hid hk
      clear hk hs1 hT1 hx hlt
      by_cases hth : loOf (wordAt ws j) n < thr n
      · have hthr : thrown (wordAt ws j) n = true := by simp [thrown, hp, hth]
        obtain ⟨hf1, hf2⟩ := fin_thrown ws n j h1 h2 hthr
        have Hf : Hid (fin ws n i = fin ws n (j + 1)) := hfin.out.trans hf1
        clear hf1 hfin hthr
        have hx := wordAt_lt ws (j + 1) h.fit
        go_wp2_with fail
        refine (word_any r s g cap (j + 1) ws _ hsj (by omega)).mono ?_
        rintro e w2 ⟨rfl, hs2, hT2⟩
        go_wp2_with fail
        refine (mulOf_any _ n hx h2 _).mono ?_
        rintro e w' ⟨rfl, rfl⟩
        go_wp2_with fail
        go_roundg (ws.length + 1 - (j + 1))
        case measure => rw [Hk.out]; omega
        case rel => exact ⟨j + 1, rfl, by omega, rfl, rfl, hs2, hTj.trans hT2, Hf⟩
      · have hthr : thrown (wordAt ws j) n = false := by simp [thrown, hp]; omega
        have Hf : Hid (fin ws n i = (drawn (wordAt ws j) n, j + 1)) := hfin.out.trans (fin_kept ws n j hthr)
        clear hfin hthr
        go_wp2_with fail
        go_ret
        rw [Hf.out]
        exact ⟨by simp [drawn, hp], hsj, hTj⟩
  · go_enter Try.func27, Try.ntmps27
    go_wp2_with fail
    refine (word_any r s g cap i ws _ h hi).mono ?_
    rintro e w1 ⟨rfl, hs1, hT1⟩
    go_wp2_with fail
    refine (mulOf_any _ n hx h2 _).mono ?_
    rintro e w' ⟨rfl, rfl⟩
    go_wp2_with fail
    go_ret
    have hth : thrown (wordAt ws i) n = false := by simp only [thrown, Bool.and_eq_false_iff, decide_eq_false_iff_not]; right; omega
    rw [fin_kept ws n i hth]
    exact ⟨by simp [drawn, hp], hs1, hT1⟩

/-- uint64n at every bound of at least 1. -/
theorem uint64n_any (r s g cap i n : Nat) (ws : List Nat) (w : World) (h : Src w r s g cap ws i) (hi : i < 4611686018427387904) (hl : ws.length < 4611686018427387904) (h1 : 1 ≤ n) (h2 : n < 18446744073709551616) :
    Calls Try.prog 27 #[.pointer (some ⟨r, 0, none⟩), .int .u64 (n : Int)] w fun e w' => e = .returned (.int .u64 ((fin ws n i).1 : Nat)) ∧ Src w' r s g cap ws (fin ws n i).2 ∧ Turns s w w' := by
  cases hp : isPow n with
  | true => exact uint64n_pow r s g cap i n ws w h hi h1 h2 hp
  | false => exact uint64n_not r s g cap i n ws w h hi hl h1 h2 hp
end Go.Proofs.Ytlbhfjmcjbjjgaa
