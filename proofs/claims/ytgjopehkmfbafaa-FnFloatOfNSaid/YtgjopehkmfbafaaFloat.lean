/-
  Plain floating point: a whole number of few bits, and its quotient by a power of two, are exact; how two such stand to each other. No program is named here.
-/
import Derived.Laws.FloatArith
namespace Go.Proofs.Ytgjopehkmfbafaa
open Ieee

theorem shl_bounds (m fb : Nat) (hm : m ≠ 0) (hL : m.log2 ≤ fb) : 2 ^ fb ≤ m <<< (fb - m.log2) ∧ m <<< (fb - m.log2) < 2 ^ (fb + 1) := by
  rw [Nat.shiftLeft_eq]
  have h1 : 2 ^ m.log2 ≤ m := Nat.log2_self_le hm
  have h2 : m < 2 ^ (m.log2 + 1) := Nat.lt_log2_self
  have e1 : 2 ^ fb = 2 ^ m.log2 * 2 ^ (fb - m.log2) := by rw [← Nat.pow_add]; congr 1; omega
  have e2 : 2 ^ (fb + 1) = 2 ^ (m.log2 + 1) * 2 ^ (fb - m.log2) := by rw [← Nat.pow_add]; congr 1; omega
  rw [e1, e2]
  exact ⟨Nat.mul_le_mul_right _ h1, Nat.mul_lt_mul_of_pos_right h2 (Nat.two_pow_pos _)⟩

theorem log2_shl (m fb : Nat) (hm : m ≠ 0) (hL : m.log2 ≤ fb) : (m <<< (fb - m.log2)).log2 = fb := by
  have h := shl_bounds m fb hm hL
  rw [Nat.log2_eq_iff (by have := Nat.two_pow_pos fb; omega)]
  exact h

theorem cut_zero (n : Nat) : Toward.even.cut false n 0 = n := by
  simp [Toward.cut, Nat.mod_one]

theorem cut_exact (n d : Nat) (hn : n ≠ 0) : Toward.even.cut false (n * 2 ^ d) d = n := by
  have hl : (n * 2 ^ d).log2 ≥ d := by
    rw [ge_iff_le, Nat.le_log2 (by have := Nat.mul_pos (Nat.pos_of_ne_zero hn) (Nat.two_pow_pos d); omega)]
    exact Nat.le_mul_of_pos_left _ (Nat.pos_of_ne_zero hn)
  have e : min d ((n * 2 ^ d).log2 + 2) = d := by omega
  have hp := Nat.two_pow_pos d
  simp only [Toward.cut, e, Nat.shiftLeft_eq, Nat.one_mul, Nat.mul_mod_left, Nat.mul_div_cancel _ hp, Nat.mul_zero]
  have : ¬ (2 ^ d < 0) := by omega
  have h2 : ((2 : Nat) ^ d == 0) = false := by simp
  simp [h2]

/-- Where the word of 'm * 2 ^ p' is exact: what it is. -/
theorem nearest_eq (f : Format) (m : Nat) (p : Int) (hm : m ≠ 0) (hL : m.log2 ≤ f.fractionBits) (hlo : f.leastPlace ≤ p + m.log2 - f.fractionBits)
    (hhi : (p + m.log2 - f.fractionBits - f.leastPlace).toNat + 2 ≤ 2 ^ f.exponentBits - 1) :
    f.nearest false m p = (p + m.log2 - f.fractionBits - f.leastPlace).toNat * f.binade + m <<< (f.fractionBits - m.log2) := by
  have hb := shl_bounds m f.fractionBits hm hL
  have e1 : max (p + m.log2 - f.fractionBits) f.leastPlace = p + m.log2 - f.fractionBits := by omega
  have e2 : (p - (p + m.log2 - f.fractionBits)).toNat = f.fractionBits - m.log2 := by omega
  have e3 : (p + m.log2 - f.fractionBits - p).toNat = 0 := by omega
  have e4 : (p + m.log2 - f.fractionBits - f.leastPlace).toNat * f.binade + m <<< (f.fractionBits - m.log2) ≤ f.infRung := by
    have h1 : ((p + m.log2 - f.fractionBits - f.leastPlace).toNat + 2) * f.binade ≤ f.infRung := Nat.mul_le_mul_right _ hhi
    have h2 : m <<< (f.fractionBits - m.log2) < 2 * f.binade := by
      have := hb.2
      rw [Nat.pow_succ] at this
      unfold Format.binade
      omega
    rw [Nat.add_mul] at h1
    omega
  simp only [Format.nearest, if_neg hm, e1, e2, e3, cut_zero, Format.word, Bool.false_eq_true, if_false]
  omega

/-- And what it stands for. -/
theorem read_nearest (f : Format) (m : Nat) (p : Int) (hm : m ≠ 0) (hL : m.log2 ≤ f.fractionBits) (hlo : f.leastPlace ≤ p + m.log2 - f.fractionBits)
    (hhi : (p + m.log2 - f.fractionBits - f.leastPlace).toNat + 2 ≤ 2 ^ f.exponentBits - 1) :
    f.read (f.nearest false m p) = .number false (m <<< (f.fractionBits - m.log2)) (p + m.log2 - f.fractionBits) := by
  have hb := shl_bounds m f.fractionBits hm hL
  rw [nearest_eq f m p hm hL hlo hhi]
  have hbin : f.binade = 2 ^ f.fractionBits := rfl
  rw [← hbin, Nat.pow_succ, ← hbin] at hb
  have hpos : 0 < f.binade := Nat.two_pow_pos _
  obtain ⟨q, hq⟩ : ∃ q, q = (p + m.log2 - f.fractionBits - f.leastPlace).toNat := ⟨_, rfl⟩
  obtain ⟨k, hk⟩ : ∃ k, k = m <<< (f.fractionBits - m.log2) := ⟨_, rfl⟩
  rw [← hk] at hb
  rw [← hq] at hhi
  rw [← hq, ← hk]
  have hinf : f.infRung < f.signWeight := f.infRung_lt
  have hr : q * f.binade + k < f.infRung := by
    have h1 : (q + 2) * f.binade ≤ f.infRung := Nat.mul_le_mul_right _ hhi
    rw [Nat.add_mul] at h1
    omega
  have e1 : (q * f.binade + k) / f.signWeight = 0 := Nat.div_eq_of_lt (by omega)
  have e2 : (q * f.binade + k) % f.signWeight = q * f.binade + k := Nat.mod_eq_of_lt (by omega)
  have hk2 : k = f.binade + (k - f.binade) := by omega
  have e3 : (q * f.binade + k) % f.binade = k - f.binade := by
    rw [hk2, ← Nat.add_assoc, ← Nat.succ_mul, Nat.mul_add_mod_self_right]
    rw [show f.binade + (k - f.binade) - f.binade = k - f.binade by omega]
    exact Nat.mod_eq_of_lt (by omega)
  have e4 : (q * f.binade + k) / f.binade = q + 1 := by
    rw [hk2, ← Nat.add_assoc, ← Nat.succ_mul, Nat.add_comm, Nat.add_mul_div_right _ _ hpos, Nat.div_eq_of_lt (by omega)]
    omega
  have e5 : ¬ (q * f.binade + k < f.binade) := by
    have := Nat.zero_le (q * f.binade)
    omega
  simp only [Format.read, e1, e2, e3, e4, if_neg e5, if_pos hr]
  have : (0 % 2 == 1) = false := rfl
  simp only [this, Datum.number.injEq, true_and]
  omega

/-- The word of a whole significand with nothing behind it. -/
theorem nearest_scaled (f : Format) (n d : Nat) (q : Int) (h1 : 2 ^ f.fractionBits ≤ n) (h2 : n < 2 ^ (f.fractionBits + 1)) (hlo : f.leastPlace ≤ q + d) (hhi : (q + d - f.leastPlace).toNat + 2 ≤ 2 ^ f.exponentBits - 1) :
    f.nearest false (n * 2 ^ d) q = (q + d - f.leastPlace).toNat * f.binade + n := by
  have hpos := Nat.two_pow_pos f.fractionBits
  have hn : n ≠ 0 := by omega
  have hnd : n * 2 ^ d ≠ 0 := by have := Nat.mul_pos (Nat.pos_of_ne_zero hn) (Nat.two_pow_pos d); omega
  have hlog : (n * 2 ^ d).log2 = f.fractionBits + d := by
    rw [Nat.log2_eq_iff hnd]
    refine ⟨?_, ?_⟩
    · rw [Nat.pow_add]; exact Nat.mul_le_mul_right _ h1
    · rw [show f.fractionBits + d + 1 = (f.fractionBits + 1) + d by omega, Nat.pow_add]; exact Nat.mul_lt_mul_of_pos_right h2 (Nat.two_pow_pos d)
  have e1 : max (q + ((f.fractionBits + d : Nat) : Int) - f.fractionBits) f.leastPlace = q + d := by omega
  have e2 : (q - (q + d)).toNat = 0 := by omega
  have e3 : (q + d - q).toNat = d := by omega
  have e4 : (q + d - f.leastPlace).toNat * f.binade + n ≤ f.infRung := by
    have h1 : ((q + d - f.leastPlace).toNat + 2) * f.binade ≤ f.infRung := Nat.mul_le_mul_right _ hhi
    have h3 : n < 2 * f.binade := by
      rw [Nat.pow_succ] at h2
      unfold Format.binade
      omega
    rw [Nat.add_mul] at h1
    omega
  simp only [Format.nearest, if_neg hnd, hlog, e1, e2, e3, Nat.shiftLeft_zero, cut_exact n d hn, Format.word, Bool.false_eq_true, if_false]
  omega

theorem nearest_zero (f : Format) (p : Int) : f.nearest false 0 p = 0 := by simp [Format.nearest, Format.word]
theorem read_zero (f : Format) : f.read 0 = .number false 0 f.leastPlace := by
  have : 0 < f.binade := Nat.two_pow_pos _
  simp [Format.read, this]

/-- 'm * 2 ^ p' lies well within the format. -/
structure Fits (f : Format) (m : Nat) (p : Int) : Prop where
  lo : f.leastPlace ≤ p + m.log2 - f.fractionBits
  hi : (p + m.log2 - f.fractionBits - f.leastPlace).toNat + 2 ≤ 2 ^ f.exponentBits - 1

theorem div_exact (f : Format) (c m : Nat) (p : Int) (hc : f.read c = .number false (2 ^ f.fractionBits) 1) (hL : m.log2 ≤ f.fractionBits) (h1 : Fits f m p) (h2 : Fits f m (p - f.fractionBits - 1)) :
    f.div (f.nearest false m p) c = some (f.nearest false m (p - f.fractionBits - 1)) := by
  have hpos := Nat.two_pow_pos f.fractionBits
  have hc0 : 2 ^ f.fractionBits ≠ 0 := by omega
  by_cases hm : m = 0
  · subst hm
    simp only [Format.div, nearest_zero, read_zero, hc, Datum.quotient, if_neg hc0, Nat.zero_shiftLeft, Nat.zero_div, Nat.zero_mod, Nat.mul_zero]
    simp [Format.write, nearest_zero]
  · have hb := shl_bounds m f.fractionBits hm hL
    have hlog := log2_shl m f.fractionBits hm hL
    rw [nearest_eq f m (p - f.fractionBits - 1) hm hL h2.lo h2.hi]
    simp only [Format.div, read_nearest f m p hm hL h1.lo h1.hi, hc]
    generalize m <<< (f.fractionBits - m.log2) = k at *
    have e1 : f.fractionBits + 2 + Nat.log2 (2 ^ f.fractionBits) - Nat.log2 k = f.fractionBits + 2 := by rw [hlog, Nat.log2_two_pow]; omega
    have e2 : k <<< (f.fractionBits + 2) = k * 4 * 2 ^ f.fractionBits := by rw [Nat.shiftLeft_eq, Nat.pow_add, Nat.mul_comm (2 ^ f.fractionBits), ← Nat.mul_assoc]
    simp only [Datum.quotient, if_neg hc0, e1, e2, Nat.mul_div_cancel _ hpos, Nat.mul_mod_left]
    have e3 : (2 * (k * 4) + ((0 : Nat) != 0).toNat) = k * 2 ^ 3 := by simp; omega
    simp only [e3, Option.map_some, Format.write, Bool.xor_self]
    have hlo := h2.lo
    have hhi := h2.hi
    rw [nearest_scaled f k 3 _ hb.1 hb.2 (by omega) (by
      have : (p + ↑m.log2 - ↑f.fractionBits - 1 - ↑(f.fractionBits + 2) - 1 + ((3 : Nat) : Int) - f.leastPlace).toNat = (p - ↑f.fractionBits - 1 + ↑m.log2 - ↑f.fractionBits - f.leastPlace).toNat := by omega
      rw [this]; exact hhi)]
    congr 3
    omega

theorem mul_exact (f : Format) (c m : Nat) (p : Int) (hc : f.read c = .number false (2 ^ f.fractionBits) 1) (hL : m.log2 ≤ f.fractionBits) (h1 : Fits f m p) (h2 : Fits f m (p + f.fractionBits + 1)) :
    f.mul (f.nearest false m p) c = some (f.nearest false m (p + f.fractionBits + 1)) := by
  by_cases hm : m = 0
  · subst hm
    simp only [Format.mul, nearest_zero, read_zero, hc, Datum.product, Nat.zero_mul]
    simp [Format.write, nearest_zero]
  · have hb := shl_bounds m f.fractionBits hm hL
    rw [nearest_eq f m (p + f.fractionBits + 1) hm hL h2.lo h2.hi]
    simp only [Format.mul, read_nearest f m p hm hL h1.lo h1.hi, hc, Datum.product, Option.map_some, Format.write, Bool.xor_self]
    generalize m <<< (f.fractionBits - m.log2) = k at *
    have hlo := h2.lo
    have hhi := h2.hi
    rw [nearest_scaled f k f.fractionBits _ hb.1 hb.2 (by omega) (by
      have : (p + ↑m.log2 - ↑f.fractionBits + 1 + ↑f.fractionBits - f.leastPlace).toNat = (p + ↑f.fractionBits + 1 + ↑m.log2 - ↑f.fractionBits - f.leastPlace).toNat := by omega
      rw [this]; exact hhi)]
    congr 3
    omega

theorem order_exact (f : Format) (m n : Nat) (p : Int) (hm : m.log2 ≤ f.fractionBits) (hn : n.log2 ≤ f.fractionBits) (h1 : Fits f m p) (h2 : Fits f n p) :
    f.order (f.nearest false m p) (f.nearest false n p) = some (compare m n) := by
  have hsh : ∀ k a : Nat, k ≠ 0 → 0 < k <<< a := fun k a h => by rw [Nat.shiftLeft_eq]; exact Nat.mul_pos (Nat.pos_of_ne_zero h) (Nat.two_pow_pos _)
  by_cases hm0 : m = 0
  · subst hm0
    by_cases hn0 : n = 0
    · subst hn0
      simp [Format.order, nearest_zero, read_zero, Datum.order, signed]
    · simp only [Format.order, nearest_zero, read_zero, read_nearest f n p hn0 hn h2.lo h2.hi, Datum.order, signed, Bool.false_eq_true, if_false, Nat.zero_shiftLeft]
      congr 1
      have := hsh (n <<< (f.fractionBits - n.log2)) (p + ↑n.log2 - ↑f.fractionBits - min f.leastPlace (p + ↑n.log2 - ↑f.fractionBits)).toNat (by have := hsh n (f.fractionBits - n.log2) hn0; omega)
      rw [Int.compare_eq_lt.2 (by omega), Nat.compare_eq_lt.2 (by omega)]
  · by_cases hn0 : n = 0
    · subst hn0
      simp only [Format.order, nearest_zero, read_zero, read_nearest f m p hm0 hm h1.lo h1.hi, Datum.order, signed, Bool.false_eq_true, if_false, Nat.zero_shiftLeft]
      congr 1
      have := hsh (m <<< (f.fractionBits - m.log2)) (p + ↑m.log2 - ↑f.fractionBits - min (p + ↑m.log2 - ↑f.fractionBits) f.leastPlace).toNat (by have := hsh m (f.fractionBits - m.log2) hm0; omega)
      rw [Int.compare_eq_gt.2 (by omega), Nat.compare_eq_gt.2 (by omega)]
    · simp only [Format.order, read_nearest f m p hm0 hm h1.lo h1.hi, read_nearest f n p hn0 hn h2.lo h2.hi, Datum.order, signed, Bool.false_eq_true, if_false]
      congr 1
      obtain ⟨a, ha⟩ : ∃ a, a = f.fractionBits - min m.log2 n.log2 := ⟨_, rfl⟩
      have e1 : (m <<< (f.fractionBits - m.log2)) <<< (p + ↑m.log2 - ↑f.fractionBits - min (p + ↑m.log2 - ↑f.fractionBits) (p + ↑n.log2 - ↑f.fractionBits)).toNat = m * 2 ^ a := by
        rw [← Nat.shiftLeft_add, Nat.shiftLeft_eq]; congr 2; omega
      have e2 : (n <<< (f.fractionBits - n.log2)) <<< (p + ↑n.log2 - ↑f.fractionBits - min (p + ↑m.log2 - ↑f.fractionBits) (p + ↑n.log2 - ↑f.fractionBits)).toNat = n * 2 ^ a := by
        rw [← Nat.shiftLeft_add, Nat.shiftLeft_eq]; congr 2; omega
      rw [e1, e2]
      have hpa := Nat.two_pow_pos a
      rcases Nat.lt_trichotomy m n with h | h | h
      · rw [Nat.compare_eq_lt.2 h, Int.compare_eq_lt.2]
        exact Int.ofNat_lt.2 (Nat.mul_lt_mul_of_pos_right h hpa)
      · subst h; simp
      · rw [Nat.compare_eq_gt.2 h, Int.compare_eq_gt.2]
        exact Int.ofNat_lt.2 (Nat.mul_lt_mul_of_pos_right h hpa)

/-- 'm / 2 ^ 53' as a float64, 'm / 2 ^ 24' as a float32: their bits. -/
def d53 (m : Nat) : Nat := double.nearest false m (-53)
def s24 (m : Nat) : Nat := single.nearest false m (-24)

theorem log2_le {m k : Nat} (h : m < 2 ^ (k + 1)) : m.log2 ≤ k := by
  by_cases hm : m = 0
  · subst hm; simp
  · have := (Nat.log2_lt hm).2 h
    omega
theorem leastPlace_double : double.leastPlace = -1074 := by decide
theorem leastPlace_single : single.leastPlace = -149 := by decide
theorem fits_double (m : Nat) (p : Int) (h : m.log2 ≤ 52) (h1 : -200 ≤ p) (h2 : p ≤ 200) : Fits double m p := by
  constructor
  · rw [leastPlace_double]; simp only [double]; omega
  · rw [leastPlace_double]; simp only [double]; omega
theorem fits_single (m : Nat) (p : Int) (h : m.log2 ≤ 23) (h1 : -100 ≤ p) (h2 : p ≤ 100) : Fits single m p := by
  constructor
  · rw [leastPlace_single]; simp only [single]; omega
  · rw [leastPlace_single]; simp only [single]; omega
theorem read_two53 : double.read 4845873199050653696 = .number false (2 ^ 52) 1 := by decide
theorem read_two24 : single.read 1266679808 = .number false (2 ^ 23) 1 := by decide

theorem floatOfInt_f64 (m : Nat) : floatOfInt .f64 (m : Int) = double.nearest false m 0 := by
  have : ((m : Int) < 0) = False := by simp
  simp [floatOfInt, FloatKind.nearest, FloatKind.encode, Format.write, FloatKind.format, this]
theorem floatOfInt_f32 (m : Nat) : floatOfInt .f32 (m : Int) = single.nearest false m 0 := by
  have : ((m : Int) < 0) = False := by simp
  simp [floatOfInt, FloatKind.nearest, FloatKind.encode, Format.write, FloatKind.format, this]

theorem quo_f64 (m : Nat) (h : m < 9007199254740992) : floatBits .quo .f64 (floatOfInt .f64 (m : Int)) 4845873199050653696 = some (d53 m) := by
  have hl : m.log2 ≤ 52 := log2_le (k := 52) (by simpa using h)
  rw [floatOfInt_f64]
  exact div_exact double 4845873199050653696 m 0 read_two53 hl (fits_double m 0 hl (by omega) (by omega)) (fits_double m _ hl (by simp [double]) (by simp [double]))
theorem mul_f64 (m : Nat) (h : m < 9007199254740992) : floatBits .mul .f64 (d53 m) 4845873199050653696 = some (floatOfInt .f64 (m : Int)) := by
  have hl : m.log2 ≤ 52 := log2_le (k := 52) (by simpa using h)
  rw [floatOfInt_f64]
  exact mul_exact double 4845873199050653696 m (-53) read_two53 hl (fits_double m _ hl (by omega) (by omega)) (fits_double m _ hl (by simp [double]) (by simp [double]))
theorem order_f64 (m n : Nat) (hm : m < 9007199254740992) (hn : n < 9007199254740992) : FloatKind.f64.format.order (d53 m) (d53 n) = some (compare m n) := by
  have hl : m.log2 ≤ 52 := log2_le (k := 52) (by simpa using hm)
  have hk : n.log2 ≤ 52 := log2_le (k := 52) (by simpa using hn)
  exact order_exact double m n (-53) hl hk (fits_double m _ hl (by omega) (by omega)) (fits_double n _ hk (by omega) (by omega))
theorem order_int_f64 (m n : Nat) (hm : m < 9007199254740992) (hn : n < 9007199254740992) : FloatKind.f64.format.order (floatOfInt .f64 (m : Int)) (floatOfInt .f64 (n : Int)) = some (compare m n) := by
  have hl : m.log2 ≤ 52 := log2_le (k := 52) (by simpa using hm)
  have hk : n.log2 ≤ 52 := log2_le (k := 52) (by simpa using hn)
  rw [floatOfInt_f64, floatOfInt_f64]
  exact order_exact double m n 0 hl hk (fits_double m _ hl (by omega) (by omega)) (fits_double n _ hk (by omega) (by omega))
theorem quo_f32 (m : Nat) (h : m < 16777216) : floatBits .quo .f32 (floatOfInt .f32 (m : Int)) 1266679808 = some (s24 m) := by
  have hl : m.log2 ≤ 23 := log2_le (k := 23) (by simpa using h)
  rw [floatOfInt_f32]
  exact div_exact single 1266679808 m 0 read_two24 hl (fits_single m 0 hl (by omega) (by omega)) (fits_single m _ hl (by simp [single]) (by simp [single]))
theorem mul_f32 (m : Nat) (h : m < 16777216) : floatBits .mul .f32 (s24 m) 1266679808 = some (floatOfInt .f32 (m : Int)) := by
  have hl : m.log2 ≤ 23 := log2_le (k := 23) (by simpa using h)
  rw [floatOfInt_f32]
  exact mul_exact single 1266679808 m (-24) read_two24 hl (fits_single m _ hl (by omega) (by omega)) (fits_single m _ hl (by simp [single]) (by simp [single]))
theorem order_f32 (m n : Nat) (hm : m < 16777216) (hn : n < 16777216) : FloatKind.f32.format.order (s24 m) (s24 n) = some (compare m n) := by
  have hl : m.log2 ≤ 23 := log2_le (k := 23) (by simpa using hm)
  have hk : n.log2 ≤ 23 := log2_le (k := 23) (by simpa using hn)
  exact order_exact single m n (-24) hl hk (fits_single m _ hl (by omega) (by omega)) (fits_single n _ hk (by omega) (by omega))
theorem order_int_f32 (m n : Nat) (hm : m < 16777216) (hn : n < 16777216) : FloatKind.f32.format.order (floatOfInt .f32 (m : Int)) (floatOfInt .f32 (n : Int)) = some (compare m n) := by
  have hl : m.log2 ≤ 23 := log2_le (k := 23) (by simpa using hm)
  have hk : n.log2 ≤ 23 := log2_le (k := 23) (by simpa using hn)
  rw [floatOfInt_f32, floatOfInt_f32]
  exact order_exact single m n 0 hl hk (fits_single m _ hl (by omega) (by omega)) (fits_single n _ hk (by omega) (by omega))
/-- One divided by nought is an infinity, which is greater than nought. -/
theorem one_by_zero : floatBits .quo .f64 4607182418800017408 0 = some 9218868437227405312 := by decide
theorem inf_gt : FloatKind.f64.format.order 9218868437227405312 0 = some .gt := by decide
theorem d53_zero : d53 0 = 0 := by simp [d53, nearest_zero]
end Go.Proofs.Ytgjopehkmfbafaa
