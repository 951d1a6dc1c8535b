/-
  Plain: the least word of which a number below a bound is drawn.
-/
import Derived.Test.YtpffccojlkkfkaaOne
import Derived.Test.YtpffccojlkkfkaaOnePer
namespace Go.Proofs.Ytpffccojlkkfkaa
set_option linter.unusedVariables false

/-- A bound with one bit alone is a power of two. -/
theorem pow_of_isPow (n : Nat) (h1 : 1 ≤ n) (hp : isPow n = true) : ∃ k, n = 2 ^ k := by
  induction n using Nat.strongRecOn with
  | _ n ih =>
    simp only [isPow, beq_iff_eq] at hp
    rcases Nat.mod_two_eq_zero_or_one n with h | h
    · obtain ⟨m, rfl⟩ : ∃ m, n = 2 * m := ⟨n / 2, by omega⟩
      have hm : m &&& (m - 1) = 0 := by
        have h2 : (2 * m &&& (2 * m - 1)) / 2 = m &&& (m - 1) := by
          rw [Nat.and_div_two]
          congr 1 <;> omega
        rw [hp] at h2
        omega
      obtain ⟨k, hk⟩ := ih m (by omega) (by omega) (by simp [isPow, hm])
      exact ⟨k + 1, by rw [Nat.pow_succ, ← hk]; omega⟩
    · have h2 : (n &&& (n - 1)) / 2 = n / 2 &&& (n - 1) / 2 := Nat.and_div_two
      rw [hp, show (n - 1) / 2 = n / 2 by omega, Nat.and_self] at h2
      exact ⟨0, by omega⟩
theorem drawn_pow (x n : Nat) (h1 : 1 ≤ n) (hp : isPow n = true) (hx : x < n) : drawn x n = x := by
  obtain ⟨k, rfl⟩ := pow_of_isPow n h1 hp
  simp only [drawn, hp, if_true, Nat.and_two_pow_sub_one_eq_mod]
  exact Nat.mod_eq_of_lt hx

/-- The word reaches the row of x, or lies behind it. -/
def reaches (m x n : Nat) : Prop := x * 18446744073709551616 + thr n ≤ m * n
theorem prod_split (m n : Nat) : m * n = hiOf m n * 18446744073709551616 + loOf m n := (Nat.div_add_mod' _ _).symm
theorem lo_lt (m n : Nat) : loOf m n < 18446744073709551616 := Nat.mod_lt _ (by omega)
theorem reaches_iff (m x n : Nat) (h2 : n < 18446744073709551616) (h1 : 1 ≤ n) : reaches m x n ↔ (x < hiOf m n ∨ (hiOf m n = x ∧ thr n ≤ loOf m n)) := by
  have ht : thr n < n := Nat.mod_lt _ h1
  have hl := lo_lt m n
  unfold reaches
  rw [prod_split m n]
  constructor
  · intro h
    rcases Nat.lt_trichotomy x (hiOf m n) with h3 | h3 | h3
    · exact .inl h3
    · refine .inr ⟨h3.symm, ?_⟩
      rw [h3] at h
      omega
    · have := Nat.mul_le_mul_right 18446744073709551616 (show hiOf m n + 1 ≤ x from h3)
      rw [Nat.add_mul] at this
      omega
  · rintro (h3 | ⟨h3, h4⟩)
    · have := Nat.mul_le_mul_right 18446744073709551616 (show x + 1 ≤ hiOf m n from h3)
      rw [Nat.add_mul] at this
      omega
    · rw [h3]; omega
theorem reaches_mono (m m' x n : Nat) (h : m ≤ m') (hr : reaches m x n) : reaches m' x n := Nat.le_trans hr (Nat.mul_le_mul_right n h)
theorem thr_le (n : Nat) (h1 : 1 ≤ n) (h2 : n < 18446744073709551616) : thr n + n ≤ 18446744073709551616 := by
  have : thr n ≤ 18446744073709551616 - n := Nat.mod_le _ _
  omega
theorem reaches_last (x n : Nat) (h1 : 1 ≤ n) (h2 : n < 18446744073709551616) (hx : x < n) : reaches 18446744073709551615 x n := by
  have ht := thr_le n h1 h2
  unfold reaches
  omega

/-- The least one. -/
def least (x n W : Nat) : Prop := reaches W x n ∧ ∀ m, m < W → ¬ reaches m x n
/-- What wordFor returns. -/
def wordFor (x n : Nat) : Nat := if isPow n then x else (x * 18446744073709551616 + thr n + (n - 1)) / n
theorem least_eq (x n W : Nat) (h1 : 1 ≤ n) (h : least x n W) : W = (x * 18446744073709551616 + thr n + (n - 1)) / n := by
  obtain ⟨hr, hl⟩ := h
  unfold reaches at hr hl
  symm
  apply Nat.div_eq_of_lt_le
  · cases W with
    | zero => rw [Nat.zero_mul]; exact Nat.zero_le _
    | succ W =>
      have := hl W (by omega)
      rw [Nat.succ_mul]
      generalize x * 18446744073709551616 = a at *
      generalize thr n = t at *
      generalize W * n = b at *
      omega
  · rw [Nat.succ_mul]
    generalize x * 18446744073709551616 = a at *
    generalize thr n = t at *
    generalize W * n = b at *
    omega
theorem least_ends (x n W : Nat) (h1 : 1 ≤ n) (h : least x n W) : x * 18446744073709551616 + thr n ≤ W * n ∧ W * n < x * 18446744073709551616 + thr n + n ∨ (W = 0 ∧ x * 18446744073709551616 + thr n = 0) := by
  obtain ⟨hr, hl⟩ := h
  cases W with
  | zero =>
    unfold reaches at hr
    right
    exact ⟨rfl, by omega⟩
  | succ W =>
    have := hl W (by omega)
    unfold reaches at hr this
    left
    refine ⟨hr, ?_⟩
    rw [Nat.add_mul]
    omega
/-- So many words from the first one of a row on draw its number. -/
theorem in_row (x n W s : Nat) (h1 : 1 ≤ n) (h2 : n < 18446744073709551616) (hp : isPow n = false) (h : least x n W) (hs : s * n + n + thr n ≤ 18446744073709551616) : thrown (W + s) n = false ∧ drawn (W + s) n = x := by
  have e : (W + s) * n = W * n + s * n := Nat.add_mul _ _ _
  have hl := lo_lt (W + s) n
  have hsp := prod_split (W + s) n
  have hlo : x * 18446744073709551616 + thr n ≤ (W + s) * n ∧ (W + s) * n < x * 18446744073709551616 + 18446744073709551616 := by
    rcases least_ends x n W h1 h with ⟨a, b⟩ | ⟨a, b⟩
    · omega
    · subst a; omega
  have hhi : hiOf (W + s) n = x := by
    unfold hiOf
    apply Nat.div_eq_of_lt_le
    · omega
    · rw [Nat.succ_mul]; omega
  rw [hhi] at hsp
  refine ⟨?_, ?_⟩
  · simp only [thrown, Bool.and_eq_false_iff, decide_eq_false_iff_not]
    right
    omega
  · rw [drawn_hi _ _ hp, hhi]
theorem word_kept (x n W : Nat) (h1 : 1 ≤ n) (h2 : n < 18446744073709551616) (hp : isPow n = false) (h : least x n W) : thrown W n = false ∧ drawn W n = x := by
  have := in_row x n W 0 h1 h2 hp h (by have := thr_le n h1 h2; omega)
  simpa using this
end Go.Proofs.Ytpffccojlkkfkaa
