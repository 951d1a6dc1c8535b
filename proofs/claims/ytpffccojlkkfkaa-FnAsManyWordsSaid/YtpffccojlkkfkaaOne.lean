/-
  Plain: what is drawn of a single word.
-/
import Derived.Test.YtpffccojlkkfkaaHelpB
import Derived.Test.YtpffccojlkkfkaaFin
namespace Go.Proofs.Ytpffccojlkkfkaa

theorem one_kept (x n : Nat) (h : thrown x n = false) : one x n = (drawn x n, 1) := by
  have : thrown (wordAt [x] 0) n = false := h
  rw [one, fin_kept [x] n 0 this]
  rfl
theorem one_thrown (x n : Nat) (h1 : 1 ≤ n) (h2 : n < 18446744073709551616) (h : thrown x n = true) : (one x n).2 = 2 := by
  have ht : thrown (wordAt [x] 0) n = true := h
  rw [one, (fin_thrown [x] n 0 h1 h2 ht).1, fin_kept [x] n 1 (by exact thrown_ones n h1 h2)]
theorem one_used (x n : Nat) (h1 : 1 ≤ n) (h2 : n < 18446744073709551616) : (thrown x n = false ∧ one x n = (drawn x n, 1)) ∨ (thrown x n = true ∧ (one x n).2 = 2) := by
  cases h : thrown x n with
  | false => exact .inl ⟨rfl, one_kept x n h⟩
  | true => exact .inr ⟨rfl, one_thrown x n h1 h2 h⟩
theorem one_lt (x n : Nat) (hx : x < 18446744073709551616) (h1 : 1 ≤ n) : (one x n).1 < n := fin_fst_lt [x] n 0 (by simpa using hx) h1
theorem drawn_hi (x n : Nat) (hp : isPow n = false) : drawn x n = hiOf x n := by simp [drawn, hp]
theorem hi_mono (v w n : Nat) (h : v ≤ w) : hiOf v n ≤ hiOf w n := Nat.div_le_div_right (Nat.mul_le_mul_right n h)
theorem hi_finer (w n t : Nat) (ht : 0 < t) : hiOf w (n * t) / t = hiOf w n := by
  unfold hiOf
  rw [Nat.div_div_eq_div_mul, ← Nat.mul_assoc, Nat.mul_div_mul_right _ _ ht]
/-- Two numbers of one word each: the greater word leads to no lesser one. -/
theorem in_order (v w n : Nat) (h1 : 1 ≤ n) (h2 : n < 18446744073709551616) (hp : isPow n = false) (hu : (one v n).2 = 1) (hw : (one w n).2 = 1) (h : v ≤ w) : (one v n).1 ≤ (one w n).1 := by
  rcases one_used v n h1 h2 with ⟨_, e⟩ | ⟨_, e⟩
  · rcases one_used w n h1 h2 with ⟨_, f⟩ | ⟨_, f⟩
    · rw [e, f]
      simp only [drawn_hi _ n hp]
      exact hi_mono v w n h
    · omega
  · omega
theorem finer (w n t : Nat) (h1 : 1 ≤ n) (h2 : n < 18446744073709551616) (ht : 0 < t) (h3 : 1 ≤ n * t) (h4 : n * t < 18446744073709551616) (hp : isPow n = false) (hq : isPow (n * t) = false) (hu : (one w n).2 = 1) (hw : (one w (n * t)).2 = 1) : (one w (n * t)).1 / t = (one w n).1 := by
  rcases one_used w n h1 h2 with ⟨_, e⟩ | ⟨_, e⟩
  · rcases one_used w (n * t) h3 h4 with ⟨_, f⟩ | ⟨_, f⟩
    · rw [e, f]
      simp only [drawn_hi _ n hp, drawn_hi _ _ hq]
      exact hi_finer w n t ht
    · omega
  · omega
theorem one_pos (x n : Nat) (h1 : 1 ≤ n) (h2 : n < 18446744073709551616) : 1 ≤ (one x n).2 ∧ (one x n).2 ≤ 2 := by
  rcases one_used x n h1 h2 with ⟨_, e⟩ | ⟨_, e⟩
  · rw [e]; exact ⟨Nat.le_refl _, by omega⟩
  · rw [e]; exact ⟨by omega, Nat.le_refl _⟩
end Go.Proofs.Ytpffccojlkkfkaa
