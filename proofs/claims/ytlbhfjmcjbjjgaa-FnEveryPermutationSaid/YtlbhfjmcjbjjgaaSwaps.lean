/-
  Plain: swaps of falling places. What they leave of the upper places, that they can be undone, and that they tell permutations apart.
-/
import Derived.Test.YtlbhfjmcjbjjgaaShuf
namespace Go.Proofs.Ytlbhfjmcjbjjgaa

/-- The place from which a swap takes a number. -/
def tr (a b i : Nat) : Nat := if i = b then a else if i = a then b else i
theorem tr_tr (a b i : Nat) : tr a b (tr a b i) = i := by
  simp only [tr]
  repeat' split
  all_goals omega
theorem tr_lt {a b i n : Nat} (ha : a < n) (hb : b < n) (hi : i < n) : tr a b i < n := by
  simp only [tr]
  repeat' split
  all_goals omega
theorem tr_inj {a b i j : Nat} (h : tr a b i = tr a b j) : i = j := by
  have := congrArg (tr a b) h
  rwa [tr_tr, tr_tr] at this
theorem swp_get (l : List Nat) (a b i : Nat) (ha : a < l.length) (hb : b < l.length) : (swp l (a, b))[i]? = l[tr a b i]? := by
  simp only [swp, tr]
  by_cases h1 : i = b
  · subst h1
    rw [if_pos rfl, List.getElem?_set_self (by simpa using hb), List.getElem?_eq_getElem ha]
    rfl
  · rw [if_neg h1, List.getElem?_set_ne (fun h => h1 h.symm)]
    by_cases h2 : i = a
    · subst h2
      rw [if_pos rfl, List.getElem?_set_self ha, List.getElem?_eq_getElem hb]
      rfl
    · rw [if_neg h2, List.getElem?_set_ne (fun h => h2 h.symm)]
theorem swp_swp (l : List Nat) (a b : Nat) (ha : a < l.length) (hb : b < l.length) : swp (swp l (a, b)) (a, b) = l := by
  apply List.ext_getElem?
  intro i
  rw [swp_get _ _ _ _ (by rw [swp_length]; exact ha) (by rw [swp_length]; exact hb), swp_get l _ _ _ ha hb, tr_tr]

/-- Swaps of the places k, .. 1, each with one that is not above it. -/
def Fall : Nat → List (Nat × Nat) → Prop
  | 0, [] => True
  | k + 1, p :: ps => p.1 = k + 1 ∧ p.2 ≤ k + 1 ∧ Fall k ps
  | _, _ => False
theorem prs_fall (ws : List Nat) (k i : Nat) (hf : ∀ x ∈ ws, x < 18446744073709551616) : Fall k (prs ws k i) := by
  induction k generalizing i with
  | zero => trivial
  | succ k ih =>
    have := fin_fst_lt ws (k + 2) i hf (by omega)
    exact ⟨rfl, by simp only; omega, ih _⟩

/-- The places above are left as they are. -/
theorem swps_high (l : List Nat) (k : Nat) (ps : List (Nat × Nat)) (h : Fall k ps) (hk : k < l.length ∨ k = 0) (m : Nat) (hm : k < m) : (swps l ps)[m]? = l[m]? := by
  induction k generalizing l ps with
  | zero =>
    match ps, h with
    | [], _ => rfl
  | succ k ih =>
    match ps, h with
    | (a, b) :: ps, ⟨h1, h2, h3⟩ =>
      simp only at h1 h2
      subst h1
      have hl : k + 1 < l.length := by omega
      show (swps (swp l (k + 1, b)) ps)[m]? = _
      rw [ih _ ps h3 (.inl (by rw [swp_length]; omega)) (by omega), swp_get l _ _ _ hl (by omega)]
      simp only [tr]
      rw [if_neg (by omega), if_neg (by omega)]

/-- No number stands twice. -/
def Once (l : List Nat) : Prop := ∀ i j, i < l.length → j < l.length → l[i]? = l[j]? → i = j
theorem Once.swp {l : List Nat} (h : Once l) {a b : Nat} (ha : a < l.length) (hb : b < l.length) : Once (swp l (a, b)) := by
  intro i j hi hj e
  rw [swp_length] at hi hj
  rw [swp_get l _ _ _ ha hb, swp_get l _ _ _ ha hb] at e
  exact tr_inj (h _ _ (tr_lt ha hb hi) (tr_lt ha hb hj) e)
theorem once_range (n : Nat) : Once (List.range n) := by
  intro i j hi hj e
  simp only [List.length_range] at hi hj
  rw [List.getElem?_range hi, List.getElem?_range hj] at e
  simpa using e

/-- Behind falling swaps the upper place holds what stood at the first one's other place. -/
theorem swps_top (l : List Nat) (k b : Nat) (ps : List (Nat × Nat)) (h : Fall k ps) (hk : k + 1 < l.length) (hb : b ≤ k + 1) : (swps l ((k + 1, b) :: ps))[k + 1]? = l[b]? := by
  show (swps (swp l (k + 1, b)) ps)[k + 1]? = _
  rw [swps_high _ k ps h (.inl (by rw [swp_length]; omega)) _ (by omega), swp_get l _ _ _ hk (by omega)]
  simp only [tr]
  split
  · subst b; rfl
  · rw [if_pos trivial]

theorem swps_inj (l : List Nat) (k : Nat) (ps qs : List (Nat × Nat)) (hp : Fall k ps) (hq : Fall k qs) (ho : Once l) (hk : k < l.length ∨ k = 0) (e : swps l ps = swps l qs) : ps = qs := by
  induction k generalizing l ps qs with
  | zero =>
    match ps, qs, hp, hq with
    | [], [], _, _ => rfl
  | succ k ih =>
    match ps, qs, hp, hq with
    | (a, b) :: ps, (c, d) :: qs, ⟨h1, h2, h3⟩, ⟨g1, g2, g3⟩ =>
      obtain rfl : a = k + 1 := h1
      obtain rfl : c = k + 1 := g1
      have h2 : b ≤ k + 1 := h2
      have g2 : d ≤ k + 1 := g2
      have hl : k + 1 < l.length := by omega
      have e1 : (swps l ((k + 1, b) :: ps))[k + 1]? = (swps l ((k + 1, d) :: qs))[k + 1]? := by rw [e]
      rw [swps_top l k b ps h3 hl h2, swps_top l k d qs g3 hl g2] at e1
      obtain rfl := ho b d (by omega) (by omega) e1
      have := ih (swp l (k + 1, b)) ps qs h3 g3 (ho.swp hl (by omega)) (.inl (by rw [swp_length]; omega)) e
      rw [this]

theorem flat_inj {ps qs : List (Nat × Nat)} (h : flat ps = flat qs) : ps = qs := by
  induction ps generalizing qs with
  | nil =>
    cases qs with
    | nil => rfl
    | cons q qs => simp [flat] at h
  | cons p ps ih =>
    cases qs with
    | nil => simp [flat] at h
    | cons q qs =>
      simp only [flat, List.flatMap_cons, List.cons_append, List.nil_append, List.cons.injEq] at h
      obtain ⟨a, b⟩ := p
      obtain ⟨c, d⟩ := q
      simp only at h
      rw [h.1, h.2.1, ih h.2.2]

/-- The swaps made in the opposite order. -/
theorem swps_undone (l : List Nat) (ps : List (Nat × Nat)) (h : ∀ p ∈ ps, p.1 < l.length ∧ p.2 < l.length) : swps (swps l ps) ps.reverse = l := by
  induction ps generalizing l with
  | nil => rfl
  | cons p ps ih =>
    obtain ⟨a, b⟩ := p
    obtain ⟨ha, hb⟩ := h _ (List.mem_cons_self ..)
    rw [List.reverse_cons, swps_snoc]
    show swp (swps (swps (swp l (a, b)) ps) ps.reverse) (a, b) = l
    rw [ih (swp l (a, b)) (fun q hq => by rw [swp_length]; exact h q (List.mem_cons_of_mem _ hq)), swp_swp l a b ha hb]

theorem flat_get (ps : List (Nat × Nat)) (j : Nat) (h : j < ps.length) : (flat ps)[2 * j]? = some ps[j].1 ∧ (flat ps)[2 * j + 1]? = some ps[j].2 := by
  induction ps generalizing j with
  | nil => simp at h
  | cons p ps ih =>
    have e : flat (p :: ps) = p.1 :: p.2 :: flat ps := rfl
    cases j with
    | zero => rw [e]; exact ⟨rfl, rfl⟩
    | succ j =>
      have := ih j (by simpa using h)
      rw [e, show 2 * (j + 1) = 2 * j + 1 + 1 by omega]
      simpa using this
end Go.Proofs.Ytlbhfjmcjbjjgaa
