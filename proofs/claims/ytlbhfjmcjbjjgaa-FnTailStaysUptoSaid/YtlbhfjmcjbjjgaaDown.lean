/-
  Plain: the swaps of a shuffle are draws of falling bounds.
-/
import Derived.Test.YtlbhfjmcjbjjgaaLocal
import Derived.Test.YtlbhfjmcjbjjgaaSwaps
namespace Go.Proofs.Ytlbhfjmcjbjjgaa

/-- The bounds k + 1, .. 2. -/
def down : Nat → List Nat
  | 0 => []
  | k + 1 => (k + 2) :: down k
theorem down_length (k : Nat) : (down k).length = k := by
  induction k with
  | zero => rfl
  | succ k ih => simp [down, ih]
theorem down_get (k d : Nat) (h : d < k) : (down k)[d]? = some (k + 1 - d) := by
  induction k generalizing d with
  | zero => omega
  | succ k ih =>
    cases d with
    | zero => rfl
    | succ d =>
      simp only [down, List.getElem?_cons_succ]
      rw [ih d (by omega)]
      congr 1
      omega
theorem down_take (k d : Nat) (h : d < k) : (down k).take (d + 1) = (down k).take d ++ [k + 1 - d] := by
  have hl : d < (down k).length := by rw [down_length]; exact h
  rw [List.take_succ_eq_append_getElem hl]
  have := down_get k d h
  rw [List.getElem?_eq_getElem hl] at this
  simp only [Option.some.injEq] at this
  rw [this]
theorem down_bounds (k : Nat) : ∀ x ∈ down k, 1 ≤ x ∧ x ≤ k + 1 := by
  induction k with
  | zero => intro x hx; cases hx
  | succ k ih =>
    intro x hx
    rcases List.mem_cons.1 hx with rfl | hx
    · omega
    · have := ih x hx
      omega
def bnds (ns : List Nat) : List Nat := ns.flatMap fun n => down (n - 1)
theorem bnds_append (ms ns : List Nat) : bnds (ms ++ ns) = bnds ms ++ bnds ns := by simp [bnds]
theorem bnds_one (n : Nat) : bnds [n] = down (n - 1) := by simp [bnds]
theorem bnds_take (ns : List Nat) (j : Nat) (h : j < ns.length) : bnds (ns.take (j + 1)) = bnds (ns.take j) ++ down (ns[j] - 1) := by
  rw [List.take_succ_eq_append_getElem h, bnds_append, bnds_one]
theorem bnds_split (ns : List Nat) (j : Nat) (h : j < ns.length) : bnds ns = bnds (ns.take j) ++ (down (ns[j] - 1) ++ bnds (ns.drop (j + 1))) := by
  rw [← List.append_assoc, ← bnds_take ns j h, ← bnds_append, List.take_append_drop]
theorem bnds_length (ns : List Nat) (h : ∀ n ∈ ns, n ≤ 32) : (bnds ns).length ≤ 31 * ns.length := by
  induction ns with
  | nil => simp [bnds]
  | cons n ns ih =>
    have h1 := h n (List.mem_cons_self ..)
    have h2 := ih (fun m hm => h m (List.mem_cons_of_mem _ hm))
    have e : bnds (n :: ns) = down (n - 1) ++ bnds ns := rfl
    rw [e, List.length_append, down_length, List.length_cons]
    omega
theorem bnds_bounds (ns : List Nat) (h : ∀ n ∈ ns, n ≤ 32) : ∀ x ∈ bnds ns, 1 ≤ x ∧ x < 18446744073709551616 := by
  intro x hx
  obtain ⟨n, hn, hx⟩ := List.mem_flatMap.1 hx
  have := down_bounds (n - 1) x hx
  have := h n hn
  omega

theorem drawsEnd_append (ws : List Nat) (i : Nat) (ms ns : List Nat) : drawsEnd ws i (ms ++ ns) = drawsEnd ws (drawsEnd ws i ms) ns := by
  induction ms generalizing i with
  | nil => rfl
  | cons m ms ih => simp [drawsEnd, ih]
theorem draws_append (ws : List Nat) (i : Nat) (ms ns : List Nat) : draws ws i (ms ++ ns) = draws ws i ms ++ draws ws (drawsEnd ws i ms) ns := by
  induction ms generalizing i with
  | nil => rfl
  | cons m ms ih => simp [draws, drawsEnd, ih]
theorem pend_down (ws : List Nat) (k i : Nat) : pend ws k i = drawsEnd ws i (down k) := by
  induction k generalizing i with
  | zero => rfl
  | succ k ih => simp only [pend, down, drawsEnd]; exact ih _
theorem scriptEnd_bnds (ws : List Nat) (i : Nat) (ns : List Nat) : scriptEnd ws i ns = drawsEnd ws i (bnds ns) := by
  induction ns generalizing i with
  | nil => rfl
  | cons n ns ih =>
    have e : bnds (n :: ns) = down (n - 1) ++ bnds ns := rfl
    rw [e, drawsEnd_append, ← pend_down]
    exact ih _
/-- The words used when d swaps of the places k, .. 1 are made. -/
def midEnd (ws : List Nat) (k q d : Nat) : Nat := drawsEnd ws q ((down k).take d)
theorem midEnd_zero (ws : List Nat) (k q : Nat) : midEnd ws k q 0 = q := rfl
theorem midEnd_succ (ws : List Nat) (k q d : Nat) (h : d < k) : midEnd ws k q (d + 1) = (fin ws (k + 1 - d) (midEnd ws k q d)).2 := by
  rw [midEnd, down_take k d h, drawsEnd_append]
  rfl
theorem midEnd_all (ws : List Nat) (k q : Nat) : midEnd ws k q k = pend ws k q := by
  rw [midEnd, List.take_of_length_le (by rw [down_length]; exact Nat.le_refl _), ← pend_down]
theorem prs_get (ws : List Nat) (k q d : Nat) (h : d < k) : (prs ws k q)[d]? = some (k - d, (fin ws (k + 1 - d) (midEnd ws k q d)).1) := by
  induction k generalizing q d with
  | zero => omega
  | succ k ih =>
    cases d with
    | zero => rfl
    | succ d =>
      simp only [prs, List.getElem?_cons_succ]
      rw [ih _ d (by omega)]
      have e : midEnd ws (k + 1) q (d + 1) = midEnd ws k (fin ws (k + 2) q).2 d := rfl
      rw [e, show k + 1 + 1 - (d + 1) = k + 1 - d by omega, show k + 1 - (d + 1) = k - d by omega]
/-- What the bounds of all sizes draw at the d-th swap of the j-th size. -/
theorem draws_bnds (ws ns : List Nat) (j d : Nat) (h : j < ns.length) (hd : d < ns[j] - 1) :
    (draws ws 0 (bnds ns))[(bnds (ns.take j)).length + d]? = some (fin ws (ns[j] - 1 + 1 - d) (midEnd ws (ns[j] - 1) (scriptEnd ws 0 (ns.take j)) d)) := by
  rw [bnds_split ns j h, draws_append, List.getElem?_append_right (by rw [draws_length]; omega), draws_length, Nat.add_sub_cancel_left, draws_append,
    List.getElem?_append_left (by rw [draws_length, down_length]; exact hd), ← scriptEnd_bnds]
  have hl : d < (down (ns[j] - 1)).length := by rw [down_length]; exact hd
  rw [draws_get_from ws (down (ns[j] - 1)) _ d hl]
  have e := down_get (ns[j] - 1) d hd
  rw [List.getElem?_eq_getElem hl] at e
  simp only [Option.some.injEq] at e
  rw [e]
  rfl
theorem flat_at (ws : List Nat) (k q d : Nat) (h : d < k) : (flat (prs ws k q))[2 * d]? = some (k - d) ∧ (flat (prs ws k q))[2 * d + 1]? = some (fin ws (k + 1 - d) (midEnd ws k q d)).1 := by
  have hl : d < (prs ws k q).length := by rw [prs_length]; exact h
  obtain ⟨f1, f2⟩ := flat_get (prs ws k q) d hl
  have e := prs_get ws k q d h
  rw [List.getElem?_eq_getElem hl] at e
  simp only [Option.some.injEq] at e
  rw [f1, f2, e]
  exact ⟨rfl, rfl⟩
end Go.Proofs.Ytlbhfjmcjbjjgaa
