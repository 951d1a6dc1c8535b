/-
  Plain numbers and lists: what a word is thrown away for, what number is made of it, and what a list of bounds draws of a list of words. No program is named here.
-/
namespace Go.Proofs.Ytlbhfjmcjbjjgaa

/-- The bound has one bit alone. -/
def isPow (n : Nat) : Bool := n &&& (n - 1) == 0

/-- The upper and the lower half of a product; what is left when 2 to the power of 64 is divided by a bound. -/
def hiOf (w n : Nat) : Nat := w * n / 18446744073709551616
def loOf (w n : Nat) : Nat := w * n % 18446744073709551616
def thr (n : Nat) : Nat := (18446744073709551616 - n) % n

/-- The word is thrown away for the bound. -/
def thrown (w n : Nat) : Bool := !isPow n && decide (loOf w n < thr n)

/-- The number below the bound that is made of the word. -/
def drawn (w n : Nat) : Nat := if isPow n then w &&& (n - 1) else hiOf w n

/-- The word with an index: of the list, or of all ones behind it. -/
def wordAt (ws : List Nat) (i : Nat) : Nat := ws[i]?.getD 18446744073709551615

/-- What is drawn below the bound of the words; words of all ones come behind them. -/
def drawVal (n : Nat) : List Nat → Nat
  | [] => drawn 18446744073709551615 n
  | w :: ws => if thrown w n then drawVal n ws else drawn w n

/-- How many words that uses. -/
def drawUse (n : Nat) : List Nat → Nat
  | [] => 1
  | w :: ws => if thrown w n then drawUse n ws + 1 else 1

theorem wordAt_drop (ws : List Nat) (i j : Nat) : wordAt (ws.drop i) j = wordAt ws (i + j) := by simp [wordAt]

theorem drop_eq (ws : List Nat) (i : Nat) : (i < ws.length ∧ ws.drop i = wordAt ws i :: ws.drop (i + 1)) ∨ (ws.length ≤ i ∧ ws.drop i = [] ∧ ws.drop (i + 1) = [] ∧ wordAt ws i = 18446744073709551615) := by
  rcases Nat.lt_or_ge i ws.length with h | h
  · refine .inl ⟨h, ?_⟩
    rw [List.drop_eq_getElem_cons h]
    simp [wordAt, List.getElem?_eq_getElem h]
  · refine .inr ⟨h, List.drop_of_length_le h, List.drop_of_length_le (by omega), ?_⟩
    simp [wordAt, List.getElem?_eq_none h]

theorem ones_lo (n : Nat) (h1 : 1 ≤ n) (h2 : n < 18446744073709551616) : 18446744073709551615 * n % 18446744073709551616 = 18446744073709551616 - n := by
  have e : 18446744073709551615 * n = (n - 1) * 18446744073709551616 + (18446744073709551616 - n) := by omega
  rw [e, Nat.mul_add_mod_self_right]
  exact Nat.mod_eq_of_lt (by omega)

/-- A word of all ones is never thrown away. -/
theorem thrown_ones (n : Nat) (h1 : 1 ≤ n) (h2 : n < 18446744073709551616) : thrown 18446744073709551615 n = false := by
  have := Nat.mod_le (18446744073709551616 - n) n
  simp only [thrown, loOf, thr, ones_lo n h1 h2, Bool.and_eq_false_iff, decide_eq_false_iff_not]
  right
  omega

/-- The number and the words used, from the i-th word on. -/
def fin (ws : List Nat) (n i : Nat) : Nat × Nat := (drawVal n (ws.drop i), i + drawUse n (ws.drop i))

theorem fin_thrown (ws : List Nat) (n i : Nat) (h1 : 1 ≤ n) (h2 : n < 18446744073709551616) (h : thrown (wordAt ws i) n = true) : fin ws n i = fin ws n (i + 1) ∧ i < ws.length := by
  rcases drop_eq ws i with ⟨hl, e⟩ | ⟨hl, e, e2, e3⟩
  · refine ⟨?_, hl⟩
    simp only [fin, e, drawVal, drawUse, h, if_true, Prod.mk.injEq, true_and]
    omega
  · rw [e3, thrown_ones n h1 h2] at h
    cases h
theorem fin_kept (ws : List Nat) (n i : Nat) (h : thrown (wordAt ws i) n = false) : fin ws n i = (drawn (wordAt ws i) n, i + 1) := by
  rcases drop_eq ws i with ⟨hl, e⟩ | ⟨hl, e, e2, e3⟩
  · simp [fin, e, drawVal, drawUse, h]
  · simp [fin, e, drawVal, drawUse, e3]
theorem fin_pow (ws : List Nat) (n i : Nat) (h : isPow n = true) : fin ws n i = (wordAt ws i &&& (n - 1), i + 1) := by
  rw [fin_kept ws n i (by simp [thrown, h])]
  simp [drawn, h]

theorem drawUse_pos (n : Nat) (ws : List Nat) : 1 ≤ drawUse n ws := by
  cases ws with
  | nil => simp [drawUse]
  | cons w ws => simp only [drawUse]; split <;> omega
theorem drawUse_le (n : Nat) (ws : List Nat) : drawUse n ws ≤ ws.length + 1 := by
  induction ws with
  | nil => simp [drawUse]
  | cons w ws ih => simp only [drawUse, List.length_cons]; split <;> omega
theorem and_lt (w n : Nat) (h1 : 1 ≤ n) : w &&& (n - 1) < n := by
  have := @Nat.and_le_right w (n - 1)
  omega
theorem drawn_lt (w n : Nat) (hw : w < 18446744073709551616) (h1 : 1 ≤ n) : drawn w n < n := by
  unfold drawn
  split
  · exact and_lt w n h1
  · rw [hiOf, Nat.div_lt_iff_lt_mul (by omega), Nat.mul_comm]
    exact Nat.mul_lt_mul_of_pos_left hw h1
theorem drawVal_lt (n : Nat) (ws : List Nat) (hf : ∀ x ∈ ws, x < 18446744073709551616) (h1 : 1 ≤ n) : drawVal n ws < n := by
  induction ws with
  | nil => exact drawn_lt _ _ (by omega) h1
  | cons w ws ih =>
    simp only [drawVal]
    split
    · exact ih (fun x hx => hf x (List.mem_cons_of_mem _ hx))
    · exact drawn_lt _ _ (hf w (List.mem_cons_self ..)) h1
theorem wordAt_lt (ws : List Nat) (i : Nat) (hf : ∀ x ∈ ws, x < 18446744073709551616) : wordAt ws i < 18446744073709551616 := by
  unfold wordAt
  rcases Nat.lt_or_ge i ws.length with h | h
  · rw [List.getElem?_eq_getElem h]
    exact hf _ (List.getElem_mem h)
  · rw [List.getElem?_eq_none h]
    decide

/-- What bounds in a row draw of words of which i are used: each number, and how many words are used behind it. -/
def draws (ws : List Nat) : Nat → List Nat → List (Nat × Nat)
  | _, [] => []
  | i, n :: ns => fin ws n i :: draws ws (fin ws n i).2 ns

theorem draws_length (ws : List Nat) (i : Nat) (ns : List Nat) : (draws ws i ns).length = ns.length := by
  induction ns generalizing i with
  | nil => rfl
  | cons n ns ih => simp [draws, ih]

/-- How many words are used behind all of them. -/
def drawsEnd (ws : List Nat) : Nat → List Nat → Nat
  | i, [] => i
  | i, n :: ns => drawsEnd ws (fin ws n i).2 ns

theorem draws_snoc (ws : List Nat) (i : Nat) (ns : List Nat) (n : Nat) : draws ws i (ns ++ [n]) = draws ws i ns ++ [fin ws n (drawsEnd ws i ns)] ∧ drawsEnd ws i (ns ++ [n]) = (fin ws n (drawsEnd ws i ns)).2 := by
  induction ns generalizing i with
  | nil => simp [draws, drawsEnd]
  | cons m ns ih => simp [List.cons_append, draws, drawsEnd, ih]

theorem fin_snd (ws : List Nat) (n i : Nat) : i < (fin ws n i).2 ∧ (fin ws n i).2 ≤ max i ws.length + 1 := by
  have h1 := drawUse_pos n (ws.drop i)
  have h2 := drawUse_le n (ws.drop i)
  rw [List.length_drop] at h2
  simp only [fin]
  omega
theorem drawsEnd_le (ws : List Nat) (i : Nat) (ns : List Nat) (B : Nat) (hi : i ≤ B) (hl : ws.length ≤ B) : drawsEnd ws i ns ≤ B + ns.length := by
  induction ns generalizing i B with
  | nil => simpa [drawsEnd] using hi
  | cons n ns ih =>
    have := fin_snd ws n i
    have := ih (fin ws n i).2 (B + 1) (by omega) (by omega)
    simp only [drawsEnd, List.length_cons]
    omega
theorem fin_fst_lt (ws : List Nat) (n i : Nat) (hf : ∀ x ∈ ws, x < 18446744073709551616) (h1 : 1 ≤ n) : (fin ws n i).1 < n := drawVal_lt n _ (fun x hx => hf x (List.mem_of_mem_drop hx)) h1
end Go.Proofs.Ytlbhfjmcjbjjgaa
