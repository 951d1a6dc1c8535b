/-
  Plain: the swaps of a shuffle, and what they make of a list.
-/
import Derived.Test.YtlbhfjmcjbjjgaaPlain
namespace Go.Proofs.Ytlbhfjmcjbjjgaa

/-- The swaps of the places k, .. 1, when i words are used; how many words are used behind them. -/
def prs (ws : List Nat) : Nat → Nat → List (Nat × Nat)
  | 0, _ => []
  | k + 1, i => (k + 1, (fin ws (k + 2) i).1) :: prs ws k (fin ws (k + 2) i).2
def pend (ws : List Nat) : Nat → Nat → Nat
  | 0, i => i
  | k + 1, i => pend ws k (fin ws (k + 2) i).2

/-- One swap. -/
def swp (l : List Nat) (p : Nat × Nat) : List Nat := (l.set p.1 (l[p.2]?.getD 0)).set p.2 (l[p.1]?.getD 0)
theorem swp_length (l : List Nat) (p : Nat × Nat) : (swp l p).length = l.length := by simp [swp]
def swps (l : List Nat) (ps : List (Nat × Nat)) : List Nat := ps.foldl swp l
theorem swps_length (l : List Nat) (ps : List (Nat × Nat)) : (swps l ps).length = l.length := by
  induction ps generalizing l with
  | nil => rfl
  | cons p ps ih => simp only [swps, List.foldl_cons] at ih ⊢; rw [ih, swp_length]
theorem swps_snoc (l : List Nat) (ps : List (Nat × Nat)) (p : Nat × Nat) : swps l (ps ++ [p]) = swp (swps l ps) p := by simp [swps]

/-- Two numbers for each swap. -/
def flat (ps : List (Nat × Nat)) : List Nat := ps.flatMap fun p => [p.1, p.2]
theorem flat_length (ps : List (Nat × Nat)) : (flat ps).length = 2 * ps.length := by
  induction ps with
  | nil => rfl
  | cons p ps ih => simp only [flat, List.flatMap_cons, List.length_append, List.length_cons, List.length_nil] at ih ⊢; omega
theorem flat_snoc (ps : List (Nat × Nat)) (p : Nat × Nat) : flat (ps ++ [p]) = flat ps ++ [p.1, p.2] := by simp [flat]

theorem prs_length (ws : List Nat) (k i : Nat) : (prs ws k i).length = k := by
  induction k generalizing i with
  | zero => rfl
  | succ k ih => simp [prs, ih]
theorem pend_le (ws : List Nat) (k i B : Nat) (hi : i ≤ B) (hl : ws.length ≤ B) : pend ws k i ≤ B + k ∧ i + k ≤ pend ws k i := by
  induction k generalizing i B with
  | zero => simp [pend]; omega
  | succ k ih =>
    have := fin_snd ws (k + 2) i
    have := ih (fin ws (k + 2) i).2 (B + 1) (by omega) (by omega)
    simp only [pend]
    omega
theorem prs_lt (ws : List Nat) (k i : Nat) (hf : ∀ x ∈ ws, x < 18446744073709551616) : ∀ p ∈ prs ws k i, 1 ≤ p.1 ∧ p.1 ≤ k ∧ p.2 ≤ p.1 := by
  induction k generalizing i with
  | zero => intro p hp; cases hp
  | succ k ih =>
    intro p hp
    rcases List.mem_cons.1 hp with rfl | hp
    · have := fin_fst_lt ws (k + 2) i hf (by omega)
      simp only
      omega
    · have := ih _ p hp
      omega
end Go.Proofs.Ytlbhfjmcjbjjgaa
