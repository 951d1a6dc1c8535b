/-
  Plain: which words a draw throws away, and of which word its number is made.
-/
import Derived.Test.YtlbhfjmcjbjjgaaBounds
namespace Go.Proofs.Ytlbhfjmcjbjjgaa

theorem fin_spec (ws : List Nat) (n i : Nat) (h1 : 1 ≤ n) (h2 : n < 18446744073709551616) :
    i < (fin ws n i).2 ∧ (∀ t, i ≤ t → t < (fin ws n i).2 - 1 → thrown (wordAt ws t) n = true) ∧ thrown (wordAt ws ((fin ws n i).2 - 1)) n = false ∧ (fin ws n i).1 = drawn (wordAt ws ((fin ws n i).2 - 1)) n := by
  generalize hm : ws.length - i = m
  induction m generalizing i with
  | zero =>
    have hw : thrown (wordAt ws i) n = false := by
      rw [show wordAt ws i = 18446744073709551615 by simp [wordAt, List.getElem?_eq_none (show ws.length ≤ i by omega)]]
      exact thrown_ones n h1 h2
    rw [fin_kept ws n i hw]
    simp only [Nat.add_sub_cancel]
    exact ⟨by omega, fun t ht1 ht2 => by omega, hw, trivial⟩
  | succ m ih =>
    cases hw : thrown (wordAt ws i) n with
    | false =>
      rw [fin_kept ws n i hw]
      simp only [Nat.add_sub_cancel]
      exact ⟨by omega, fun t ht1 ht2 => by omega, hw, trivial⟩
    | true =>
      obtain ⟨e, hl⟩ := fin_thrown ws n i h1 h2 hw
      rw [e]
      obtain ⟨a1, a2, a3, a4⟩ := ih (i + 1) (by omega)
      refine ⟨by omega, fun t ht1 ht2 => ?_, a3, a4⟩
      by_cases ht : t = i
      · subst ht; exact hw
      · exact a2 t (by omega) ht2

theorem words_get (ns : List Nat) (j : Nat) (h : j < ns.length) : (ns.map u64)[j]? = some (.int .u64 (ns[j] : Nat)) := by simp [List.getElem?_eq_getElem h, u64]

theorem draws_get_from (ws : List Nat) (ns : List Nat) (i j : Nat) (h : j < ns.length) : (draws ws i ns)[j]? = some (fin ws ns[j] (drawsEnd ws i (ns.take j))) := by
  induction ns generalizing i j with
  | nil => simp at h
  | cons n ns ih =>
    cases j with
    | zero => simp [draws, drawsEnd]
    | succ j =>
      simp only [draws, List.getElem?_cons_succ, List.getElem_cons_succ, List.take_succ_cons, drawsEnd]
      exact ih _ j (by simpa using h)
theorem draws_get (ws ns : List Nat) (j : Nat) (h : j < ns.length) : (draws ws 0 ns)[j]? = some (fin ws ns[j] (drawsEnd ws 0 (ns.take j))) := draws_get_from ws ns 0 j h
theorem vals_get (k : IntKind) (ws ns : List Nat) (j : Nat) (h : j < ns.length) : (vals k (draws ws 0 ns))[j]? = some (.int k ((fin ws ns[j] (drawsEnd ws 0 (ns.take j))).1 : Nat)) := by
  simp [vals, draws_get ws ns j h]
theorem uses_get (ws ns : List Nat) (j : Nat) (h : j < ns.length) : (uses (draws ws 0 ns))[j]? = some (.int .i64 ((fin ws ns[j] (drawsEnd ws 0 (ns.take j))).2 : Nat)) := by
  simp [uses, draws_get ws ns j h]
/-- The words used before the j-th call and behind it stay small. -/
theorem used_small (ws ns : List Nat) (j : Nat) (hw : ws.length ≤ 17592186043904) (hn : ns.length ≤ 17592186043904) : drawsEnd ws 0 (ns.take j) ≤ 35184372087808 ∧ ∀ m, (fin ws m (drawsEnd ws 0 (ns.take j))).2 ≤ 35184372087809 := by
  have h := drawsEnd_le ws 0 (ns.take j) 17592186043904 (by omega) hw
  rw [List.length_take] at h
  refine ⟨by omega, fun m => ?_⟩
  have := (fin_snd ws m (drawsEnd ws 0 (ns.take j))).2
  omega
end Go.Proofs.Ytlbhfjmcjbjjgaa
