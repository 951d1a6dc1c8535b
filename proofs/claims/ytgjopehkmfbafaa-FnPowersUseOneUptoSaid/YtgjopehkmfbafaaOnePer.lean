/-
  Plain: where no word is thrown away, each bound uses one.
-/
import Derived.Test.YtgjopehkmfbafaaFin
namespace Go.Proofs.Ytgjopehkmfbafaa

/-- Words of which the j-th is not thrown away for the j-th bound: each bound draws of its own word. -/
theorem one_per (us ns : List Nat) (h : ∀ j (hj : j < ns.length), thrown (wordAt us j) ns[j] = false) (j : Nat) (hj : j ≤ ns.length) : drawsEnd us 0 (ns.take j) = j := by
  induction j with
  | zero => rfl
  | succ j ih =>
    rw [(draws_take us ns j hj).2, ih (by omega), fin_kept us _ _ (h j hj)]
theorem one_per_get (us ns : List Nat) (h : ∀ j (hj : j < ns.length), thrown (wordAt us j) ns[j] = false) (j : Nat) (hj : j < ns.length) : (draws us 0 ns)[j]? = some (drawn (wordAt us j) ns[j], j + 1) := by
  rw [draws_get us ns j hj, one_per us ns h j (by omega), fin_kept us _ _ (h j hj)]
theorem one_per_uses (us ns : List Nat) (h : ∀ j (hj : j < ns.length), thrown (wordAt us j) ns[j] = false) : uses (draws us 0 ns) = (List.range ns.length).map (fun i : Nat => .int .i64 (((i + 1 : Nat)) : Int)) := by
  apply List.ext_getElem
  · simp [uses, draws_length]
  · intro j h1 h2
    have hj : j < ns.length := by simpa [uses, draws_length] using h1
    have := one_per_get us ns h j hj
    have hl : j < (draws us 0 ns).length := by rw [draws_length]; exact hj
    rw [List.getElem?_eq_getElem hl] at this
    simp only [Option.some.injEq] at this
    simp [uses, this]
/-- The words of which numbers were made. -/
def lefts (ws ns : List Nat) : List Nat := (draws ws 0 ns).map fun p => wordAt ws (p.2 - 1)
theorem lefts_at (ws ns : List Nat) (j : Nat) (hj : j < ns.length) : wordAt (lefts ws ns) j = wordAt ws ((fin ws ns[j] (drawsEnd ws 0 (ns.take j))).2 - 1) := by
  simp only [wordAt, lefts, List.getElem?_map, draws_get ws ns j hj, Option.map_some, Option.getD_some]
theorem lefts_kept (ws ns : List Nat) (hb : ∀ x ∈ ns, 1 ≤ x ∧ x < 18446744073709551616) (j : Nat) (hj : j < ns.length) : thrown (wordAt (lefts ws ns) j) ns[j] = false := by
  obtain ⟨h1, h2⟩ := hb ns[j] (List.getElem_mem hj)
  rw [lefts_at ws ns j hj]
  exact (fin_spec ws ns[j] (drawsEnd ws 0 (ns.take j)) h1 h2).2.2.1
theorem lefts_vals (ws ns : List Nat) (hb : ∀ x ∈ ns, 1 ≤ x ∧ x < 18446744073709551616) : vals .u64 (draws (lefts ws ns) 0 ns) = vals .u64 (draws ws 0 ns) := by
  apply List.ext_getElem?
  intro j
  by_cases hj : j < ns.length
  · obtain ⟨h1, h2⟩ := hb ns[j] (List.getElem_mem hj)
    simp only [vals, List.getElem?_map, one_per_get _ ns (lefts_kept ws ns hb) j hj, draws_get ws ns j hj, Option.map_some]
    rw [lefts_at ws ns j hj, (fin_spec ws ns[j] (drawsEnd ws 0 (ns.take j)) h1 h2).2.2.2]
  · rw [List.getElem?_eq_none (by simp [vals, draws_length]; omega), List.getElem?_eq_none (by simp [vals, draws_length]; omega)]
theorem lefts_take (ws ns : List Nat) (j : Nat) (hj : j < ns.length) : (lefts ws ns).take (j + 1) = (lefts ws ns).take j ++ [wordAt ws ((fin ws ns[j] (drawsEnd ws 0 (ns.take j))).2 - 1)] := by
  have hl : j < (lefts ws ns).length := by simp [lefts, draws_length]; exact hj
  rw [List.take_succ_eq_append_getElem hl, ← lefts_at ws ns j hj]
  simp [wordAt, List.getElem?_eq_getElem hl]
theorem lefts_length (ws ns : List Nat) : (lefts ws ns).length = ns.length := by simp [lefts, draws_length]
theorem lefts_fit (ws ns : List Nat) (hf : ∀ x ∈ ws, x < 18446744073709551616) : ∀ x ∈ lefts ws ns, x < 18446744073709551616 := by
  intro x hx
  obtain ⟨p, _, rfl⟩ := List.mem_map.1 hx
  exact wordAt_lt ws _ hf
end Go.Proofs.Ytgjopehkmfbafaa
