/-
  Plain: every permutation is made by falling swaps, and words are found that draw them.
-/
import Derived.Test.YtlbhfjmcjbjjgaaSwaps
import Derived.Test.YtlbhfjmcjbjjgaaWordFor
import Derived.Test.YtlbhfjmcjbjjgaaFin
namespace Go.Proofs.Ytlbhfjmcjbjjgaa

/-- A list of the numbers below n, each of them once. -/
structure PermL (n : Nat) (l : List Nat) : Prop where
  len : l.length = n
  once : Once l
  onto : ∀ v : Nat, v < n → ∃ p : Nat, p < n ∧ l[p]? = some v
  small : ∀ p v : Nat, l[p]? = some v → v < n
theorem permL_range (n : Nat) : PermL n (List.range n) where
  len := List.length_range
  once := once_range n
  onto := fun v hv => ⟨v, hv, List.getElem?_range hv⟩
  small := fun p v h => by
    rcases Nat.lt_or_ge p n with hp | hp
    · rw [List.getElem?_range hp] at h
      simp only [Option.some.injEq] at h
      omega
    · rw [List.getElem?_eq_none (by simpa using hp)] at h
      cases h
theorem PermL.swp {n : Nat} {l : List Nat} (h : PermL n l) {a b : Nat} (ha : a < n) (hb : b < n) : PermL n (swp l (a, b)) := by
  have hl := h.len
  have hg := fun i => swp_get l a b i (by omega) (by omega)
  refine ⟨by rw [swp_length]; exact hl, h.once.swp (by omega) (by omega), ?_, ?_⟩
  · intro v hv
    obtain ⟨p, hp, e⟩ := h.onto v hv
    refine ⟨tr a b p, tr_lt ha hb hp, ?_⟩
    rw [hg, tr_tr]
    exact e
  · intro p v e
    rw [hg] at e
    exact h.small _ v e
theorem PermL.get {n : Nat} {l : List Nat} (h : PermL n l) {i : Nat} (hi : i < n) : ∃ v, l[i]? = some v ∧ v < n := by
  have hl : i < l.length := by rw [h.len]; exact hi
  exact ⟨l[i], List.getElem?_eq_getElem hl, h.small i _ (List.getElem?_eq_getElem hl)⟩
theorem PermL.uniq {n : Nat} {l : List Nat} (h : PermL n l) {i j v : Nat} (hi : l[i]? = some v) (hj : l[j]? = some v) : i = j := by
  have h1 := (List.getElem?_eq_some_iff.1 hi).1
  have h2 := (List.getElem?_eq_some_iff.1 hj).1
  exact h.once i j h1 h2 (by rw [hi, hj])
theorem swp_comm (l : List Nat) (a b : Nat) (ha : a < l.length) (hb : b < l.length) : swp l (a, b) = swp l (b, a) := by
  apply List.ext_getElem?
  intro i
  rw [swp_get l a b i ha hb, swp_get l b a i hb ha]
  congr 1
  simp only [tr]
  repeat' split
  all_goals omega

/-- d swaps of the places n - 1, n - 2, .. are made: the list holds at those places what the target holds. -/
structure Built (n d : Nat) (target now : List Nat) (ps : List (Nat × Nat)) : Prop where
  len : ps.length = d
  eq : now = swps (List.range n) ps
  perm : PermL n now
  high : ∀ p, n - 1 - d < p → p < n → now[p]? = target[p]?
  fall : ∀ t, t < d → ∃ j, ps[t]? = some (n - 1 - t, j) ∧ j ≤ n - 1 - t
theorem built_start (n : Nat) (target : List Nat) : Built n 0 target (List.range n) [] :=
  ⟨rfl, rfl, permL_range n, fun p h1 h2 => by omega, fun t ht => by omega⟩
/-- The number that is to stand at the next place stands at it or below. -/
theorem Built.find {n d : Nat} {target now : List Nat} {ps : List (Nat × Nat)} (h : Built n d target now ps) (ht : PermL n target) (hd : d < n - 1) : ∃ j v, j ≤ n - 1 - d ∧ now[j]? = some v ∧ target[n - 1 - d]? = some v := by
  obtain ⟨v, hv, hvn⟩ := ht.get (show n - 1 - d < n by omega)
  obtain ⟨p, hp, e⟩ := h.perm.onto v hvn
  refine ⟨p, v, ?_, e, hv⟩
  rcases Nat.lt_or_ge (n - 1 - d) p with hlt | hle
  · have e2 := h.high p hlt hp
    rw [e] at e2
    have := ht.uniq hv e2.symm
    omega
  · exact hle
theorem Built.step {n d : Nat} {target now : List Nat} {ps : List (Nat × Nat)} (h : Built n d target now ps) (hd : d < n - 1) {j v : Nat} (hj : j ≤ n - 1 - d) (h1 : now[j]? = some v) (h2 : target[n - 1 - d]? = some v) :
    Built n (d + 1) target (swp now (j, n - 1 - d)) (ps ++ [(n - 1 - d, j)]) := by
  have hl := h.perm.len
  have hc := swp_comm now j (n - 1 - d) (by omega) (by omega)
  refine ⟨by rw [List.length_append, h.len]; rfl, ?_, h.perm.swp (by omega) (by omega), ?_, ?_⟩
  · rw [swps_snoc, ← h.eq, hc]
  · intro p hp hpn
    rw [swp_get now j (n - 1 - d) p (by omega) (by omega)]
    by_cases hpe : p = n - 1 - d
    · subst hpe
      simp only [tr, if_true]
      rw [h1, h2]
    · rw [← h.high p (by omega) hpn]
      congr 1
      simp only [tr]
      rw [if_neg hpe, if_neg (by omega)]
  · intro t ht
    by_cases hte : t < d
    · obtain ⟨i, hi, hi2⟩ := h.fall t hte
      refine ⟨i, ?_, hi2⟩
      rw [List.getElem?_append_left (by rw [h.len]; exact hte)]
      exact hi
    · obtain rfl : t = d := by omega
      refine ⟨j, ?_, hj⟩
      rw [List.getElem?_append_right (by rw [h.len]; omega), h.len, Nat.sub_self]
      rfl
theorem Built.done {n d : Nat} {target now : List Nat} {ps : List (Nat × Nat)} (h : Built n d target now ps) (ht : PermL n target) (hd : d = n - 1) : now = target := by
  apply List.ext_getElem?
  intro p
  rcases Nat.lt_or_ge p n with hp | hp
  · by_cases h0 : p = 0
    · subst h0
      obtain ⟨v, hv, hvn⟩ := h.perm.get hp
      obtain ⟨q, hq, e⟩ := ht.onto v hvn
      by_cases hq0 : q = 0
      · subst hq0; rw [hv, e]
      · have e2 := h.high q (by omega) hq
        rw [e] at e2
        have := h.perm.uniq hv e2
        omega
    · exact h.high p (by omega) hp
  · rw [List.getElem?_eq_none (by rw [h.perm.len]; exact hp), List.getElem?_eq_none (by rw [ht.len]; exact hp)]

/-- The words for swaps. -/
def wordsFor (ps : List (Nat × Nat)) : List Nat := ps.map fun p => wf p.2 (p.1 + 1)
theorem prs_of (W : List Nat) (k i : Nat) (ps : List (Nat × Nat)) (hk : k < 20) (hl : ps.length = k) (h : ∀ t, t < k → ∃ j, ps[t]? = some (k - t, j) ∧ j ≤ k - t ∧ wordAt W (i + t) = wf j (k - t + 1)) : prs W k i = ps ∧ pend W k i = i + k := by
  induction k generalizing i ps with
  | zero => exact ⟨(List.eq_nil_of_length_eq_zero hl).symm, rfl⟩
  | succ k ih =>
    obtain ⟨j, h1, h2, h3⟩ := h 0 (by omega)
    match ps, hl, h1 with
    | p :: ps, hl, h1 =>
      simp only [List.getElem?_cons_zero, Option.some.injEq, Nat.sub_zero] at h1 h2 h3
      subst h1
      rw [Nat.add_zero] at h3
      obtain ⟨w1, w2, _⟩ := wf_spec j (k + 1 + 1) (by omega) (by omega) (by omega)
      have hfin : fin W (k + 2) i = (j, i + 1) := by
        rw [fin_kept W (k + 2) i (by rw [h3]; exact w1), h3]
        show (drawn (wf j (k + 1 + 1)) (k + 1 + 1), i + 1) = _
        rw [w2]
      have := ih (i + 1) ps (by omega) (by simpa using hl) (fun t ht => by
        obtain ⟨j', a, b, c⟩ := h (t + 1) (by omega)
        refine ⟨j', ?_, by omega, ?_⟩
        · rw [List.getElem?_cons_succ] at a
          rw [a]
          congr 2
          omega
        · rw [show i + 1 + t = i + (t + 1) by omega, c]
          congr 1
          omega)
      simp only [prs, pend]
      rw [hfin]
      simp only
      rw [this.1, this.2]
      exact ⟨rfl, by omega⟩
/-- What is built is what Perm makes of the words. -/
theorem Built.perms {n d : Nat} {target now : List Nat} {ps : List (Nat × Nat)} (h : Built n d target now ps) (ht : PermL n target) (hd : d = n - 1) (hn : n ≤ 20) : swps (List.range n) (prs (wordsFor ps) (n - 1) 0) = target ∧ pend (wordsFor ps) (n - 1) 0 = d := by
  subst hd
  obtain ⟨h1, h2⟩ := prs_of (wordsFor ps) (n - 1) 0 ps (by omega) h.len (fun t htn => by
    obtain ⟨j, a, b⟩ := h.fall t htn
    refine ⟨j, a, b, ?_⟩
    rw [Nat.zero_add, wordAt, wordsFor, List.getElem?_map, a]
    rfl)
  rw [h1, h2, ← h.eq, h.done ht rfl]
  exact ⟨rfl, by omega⟩
theorem Built.fit {n d : Nat} {target now : List Nat} {ps : List (Nat × Nat)} (h : Built n d target now ps) (hn : n ≤ 20) (hd : d ≤ n - 1) : ∀ x ∈ wordsFor ps, x < 18446744073709551616 := by
  intro x hx
  obtain ⟨t, ht, rfl⟩ := List.mem_iff_getElem.1 hx
  have htd : t < d := by rw [wordsFor, List.length_map, h.len] at ht; exact ht
  obtain ⟨j, a, b⟩ := h.fall t htd
  have e : (wordsFor ps)[t]? = some (wf j (n - 1 - t + 1)) := by rw [wordsFor, List.getElem?_map, a]; rfl
  rw [List.getElem?_eq_getElem ht] at e
  simp only [Option.some.injEq] at e
  rw [e]
  exact (wf_spec j (n - 1 - t + 1) (by omega) (by omega) (by omega)).2.2.1
end Go.Proofs.Ytlbhfjmcjbjjgaa
