/-
  Plain: draws depend on the words that they use alone; sizes in two parts.
-/
import Derived.Test.YtlbhfjmcjbjjgaaMany
import Derived.Test.YtlbhfjmcjbjjgaaFin
namespace Go.Proofs.Ytlbhfjmcjbjjgaa

theorem fin_local (ws us : List Nat) (n i : Nat) (h1 : 1 ≤ n) (h2 : n < 18446744073709551616) (h : ∀ t, i ≤ t → t < (fin ws n i).2 → wordAt us t = wordAt ws t) : fin us n i = fin ws n i := by
  generalize hm : (fin ws n i).2 - i = m
  induction m generalizing i with
  | zero =>
    have := (fin_snd ws n i).1
    omega
  | succ m ih =>
    have hi := h i (Nat.le_refl _) (fin_snd ws n i).1
    cases hw : thrown (wordAt ws i) n with
    | false => rw [fin_kept ws n i hw, fin_kept us n i (by rw [hi]; exact hw), hi]
    | true =>
      have e1 := (fin_thrown ws n i h1 h2 hw).1
      have e2 := (fin_thrown us n i h1 h2 (by rw [hi]; exact hw)).1
      rw [e1] at h hm
      rw [e1, e2]
      exact ih (i + 1) (fun t ht => h t (by omega)) (by omega)

theorem pend_ge (ws : List Nat) (k i : Nat) : i ≤ pend ws k i := by
  induction k generalizing i with
  | zero => exact Nat.le_refl _
  | succ k ih =>
    have := (fin_snd ws (k + 2) i).1
    have := ih (fin ws (k + 2) i).2
    simp only [pend]
    omega

theorem prs_local (ws us : List Nat) (k i : Nat) (hk : k < 1048576) (h : ∀ t, i ≤ t → t < pend ws k i → wordAt us t = wordAt ws t) : prs us k i = prs ws k i ∧ pend us k i = pend ws k i := by
  induction k generalizing i with
  | zero => exact ⟨rfl, rfl⟩
  | succ k ih =>
    have hp := pend_ge ws k (fin ws (k + 2) i).2
    have hf := fin_local ws us (k + 2) i (by omega) (by omega) (fun t h1 h2 => h t h1 (by simp only [pend]; omega))
    have := ih (fin ws (k + 2) i).2 (by omega) (fun t h1 h2 => h t (by have := (fin_snd ws (k + 2) i).1; omega) (by simpa only [pend] using h2))
    simp only [prs, pend]
    rw [hf, this.1, this.2]
    exact ⟨rfl, rfl⟩

theorem scriptEnd_ge (ws : List Nat) (i : Nat) (ns : List Nat) : i ≤ scriptEnd ws i ns := by
  induction ns generalizing i with
  | nil => exact Nat.le_refl _
  | cons n ns ih =>
    have := pend_ge ws (n - 1) i
    have := ih (pend ws (n - 1) i)
    simp only [scriptEnd]
    omega

theorem script_local (ws us : List Nat) (i : Nat) (ns : List Nat) (hn : ∀ n ∈ ns, n < 256) (h : ∀ t, i ≤ t → t < scriptEnd ws i ns → wordAt us t = wordAt ws t) :
    permsOf us (script us i ns) = permsOf ws (script ws i ns) ∧ goneOf (script us i ns) = goneOf (script ws i ns) := by
  induction ns generalizing i with
  | nil => exact ⟨rfl, rfl⟩
  | cons n ns ih =>
    have hb := hn n (List.mem_cons_self ..)
    have hge := scriptEnd_ge ws (pend ws (n - 1) i) ns
    have hpe := pend_ge ws (n - 1) i
    obtain ⟨e1, e2⟩ := prs_local ws us (n - 1) i (by omega) (fun t h1 h2 => h t h1 (by simp only [scriptEnd]; omega))
    obtain ⟨f1, f2⟩ := ih (pend ws (n - 1) i) (fun m hm => hn m (List.mem_cons_of_mem _ hm)) (fun t h1 h2 => h t (by omega) (by simpa only [scriptEnd] using h2))
    simp only [permsOf, goneOf, script, List.map_cons] at f1 f2 ⊢
    rw [e2, f1, f2]
    unfold permOf
    rw [e1]
    exact ⟨rfl, rfl⟩

/-- The words used behind the last size. -/
theorem gone_last (ws : List Nat) (ns : List Nat) (h : 0 < ns.length) : (goneOf (script ws 0 ns))[ns.length - 1]? = some (scriptEnd ws 0 ns) := by
  obtain ⟨h1, h2⟩ := script_take ws 0 ns (ns.length - 1) (by omega)
  rw [Nat.sub_add_cancel h, List.take_of_length_le (Nat.le_refl _)] at h1 h2
  rw [h1, h2, goneOf, List.map_append, List.getElem?_append_right (by simp [script_length])]
  simp [script_length, List.length_take]

theorem wordAt_take (ws more : List Nat) (u t : Nat) (hu : u ≤ ws.length) (ht : t < u) : wordAt (ws.take u ++ more) t = wordAt ws t := by
  unfold wordAt
  rw [List.getElem?_append_left (by rw [List.length_take]; omega), List.getElem?_take, if_pos ht]

theorem perms_small (ws : List Nat) (i : Nat) (ns : List Nat) (hn : ∀ n ∈ ns, n < 256) : ∀ xs ∈ permsOf ws (script ws i ns), xs.length < 256 := by
  induction ns generalizing i with
  | nil => intro xs hx; cases hx
  | cons n ns ih =>
    intro xs hx
    simp only [permsOf, script, List.map_cons, List.mem_cons] at hx
    rcases hx with rfl | hx
    · rw [permOf_length]; exact hn n (List.mem_cons_self ..)
    · exact ih _ (fun m hm => hn m (List.mem_cons_of_mem _ hm)) xs hx

/-! ### Sizes in two parts -/
theorem fin_drop (ws : List Nat) (n q i : Nat) : fin ws n (q + i) = ((fin (ws.drop q) n i).1, q + (fin (ws.drop q) n i).2) := by
  simp only [fin, List.drop_drop]
  rw [Nat.add_assoc]
theorem prs_drop (ws : List Nat) (k q i : Nat) : prs ws k (q + i) = prs (ws.drop q) k i ∧ pend ws k (q + i) = q + pend (ws.drop q) k i := by
  induction k generalizing i with
  | zero => exact ⟨rfl, rfl⟩
  | succ k ih =>
    simp only [prs, pend]
    rw [fin_drop]
    have := ih (fin (ws.drop q) (k + 2) i).2
    exact ⟨by rw [this.1], this.2⟩
theorem script_shift (ws : List Nat) (q i : Nat) (ns : List Nat) : permsOf ws (script ws (q + i) ns) = permsOf (ws.drop q) (script (ws.drop q) i ns) ∧ goneOf (script ws (q + i) ns) = (goneOf (script (ws.drop q) i ns)).map (q + ·) := by
  induction ns generalizing i with
  | nil => exact ⟨rfl, rfl⟩
  | cons n ns ih =>
    obtain ⟨e1, e2⟩ := prs_drop ws (n - 1) q i
    obtain ⟨f1, f2⟩ := ih (pend (ws.drop q) (n - 1) i)
    simp only [permsOf, goneOf, script, List.map_cons] at f1 f2 ⊢
    rw [e2, f1, f2]
    unfold permOf
    rw [e1]
    exact ⟨rfl, rfl⟩
theorem script_append (ws : List Nat) (i : Nat) (ms ns : List Nat) : script ws i (ms ++ ns) = script ws i ms ++ script ws (scriptEnd ws i ms) ns := by
  induction ms generalizing i with
  | nil => rfl
  | cons m ms ih => simp [script, scriptEnd, ih]
theorem script_two (ws ns : List Nat) (t : Nat) :
    permsOf ws (script ws 0 ns) = permsOf ws (script ws 0 (ns.take t)) ++ permsOf (ws.drop (scriptEnd ws 0 (ns.take t))) (script (ws.drop (scriptEnd ws 0 (ns.take t))) 0 (ns.drop t)) ∧
    goneOf (script ws 0 ns) = goneOf (script ws 0 (ns.take t)) ++ (goneOf (script (ws.drop (scriptEnd ws 0 (ns.take t))) 0 (ns.drop t))).map (scriptEnd ws 0 (ns.take t) + ·) := by
  have h := script_append ws 0 (ns.take t) (ns.drop t)
  rw [List.take_append_drop] at h
  obtain ⟨s1, s2⟩ := script_shift ws (scriptEnd ws 0 (ns.take t)) 0 (ns.drop t)
  rw [Nat.add_zero] at s1 s2
  rw [h, ← s1, ← s2]
  simp [permsOf, goneOf]
end Go.Proofs.Ytlbhfjmcjbjjgaa
