/-
  What a call leaves of memory ('Turned': new blocks, and writes to named blocks alone), rows of one-cell elements that a call owns ('Row'), slices that are only read ('Reads'), and the built-in append in these words. No program is named here.
-/
import Derived.WalkKit
import Derived.WalkLawsBesides
import Derived.Deep.AppendLies
import Derived.Laws.AppendOwnNone
import Derived.Lib.Hide
namespace Go.Proofs.Ytlbhfjmcjbjjgaa
open Go.RowKit

/-- w' is w with new blocks and with writes to the blocks of S alone. -/
structure Turned (S : Nat → Prop) (w w' : World) : Prop where
  os : w'.os = w.os
  tape : w'.tape = w.tape
  output : w'.output = w.output
  size : w.heap.size ≤ w'.heap.size
  block : ∀ k, k < w.heap.size → ¬ S k → w'.heap[k]? = w.heap[k]?

/-- Nothing that was there has turned. -/
abbrev Still : World → World → Prop := Turned (fun _ => False)
/-- One block alone may have turned. -/
abbrev Turns (g : Nat) : World → World → Prop := Turned (fun k => k = g)

section
variable {S T : Nat → Prop} {a b c w w' : World}

theorem Turned.refl (S : Nat → Prop) (w : World) : Turned S w w := ⟨rfl, rfl, rfl, Nat.le_refl _, fun _ _ _ => rfl⟩
theorem Turned.mono (h : Turned S a b) (hs : ∀ k, k < a.heap.size → S k → T k) : Turned T a b :=
  ⟨h.os, h.tape, h.output, h.size, fun k hk hn => h.block k hk (fun hS => hn (hs k hk hS))⟩
theorem Turned.trans (h : Turned S a b) (k : Turned S b c) : Turned S a c :=
  ⟨k.os.trans h.os, k.tape.trans h.tape, k.output.trans h.output, Nat.le_trans h.size k.size, fun i hi hn => (k.block i (Nat.lt_of_lt_of_le hi h.size) hn).trans (h.block i hi hn)⟩
/-- Two steps, of which the second may turn what the first has made. -/
theorem Turned.then (h : Turned S a b) (k : Turned T b c) (hT : ∀ i, i < a.heap.size → T i → S i) : Turned S a c :=
  ⟨k.os.trans h.os, k.tape.trans h.tape, k.output.trans h.output, Nat.le_trans h.size k.size, fun i hi hn => (k.block i (Nat.lt_of_lt_of_le hi h.size) (fun hx => hn (hT i hi hx))).trans (h.block i hi hn)⟩
theorem Turned.drew (h : Turned S a b) : Turned S a b.drew := ⟨h.os, h.tape, h.output, h.size, h.block⟩
theorem Turned.alloc (h : Turned S a b) (o : Obj) : Turned S a (b.alloc o) :=
  h.then (T := fun _ => False) ⟨rfl, rfl, rfl, by simp, fun k hk _ => Below.heap_alloc _ _ _ hk⟩ (fun _ _ h => h.elim)
theorem Turned.setCell (h : Turned S a b) {p : Addr} (hp : p.block < a.heap.size → S p.block) (u : Value) : Turned S a (b.setCell p u) :=
  h.then (T := fun k => k = p.block) ⟨rfl, rfl, rfl, by simp, fun k _ hn => heap_setCell_other _ _ _ _ hn⟩ (fun i hi e => by subst e; exact hp hi)
theorem Turned.cell (h : Turned S a b) {p : Addr} {v : Value} (hc : a.cell? p = some v) (hp : ¬ S p.block) : b.cell? p = some v :=
  (World.cell?_of_block (h.block p.block (World.block_lt_of_cell? a p hc) hp)).trans hc
theorem Turned.heap (h : Turned S a b) {k : Nat} {o : Obj} (hk : a.heap[k]? = some o) (hn : ¬ S k) : b.heap[k]? = some o :=
  (h.block k (lt_of_block hk) hn).trans hk
theorem Turned.below (h : Turned S a b) {B : Nat} (hB : B ≤ a.heap.size) (hS : ∀ k, S k → B ≤ k) : Below B a b :=
  ⟨h.os, h.tape, h.output, h.size, fun k hk => h.block k (by omega) (fun hs => by have := hS k hs; omega)⟩
theorem Turned.of_below {B : Nat} (h : Below B a b) (hS : ∀ k, k < a.heap.size → B ≤ k → S k) : Turned S a b :=
  ⟨h.os, h.tape, h.output, h.size, fun k hk hn => h.block k (Nat.lt_of_not_le fun hB => hn (hS k hk hB))⟩
theorem Turned.of_grown {row : Option Nat} (h : a.grownBy b row) (hS : ∀ k, row = some k → S k) : Turned S a b :=
  ⟨h.os, h.tape, h.output, h.size, fun k hk hn => h.block k hk (fun e => hn (hS k e.symm))⟩
end

/-- The n cells xs, one for each element, lie at the head of the block g, which the call owns; there is room for cap. -/
structure Row (w : World) (e : TypeId) (g n cap : Nat) (xs : List Value) : Prop where
  len : xs.length = n
  le : n ≤ cap
  max : cap ≤ maxLen
  cur : ∃ cur, w.heap[g]? = some (.cells cur e (0, 0)) ∧ cur.size = cap ∧ cur.toList.take n = xs

section
variable {w w' : World} {e : TypeId} {g n cap : Nat} {xs : List Value}

theorem Row.lt (h : Row w e g n cap xs) : g < w.heap.size := by obtain ⟨cur, hc, _⟩ := h.cur; exact lt_of_block hc
theorem Row.owns (h : Row w e g n cap xs) : w.ownsRow 0 e 1 (.slice (some ⟨g, 0, none⟩) n cap) n xs := by
  obtain ⟨cur, hc, hs, ht⟩ := h.cur
  exact ⟨by simpa using h.len, .inr ⟨g, cap, cur, rfl, Nat.zero_le _, hc, h.le, h.max, by simpa using hs, by simpa using ht⟩⟩
theorem Row.of_owns {base : Nat} (h : w.ownsRow base e 1 (.slice (some ⟨g, 0, none⟩) n cap) n xs) : Row w e g n cap xs := by
  rcases h.2 with ⟨hv, _⟩ | ⟨g', cap', cur, hv, hb, hg, hn, hm, hs, ht⟩
  · cases hv
  · simp only [Value.slice.injEq, Option.some.injEq, Addr.mk.injEq, and_true, true_and] at hv
    obtain ⟨rfl, rfl⟩ := hv
    exact ⟨by simpa using h.1, hn, hm, cur, hg, by simpa using hs, by simpa using ht⟩
theorem Row.kept {S : Nat → Prop} (h : Row w e g n cap xs) (ht : Turned S w w') (hg : ¬ S g) : Row w' e g n cap xs := by
  obtain ⟨cur, hc, hr⟩ := h.cur
  exact ⟨h.len, h.le, h.max, cur, ht.heap hc hg, hr⟩
theorem Row.cell (h : Row w e g n cap xs) {j : Nat} {u : Value} (hj : xs[j]? = some u) : w.cell? ⟨g, j, none⟩ = some u := by
  obtain ⟨cur, hc, _, ht⟩ := h.cur
  rw [cell_of_row w g j cur e (0, 0) hc]
  rw [← ht, List.getElem?_take] at hj
  split at hj
  · simpa using hj
  · cases hj
theorem Row.free (h : Row w e g n cap xs) (j : Nat) : w.frozen? ⟨g, j, none⟩ = false := by
  obtain ⟨cur, hc, _⟩ := h.cur
  exact frozen_of_row w g j cur e hc
theorem Row.set (h : Row w e g n cap xs) (j : Nat) (u : Value) : Row (w.setCell ⟨g, j, none⟩ u) e g n cap (xs.set j u) := by
  obtain ⟨cur, hc, hs, ht⟩ := h.cur
  refine ⟨by simpa using h.len, h.le, h.max, _, heap_setCell_same w g j cur e u hc, by simpa using hs, ?_⟩
  rw [Array.toList_setIfInBounds, List.take_set, ht]
/-- A new block of just these cells. -/
theorem Row.new (w : World) (e : TypeId) (cs : Array Value) (hm : cs.size ≤ maxLen) : Row (w.alloc (.cells cs e)) e w.heap.size cs.size cs.size cs.toList :=
  ⟨by simp, Nat.le_refl _, hm, cs, heap_alloc_new w _, rfl, List.take_of_length_le (by simp)⟩
theorem Row.empty (w : World) (e : TypeId) : Row (w.alloc (.cells #[] e)) e w.heap.size 0 0 [] := Row.new w e #[] (Nat.zero_le _)
end

/-- A slice (its address a) whose elements, one cell each, are xs; they lie in block b. Nothing is said of the address of an empty one. -/
def Reads (w : World) (a : Option Addr) (b : Nat) (xs : List Value) : Prop :=
  xs ≠ [] → ∃ off, a = some ⟨b, off, none⟩ ∧ ∀ i u, xs[i]? = some u → w.cell? ⟨b, off + i, none⟩ = some u

section
variable {w w' : World} {e : TypeId} {g b n cap : Nat} {xs : List Value} {a : Option Addr}
theorem Reads.kept {S : Nat → Prop} (h : Reads w a b xs) (ht : Turned S w w') (hb : ¬ S b) : Reads w' a b xs := by
  intro hne
  obtain ⟨off, ha, hc⟩ := h hne
  exact ⟨off, ha, fun i u hu => ht.cell (hc i u hu) hb⟩
theorem Row.reads (h : Row w e g n cap xs) : Reads w (some ⟨g, 0, none⟩) g xs := fun _ => ⟨0, rfl, fun i u hu => by rw [Nat.zero_add]; exact h.cell hu⟩
theorem Reads.lt (h : Reads w a b xs) (hne : xs ≠ []) : b < w.heap.size := by
  obtain ⟨off, _, hc⟩ := h hne
  cases xs with
  | nil => exact absurd rfl hne
  | cons x r => exact World.block_lt_of_cell? w _ (hc 0 x rfl)
theorem Reads.nil (w : World) (a : Option Addr) (b : Nat) : Reads w a b [] := fun h => absurd rfl h
theorem Reads.at (h : Reads w a b xs) {i : Nat} (hi : i < xs.length) : ∃ off, a = some ⟨b, off, none⟩ ∧ w.cell? ⟨b, off + i, none⟩ = some xs[i] := by
  obtain ⟨off, ha, hc⟩ := h (by intro h0; simp [h0] at hi)
  exact ⟨off, ha, hc i _ (List.getElem?_eq_getElem hi)⟩
end

section
variable {P : Program}

/-- 'append(out, x)', x one cell: the element was laid in a block of its own first. -/
theorem wpList_push {W : World} {ops : Array Oper} {rest : List Oper} {o : Oper} {a : Act} {Q : Exit → Act → World → Prop} (hgd : o.guard = none) (s x : Operand) (t : TypeId)
    (ho : o.op = .call { callee := .builtin .append, args := #[s, x], argTypes := #[t, t] })
    (e : TypeId) (z : Value) (bytes : Nat) (ht : P.underlying t = some (.slice e)) (hi : (P.info? e).map (fun i => (i.zero, i.size, i.bytes)) = some (some z, 1, bytes)) (hzs : z.cells.size = 1)
    (g n cap : Nat) (xs : List Value) (hs : a.eval s = .slice (some ⟨g, 0, none⟩) n cap) (hrow : Row W e g n cap xs)
    (u : Value) (hu : u.oneCell' = true) (hx : a.eval x = .slice (some ⟨W.heap.size, 0, none⟩) 1 1) (hbytes : (n + 1) * bytes ≤ 140737488355328) (hn : n + 1 ≤ 140737488355328)
    (h : ∀ g' cap' w', Row w' e g' (n + 1) cap' (xs ++ [u]) → (g' = g ∨ W.heap.size ≤ g') → Turns g W w' → wpList P ops Q rest (a.put o.dst (.slice (some ⟨g', 0, none⟩) (n + 1) cap')) w') :
    wpList P ops Q (o :: rest) a (W.alloc (.cells #[u] e)) := by
  obtain ⟨i0, hi0, hz, hsz, hby⟩ := info_parts hi
  have hr := hrow.kept (Turned.alloc (Turned.refl (fun _ => False) W) (.cells #[u] e)) (fun h => h)
  refine wpList_append_lies (W.alloc (.cells #[u] e)) hgd s x t ho 0 e i0 z 1 bytes ht hi0 hz hsz hby hzs (by decide) _ n xs hs hr.owns ⟨W.heap.size, 0, none⟩ 1 1 [u] hx (by simp) ?_ ?_ (by decide) (by unfold maxLen; omega) hbytes (Nat.zero_le _) _ rfl ?_
  · intro j v hj
    match j, hj with
    | 0, hj =>
      simp only [List.getElem?_cons_zero, Option.some.injEq] at hj
      subst hj
      rw [show (⟨W.heap.size, 0, none⟩ : Addr).add 0 = ⟨W.heap.size, 0, none⟩ from rfl, cell_of_row _ _ _ _ _ _ (heap_alloc_new W _)]
      rfl
  · intro v hv
    simp only [List.mem_singleton] at hv
    subst hv
    exact hu
  · intro g' cap' w' hown hgrow hat hlt
    refine h g' cap' w' (Row.of_owns hown) ?_ ?_
    · rcases hat with hat | hat
      · left; simpa [Value.ownBlock] using hat.symm
      · right; simp at hat; omega
    · exact (Turned.alloc (Turned.refl (fun k => k = g) W) (.cells #[u] e)).trans (Turned.of_grown hgrow (fun k hk => by simpa [Value.ownBlock] using hk.symm))

/-- 'append(out, src...)' from a slice that is read. -/
theorem wpList_pushes {W : World} {ops : Array Oper} {rest : List Oper} {o : Oper} {a : Act} {Q : Exit → Act → World → Prop} (hgd : o.guard = none) (s x : Operand) (t : TypeId)
    (ho : o.op = .call { callee := .builtin .append, args := #[s, x], argTypes := #[t, t] })
    (e : TypeId) (z : Value) (bytes : Nat) (ht : P.underlying t = some (.slice e)) (hi : (P.info? e).map (fun i => (i.zero, i.size, i.bytes)) = some (some z, 1, bytes)) (hzs : z.cells.size = 1)
    (g n cap : Nat) (xs : List Value) (hs : a.eval s = .slice (some ⟨g, 0, none⟩) n cap) (hrow : Row W e g n cap xs)
    (ad : Option Addr) (b m c : Nat) (us : List Value) (hm : us.length = m) (hus : ∀ u ∈ us, u.oneCell' = true) (hx : a.eval x = .slice ad m c) (hread : Reads W ad b us) (hnil : ad = none → c = 0) (hbytes : (n + m) * bytes ≤ 140737488355328) (hn : n + m ≤ 140737488355328)
    (h : ∀ g' cap' w', Row w' e g' (n + m) cap' (xs ++ us) → (g' = g ∨ W.heap.size ≤ g') → Turns g W w' → wpList P ops Q rest (a.put o.dst (.slice (some ⟨g', 0, none⟩) (n + m) cap')) w') :
    wpList P ops Q (o :: rest) a W := by
  obtain ⟨i0, hi0, hz, hsz, hby⟩ := info_parts hi
  cases ad with
  | none =>
    have hc := hnil rfl
    subst hc
    have hus0 : us = [] := by
      rcases us with _ | ⟨u, r⟩
      · rfl
      · obtain ⟨off, h1, _⟩ := hread (by simp)
        cases h1
    subst hus0
    simp only [List.length_nil] at hm
    subst hm
    refine wpList_append_own_none hgd s x t ho 0 e i0 1 ht hi0 _ n xs hs hrow.owns hx ?_
    have := h g cap W (by simpa using hrow) (.inl rfl) (Turned.refl _ _)
    simpa using this
  | some q =>
    refine wpList_append_own_at W hgd s x t ho 0 e i0 z 1 bytes ht hi0 hz hsz hby hzs (by decide) _ n xs hs hrow.owns q m c us hx (by simpa using hm) ?_ hus (by unfold maxLen; omega) hbytes (Nat.zero_le _) ?_
    · intro j u hj
      obtain ⟨off, h1, h2⟩ := hread (by rintro rfl; simp at hj)
      cases h1
      have := h2 j u hj
      rw [← this]
      congr 1
      unfold Addr.add
      split <;> simp_all
    · intro v' w' hown hgrow hnil' hat
      rcases hown.2 with ⟨hv, hv0⟩ | ⟨g', cap', cur, hv, hb, hg, hn', hm', hs', ht'⟩
      · have := (hnil'.1 hv).1
        cases this
      · subst hv
        refine h g' cap' w' (Row.of_owns hown) ?_ ?_
        · rcases hat with hat | hat
          · left; simpa [Value.ownBlock] using hat
          · right; simp [Value.ownBlock] at hat; omega
        · exact Turned.of_grown hgrow (fun k hk => by simpa [Value.ownBlock] using hk.symm)
end

end Go.Proofs.Ytlbhfjmcjbjjgaa
