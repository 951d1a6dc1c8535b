/-
  The state of the thin package's loops: a Rand over words, a row of results and a row of counts, all of the call's own; and what each step of a round does to it.
-/
import Derived.Test.YtlbhfjmcjbjjgaaSrc
namespace Go.Proofs.Ytlbhfjmcjbjjgaa
open Go.RowKit
set_option linter.unusedVariables false

theorem Src.kept {S : Nat → Prop} {w w' : World} {r s g cap i : Nat} {ws : List Nat} (h : Src w r s g cap ws i) (hT : Turned S w w') (hr : ¬ S r) (hs : ¬ S s) (hg : ¬ S g) : Src w' r s g cap ws i :=
  ⟨hT.heap h.rand hr, hT.heap h.src hs, h.words.kept hT hg, h.rs, h.gs, h.fit⟩
theorem Src.lt {w : World} {r s g cap i : Nat} {ws : List Nat} (h : Src w r s g cap ws i) : r < w.heap.size ∧ s < w.heap.size ∧ g < w.heap.size :=
  ⟨lt_of_block h.rand, lt_of_block h.src, h.words.lt⟩
theorem Src.used {w : World} {r s g cap i : Nat} {ws : List Nat} (h : Src w r s g cap ws i) : w.cell? ⟨s, 1, none⟩ = some (.int .i64 (i : Int)) := by
  rw [cell_of_row _ _ _ _ _ _ h.src]; rfl

structure Two (w wr : World) (r s g cap : Nat) (ws : List Nat) (i : Nat) (e1 g1 n1 c1 : Nat) (xs : List Value) (e2 g2 n2 c2 : Nat) (ys : List Value) : Prop where
  src : Src wr r s g cap ws i
  row1 : Row wr e1 g1 n1 c1 xs
  row2 : Row wr e2 g2 n2 c2 ys
  ge : w.heap.size ≤ r ∧ w.heap.size ≤ s ∧ w.heap.size ≤ g ∧ w.heap.size ≤ g1 ∧ w.heap.size ≤ g2
  apart : g1 ≠ r ∧ g1 ≠ s ∧ g1 ≠ g ∧ g2 ≠ r ∧ g2 ≠ s ∧ g2 ≠ g ∧ g1 ≠ g2
  still : Still w wr

section
variable {w wr w1 : World} {r s g cap : Nat} {ws : List Nat} {i : Nat} {e1 g1 n1 c1 : Nat} {xs : List Value} {e2 g2 n2 c2 : Nat} {ys : List Value}

/-- Behind 'out, used := []T{}, []int{}' and 'over'. -/
theorem Two.start {e1 e2 : Nat} (h : Src wr r s g cap ws 0) (hge : ((w.alloc (.cells #[] e1)).alloc (.cells #[] e2)).heap.size ≤ r ∧ ((w.alloc (.cells #[] e1)).alloc (.cells #[] e2)).heap.size ≤ s ∧ ((w.alloc (.cells #[] e1)).alloc (.cells #[] e2)).heap.size ≤ g) (hT : Still ((w.alloc (.cells #[] e1)).alloc (.cells #[] e2)) wr) :
    Two w wr r s g cap ws 0 e1 w.heap.size 0 0 [] e2 (w.heap.size + 1) 0 0 [] := by
  simp only [World.size_alloc] at hge
  have r1 := (Row.empty w e1).kept ((Turned.refl (fun _ => False) _).alloc (.cells #[] e2)) (fun h => h)
  have r2 := Row.empty (w.alloc (.cells #[] e1)) e2
  simp only [World.size_alloc] at r2
  exact ⟨h, r1.kept hT (fun h => h), r2.kept hT (fun h => h), by omega, by omega, (((Turned.refl (fun _ => False) w).alloc _).alloc _).trans hT⟩

theorem Two.draw {i' : Nat} (h : Two w wr r s g cap ws i e1 g1 n1 c1 xs e2 g2 n2 c2 ys) (hs : Src w1 r s g cap ws i') (hT : Turns s wr w1) : Two w w1 r s g cap ws i' e1 g1 n1 c1 xs e2 g2 n2 c2 ys := by
  have hge := h.ge
  have hap := h.apart
  exact ⟨hs, h.row1.kept hT (by omega), h.row2.kept hT (by omega), h.ge, h.apart, h.still.then hT (fun k hk e => by subst e; omega)⟩

theorem Two.push1 {g1' c1' : Nat} {u : Value} (h : Two w wr r s g cap ws i e1 g1 n1 c1 xs e2 g2 n2 c2 ys) (hr : Row w1 e1 g1' (n1 + 1) c1' (xs ++ [u])) (hat : g1' = g1 ∨ wr.heap.size ≤ g1') (hT : Turns g1 wr w1) :
    Two w w1 r s g cap ws i e1 g1' (n1 + 1) c1' (xs ++ [u]) e2 g2 n2 c2 ys := by
  have hge := h.ge
  have hap := h.apart
  have hlt := h.src.lt
  have hl2 := h.row2.lt
  have hz := h.still.size
  exact ⟨h.src.kept hT (by omega) (by omega) (by omega), hr, h.row2.kept hT (by omega), by omega, by omega, h.still.then hT (fun k hk e => by subst e; omega)⟩

theorem Two.push2 {g2' c2' : Nat} {u : Value} (h : Two w wr r s g cap ws i e1 g1 n1 c1 xs e2 g2 n2 c2 ys) (hr : Row w1 e2 g2' (n2 + 1) c2' (ys ++ [u])) (hat : g2' = g2 ∨ wr.heap.size ≤ g2') (hT : Turns g2 wr w1) :
    Two w w1 r s g cap ws i e1 g1 n1 c1 xs e2 g2' (n2 + 1) c2' (ys ++ [u]) := by
  have hge := h.ge
  have hap := h.apart
  have hlt := h.src.lt
  have hl1 := h.row1.lt
  have hz := h.still.size
  exact ⟨h.src.kept hT (by omega) (by omega) (by omega), h.row1.kept hT (by omega), hr, by omega, by omega, h.still.then hT (fun k hk e => by subst e; omega)⟩
end

/-- Two rows of the call's own as results, n elements each. -/
def TwoPost (w : World) (e1 e2 : TypeId) (n : Nat) (xs ys : List Value) (e : Ending) (w' : World) : Prop :=
  ∃ g1 c1 g2 c2, e = .returned (.tuple #[.slice (some ⟨g1, 0, none⟩) n c1, .slice (some ⟨g2, 0, none⟩) n c2]) ∧ Row w' e1 g1 n c1 xs ∧ Row w' e2 g2 n c2 ys ∧ (w.heap.size ≤ g1 ∧ w.heap.size ≤ g2 ∧ g1 ≠ g2) ∧ Still w w'

theorem Two.post {w wr : World} {r s g cap : Nat} {ws : List Nat} {i : Nat} {e1 g1 n c1 : Nat} {xs : List Value} {e2 g2 c2 : Nat} {ys : List Value} (h : Two w wr r s g cap ws i e1 g1 n c1 xs e2 g2 n c2 ys) :
    TwoPost w e1 e2 n xs ys (.returned (.tuple #[.slice (some ⟨g1, 0, none⟩) n c1, .slice (some ⟨g2, 0, none⟩) n c2])) wr := by
  have hge := h.ge
  have hap := h.apart
  exact ⟨g1, c1, g2, c2, rfl, h.row1, h.row2, by omega, h.still⟩
end Go.Proofs.Ytlbhfjmcjbjjgaa
