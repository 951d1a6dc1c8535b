/-
  Two rows of a call's own that grow.
-/
import Derived.Test.YtpffccojlkkfkaaTwo
namespace Go.Proofs.Ytpffccojlkkfkaa
open Go.RowKit
set_option linter.unusedVariables false

/-- Two rows of the call's own. -/
structure Duo (w wr : World) (e1 g1 n1 c1 : Nat) (xs : List Value) (e2 g2 n2 c2 : Nat) (ys : List Value) : Prop where
  row1 : Row wr e1 g1 n1 c1 xs
  row2 : Row wr e2 g2 n2 c2 ys
  ge : w.heap.size ≤ g1 ∧ w.heap.size ≤ g2
  apart : g1 ≠ g2
  still : Still w wr

section
variable {w wr w1 : World} {e1 g1 n1 c1 : Nat} {xs : List Value} {e2 g2 n2 c2 : Nat} {ys : List Value}
theorem Duo.start (w : World) (e1 e2 : Nat) : Duo w ((w.alloc (.cells #[] e1)).alloc (.cells #[] e2)) e1 w.heap.size 0 0 [] e2 (w.heap.size + 1) 0 0 [] := by
  have r1 := (Row.empty w e1).kept ((Turned.refl (fun _ => False) _).alloc (.cells #[] e2)) (fun h => h)
  have r2 := Row.empty (w.alloc (.cells #[] e1)) e2
  simp only [World.size_alloc] at r2
  exact ⟨r1, r2, by omega, by omega, ((Turned.refl (fun _ => False) w).alloc _).alloc _⟩
theorem Duo.push1 {g1' c1' : Nat} {u : Value} (h : Duo w wr e1 g1 n1 c1 xs e2 g2 n2 c2 ys) (hr : Row w1 e1 g1' (n1 + 1) c1' (xs ++ [u])) (hat : g1' = g1 ∨ wr.heap.size ≤ g1') (hT : Turns g1 wr w1) :
    Duo w w1 e1 g1' (n1 + 1) c1' (xs ++ [u]) e2 g2 n2 c2 ys := by
  have hge := h.ge
  have hap := h.apart
  have hl2 := h.row2.lt
  have hz := h.still.size
  exact ⟨hr, h.row2.kept hT (by omega), by omega, by omega, h.still.then hT (fun k hk e => by subst e; omega)⟩
theorem Duo.push2 {g2' c2' : Nat} {u : Value} (h : Duo w wr e1 g1 n1 c1 xs e2 g2 n2 c2 ys) (hr : Row w1 e2 g2' (n2 + 1) c2' (ys ++ [u])) (hat : g2' = g2 ∨ wr.heap.size ≤ g2') (hT : Turns g2 wr w1) :
    Duo w w1 e1 g1 n1 c1 xs e2 g2' (n2 + 1) c2' (ys ++ [u]) := by
  have hge := h.ge
  have hap := h.apart
  have hl1 := h.row1.lt
  have hz := h.still.size
  exact ⟨h.row1.kept hT (by omega), hr, by omega, by omega, h.still.then hT (fun k hk e => by subst e; omega)⟩
theorem Duo.post {n : Nat} (h : Duo w wr e1 g1 n c1 xs e2 g2 n c2 ys) : TwoPost w e1 e2 n xs ys (.returned (.tuple #[.slice (some ⟨g1, 0, none⟩) n c1, .slice (some ⟨g2, 0, none⟩) n c2])) wr := by
  have hge := h.ge
  have hap := h.apart
  exact ⟨g1, c1, g2, c2, rfl, h.row1, h.row2, by omega, h.still⟩
end

end Go.Proofs.Ytpffccojlkkfkaa
