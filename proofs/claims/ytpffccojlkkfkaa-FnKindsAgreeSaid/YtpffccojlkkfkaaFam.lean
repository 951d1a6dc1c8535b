/-
  Some rows of a call's own that grow in turn.
-/
import Derived.Test.YtpffccojlkkfkaaHelpB
import Derived.Test.YtpffccojlkkfkaaFin
import Derived.Test.YtpffccojlkkfkaaKindNs
import Derived.Test.YtpffccojlkkfkaaLists
namespace Go.Proofs.Ytpffccojlkkfkaa
open Go.RowKit
set_option linter.unusedVariables false

structure RowSp where
  e : Nat
  g : Nat
  n : Nat
  c : Nat
  xs : List Value

/-- These rows, in blocks of their own. -/
structure Fam (w wr : World) (l : List RowSp) : Prop where
  rows : ∀ r ∈ l, Row wr r.e r.g r.n r.c r.xs ∧ w.heap.size ≤ r.g
  apart : l.Pairwise (fun a b => a.g ≠ b.g)
  still : Still w wr

theorem Fam.none (w : World) : Fam w w [] := ⟨(fun r hr => by cases hr), List.Pairwise.nil, Turned.refl _ _⟩
theorem Fam.more {w wr : World} {l : List RowSp} (h : Fam w wr l) (e : Nat) : Fam w (wr.alloc (.cells #[] e)) (l ++ [⟨e, wr.heap.size, 0, 0, []⟩]) := by
  have hst : Still wr (wr.alloc (.cells #[] e)) := (Turned.refl _ _).alloc _
  refine ⟨?_, ?_, h.still.trans hst⟩
  · intro r hr
    rcases List.mem_append.1 hr with hr | hr
    · exact ⟨(h.rows r hr).1.kept hst (fun h => h), (h.rows r hr).2⟩
    · simp only [List.mem_singleton] at hr
      subst hr
      exact ⟨Row.empty wr e, h.still.size⟩
  · rw [List.pairwise_append]
    refine ⟨h.apart, List.pairwise_singleton _ _, ?_⟩
    intro a ha b hb
    simp only [List.mem_singleton] at hb
    subst hb
    have := (h.rows a ha).1.lt
    simp only
    omega
theorem Fam.head {w wr : World} {e g n c : Nat} {xs : List Value} {l : List RowSp} (h : Fam w wr (⟨e, g, n, c, xs⟩ :: l)) : Row wr e g n c xs := (h.rows _ (List.mem_cons_self ..)).1
/-- The first row has grown; it comes last. -/
theorem Fam.push {w wr w1 : World} {e g n c g' c' : Nat} {xs : List Value} {u : Value} {l : List RowSp} (h : Fam w wr (⟨e, g, n, c, xs⟩ :: l)) (hr : Row w1 e g' (n + 1) c' (xs ++ [u])) (hat : g' = g ∨ wr.heap.size ≤ g') (hT : Turns g wr w1) :
    Fam w w1 (l ++ [⟨e, g', n + 1, c', xs ++ [u]⟩]) := by
  have hg := (h.rows _ (List.mem_cons_self ..)).2
  have hz := h.still.size
  simp only at hg
  obtain ⟨hp1, hp2⟩ := List.pairwise_cons.1 h.apart
  refine ⟨?_, ?_, h.still.then hT (fun k hk e => by subst e; omega)⟩
  · intro r hr'
    rcases List.mem_append.1 hr' with hr' | hr'
    · have := h.rows r (List.mem_cons_of_mem _ hr')
      exact ⟨this.1.kept hT (fun e => hp1 r hr' e.symm), this.2⟩
    · simp only [List.mem_singleton] at hr'
      subst hr'
      exact ⟨hr, by simp only; omega⟩
  · rw [List.pairwise_append]
    refine ⟨hp2, List.pairwise_singleton _ _, ?_⟩
    intro a ha b hb
    simp only [List.mem_singleton] at hb
    subst hb
    have h1 := (h.rows a (List.mem_cons_of_mem _ ha)).1.lt
    have h2 := hp1 a ha
    simp only at h2 ⊢
    omega
theorem Fam.get {w wr : World} {l : List RowSp} (h : Fam w wr l) {r : RowSp} (hr : r ∈ l) : Row wr r.e r.g r.n r.c r.xs := (h.rows r hr).1

theorem mask_mod (x k : Nat) (hx : x < 18446744073709551616) (hk : 2 ^ k - 1 < 18446744073709551616) : bits .and .u64 (x : Int) ((2 ^ k - 1 : Nat) : Int) = ((x % 2 ^ k : Nat) : Int) := by
  rw [bits_and_u64_nat x _ hx hk, Nat.and_two_pow_sub_one_eq_mod]
end Go.Proofs.Ytpffccojlkkfkaa
