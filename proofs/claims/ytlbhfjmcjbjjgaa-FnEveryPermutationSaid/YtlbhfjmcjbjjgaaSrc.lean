/-
  The source of given words and the Rand over it: what 'over' makes, and what one word's drawing does.
-/
import Derived.Test.YtlbhfjmcjbjjgaaRows
import Derived.Test.YtlbhfjmcjbjjgaaMem
import Derived.Test.YtlbhfjmcjbjjgaaPlain
import Derived.Deep.QuietTactic
import Derived.BigQuiet
namespace Go.Proofs.Ytlbhfjmcjbjjgaa
open Go.RowKit
set_option linter.unusedVariables false

/-- A word as a value. -/
def u64 (n : Nat) : Value := .int .u64 (n : Int)

theorem Try.infoU64 : (Try.prog.info? 28).map (fun i => (i.zero, i.size, i.bytes)) = some (some (.int .u64 0), 1, 8) := by kernel_rfl
theorem Try.infoInt : (Try.prog.info? 3).map (fun i => (i.zero, i.size, i.bytes)) = some (some (.int .i64 0), 1, 8) := by kernel_rfl

/-- A Rand in block r over a source in block s; its words ws lie in block g; i of them are used. -/
structure Src (w : World) (r s g cap : Nat) (ws : List Nat) (i : Nat) : Prop where
  rand : w.heap[r]? = some (.cells #[.iface 48 (.pointer (some ⟨s, 0, none⟩))] 60 (0, 0))
  src : w.heap[s]? = some (.cells #[.slice (some ⟨g, 0, none⟩) ws.length cap, .int .i64 (i : Int)] 53 (0, 0))
  words : Row w 28 g ws.length cap (ws.map u64)
  rs : r ≠ s
  gs : g ≠ s
  fit : ∀ x ∈ ws, x < 18446744073709551616

/-- What 'over' leaves. -/
def OverPost (w : World) (ws : List Nat) (e : Ending) (w' : World) : Prop :=
  ∃ r s g cap, e = .returned (.tuple #[.pointer (some ⟨r, 0, none⟩), .pointer (some ⟨s, 0, none⟩)]) ∧ Src w' r s g cap ws 0 ∧ (w.heap.size ≤ r ∧ w.heap.size ≤ s ∧ w.heap.size ≤ g) ∧ Still w w'

theorem over_fin {w w1 : World} {ws : List Nat} {g cap : Nat} (hf : ∀ x ∈ ws, x < 18446744073709551616) (hrow : Row w1 28 g (ws.map u64).length cap (ws.map u64)) (hat : g = w.heap.size ∨ w.heap.size + 1 ≤ g) (hT : Turns w.heap.size (w.alloc (.cells #[] 28)) w1) :
    OverPost w ws (.returned (.tuple #[.pointer (some ⟨w1.heap.size + 1, 0, none⟩), .pointer (some ⟨w1.heap.size, 0, none⟩)]))
      ((w1.alloc (.cells #[.slice (some ⟨g, 0, none⟩) (ws.map u64).length cap, .int .i64 0] 53)).alloc (.cells #[.iface 48 (.pointer (some ⟨w1.heap.size, 0, none⟩))] 60)) := by
  have hz := hT.size
  have hlt := hrow.lt
  simp only [World.size_alloc] at hz
  have hst : Still w1 ((w1.alloc (.cells #[.slice (some ⟨g, 0, none⟩) (ws.map u64).length cap, .int .i64 0] 53)).alloc (.cells #[.iface 48 (.pointer (some ⟨w1.heap.size, 0, none⟩))] 60)) :=
    ((Turned.refl _ _).alloc _).alloc _
  refine ⟨w1.heap.size + 1, w1.heap.size, g, cap, rfl, ⟨heap_alloc2_new _ _ _, ?_, ?_, by omega, by omega, hf⟩, ⟨by omega, by omega, by omega⟩, ?_⟩
  · rw [heap_alloc2_old, List.length_map]; rfl
  · have := hrow.kept hst (fun h => h)
    simpa using this
  · refine (Turned.then (Turned.alloc (Turned.refl (fun _ => False) w) (.cells #[] 28)) hT (fun i hi h => by omega)).trans hst

theorem over_any (a : Option Addr) (b n c : Nat) (ws : List Nat) (w : World) (hn : (ws.map u64).length = n) (hf : ∀ x ∈ ws, x < 18446744073709551616) (hread : Reads w a b (ws.map u64)) (hnil : a = none → c = 0) (hlen : n * 8 ≤ 140737488355328) :
    Calls Try.prog 21 #[.slice a n c] w (OverPost w ws) := by
  have hread' : Reads (w.alloc (.cells #[] 28)) a b (ws.map u64) := hread.kept (Turned.alloc (Turned.refl (fun _ => False) w) _) (fun h => h)
  have hcells : ∀ u ∈ ws.map u64, u.oneCell' = true := by
    intro u hu
    obtain ⟨x, _, rfl⟩ := List.mem_map.1 hu
    rfl
  have hrow := Row.empty w 28
  go_enter Try.func21, Try.ntmps21
  go_wp2_with (at_builtin; refine wpList_pushes rfl _ _ 22 rfl 28 (.int .u64 0) 8 Try.underlying22 Try.infoU64 rfl w.heap.size 0 0 [] rfl hrow a b n c (ws.map u64) hn hcells rfl hread' hnil (by omega) (by omega) ?_)
  intro g' cap' w1 hrow1 hat hT
  have hz := hT.size
  simp only [World.size_alloc] at hz
  go_wp2
  go_ret2
  subst hn
  exact over_fin hf hrow1 hat hT


theorem src_step {w : World} {r s g cap i : Nat} {ws : List Nat} (h : Src w r s g cap ws i) : Src (w.setCell ⟨s, 1, none⟩ (.int .i64 ((i : Int) + 1))) r s g cap ws (i + 1) ∧ Turns s w (w.setCell ⟨s, 1, none⟩ (.int .i64 ((i : Int) + 1))) := by
  have hT : Turns s w (w.setCell ⟨s, 1, none⟩ (.int .i64 ((i : Int) + 1))) := Turned.setCell (p := ⟨s, 1, none⟩) (Turned.refl (fun k => k = s) w) (fun _ => rfl) _
  refine ⟨⟨hT.heap h.rand h.rs, ?_, h.words.kept hT h.gs, h.rs, h.gs, h.fit⟩, hT⟩
  rw [heap_setCell_same _ _ _ _ _ _ h.src]
  rfl

theorem Src.drewN {w : World} {r s g cap i : Nat} {ws : List Nat} (h : Src w r s g cap ws i) (n : Nat) : Src (w.drewN n) r s g cap ws i := by
  have e : (w.drewN n).heap = w.heap := by induction n <;> simp_all [World.drewN]
  exact ⟨by rw [e]; exact h.rand, by rw [e]; exact h.src, ⟨h.words.len, h.words.le, h.words.max, by rw [e]; exact h.words.cur⟩, h.rs, h.gs, h.fit⟩

theorem Turned.drewN {S : Nat → Prop} {a b : World} (h : Turned S a b) (n : Nat) : Turned S a (b.drewN n) := by
  induction n with
  | zero => exact h
  | succ n ih => exact ih.drew

/-- One word is drawn of the source. -/
theorem next_any (r s g cap i : Nat) (ws : List Nat) (w : World) (h : Src w r s g cap ws i) (hi : i < 4611686018427387904) :
    Calls Try.prog 50 #[.pointer (some ⟨s, 0, none⟩)] w fun e w' => e = .returned (.int .u64 (wordAt ws i : Nat)) ∧ Src w' r s g cap ws (i + 1) ∧ Turns s w w' := by
  have hc1 : w.cell? ⟨s, 1, none⟩ = some (.int .i64 (i : Int)) := by rw [cell_of_row _ _ _ _ _ _ h.src]; rfl
  have hf1 : w.frozen? ⟨s, 1, none⟩ = false := frozen_of_row _ _ _ _ _ h.src
  have hst := src_step h
  go_enter Try.func50, Try.ntmps50
  go_wp2
  generalize w.setCell ⟨s, 1, none⟩ (.int .i64 ((i : Int) + 1)) = w1 at *
  clear hc1 hf1
  obtain ⟨h1, hT⟩ := hst
  have hc0 : w1.cell? ⟨s, 0, none⟩ = some (.slice (some ⟨g, 0, none⟩) ws.length cap) := by rw [cell_of_row _ _ _ _ _ _ h1.src]; rfl
  have hc1 : w1.cell? ⟨s, 1, none⟩ = some (.int .i64 ((i : Int) + 1)) := by rw [cell_of_row _ _ _ _ _ _ h1.src]; rfl
  by_cases hlt : i < ws.length
  · have hcw : w1.cell? ⟨g, i, none⟩ = some (.int .u64 (wordAt ws i : Nat)) := h1.words.cell (by simp [wordAt, u64, List.getElem?_map, List.getElem?_eq_getElem hlt])
    go_quiet (fail)
    go_wp2
    have h2 := h1.drewN nq
    have hT2 := hT.drewN nq
    generalize w1.drewN nq = w2 at *
    have hc0 : w2.cell? ⟨s, 0, none⟩ = some (.slice (some ⟨g, 0, none⟩) ws.length cap) := by rw [cell_of_row _ _ _ _ _ _ h2.src]; rfl
    have hc1 : w2.cell? ⟨s, 1, none⟩ = some (.int .i64 ((i : Int) + 1)) := by rw [cell_of_row _ _ _ _ _ _ h2.src]; rfl
    have hcw : w2.cell? ⟨g, i, none⟩ = some (.int .u64 (wordAt ws i : Nat)) := h2.words.cell (by simp [wordAt, u64, List.getElem?_map, List.getElem?_eq_getElem hlt])
    go_quiet (fail)
    go_wp2
    go_ret
    exact ⟨rfl, h2.drewN _, hT2.drewN _⟩
  · go_quiet (fail)
    go_wp2
    go_ret
    refine ⟨?_, h1.drewN _, hT.drewN _⟩
    simp [wordAt, List.getElem?_eq_none (Nat.le_of_not_lt hlt)]

theorem method_next (n : Nat) (a : Addr) (w : World) : (method (n + 8) 48 (.pointer (some a)) "Uint64").run Try.prog w = .ok (50, .pointer (some a)) w := by kernel_rfl

theorem word_any (r s g cap i : Nat) (ws : List Nat) (w : World) (h : Src w r s g cap ws i) (hi : i < 4611686018427387904) :
    Calls Try.prog 30 #[.pointer (some ⟨r, 0, none⟩)] w fun e w' => e = .returned (.int .u64 (wordAt ws i : Nat)) ∧ Src w' r s g cap ws (i + 1) ∧ Turns s w w' := by
  have hc0 : w.cell? ⟨r, 0, none⟩ = some (.iface 48 (.pointer (some ⟨s, 0, none⟩))) := by rw [cell_of_row _ _ _ _ _ _ h.rand]; rfl
  go_enter Try.func30, Try.ntmps30
  have hm := method_next
  go_wp2_with (go_at_call 50; refine (next_any r s g cap i ws _ h hi).mono ?_; rintro e w' ⟨rfl, h1, hT⟩)
  go_ret
  exact ⟨rfl, h1, hT⟩
end Go.Proofs.Ytlbhfjmcjbjjgaa
