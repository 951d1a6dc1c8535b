/-
  The two closures that Shuffle is handed here: the one that lists the swaps, the one that makes them.
-/
import Derived.Test.YtlbhfjmcjbjjgaaShufW
import Derived.RegionTactic
import Derived.BigRegion
namespace Go.Proofs.Ytlbhfjmcjbjjgaa
open Go.RowKit
set_option linter.unusedVariables false

/-- A number as an int value. -/
def n64 (x : Nat) : Value := .int .i64 (x : Int)

/-- The variable in block P holds a slice of n ints that lie in block G; both are new, from block B on. -/
structure Held (B P G n c : Nat) (xs : List Nat) (w : World) : Prop where
  var : w.heap[P]? = some (.cells #[.slice (some ⟨G, 0, none⟩) n c] 23 (0, 0))
  row : Row w 3 G n c (xs.map n64)
  ge : B ≤ P ∧ B ≤ G ∧ G ≠ P
theorem Held.kept {B P G n c : Nat} {xs : List Nat} {a b : World} {S : Nat → Prop} (h : Held B P G n c xs a) (hT : Turned S a b) (hS : ∀ k, B ≤ k → ¬ S k) : Held B P G n c xs b :=
  ⟨hT.heap h.var (hS _ h.ge.1), h.row.kept hT (hS _ h.ge.2.1), h.ge⟩

def PairsI (B P : Nat) (d : List (Nat × Nat)) (w : World) : Prop := ∃ G c, Held B P G (2 * d.length) c (flat d) w
def PermI (B P G n : Nat) (d : List (Nat × Nat)) (w : World) : Prop := Held B P G n n (swps (List.range n) d) w

theorem pairs_step (B P n : Nat) (hn : n ≤ 1048576) (d : List (Nat × Nat)) (x y : Nat) (a : World) (hx : x < n) (hy : y < n) (hd : d.length < n) (h : PairsI B P d a) :
    Calls Try.prog 25 #[.int .i64 (x : Int), .int .i64 (y : Int), .pointer (some ⟨P, 0, none⟩)] a fun e b => e = .returned (.tuple #[]) ∧ PairsI B P (d ++ [(x, y)]) b ∧ Turned (fun k => B ≤ k) a b := by
  obtain ⟨G, c, hH⟩ := h
  have hc := cell_of_one hH.var
  have hge := hH.ge
  have hlt := lt_of_block hH.var
  go_enter Try.func25, Try.ntmps25
  go_wp2_with (at_builtin; refine wpList_pushes rfl _ _ 23 rfl 3 (.int .i64 0) 8 Try.underlying23 Try.infoInt rfl G (2 * d.length) c _ rfl (hH.row.kept ((Turned.refl (fun _ => False) _).alloc _) (fun h => h)) _ _ 2 2 [n64 x, n64 y] rfl (by intro u hu; simp at hu; rcases hu with rfl | rfl <;> rfl) rfl (Row.new _ 3 #[n64 x, n64 y] (show 2 ≤ maxLen by decide)).reads (fun h => by cases h) (by omega) (by omega) ?_)
  intro g5 c5 w5 hr5 hat5 hT5
  have hz := ((Turned.refl (fun _ => False) a).alloc (.cells #[n64 x, n64 y] 3)).size
  have hT6 : Turned (fun k => B ≤ k) a w5 := ((Turned.refl (fun _ => False) a).alloc (.cells #[n64 x, n64 y] 3)).mono (fun _ _ h => h.elim) |>.trans (hT5.mono (fun k _ e => by subst e; exact hge.2.1))
  have hv5 : w5.heap[P]? = some (.cells #[.slice (some ⟨G, 0, none⟩) (2 * d.length) c] 23 (0, 0)) := hT5.heap (((Turned.refl (fun _ => False) a).alloc _).heap hH.var (fun h => h)) (fun e => hge.2.2 e.symm)
  have hf5 := free_of_one hv5
  have hc5 := cell_of_one hv5
  go_wp2
  go_end0
  refine ⟨rfl, ⟨g5, c5, ?_⟩, ?_⟩
  · rw [flat_snoc, List.length_append, List.length_singleton, Nat.mul_add]
    refine ⟨one_setCell hv5, ?_, by omega⟩
    rw [List.map_append]
    exact hr5.kept (Turned.setCell (p := ⟨P, 0, none⟩) (Turned.refl (fun k => k = P) _) (fun _ => rfl) _) (by omega)
  · exact hT6.trans (Turned.setCell (p := ⟨P, 0, none⟩) (Turned.refl (fun k => B ≤ k) _) (fun _ => hge.1) _)

theorem Held.get {B P G n c : Nat} {xs : List Nat} {w : World} (h : Held B P G n c xs w) {i : Nat} (hi : i < n) : w.cell? ⟨G, i, none⟩ = some (.int .i64 ((xs[i]?.getD 0 : Nat) : Int)) ∧ xs.length = n := by
  have hl : xs.length = n := by simpa using h.row.len
  have hx : i < xs.length := by omega
  refine ⟨h.row.cell ?_, hl⟩
  simp [List.getElem?_eq_getElem hx, n64]

theorem perm_step (B P G n : Nat) (hn : n ≤ 1048576) (d : List (Nat × Nat)) (x y : Nat) (a : World) (hx : x < n) (hy : y < n) (hd : d.length < n) (h : PermI B P G n d a) :
    Calls Try.prog 28 #[.int .i64 (x : Int), .int .i64 (y : Int), .pointer (some ⟨P, 0, none⟩)] a fun e b => e = .returned (.tuple #[]) ∧ PermI B P G n (d ++ [(x, y)]) b ∧ Turned (fun k => B ≤ k) a b := by
  have hH : Held B P G n n (swps (List.range n) d) a := h
  clear h
  have hgoal : PermI B P G n (d ++ [(x, y)]) = Held B P G n n (swp (swps (List.range n) d) (x, y)) := by
    funext w
    rw [PermI, swps_snoc]
  rw [hgoal]
  clear hgoal
  generalize swps (List.range n) d = l at *
  have hc := cell_of_one hH.var
  have hge := hH.ge
  have hlt := lt_of_block hH.var
  have kx := (hH.get hx).1
  obtain ⟨ky, hll⟩ := hH.get hy
  have fx := hH.row.free x
  have fy := hH.row.free y
  have hxi : (x : Int) < (n : Int) := by omega
  have hyi : (y : Int) < (n : Int) := by omega
  have hT : Turned (fun k => k = G) a ((a.setCell ⟨G, x, none⟩ (.int .i64 ((l[y]?.getD 0 : Nat) : Int))).setCell ⟨G, y, none⟩ (.int .i64 ((l[x]?.getD 0 : Nat) : Int))) :=
    ((Turned.refl (fun k => k = G) a).setCell (p := ⟨G, x, none⟩) (fun _ => rfl) _).setCell (p := ⟨G, y, none⟩) (fun _ => rfl) _
  have hfin : Held B P G n n (swp l (x, y)) ((a.setCell ⟨G, x, none⟩ (.int .i64 ((l[y]?.getD 0 : Nat) : Int))).setCell ⟨G, y, none⟩ (.int .i64 ((l[x]?.getD 0 : Nat) : Int))) := by
    refine ⟨hT.heap hH.var (fun e => hge.2.2 e.symm), ?_, hge⟩
    have := (hH.row.set x (.int .i64 ((l[y]?.getD 0 : Nat) : Int))).set y (.int .i64 ((l[x]?.getD 0 : Nat) : Int))
    rw [swp, List.map_set, List.map_set]
    exact this
  have hr2 := hH.row.set x (.int .i64 ((l[y]?.getD 0 : Nat) : Int))
  have ky2 : (a.setCell ⟨G, x, none⟩ (.int .i64 ((l[y]?.getD 0 : Nat) : Int))).cell? ⟨G, y, none⟩ = some (.int .i64 ((l[y]?.getD 0 : Nat) : Int)) := by
    apply hr2.cell
    by_cases hxy : x = y
    · subst hxy
      rw [List.getElem?_set_self (by simpa using (by omega : x < l.length))]
    · rw [List.getElem?_set_ne hxy]
      have : y < l.length := by omega
      simp [List.getElem?_eq_getElem this, n64]
  have fy2 := hr2.free y
  clear hH hr2
  generalize l[x]?.getD 0 = vx at *
  generalize l[y]?.getD 0 = vy at *
  go_enter Try.func28, Try.ntmps28
  go_wp2
  go_region
  go_wp2
  go_end0
  exact ⟨rfl, hfin.kept ((Turned.refl (fun _ => False) _).drewN 1) (fun _ _ h => h), (hT.mono (fun k _ e => by subst e; exact hge.2.1)).drewN 1⟩
end Go.Proofs.Ytlbhfjmcjbjjgaa
