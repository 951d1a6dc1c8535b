/-
  Perm, over given words.
-/
import Derived.Test.YtlbhfjmcjbjjgaaClos
import Derived.Test.YtlbhfjmcjbjjgaaMake
namespace Go.Proofs.Ytlbhfjmcjbjjgaa
open Go.RowKit
set_option linter.unusedVariables false

/-- The permutation that is made of n when i words are used. -/
def permOf (ws : List Nat) (n i : Nat) : List Nat := swps (List.range n) (prs ws (n - 1) i)

theorem fill_step (n j : Nat) (h : j < n) : (List.range j ++ List.replicate (n - j) 0).set j j = List.range (j + 1) ++ List.replicate (n - (j + 1)) 0 := by
  obtain ⟨m, hm⟩ : ∃ m, n - j = m + 1 := ⟨n - j - 1, by omega⟩
  have hm' : n - (j + 1) = m := by omega
  rw [hm, hm', List.set_append_right j j (by simp), List.length_range, Nat.sub_self, List.replicate_succ, List.set_cons_zero, List.range_succ, List.append_assoc]
  rfl

set_option maxHeartbeats 1000000 in
theorem perm_any (r s g cap i n : Nat) (ws : List Nat) (w : World) (h : Src w r s g cap ws i) (hi : i ≤ 2305843009213693952) (hl : ws.length ≤ 2305843009213693952) (hn : n ≤ 1048576) :
    Calls Try.prog 23 #[.pointer (some ⟨r, 0, none⟩), .int .i64 (n : Int)] w fun e w' => ∃ G, e = .returned (.slice (some ⟨G, 0, none⟩) n n) ∧ Row w' 3 G n n ((permOf ws n i).map n64) ∧ w.heap.size ≤ G ∧ Src w' r s g cap ws (pend ws (n - 1) i) ∧ Turns s w w' := by
  obtain ⟨hr, hs, hg⟩ := h.lt
  have hmf : ∀ (fn : Fn) (first cap : Array Value) (w : World), (Instr.makeFunc fn first cap).run Try.prog w = .ok (.func fn first cap) w := fun _ _ _ _ => rfl
  go_enter Try.func23, Try.ntmps23
  go_wp2_with (at_make; refine wpList_makes rfl _ _ 23 rfl 3 (.int .i64 0) 8 Try.underlying23 Try.infoInt rfl n rfl rfl (by omega) (by omega) ?_)
  intro w1 hrow1 hst1
  have hz1 := hst1.size
  have hlt1 := hrow1.lt
  have hH0 : Held w.heap.size w1.heap.size w.heap.size n n (List.range 0 ++ List.replicate (n - 0) 0) (w1.alloc (.cells #[.slice (some ⟨w.heap.size, 0, none⟩) n n] 23)) := by
    refine ⟨heap_alloc_new _ _, ?_, by omega⟩
    have := hrow1.kept ((Turned.refl (fun _ => False) w1).alloc (.cells #[.slice (some ⟨w.heap.size, 0, none⟩) n n] 23)) (fun h => h)
    simpa [n64] using this
  have hst2 : Still w (w1.alloc (.cells #[.slice (some ⟨w.heap.size, 0, none⟩) n n] 23)) := hst1.alloc _
  go_wp2_with fail
  generalize w1.alloc (.cells #[.slice (some ⟨w.heap.size, 0, none⟩) n n] 23) = w2 at *
  generalize hP : w1.heap.size = P at *
  go_loopg [11] n (fun k z wr => ∃ j : Nat, k = n - j ∧ j ≤ n ∧ z = .int .i64 (j : Int) ∧ Held w.heap.size P w.heap.size n n (List.range j ++ List.replicate (n - j) 0) wr ∧ Still w wr)
  case atStart => exact ⟨0, rfl, Nat.zero_le _, rfl, hH0, hst2⟩
  case round =>
    obtain ⟨j, hk, hj, rfl, hH, hst⟩ := hrel
    have Hk := Lib.hid hk
    have hc := cell_of_one hH.var
    have hge := hH.ge
    clear hk hH0 hst2 hst1 hrow1
    by_cases hlt : j < n
    · have kj := (hH.get hlt).1
      have fj := hH.row.free j
      have hfin : Held w.heap.size P w.heap.size n n (List.range (j + 1) ++ List.replicate (n - (j + 1)) 0) (wr.setCell ⟨w.heap.size, j, none⟩ (.int .i64 (j : Int))) := by
        refine ⟨(Turned.setCell (p := ⟨w.heap.size, j, none⟩) (Turned.refl (fun k => k = w.heap.size) wr) (fun _ => rfl) _).heap hH.var (fun e => hge.2.2 e.symm), ?_, hge⟩
        have := hH.row.set j (.int .i64 (j : Int))
        rw [← fill_step n j hlt, List.map_set]
        exact this
      have hst' : Still w (wr.setCell ⟨w.heap.size, j, none⟩ (.int .i64 (j : Int))) := hst.setCell (p := ⟨w.heap.size, j, none⟩) (fun h => absurd h (Nat.lt_irrefl _)) _
      generalize (List.range j ++ List.replicate (n - j) 0)[j]?.getD 0 = x at *
      clear hH
      go_wp2
      go_roundg (n - (j + 1))
      case measure => rw [Hk.out]; omega
      case rel => exact ⟨j + 1, rfl, by omega, by go_num, hfin, hst'⟩
    · obtain rfl : n = j := by omega
      clear Hk hlt
      rw [Nat.sub_self, List.replicate_zero, List.append_nil] at hH
      have hS := h.kept hst (fun h => h) (fun h => h) (fun h => h)
      have hsh := shuffle_perm (PermI w.heap.size P w.heap.size n) w.heap.size ⟨P, 0, none⟩ r s g cap i n ws wr hS hi hl hn hr hs hg hH (fun d a b hI hT => Held.kept hI hT (fun k hk e => by subst e; omega)) (fun d x y a hx hy hd hI => perm_step w.heap.size P w.heap.size n hn d x y a hx hy hd hI)
      have HS := Lib.hid hsh
      clear hsh
      go_wp2_with fail
      refine HS.out.mono ?_
      rintro e w3 ⟨rfl, hI3, hS3, hT3⟩
      have hH3 : Held w.heap.size P w.heap.size n n (permOf ws n i) w3 := hI3
      have hc3 := cell_of_one hH3.var
      have hT4 : Turns s w w3 := (hst.mono (fun _ _ h => h.elim)).then hT3 (fun k hk hS => by omega)
      clear hc HS hI3
      go_wp2
      go_ret
      exact ⟨w.heap.size, rfl, hH3.row, Nat.le_refl _, hS3, hT4⟩
end Go.Proofs.Ytlbhfjmcjbjjgaa
