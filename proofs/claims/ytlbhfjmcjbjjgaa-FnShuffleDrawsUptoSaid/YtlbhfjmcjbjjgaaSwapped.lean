/-
  The statements' own making of swaps on the numbers in order.
-/
import Derived.Test.YtlbhfjmcjbjjgaaUndone
namespace Go.Proofs.Ytlbhfjmcjbjjgaa
open Go.RowKit
set_option linter.unusedVariables false

theorem swps_step (l : List Nat) (ps : List (Nat × Nat)) (j : Nat) (h : j < ps.length) : swps l (ps.take (j + 1)) = swp (swps l (ps.take j)) ps[j] := by
  rw [List.take_succ_eq_append_getElem h, swps_snoc]

set_option maxHeartbeats 1000000 in
theorem swapped_any (n : Nat) (a : Option Addr) (b mm c : Nat) (ps : List (Nat × Nat)) (w : World) (hn : n ≤ 256) (hps : ∀ p ∈ ps, p.1 < n ∧ p.2 < n) (hmm : 2 * ps.length = mm) (hread : Reads w a b ((flat ps).map n64)) (hsm : mm ≤ 1048576) :
    Calls Try.prog 20 #[.int .i64 (n : Int), .slice a mm c] w fun e w' => ∃ g c', e = .returned (.tuple #[.slice (some ⟨g, 0, none⟩) n c', .bool true]) ∧ Row w' 3 g n c' ((swps (List.range n) ps).map n64) ∧ w.heap.size ≤ g ∧ Still w w' := by
  have Hmm := Lib.hid hmm
  clear hmm
  have hci := Lib.hid (inOrder_any n w (by omega))
  go_enter Try.func20, Try.ntmps20
  go_wp2_with fail
  refine hci.out.mono ?_
  rintro e w1 ⟨g, c', rfl, hr1, hg1, hst1⟩
  clear hci
  go_wp2_with fail
  go_loopg [7] ps.length (fun k z wr => ∃ j : Nat, k = ps.length - j ∧ j ≤ ps.length ∧ z = .int .i64 ((2 * j : Nat) : Int) ∧ Row wr 3 g n c' ((swps (List.range n) (ps.take j)).map n64) ∧ Still w wr)
  case atStart => exact ⟨0, rfl, Nat.zero_le _, rfl, hr1, hst1⟩
  case round =>
    obtain ⟨j, hk, hj, rfl, hrow, hst⟩ := hrel
    have Hk := Lib.hid hk
    clear hk hr1 hst1
    by_cases hlt : j < ps.length
    · obtain ⟨f1, f2⟩ := flat_get ps j hlt
      obtain ⟨b1, b2⟩ := hps ps[j] (List.getElem_mem hlt)
      obtain ⟨off, rfl, hc⟩ := hread (by intro h; have := congrArg List.length h; rw [List.length_map, flat_length, List.length_nil] at this; omega)
      have Hst := Lib.hid (swps_step (List.range n) ps j hlt)
      have c1 : wr.cell? ⟨b, off + 2 * j, none⟩ = some (.int .i64 (ps[j].1 : Nat)) := hst.cell (hc (2 * j) _ (by rw [List.getElem?_map, f1]; rfl)) (fun h => h)
      have c2 : wr.cell? ⟨b, off + (2 * j + 1), none⟩ = some (.int .i64 (ps[j].2 : Nat)) := hst.cell (hc (2 * j + 1) _ (by rw [List.getElem?_map, f2]; rfl)) (fun h => h)
      have hi2 : 2 * j + 1 < mm := by have := Hmm.out; omega
      obtain ⟨vx, vy, hsw⟩ := swap_at hrow (x := ps[j].1) (y := ps[j].2) (by omega) (by omega)
      rw [show ps[j] = (ps[j].1, ps[j].2) from rfl] at Hst
      generalize ps[j].1 = x at *
      generalize ps[j].2 = y at *
      generalize hti : 2 * j = t at *
      have Hti := Lib.hid hti
      have hxm : (x : Int) < (n : Int) := by omega
      have hym : (y : Int) < (n : Int) := by omega
      have ht1 : (t : Int) < (mm : Int) := by omega
      have ht2 : (t : Int) + 1 < (mm : Int) := by omega
      have hne : (((t : Int) + 1) == (mm : Int)) = false := by simp; omega
      have Hlt := Lib.hid hlt
      clear hti f1 f2 hc hread hlt
      obtain ⟨cx, cy, fx, fy, cy2, hrow', hT'⟩ := hsw
      have hstn : Still w ((wr.setCell ⟨g, x, none⟩ (.int .i64 (vy : Int))).setCell ⟨g, y, none⟩ (.int .i64 (vx : Int))) := hst.then hT' (fun k hk e => by omega)
      clear hrow
      go_wp2
      go_roundg (ps.length - (j + 1))
      case measure => rw [Hk.out]; have := Hlt.out; omega
      case rel =>
        refine ⟨j + 1, rfl, Hlt.out, ?_, ?_, hstn⟩
        · have := Hti.out
          congr 1
          omega
        · rw [Hst.out]
          exact hrow'
    · have hjl : j = ps.length := by omega
      have htm : 2 * j = mm := by rw [hjl]; exact Hmm.out
      rw [htm]
      rw [List.take_of_length_le (by omega)] at hrow
      go_wp2
      go_ret2
      exact ⟨g, c', rfl, hrow, hg1, hst⟩
end Go.Proofs.Ytlbhfjmcjbjjgaa
