/-
  The walk of FnSwapsUndone; what a swap in a row of numbers leaves.
-/
import Derived.Test.YtlbhfjmcjbjjgaaHelpC
import Derived.Test.YtlbhfjmcjbjjgaaSwaps
namespace Go.Proofs.Ytlbhfjmcjbjjgaa
open Go.RowKit
set_option linter.unusedVariables false

/-- One swap in a row: the cells that are read, that they may be written, and the row behind it. -/
structure SwapAt (w : World) (g n c x y vx vy : Nat) (l : List Nat) : Prop where
  cx : w.cell? ⟨g, x, none⟩ = some (.int .i64 (vx : Int))
  cy : w.cell? ⟨g, y, none⟩ = some (.int .i64 (vy : Int))
  fx : w.frozen? ⟨g, x, none⟩ = false
  fy : (w.setCell ⟨g, x, none⟩ (.int .i64 (vy : Int))).frozen? ⟨g, y, none⟩ = false
  cy2 : (w.setCell ⟨g, x, none⟩ (.int .i64 (vy : Int))).cell? ⟨g, y, none⟩ = some (.int .i64 (vy : Int))
  row : Row ((w.setCell ⟨g, x, none⟩ (.int .i64 (vy : Int))).setCell ⟨g, y, none⟩ (.int .i64 (vx : Int))) 3 g n c ((swp l (x, y)).map n64)
  turns : Turns g w ((w.setCell ⟨g, x, none⟩ (.int .i64 (vy : Int))).setCell ⟨g, y, none⟩ (.int .i64 (vx : Int)))

theorem swap_at {w : World} {g n c : Nat} {l : List Nat} (h : Row w 3 g n c (l.map n64)) {x y : Nat} (hx : x < n) (hy : y < n) : ∃ vx vy, SwapAt w g n c x y vx vy l := by
  have hl : l.length = n := by simpa using h.len
  have kx : w.cell? ⟨g, x, none⟩ = some (.int .i64 ((l[x]?.getD 0 : Nat) : Int)) := h.cell (by simp [List.getElem?_eq_getElem (show x < l.length by omega), n64])
  have ky : w.cell? ⟨g, y, none⟩ = some (.int .i64 ((l[y]?.getD 0 : Nat) : Int)) := h.cell (by simp [List.getElem?_eq_getElem (show y < l.length by omega), n64])
  have hr2 := h.set x (.int .i64 ((l[y]?.getD 0 : Nat) : Int))
  refine ⟨l[x]?.getD 0, l[y]?.getD 0, kx, ky, h.free x, hr2.free y, ?_, ?_, ?_⟩
  · apply hr2.cell
    by_cases hxy : x = y
    · subst hxy
      rw [List.getElem?_set_self (by simpa using (by omega : x < l.length))]
    · rw [List.getElem?_set_ne hxy]
      simp [List.getElem?_eq_getElem (show y < l.length by omega), n64]
  · have := hr2.set y (.int .i64 ((l[x]?.getD 0 : Nat) : Int))
    rw [swp, List.map_set, List.map_set]
    exact this
  · exact ((Turned.refl (fun k => k = g) w).setCell (p := ⟨g, x, none⟩) (fun _ => rfl) _).setCell (p := ⟨g, y, none⟩) (fun _ => rfl) _

theorem undone_step (l : List Nat) (ps : List (Nat × Nat)) (i : Nat) (h : i < ps.length) : swps l (ps.drop i).reverse = swp (swps l (ps.drop (i + 1)).reverse) ps[i] := by
  rw [List.drop_eq_getElem_cons h, List.reverse_cons, swps_snoc]

set_option maxHeartbeats 1000000 in
theorem fnSwapsUndone_walk (a0 : Option Addr) (len0 cap0 b0 : Nat) (ws0 : List Nat) (n1 : Nat) (w : World) (A0 : Arg u64 18446744073709551616 8 w a0 len0 cap0 b0 ws0) (l1 : n1 < 256) :
    Calls Try.prog 10 #[.slice a0 len0 cap0, .int .u8 (n1 : Int)] w fun e w' => e = .returned (.bool true) ∧ Below w.heap.size w w' := by
  have hs0 := A0.small
  have hand := and31_nat n1
  have hm : n1 % 32 < 32 := Nat.mod_lt _ (by omega)
  have hc1 := Lib.hid (one_any a0 b0 len0 cap0 ws0 (n1 % 32) w A0.size A0.fit A0.reads A0.nil (by omega) (by omega))
  generalize n1 % 32 = m at *
  go_enter Try.func10, Try.ntmps10
  go_wp2_with fail
  refine hc1.out.mono ?_
  rintro e w1 ⟨g1, d1, g2, d2, rfl, hr1, hr2, hge1, hst1⟩
  clear hc1
  have hpl : (prs ws0 (m - 1) 0).length = m - 1 := prs_length ..
  have hfl := prs_lt ws0 (m - 1) 0 A0.fit
  have hund := Lib.hid (swps_undone (List.range m) (prs ws0 (m - 1) 0) (fun p hp => by have := hfl p hp; rw [List.length_range]; omega))
  have hperm : permOf ws0 m 0 = swps (List.range m) (prs ws0 (m - 1) 0) := rfl
  rw [← hperm] at hund
  have hplen := permOf_length ws0 m 0
  have HL := Lib.hid hpl
  clear hperm hpl
  generalize prs ws0 (m - 1) 0 = ps at *
  generalize permOf ws0 m 0 = l0 at *
  generalize pend ws0 (m - 1) 0 = used at *
  generalize hmm : 2 * (m - 1) = mm at *
  have hrem : ((mm : Nat) : Int).tmod 2 = 0 := by rw [Int.tmod_eq_emod_of_nonneg (by omega)]; omega
  have Hmm := Lib.hid hmm
  have hmm64 : mm < 64 := by omega
  clear hmm
  have hcells : ∀ u ∈ l0.map n64, u.oneCell' = true := by
    intro u hu
    obtain ⟨x, _, rfl⟩ := List.mem_map.1 hu
    rfl
  have hstA : Still w1 (w1.alloc (.cells #[] 3)) := (Turned.refl _ _).alloc _
  go_wp2_with (at_builtin; refine wpList_pushes rfl _ _ 23 rfl 3 (.int .i64 0) 8 Try.underlying23 Try.infoInt rfl w1.heap.size 0 0 [] rfl (Row.empty w1 3) (some ⟨g1, 0, none⟩) g1 m d1 (l0.map n64) (by simpa using hplen) hcells rfl (hr1.kept hstA (fun h => h)).reads (fun h => by cases h) (by omega) (by omega) ?_)
  intro g c w2 hr hat hT2
  have hz1 := hst1.size
  have hst2 : Still w1 w2 := hstA.then hT2 (fun k hk e => by omega)
  have hst3 : Still w w2 := hst1.trans hst2
  have hr2' := hr2.kept hst2 (fun h => h)
  have hlt2 := hr2.lt
  have hg2 : g2 ≠ g := by
    omega
  have hgw : w.heap.size ≤ g := by
    omega
  clear hstA hT2 hr1 hat hr2 hst2
  go_wp2_with fail
  go_loopg [11] (m - 1) (fun k z wr => ∃ j : Nat, k = j ∧ j ≤ m - 1 ∧ z = .int .i64 (2 * (j : Int) - 2) ∧ Row wr 3 g m c ((swps l0 (ps.drop j).reverse).map n64) ∧ Row wr 3 g2 mm d2 ((flat ps).map n64) ∧ Still w wr)
  case atStart =>
    refine ⟨m - 1, rfl, Nat.le_refl _, ?_, ?_, hr2', hst3⟩
    · have := Hmm.out
      congr 1
      omega
    · rw [List.drop_of_length_le (by rw [HL.out]; exact Nat.le_refl _)]
      exact hr
  case round =>
    obtain ⟨j, hk, hj, rfl, hrow, hrp, hst⟩ := hrel
    have Hk := Lib.hid hk
    clear hk hst3 hr2' hr
    rcases Nat.eq_zero_or_pos j with h0 | h0
    · subst h0
      rw [List.drop_zero, hund.out] at hrow
      have hz : (2 * ((0 : Nat) : Int) - 2) = -2 := rfl
      rw [hz]
      have hci := Lib.hid (inOrder_any m wr (by omega))
      go_wp2_with fail
      refine hci.out.mono ?_
      rintro e w4 ⟨g5, c5, rfl, hr5, hg5, hst5⟩
      have hcs := Lib.hid (sameNats_any (some ⟨g, 0, none⟩) (some ⟨g5, 0, none⟩) m c m c5 g g5 _ _ w4 (List.length_range) (List.length_range) (hrow.kept hst5 (fun h => h)).reads hr5.reads (by omega))
      clear hci
      rw [decide_eq_true (Eq.refl (List.range m))] at hcs
      go_wp2_with fail
      refine hcs.out.mono ?_
      rintro e w5 ⟨rfl, q, rfl⟩
      go_wp2
      go_ret
      exact ⟨rfl, ((hst.trans hst5).drewN q).below (Nat.le_refl _) (fun k h => h.elim)⟩
    · obtain ⟨i, rfl⟩ : ∃ i, j = i + 1 := ⟨j - 1, by omega⟩
      have hip : i < ps.length := by rw [HL.out]; omega
      have hz : (2 * ((i + 1 : Nat) : Int) - 2) = ((2 * i : Nat) : Int) := by omega
      rw [hz]
      obtain ⟨f1, f2⟩ := flat_get ps i hip
      obtain ⟨b1, b2, b3⟩ := hfl ps[i] (List.getElem_mem hip)
      have Hst := Lib.hid (undone_step l0 ps i hip)
      have c1 : wr.cell? ⟨g2, 2 * i, none⟩ = some (.int .i64 (ps[i].1 : Nat)) := hrp.cell (by rw [List.getElem?_map, f1]; rfl)
      have c2 : wr.cell? ⟨g2, 2 * i + 1, none⟩ = some (.int .i64 (ps[i].2 : Nat)) := hrp.cell (by rw [List.getElem?_map, f2]; rfl)
      have hi2 : 2 * i + 1 < mm := by have := Hmm.out; omega
      obtain ⟨vx, vy, hsw⟩ := swap_at hrow (x := ps[i].1) (y := ps[i].2) (by omega) (by omega)
      have hps : ps[i] = (ps[i].1, ps[i].2) := rfl
      rw [hps] at Hst
      generalize ps[i].1 = x at *
      generalize ps[i].2 = y at *
      generalize hti : 2 * i = t at *
      have Hti := Lib.hid hti
      have hxm : (x : Int) < (m : Int) := by omega
      have hym : (y : Int) < (m : Int) := by omega
      have ht1 : (t : Int) < (mm : Int) := by omega
      have ht2 : (t : Int) + 1 < (mm : Int) := by omega
      clear hti hz f1 f2 hps hfl
      obtain ⟨cx, cy, fx, fy, cy2, hrow', hT'⟩ := hsw
      have hstn : Still w ((wr.setCell ⟨g, x, none⟩ (.int .i64 (vy : Int))).setCell ⟨g, y, none⟩ (.int .i64 (vx : Int))) := hst.then hT' (fun k hk e => by omega)
      have hrp' := hrp.kept hT' hg2
      clear hrow hrp
      go_wp2
      go_roundg i
      case measure => rw [Hk.out]; omega
      case rel =>
        refine ⟨i, rfl, by omega, ?_, ?_, hrp', hstn⟩
        · have := Hti.out
          congr 1
          first | omega | (rw [IntKind.wrap_i64]; omega)
        · rw [Hst.out]
          exact hrow'
end Go.Proofs.Ytlbhfjmcjbjjgaa
