/-
  The walk of FnPermIsShuffle.
-/
import Derived.Test.YtlbhfjmcjbjjgaaSwapped
namespace Go.Proofs.Ytlbhfjmcjbjjgaa
open Go.RowKit
set_option linter.unusedVariables false

theorem script_get (ws : List Nat) (i : Nat) (ns : List Nat) (j : Nat) (h : j < ns.length) : (script ws i ns)[j]? = some (ns[j], scriptEnd ws i (ns.take j), pend ws (ns[j] - 1) (scriptEnd ws i (ns.take j))) := by
  induction ns generalizing i j with
  | nil => simp at h
  | cons n ns ih =>
    cases j with
    | zero => simp [script, scriptEnd]
    | succ j =>
      simp only [script, List.getElem?_cons_succ, List.getElem_cons_succ, List.take_succ_cons, scriptEnd]
      exact ih _ j (by simpa using h)
theorem goneOf_length (t : List (Nat × Nat × Nat)) : (goneOf t).length = t.length := by simp [goneOf]

/-- The j-th inner slice. -/
theorem inn_at {L : List Inn} {xss : List (List Nat)} {xs : List Nat} {j : Nat} (h : L.map Inn.xs = xss) (hx : xss[j]? = some xs) : ∃ G C, L[j]? = some ⟨G, C, xs⟩ := by
  rw [← h, List.getElem?_map] at hx
  match hp : L[j]?, hx with
  | some p, hx =>
    obtain ⟨G, C, ys⟩ := p
    simp only [Option.map_some, Option.some.injEq] at hx
    subst hx
    exact ⟨G, C, rfl⟩
  | none, hx => simp at hx

set_option maxHeartbeats 1000000 in
theorem fnPermIsShuffle_walk (a0 : Option Addr) (len0 cap0 b0 : Nat) (ws0 : List Nat) (a1 : Option Addr) (len1 cap1 b1 : Nat) (ws1 : List Nat) (w : World) (A0 : Arg u64 18446744073709551616 8 w a0 len0 cap0 b0 ws0) (S0 : len0 ≤ 1048576) (A1 : Arg u8 256 1 w a1 len1 cap1 b1 ws1) (S1 : len1 ≤ 1048576) :
    Calls Try.prog 8 #[.slice a0 len0 cap0, .slice a1 len1 cap1] w fun e w' => e = .returned (.bool true) ∧ Below w.heap.size w w' := by
  have hc1 := Lib.hid (sizes_any a1 b1 len1 cap1 ws1 w A1.length A1.fit A1.reads S1)
  have hnl : (ws1.map (· % 32)).length = len1 := by rw [List.length_map]; exact A1.length
  have hns : ∀ x ∈ ws1.map (· % 32), x < 32 := by
    intro x hx
    obtain ⟨y, _, rfl⟩ := List.mem_map.1 hx
    exact Nat.mod_lt _ (by omega)
  generalize ws1.map (· % 32) = ns at *
  go_enter Try.func8, Try.ntmps8
  go_wp2_with fail
  refine hc1.out.mono ?_
  rintro e w1 ⟨gl, cl, rfl, hrl, hgl, hst1⟩
  have hc2 := Lib.hid (perms_any a0 b0 len0 cap0 ws0 (some ⟨gl, 0, none⟩) gl len1 cl ns w1 A0.size A0.fit (A0.reads.kept hst1 (fun h => h)) A0.nil (by omega) hnl (fun x hx => by have := hns x hx; omega) hrl.reads (by omega))
  clear hc1
  go_wp2_with fail
  refine hc2.out.mono ?_
  rintro e w2 ⟨L, g1, d1, g2, d2, rfl, hL, hr1, hr2, hI, hge2, hst2⟩
  have hrl2 := hrl.kept hst2 (fun h => h)
  have hc3 := Lib.hid (shuffles_any a0 b0 len0 cap0 ws0 (some ⟨gl, 0, none⟩) gl len1 cl ns w2 A0.size A0.fit (A0.reads.kept (hst1.trans hst2) (fun h => h)) A0.nil (by omega) hnl (fun x hx => by have := hns x hx; omega) hrl2.reads (by omega))
  clear hc2
  go_wp2_with fail
  refine hc3.out.mono ?_
  rintro e w3 ⟨M, g3, d3, g4, d4, rfl, hM, hr3, hr4, hJ, hge3, hst3⟩
  clear hc3
  have hgl4 : (goneOf (script ws0 0 ns)).length = len1 := by rw [goneOf_length, script_length]; exact hnl
  have hc4 := Lib.hid (sameNats_any (some ⟨g2, 0, none⟩) (some ⟨g4, 0, none⟩) len1 d2 len1 d4 g2 g4 _ _ w3 hgl4 hgl4 (hr2.kept hst3 (fun h => h)).reads hr4.reads (by omega))
  rw [decide_eq_true (Eq.refl (goneOf (script ws0 0 ns)))] at hc4
  have HNL := Lib.hid hnl
  have hst4 := (hst1.trans hst2).trans hst3
  have hrl3 := hrl2.kept hst3 (fun h => h)
  have hr1' := hr1.kept hst3 (fun h => h)
  have hI' : ∀ p ∈ L, Row w3 3 p.g p.xs.length p.c (p.xs.map n64) := fun p hp => (hI p hp).1.kept hst3 (fun h => h)
  have hJ' : ∀ p ∈ M, Row w3 3 p.g p.xs.length p.c (p.xs.map n64) := fun p hp => (hJ p hp).1
  clear hnl hgl4 hst1 hst2 hst3 hrl hrl2 hr1 hr2 hr4 hI hJ
  go_wp2_with fail
  refine hc4.out.mono ?_
  rintro e w4 ⟨rfl, q4, rfl⟩
  have hst5 : Still w3 (w3.drewN q4) := (Turned.refl _ _).drewN q4
  generalize w3.drewN q4 = w4 at *
  clear hc4
  go_wp2_with fail
  go_loopg [55] len1 (fun k i wr => ∃ j : Nat, k = len1 - j ∧ j ≤ len1 ∧ i = .int .i64 (j : Int) ∧ Still w3 wr)
  case atStart => exact ⟨0, rfl, Nat.zero_le _, rfl, hst5⟩
  case round =>
    obtain ⟨j, hk, hj, rfl, hst⟩ := hrel
    have Hk := Lib.hid hk
    clear hk hst5
    by_cases hlt : j < len1
    · have hjn : j < ns.length := by rw [HNL.out]; exact hlt
      have hsg := script_get ws0 0 ns j hjn
      have hmb := hns ns[j] (List.getElem_mem hjn)
      have cm : wr.cell? ⟨gl, j, none⟩ = some (.int .i64 (ns[j] : Nat)) := (hrl3.kept hst (fun h => h)).cell (by rw [List.getElem?_map, List.getElem?_eq_getElem hjn]; rfl)
      generalize ns[j] = m at *
      generalize scriptEnd ws0 0 (ns.take j) = q at *
      obtain ⟨G1, C1, hp1⟩ := inn_at hL (j := j) (xs := permOf ws0 m q) (by rw [permsOf, List.getElem?_map, hsg]; rfl)
      obtain ⟨G2, C2, hp2⟩ := inn_at hM (j := j) (xs := flat (prs ws0 (m - 1) q)) (by rw [pairsOf, List.getElem?_map, hsg]; rfl)
      have cp : wr.cell? ⟨g1, j, none⟩ = some (.slice (some ⟨G1, 0, none⟩) m C1) := (hr1'.kept hst (fun h => h)).cell (by rw [List.getElem?_map, hp1]; simp [Inn.val, permOf_length])
      have cq : wr.cell? ⟨g3, j, none⟩ = some (.slice (some ⟨G2, 0, none⟩) (2 * (m - 1)) C2) := (hr3.kept hst (fun h => h)).cell (by rw [List.getElem?_map, hp2]; simp [Inn.val, flat_length, prs_length])
      have rp := (hI' _ (List.mem_of_getElem? hp1)).kept hst (fun h => h)
      have rq := (hJ' _ (List.mem_of_getElem? hp2)).kept hst (fun h => h)
      simp only [permOf_length] at rp
      have hfl := prs_lt ws0 (m - 1) q A0.fit
      have hc5 := Lib.hid (swapped_any m (some ⟨G2, 0, none⟩) G2 (2 * (m - 1)) C2 (prs ws0 (m - 1) q) wr (by omega) (fun p hp => by have := hfl p hp; omega) (by rw [prs_length]) rq.reads (by omega))
      have hpo : swps (List.range m) (prs ws0 (m - 1) q) = permOf ws0 m q := rfl
      rw [hpo] at hc5
      have hpl := permOf_length ws0 m q
      generalize permOf ws0 m q = l at *
      generalize hmm : 2 * (m - 1) = mm at *
      clear hmm hpo hfl rq hsg hp1 hp2
      go_wp2_with fail
      refine hc5.out.mono ?_
      rintro e w5 ⟨g5, c5, rfl, hr5, hg5, hst5⟩
      have hc6 := Lib.hid (sameNats_any (some ⟨G1, 0, none⟩) (some ⟨g5, 0, none⟩) m C1 m c5 G1 g5 l l w5 hpl hpl (rp.kept hst5 (fun h => h)).reads hr5.reads (by omega))
      rw [decide_eq_true (Eq.refl l)] at hc6
      have cp5 := hst5.cell cp (fun h => h)
      clear hc5 cp cm cq
      go_wp2_with fail
      refine hc6.out.mono ?_
      rintro e w6 ⟨rfl, q6, rfl⟩
      go_wp2
      go_roundg (len1 - (j + 1))
      case measure => rw [Hk.out]; omega
      case rel => exact ⟨j + 1, rfl, by omega, by go_num, (hst.trans hst5).drewN q6⟩
    · go_wp2
      go_ret
      exact ⟨rfl, (hst4.trans hst).below (Nat.le_refl _) (fun k h => h.elim)⟩
end Go.Proofs.Ytlbhfjmcjbjjgaa
