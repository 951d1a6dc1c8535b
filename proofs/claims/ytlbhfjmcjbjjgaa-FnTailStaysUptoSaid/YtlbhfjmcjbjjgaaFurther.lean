/-
  The walk of FnFurtherWords.
-/
import Derived.Test.YtlbhfjmcjbjjgaaHelpC
import Derived.Test.YtlbhfjmcjbjjgaaLocal
namespace Go.Proofs.Ytlbhfjmcjbjjgaa
open Go.RowKit
set_option linter.unusedVariables false

theorem take_reads {w : World} {a : Option Addr} {b : Nat} {xs : List Value} (t : Nat) (h : Reads w a b xs) : Reads w a b (xs.take t) := by
  intro hne
  obtain ⟨off, ha, hc⟩ := h (by intro h; apply hne; rw [h, List.take_nil])
  refine ⟨off, ha, fun i u hu => hc i u ?_⟩
  rw [List.getElem?_take] at hu
  split at hu
  · exact hu
  · cases hu
theorem words_cells (ws : List Nat) : ∀ u ∈ ws.map u64, u.oneCell' = true := by
  intro u hu
  obtain ⟨x, _, rfl⟩ := List.mem_map.1 hu
  rfl
theorem nums_cells (ws : List Nat) : ∀ u ∈ ws.map n64, u.oneCell' = true := by
  intro u hu
  obtain ⟨x, _, rfl⟩ := List.mem_map.1 hu
  rfl
theorem Inns.reads {w w' : World} {s g1 g2 : Nat} {L : List Inn} {ws ns : List Nat} {i : Nat} (h : Inns w w' s g1 g2 L) (hL : L.map Inn.xs = permsOf ws (script ws i ns)) (hn : ∀ n ∈ ns, n < 256) : InnsR w' L := by
  intro p hp
  refine ⟨(h p hp).1, ?_⟩
  have := perms_small ws i ns hn p.xs (by rw [← hL]; exact List.mem_map_of_mem hp)
  omega

set_option maxHeartbeats 1000000 in
theorem fnFurtherWords_walk (a0 : Option Addr) (len0 cap0 b0 : Nat) (ws0 : List Nat) (a1 : Option Addr) (len1 cap1 b1 : Nat) (ws1 : List Nat) (a2 : Option Addr) (len2 cap2 b2 : Nat) (ws2 : List Nat) (w : World) (A0 : Arg u64 18446744073709551616 8 w a0 len0 cap0 b0 ws0) (S0 : len0 ≤ 1048576) (A1 : Arg u8 256 1 w a1 len1 cap1 b1 ws1) (S1 : len1 ≤ 1048576) (A2 : Arg u64 18446744073709551616 8 w a2 len2 cap2 b2 ws2) (S2 : len2 ≤ 1048576) :
    Calls Try.prog 4 #[.slice a0 len0 cap0, .slice a1 len1 cap1, .slice a2 len2 cap2] w fun e w' => e = .returned (.bool true) ∧ Below w.heap.size w w' := by
  have hc1 := Lib.hid (sizes_any a1 b1 len1 cap1 ws1 w A1.length A1.fit A1.reads S1)
  have hnl : (ws1.map (· % 32)).length = len1 := by rw [List.length_map]; exact A1.length
  have hns : ∀ x ∈ ws1.map (· % 32), x < 32 := by
    intro x hx
    obtain ⟨y, _, rfl⟩ := List.mem_map.1 hx
    exact Nat.mod_lt _ (by omega)
  have hns2 : ∀ x ∈ ws1.map (· % 32), x < 256 := fun x hx => by have := hns x hx; omega
  generalize ws1.map (· % 32) = ns at *
  go_enter Try.func4, Try.ntmps4
  go_wp2_with fail
  refine hc1.out.mono ?_
  rintro e w1 ⟨gl, cl, rfl, hrl, hgl, hst1⟩
  have hc2 := Lib.hid (perms_any a0 b0 len0 cap0 ws0 (some ⟨gl, 0, none⟩) gl len1 cl ns w1 A0.size A0.fit (A0.reads.kept hst1 (fun h => h)) A0.nil (by omega) hnl (fun x hx => by have := hns x hx; omega) hrl.reads (by omega))
  clear hc1
  go_wp2_with fail
  refine hc2.out.mono ?_
  rintro e w2 ⟨L, g1, d1, g2, d2, rfl, hL, hr1, hr2, hI, hge2, hst2⟩
  have hrl2 := hrl.kept hst2 (fun h => h)
  have hst12 := hst1.trans hst2
  clear hc2 hrl hst1
  have HNL := Lib.hid hnl
  have HL0 := Lib.hid A0.length
  by_cases hz : len1 = 0
  · subst hz
    clear hnl
    go_wp2
    go_ret
    exact ⟨rfl, hst12.below (Nat.le_refl _) (fun k h => h.elim)⟩
  · have hgl := gone_last ws0 ns (by omega)
    rw [hnl] at hgl
    have cu : w2.cell? ⟨g2, len1 - 1, none⟩ = some (.int .i64 ((scriptEnd ws0 0 ns : Nat) : Int)) := hr2.cell (by rw [List.getElem?_map, hgl]; rfl)
    have hse := scriptEnd_le ws0 0 ns 1048576 (by omega) (by rw [HL0.out]; exact S0) (fun x hx => by have := hns x hx; omega)
    have hloc : scriptEnd ws0 0 ns ≤ len0 → permsOf (ws0.take (scriptEnd ws0 0 ns) ++ ws2) (script (ws0.take (scriptEnd ws0 0 ns) ++ ws2) 0 ns) = permsOf ws0 (script ws0 0 ns) ∧ goneOf (script (ws0.take (scriptEnd ws0 0 ns) ++ ws2) 0 ns) = goneOf (script ws0 0 ns) :=
      fun h => script_local ws0 _ 0 ns hns2 (fun t _ ht => wordAt_take ws0 ws2 _ t (by rw [HL0.out]; exact h) ht)
    have HLoc := Lib.hid hloc
    rw [hnl] at hse
    generalize scriptEnd ws0 0 ns = U at *
    have hl1 : (len1 : Int) - 1 = ((len1 - 1 : Nat) : Int) := by omega
    have hl2 : ((len1 : Int) == 0) = false := by simp; omega
    clear hnl hgl hloc
    by_cases hU : len0 < U
    · have hUi : (len0 : Int) < (U : Int) := by omega
      go_wp2
      go_ret
      exact ⟨rfl, hst12.below (Nat.le_refl _) (fun k h => h.elim)⟩
    · have hUi : ¬ (len0 : Int) < (U : Int) := by omega
      have hUd : decide ((len0 : Int) < (U : Int)) = false := decide_eq_false hUi
      have hU0 : ¬ (U : Int) < 0 := by omega
      have hcap := A0.le
      have hcap2 := A0.top
      unfold maxLen at hcap2
      have hstA : Still w2 (w2.alloc (.cells #[] 28)) := (Turned.refl _ _).alloc _
      have htl : ((ws0.take U).map u64).length = U := by rw [List.length_map, List.length_take, HL0.out]; omega
      have hrT : Reads (w2.alloc (.cells #[] 28)) a0 b0 ((ws0.take U).map u64) := by
        rw [List.map_take]
        exact take_reads U (A0.reads.kept (hst12.trans hstA) (fun h => h))
      have cuA := hstA.cell cu (fun h => h)
      go_wp2_with (at_builtin; refine wpList_pushes rfl _ _ 22 rfl 28 (.int .u64 0) 8 Try.underlying22 Try.infoU64 rfl w2.heap.size 0 0 [] rfl (Row.empty w2 28) a0 b0 U cap0 ((ws0.take U).map u64) htl (words_cells _) rfl hrT A0.nil (by omega) (by omega) ?_)
      intro g3 c3 w3 hr3 hat3 hT3
      have hz2 := hst12.size
      have hst3 : Still w w3 := (hst12.trans hstA).then hT3 (fun k hk e => by omega)
      have hst23 : Still w2 w3 := hstA.then hT3 (fun k hk e => by omega)
      have hlt3 := hr3.lt
      clear hrT htl hT3
      go_wp2_with (at_builtin; refine wpList_pushes rfl _ _ 22 rfl 28 (.int .u64 0) 8 Try.underlying22 Try.infoU64 rfl g3 U c3 _ rfl hr3 a2 b2 len2 cap2 (ws2.map u64) A2.size (words_cells _) rfl (A2.reads.kept hst3 (fun h => h)) A2.nil (by omega) (by omega) ?_)
      intro g4 c4 w4 hr4 hat4 hT4
      have hg3 : w2.heap.size ≤ g3 := by first | omega | (simp only [World.size_alloc] at hat3; omega)
      have hst4 : Still w w4 := hst3.then hT4 (fun k hk e => by omega)
      have hst24 : Still w2 w4 := hst23.then hT4 (fun k hk e => by omega)
      rw [← List.map_take, ← List.map_append] at hr4
      have hl4 : ((ws0.take U ++ ws2).map u64).length = U + len2 := hr4.len
      have hrl4 := hrl2.kept hst24 (fun h => h)
      have hc5 := Lib.hid (perms_any (some ⟨g4, 0, none⟩) g4 (U + len2) c4 (ws0.take U ++ ws2) (some ⟨gl, 0, none⟩) gl len1 cl ns w4 hl4 (fun x hx => by
        rcases List.mem_append.1 hx with h | h
        · exact A0.fit x (List.mem_of_mem_take h)
        · exact A2.fit x h) hr4.reads (fun h => by cases h) (by omega) HNL.out (fun x hx => by have := hns x hx; omega) hrl4.reads (by omega))
      have hloc := HLoc.out (by omega)
      rw [hloc.1, hloc.2] at hc5
      clear hloc hst3 hst23 hst12 hr3 hrl2 hrl4 hat3 hat4 hT4 hl4 hr4 hstA
      go_wp2_with fail
      refine hc5.out.mono ?_
      rintro e w5 ⟨M, g5, d5, g6, d6, rfl, hM, hr5, hr6, hJ, hge5, hst5⟩
      have hst25 := hst24.trans hst5
      have hrL := hI.reads hL hns2
      have hrM := hJ.reads (ws := ws0) (i := 0) (ns := ns) hM hns2
      have hLl : L.length = len1 := by have := hr1.len; simpa using this
      have hMl : M.length = len1 := by have := hr5.len; simpa using this
      have hc6 := Lib.hid (sameLists_any (some ⟨g1, 0, none⟩) (some ⟨g5, 0, none⟩) len1 d1 len1 d5 g1 g5 L M w5 hLl hMl (hr1.kept hst25 (fun h => h)).reads hr5.reads (hrL.kept hst25) hrM (by omega))
      have hgol : (goneOf (script ws0 0 ns)).length = len1 := by have := hr2.len; simpa using this
      have hq : ∀ q, Hid (Calls Try.prog 12 #[.slice (some ⟨g2, 0, none⟩) len1 d2, .slice (some ⟨g6, 0, none⟩) len1 d6] (w5.drewN q) fun e w' => e = .returned (.bool (decide (goneOf (script ws0 0 ns) = goneOf (script ws0 0 ns)))) ∧ ∃ k, w' = (w5.drewN q).drewN k) := fun q =>
        sameNats_any (some ⟨g2, 0, none⟩) (some ⟨g6, 0, none⟩) len1 d2 len1 d6 g2 g6 _ _ (w5.drewN q) hgol hgol ((hr2.kept hst25 (fun h => h)).kept ((Turned.refl (fun _ => False) _).drewN q) (fun h => h)).reads (hr6.kept ((Turned.refl (fun _ => False) _).drewN q) (fun h => h)).reads (by omega)
      rw [hL, hM, decide_eq_true (Eq.refl (permsOf ws0 (script ws0 0 ns)))] at hc6
      rw [decide_eq_true (Eq.refl (goneOf (script ws0 0 ns)))] at hq
      clear hc5 hrL hrM hLl hMl hgol hr1 hr2 hr5 hr6 hI hJ hL hM cu cuA
      go_wp2_with fail
      refine hc6.out.mono ?_
      rintro e w6 ⟨rfl, q, rfl⟩
      have hc7 := hq q
      have hst6 : Still w5 (w5.drewN q) := (Turned.refl _ _).drewN q
      generalize w5.drewN q = w6 at *
      clear hq hc6
      go_wp2_with fail
      refine hc7.out.mono ?_
      rintro e w7 ⟨rfl, q7, rfl⟩
      go_wp2
      go_ret
      exact ⟨rfl, (((hst4.trans hst5).trans hst6).drewN q7).below (Nat.le_refl _) (fun k h => h.elim)⟩
end Go.Proofs.Ytlbhfjmcjbjjgaa
