/-
  The walk of FnScriptInTwo.
-/
import Derived.Test.YtlbhfjmcjbjjgaaFurther
import Derived.Test.YtlbhfjmcjbjjgaaSlice
import Derived.Test.YtlbhfjmcjbjjgaaPermIs
import Derived.Deep.RegionWith
namespace Go.Proofs.Ytlbhfjmcjbjjgaa
open Go.RowKit
set_option linter.unusedVariables false

theorem Try.elemW : Try.prog.elem 22 = 28 := by kernel_rfl
theorem Try.undW : Try.prog.underlying 22 = some (.slice (Try.prog.elem 22)) := by kernel_rfl
theorem Try.sizeW (w : World) : (sizeOf 28).run Try.prog w = .ok 1 w := by kernel_rfl
theorem Try.elemI : Try.prog.elem 23 = 3 := by kernel_rfl
theorem Try.undI : Try.prog.underlying 23 = some (.slice (Try.prog.elem 23)) := by kernel_rfl
theorem Try.sizeI (w : World) : (sizeOf 3).run Try.prog w = .ok 1 w := by kernel_rfl

theorem vals_cells (L : List Inn) : ∀ u ∈ L.map Inn.val, u.oneCell' = true := by
  intro u hu
  obtain ⟨x, _, rfl⟩ := List.mem_map.1 hu
  rfl

set_option maxRecDepth 100000 in
set_option maxHeartbeats 2000000 in
theorem fnScriptInTwo_walk (a0 : Option Addr) (len0 cap0 b0 : Nat) (ws0 : List Nat) (a1 : Option Addr) (len1 cap1 b1 : Nat) (ws1 : List Nat) (z2 : Int) (w : World) (A0 : Arg u64 18446744073709551616 8 w a0 len0 cap0 b0 ws0) (S0 : len0 ≤ 1048576) (A1 : Arg u8 256 1 w a1 len1 cap1 b1 ws1) (S1 : len1 ≤ 1048576) (l2 : -9223372036854775808 ≤ z2 ∧ z2 ≤ 9223372036854775807) :
    Calls Try.prog 5 #[.slice a0 len0 cap0, .slice a1 len1 cap1, .int .i64 z2] w fun e w' => e = .returned (.bool true) ∧ Below w.heap.size w w' := by
  have hc1 := Lib.hid (sizes_any a1 b1 len1 cap1 ws1 w A1.length A1.fit A1.reads S1)
  have hnl : (ws1.map (· % 32)).length = len1 := by rw [List.length_map]; exact A1.length
  have hns : ∀ x ∈ ws1.map (· % 32), x < 32 := by
    intro x hx
    obtain ⟨y, _, rfl⟩ := List.mem_map.1 hx
    exact Nat.mod_lt _ (by omega)
  have hns2 : ∀ x ∈ ws1.map (· % 32), x < 256 := fun x hx => by have := hns x hx; omega
  have hns3 : ∀ x ∈ ws1.map (· % 32), x ≤ 256 := fun x hx => by have := hns x hx; omega
  generalize ws1.map (· % 32) = ns at *
  have HL0 := Lib.hid A0.length
  obtain ⟨kk, hand, hkk⟩ : ∃ kk : Nat, bits .and .i64 z2 65535 = (kk : Int) ∧ kk < 65536 := ⟨(z2 % 65536).toNat, by rw [and65535]; omega, by omega⟩
  have hat1 : kk % (len1 + 1) < len1 + 1 := Nat.mod_lt _ (by omega)
  have hat2 : (kk : Int) % ((len1 : Int) + 1) = ((kk % (len1 + 1) : Nat) : Int) := by rw [show (len1 : Int) + 1 = ((len1 + 1 : Nat) : Int) by omega]; rfl
  have hat3 : (kk : Int).tmod ((len1 : Int) + 1) = ((kk % (len1 + 1) : Nat) : Int) := by rw [show (len1 : Int) + 1 = ((len1 + 1 : Nat) : Int) by omega]; rfl
  generalize kk % (len1 + 1) = t at *
  have htL : t ≤ len1 := by omega
  go_enter Try.func5, Try.ntmps5
  go_wp2_with fail
  refine hc1.out.mono ?_
  rintro e w1 ⟨gl, cl, rfl, hrl, hgl, hst1⟩
  have hc2 := Lib.hid (perms_any a0 b0 len0 cap0 ws0 (some ⟨gl, 0, none⟩) gl len1 cl ns w1 A0.size A0.fit (A0.reads.kept hst1 (fun h => h)) A0.nil (by omega) hnl hns3 hrl.reads (by omega))
  have HNL := Lib.hid hnl
  have hcl := hrl.le
  have hcM := hrl.max
  unfold maxLen at hcM
  clear hc1 hnl
  go_wp2_with fail
  refine hc2.out.mono ?_
  rintro e w2 ⟨L, g1, d1, g2, d2, rfl, hL, hr1, hr2, hI, hge2, hst2⟩
  have hrl2 := hrl.kept hst2 (fun h => h)
  have hst12 := hst1.trans hst2
  have hz01 := hst1.size
  have hlt : (ns.take t).length = t := by rw [List.length_take, HNL.out]; omega
  have HLT := Lib.hid hlt
  have rT : Reads w2 (some ⟨gl, 0, none⟩) gl ((ns.take t).map n64) := by rw [List.map_take]; exact take_reads t hrl2.reads
  have hc3 := Lib.hid (perms_any a0 b0 len0 cap0 ws0 (some ⟨gl, 0, none⟩) gl t cl (ns.take t) w2 A0.size A0.fit (A0.reads.kept hst12 (fun h => h)) A0.nil (by omega) hlt (fun x hx => hns3 x (List.mem_of_mem_take hx)) rT (by omega))
  clear hc2 hrl hst1 hlt rT hat2 hat3 hand
  go_wp2_with fail
  refine hc3.out.mono ?_
  rintro e w3 ⟨F, g3, d3, g4, d4, rfl, hF, hr3, hr4, hJ, hge3, hst3⟩
  have hrl3 := hrl2.kept hst3 (fun h => h)
  have hst13 := hst12.trans hst3
  have hr1' := hr1.kept hst3 (fun h => h)
  have hr2' := hr2.kept hst3 (fun h => h)
  have hrL : InnsR w3 L := (hI.reads hL hns2).kept hst3
  have hrF : InnsR w3 F := hJ.reads hF (fun x hx => hns2 x (List.mem_of_mem_take hx))
  have hwlt : g1 < w3.heap.size ∧ g2 < w3.heap.size ∧ gl < w3.heap.size := ⟨hr1'.lt, hr2'.lt, hrl3.lt⟩
  have hz23 := hst2.size
  have hLlt : ∀ p ∈ L, p.g < w2.heap.size := fun p hp => (hI p hp).1.lt
  have hFn : ∀ p ∈ F, w2.heap.size ≤ p.g ∧ p.g ≠ g3 ∧ p.g ≠ g4 := fun p hp => ⟨(hJ p hp).2.1, (hJ p hp).2.2.2.1, (hJ p hp).2.2.2.2⟩
  have hg12 : g1 < w2.heap.size ∧ g2 < w2.heap.size := ⟨hr1.lt, hr2.lt⟩
  have hLl : L.length = len1 := by have := hr1.len; simpa using this
  have hFl : F.length = t := by have := hr3.len; simpa using this
  have hul : (goneOf (script ws0 0 ns)).length = len1 := by have := hr2.len; simpa using this
  have HLl := Lib.hid hLl
  have HFl := Lib.hid hFl
  have HUl := Lib.hid hul
  obtain ⟨htwo1, htwo2⟩ := script_two ws0 ns t
  have HT1 := Lib.hid htwo1
  have HT2 := Lib.hid htwo2
  have hse := scriptEnd_le ws0 0 (ns.take t) 1048576 (by omega) (by rw [HL0.out]; exact S0) (fun x hx => hns3 x (List.mem_of_mem_take hx))
  rw [HLT.out] at hse
  have hcap := A0.le
  have htop := A0.top
  unfold maxLen at htop
  clear hc3 hrl2 hst12 hr1 hr2 hI hJ hLl hFl hul htwo1 htwo2
  by_cases ht0 : 0 < t
  · have hgq := gone_last ws0 (ns.take t) (by rw [HLT.out]; exact ht0)
    rw [HLT.out] at hgq
    have cq : w3.cell? ⟨g4, t - 1, none⟩ = some (.int .i64 ((scriptEnd ws0 0 (ns.take t) : Nat) : Int)) := hr4.cell (by rw [List.getElem?_map, hgq]; rfl)
    have ht1 : (t : Int) - 1 = ((t - 1 : Nat) : Int) := by omega
    clear hgq
    generalize scriptEnd ws0 0 (ns.take t) = q at *
    obtain ⟨qm, hqm, hmin, hmin2⟩ : ∃ qm : Nat, qm = min q len0 ∧ (if (len0 : Int) < (q : Int) then (len0 : Int) else (q : Int)) = (qm : Int) ∧ (if len0 < q then (len0 : Int) else (q : Int)) = (qm : Int) := by
      by_cases h : len0 < q
      · exact ⟨len0, by omega, by rw [if_pos (by omega)], by rw [if_pos h]⟩
      · exact ⟨q, by omega, by rw [if_neg (by omega)], by rw [if_neg h]⟩
    have hqml : qm ≤ len0 := by omega
    have hdrop : ws0.drop q = ws0.drop qm := by
      by_cases h : q ≤ len0
      · rw [show qm = q by omega]
      · rw [List.drop_of_length_le (by rw [HL0.out]; omega), List.drop_of_length_le (by rw [HL0.out]; omega)]
    have HQ := Lib.hid hdrop
    clear hdrop hqm
    have hq0 : ¬ (q : Int) < 0 := by omega
    have cR : CutAt a0 (if cap0 = qm then a0 else Option.map (fun x => x.add qm) a0) len0 cap0 qm := by
      have := cutAt_mk a0 len0 cap0 qm hcap
      simpa only [Nat.mul_one] using this
    have cN : CutAt (some ⟨gl, 0, none⟩) (if cl = t then some (⟨gl, 0, none⟩ : Addr) else some ⟨gl, t, none⟩) len1 cl t := by
      have := cutAt_mk (some ⟨gl, 0, none⟩) len1 cl t hcl
      have e : (⟨gl, 0, none⟩ : Addr).add t = ⟨gl, t, none⟩ := by unfold Addr.add; split <;> simp_all
      simp only [Nat.mul_one, Option.map_some, e] at this
      exact this
    generalize hifR : (if cap0 = qm then a0 else Option.map (fun x => x.add qm) a0) = aR at *
    generalize hifN : (if cl = t then some (⟨gl, 0, none⟩ : Addr) else some ⟨gl, t, none⟩) = aN at *
    have hRl : ((ws0.drop q).map u64).length = len0 - qm := by rw [HQ.out, List.length_map, List.length_drop, HL0.out]
    have hRn : aR = none → cap0 - qm = 0 := fun h => by have := A0.nil (cR.nil h); omega
    have hNl : (ns.drop t).length = len1 - t := by rw [List.length_drop, HNL.out]
    have hcall : ∀ w4, Still w3 w4 → Calls Try.prog 16 #[.slice aR (len0 - qm) (cap0 - qm), .slice aN (len1 - t) (cl - t)] w4 (ManyPost w4 (len1 - t) (permsOf (ws0.drop q) (script (ws0.drop q) 0 (ns.drop t))) (goneOf (script (ws0.drop q) 0 (ns.drop t)))) := by
      intro w4 hstD
      have hRr : Reads w4 aR b0 ((ws0.drop q).map u64) := by rw [HQ.out, List.map_drop]; exact cR.reads w4 b0 _ A0.size (A0.reads.kept (hst13.trans hstD) (fun h => h))
      have hNr : Reads w4 aN gl ((ns.drop t).map n64) := by rw [List.map_drop]; exact cN.reads w4 gl _ hrl3.len (hrl3.kept hstD (fun h => h)).reads
      exact perms_any aR b0 (len0 - qm) (cap0 - qm) (ws0.drop q) aN gl (len1 - t) (cl - t) (ns.drop t) w4 hRl (fun x hx => A0.fit x (List.mem_of_mem_drop hx)) hRr hRn (by omega) hNl (fun x hx => hns3 x (List.mem_of_mem_drop hx)) hNr (by omega)
    have HC := Lib.hid hcall
    have hstD : Still w3 w3.drew := (Turned.refl _ _).drew
    clear cR cN hRl hRn hcall
    go_wp2_with fail
    go_region_with (go_at_call 16; refine (HC.out _ hstD).mono ?_; rintro e w5 ⟨M, g5, d5, g6, d6, rfl, hM, hr5, hr6, hK, hge5, hst5⟩)
    generalize w3.drew = w4 at *
    have hst35 := hstD.trans hst5
    have hz34 := hstD.size
    have hrM : InnsR w5 M := hK.reads hM (fun x hx => hns2 x (List.mem_of_mem_drop hx))
    have hMn : ∀ p ∈ M, w3.heap.size ≤ p.g := fun p hp => by have := (hK p hp).2.1; omega
    have hml : M.length = len1 - t := by have := hr5.len; simpa using this
    have hsl : (goneOf (script (ws0.drop q) 0 (ns.drop t))).length = len1 - t := by have := hr6.len; simpa using this
    have HMl := Lib.hid hml
    have HSl := Lib.hid hsl
    have hsm : ∀ x ∈ goneOf (script (ws0.drop q) 0 (ns.drop t)), x ≤ 1048576 + 256 * 1048576 := by
      intro x hx
      obtain ⟨i, hi, rfl⟩ := List.mem_iff_getElem.1 hx
      have hil : i < (ns.drop t).length := by rw [goneOf_length, script_length] at hi; exact hi
      have hg := script_get (ws0.drop q) 0 (ns.drop t) i hil
      have hst := (script_take (ws0.drop q) 0 (ns.drop t) i hil).2
      have hle := scriptEnd_le (ws0.drop q) 0 ((ns.drop t).take (i + 1)) 1048576 (by omega) (by rw [List.length_drop, HL0.out]; omega) (fun x hx => hns3 x (List.mem_of_mem_drop (List.mem_of_mem_take hx)))
      have hlen : ((ns.drop t).take (i + 1)).length ≤ 1048576 := by rw [List.length_take]; rw [hNl] at hil; omega
      have hx2 : (goneOf (script (ws0.drop q) 0 (ns.drop t)))[i] = pend (ws0.drop q) ((ns.drop t)[i] - 1) (scriptEnd (ws0.drop q) 0 ((ns.drop t).take i)) := by
        have : (goneOf (script (ws0.drop q) 0 (ns.drop t)))[i]? = some (pend (ws0.drop q) ((ns.drop t)[i] - 1) (scriptEnd (ws0.drop q) 0 ((ns.drop t).take i))) := by rw [goneOf, List.getElem?_map, hg]; rfl
        rw [List.getElem?_eq_getElem hi] at this
        simpa using this
      rw [hx2, ← hst]
      omega
    have hr3' := hr3.kept hst35 (fun h => h)
    have hr4' := hr4.kept hst35 (fun h => h)
    have hl4 := hr4.lt
    have hl3 := hr3.lt
    have hFlt : ∀ p ∈ F, p.g < w3.heap.size := fun p hp => (hrF p hp).1.lt
    have hg56 : w3.heap.size ≤ g5 ∧ w3.heap.size ≤ g6 := by omega
    generalize goneOf (script (ws0.drop q) 0 (ns.drop t)) = two at *
    generalize goneOf (script ws0 0 (ns.take t)) = fst at *
    clear HC hr3 hr4 hK hml hsl hNl hifR hifN hmin hmin2
    go_wp2_with fail
    go_loopg [12, 88] (len1 - t) (fun k o i wr => ∃ j g c : Nat, k = len1 - t - j ∧ j ≤ len1 - t ∧ o = .slice (some ⟨g, 0, none⟩) (t + j) c ∧ i = .int .i64 (j : Int) ∧ Row wr 3 g (t + j) c ((fst ++ (two.take j).map (q + ·)).map n64) ∧ (g = g4 ∨ w5.heap.size ≤ g) ∧ Turns g4 w5 wr)
    case atStart =>
      refine ⟨0, g4, d4, rfl, Nat.zero_le _, rfl, rfl, ?_, .inl rfl, Turned.refl _ _⟩
      simpa using hr4'
    case round =>
      obtain ⟨j, g, c, hk, hj, rfl, rfl, hr, hat, hT⟩ := hrel
      have Hk := Lib.hid hk
      have hz5 := hst5.size
      clear hk hr4'
      by_cases hlt : j < len1 - t
      · have hj2 : j < two.length := by rw [HSl.out]; exact hlt
        have c6 : wr.cell? ⟨g6, j, none⟩ = some (.int .i64 (two[j] : Nat)) := (hr6.kept hT (by omega)).cell (by rw [List.getElem?_map, List.getElem?_eq_getElem hj2]; rfl)
        have hx := hsm two[j] (List.getElem_mem hj2)
        have Ht := Lib.hid (List.take_succ_eq_append_getElem hj2)
        generalize two[j] = x at *
        go_wp2_with (at_builtin; refine wpList_push rfl _ _ 23 rfl 3 (.int .i64 0) 8 Try.underlying23 Try.infoInt rfl g (t + j) c _ rfl hr (.int .i64 ((q : Int) + (x : Int))) rfl rfl (by omega) (by omega) ?_)
        intro g' c' w6 hr6' hat6 hT6
        have hz6 := hT.size
        have hT6' : Turns g4 w5 w6 := hT.then hT6 (fun k hk e => by omega)
        go_wp2
        go_roundg (len1 - t - (j + 1))
        case measure => rw [Hk.out]; omega
        case rel =>
          refine ⟨j + 1, g', c', rfl, by omega, rfl, by go_num, ?_, by omega, hT6'⟩
          rw [Ht.out, List.map_append, List.map_append, List.map_append, List.map_map, List.map_take]
          exact hr6'
      · obtain rfl : len1 - t = j := by omega
        rw [List.take_of_length_le (by rw [HSl.out]; exact Nat.le_refl _), ← HT2.out] at hr
        rw [show t + (len1 - t) = len1 by omega] at hr
        rw [show t + (len1 - t) = len1 by omega]
        have k3 := hr3'.kept hT (by omega)
        have k5 := hr5.kept hT (by omega)
        have k1 := (hr1'.kept hst35 (fun h => h)).kept hT (by omega)
        have k2 := (hr2'.kept hst35 (fun h => h)).kept hT (by omega)
        have kL : InnsR wr L := fun p hp => ⟨((hrL.kept hst35) p hp).1.kept hT (by have := hLlt p hp; omega), (hrL p hp).2⟩
        have kF : InnsR wr F := fun p hp => ⟨((hrF.kept hst35) p hp).1.kept hT (hFn p hp).2.2, (hrF p hp).2⟩
        have kM : InnsR wr M := fun p hp => ⟨(hrM p hp).1.kept hT (by have := hMn p hp; omega), (hrM p hp).2⟩
        have hst5' : Turns g4 w3 wr := (hst35.mono (fun _ _ h => h.elim)).trans hT
        clear hr3' hr5 hr6 hrM hst35 hst5 hT
        go_wp2_with (at_builtin; refine wpList_pushes rfl _ _ 34 rfl 23 (.slice none 0 0) 24 Try.underlying34 Try.infoInts rfl g3 t d3 _ rfl k3 (some ⟨g5, 0, none⟩) g5 (len1 - t) d5 (M.map Inn.val) (by rw [List.length_map]; exact HMl.out) (vals_cells M) rfl k5.reads (fun h => by cases h) (by omega) (by omega) ?_)
        intro g7 c7 w7 hr7 hat7 hT7
        rw [← List.map_append] at hr7
        have m1 := k1.kept hT7 (by omega)
        have m2 := k2.kept hT7 (by omega)
        have m4 := hr.kept hT7 (by omega)
        have mL : InnsR w7 L := fun p hp => ⟨(kL p hp).1.kept hT7 (by have := hLlt p hp; omega), (kL p hp).2⟩
        have mFM : InnsR w7 (F ++ M) := by
          intro p hp
          rcases List.mem_append.1 hp with hp | hp
          · exact ⟨(kF p hp).1.kept hT7 (hFn p hp).2.1, (kF p hp).2⟩
          · exact ⟨(kM p hp).1.kept hT7 (by have := hMn p hp; omega), (kM p hp).2⟩
        have hfin : Turned (fun k => k = g4 ∨ k = g3) w3 w7 := (hst5'.mono (fun k _ e => .inl e)).trans (hT7.mono (fun k _ e => .inr e))
        have hst7 : Still w w7 := hst13.then hfin (fun k hk e => by omega)
        have hc8 := Lib.hid (sameLists_any (some ⟨g1, 0, none⟩) (some ⟨g7, 0, none⟩) len1 d1 len1 c7 g1 g7 L (F ++ M) w7 HLl.out (by rw [List.length_append, HFl.out, HMl.out]; omega) m1.reads hr7.reads mL mFM (by omega))
        have hq : ∀ y, Hid (Calls Try.prog 12 #[.slice (some ⟨g2, 0, none⟩) len1 d2, .slice (some ⟨g, 0, none⟩) len1 c] (w7.drewN y) fun e w' => e = .returned (.bool (decide (goneOf (script ws0 0 ns) = goneOf (script ws0 0 ns)))) ∧ ∃ k, w' = (w7.drewN y).drewN k) := fun y =>
          sameNats_any (some ⟨g2, 0, none⟩) (some ⟨g, 0, none⟩) len1 d2 len1 c g2 g _ _ (w7.drewN y) HUl.out HUl.out (m2.kept ((Turned.refl (fun _ => False) _).drewN y) (fun h => h)).reads (m4.kept ((Turned.refl (fun _ => False) _).drewN y) (fun h => h)).reads (by omega)
        rw [decide_eq_true (show L.map Inn.xs = (F ++ M).map Inn.xs by rw [List.map_append, hL, hF, hM]; exact HT1.out)] at hc8
        rw [decide_eq_true (Eq.refl (goneOf (script ws0 0 ns)))] at hq
        clear k1 k2 k3 k5 kL kF kM m1 m2 m4 mL mFM hr7 hr hT7 hst5'
        go_wp2_with fail
        refine hc8.out.mono ?_
        rintro e w8 ⟨rfl, y, rfl⟩
        have hc9 := hq y
        have hst8 : Still w7 (w7.drewN y) := (Turned.refl _ _).drewN y
        generalize w7.drewN y = w8 at *
        clear hq hc8
        go_wp2_with fail
        refine hc9.out.mono ?_
        rintro e w9 ⟨rfl, y9, rfl⟩
        go_wp2
        go_ret
        exact ⟨rfl, ((hst7.trans hst8).drewN y9).below (Nat.le_refl _) (fun k h => h.elim)⟩
  · obtain rfl : t = 0 := by omega
    have hcall : ∀ w4, Still w3 w4 → Calls Try.prog 16 #[.slice a0 len0 cap0, .slice (some ⟨gl, 0, none⟩) len1 cl] w4 (ManyPost w4 len1 (permsOf ws0 (script ws0 0 ns)) (goneOf (script ws0 0 ns))) := fun w4 hstD =>
      perms_any a0 b0 len0 cap0 ws0 (some ⟨gl, 0, none⟩) gl len1 cl ns w4 A0.size A0.fit (A0.reads.kept (hst13.trans hstD) (fun h => h)) A0.nil (by omega) HNL.out hns3 (hrl3.kept hstD (fun h => h)).reads (by omega)
    have HC := Lib.hid hcall
    have hstD : Still w3 w3.drew := (Turned.refl _ _).drew
    clear hcall
    go_wp2_with fail
    go_region_with (go_at_call 16; refine (HC.out _ hstD).mono ?_; rintro e w5 ⟨M, g5, d5, g6, d6, rfl, hM, hr5, hr6, hK, hge5, hst5⟩)
    generalize w3.drew = w4 at *
    have hst35 := hstD.trans hst5
    have hz34 := hstD.size
    have hrM : InnsR w5 M := hK.reads hM hns2
    have hMn : ∀ p ∈ M, w3.heap.size ≤ p.g := fun p hp => by have := (hK p hp).2.1; omega
    have hml : M.length = len1 := by have := hr5.len; simpa using this
    have HMl := Lib.hid hml
    have hsm : ∀ x ∈ goneOf (script ws0 0 ns), x ≤ 1048576 + 256 * 1048576 := by
      intro x hx
      obtain ⟨i, hi, rfl⟩ := List.mem_iff_getElem.1 hx
      have hil : i < ns.length := by rw [goneOf_length, script_length] at hi; exact hi
      have hg := script_get ws0 0 ns i hil
      have hst := (script_take ws0 0 ns i hil).2
      have hle := scriptEnd_le ws0 0 (ns.take (i + 1)) 1048576 (by omega) (by rw [HL0.out]; omega) (fun x hx => hns3 x (List.mem_of_mem_take hx))
      have hlen : (ns.take (i + 1)).length ≤ 1048576 := by rw [List.length_take]; rw [HNL.out] at hil; omega
      have hx2 : (goneOf (script ws0 0 ns))[i] = pend ws0 (ns[i] - 1) (scriptEnd ws0 0 (ns.take i)) := by
        have : (goneOf (script ws0 0 ns))[i]? = some (pend ws0 (ns[i] - 1) (scriptEnd ws0 0 (ns.take i))) := by rw [goneOf, List.getElem?_map, hg]; rfl
        rw [List.getElem?_eq_getElem hi] at this
        simpa using this
      rw [hx2, ← hst]
      omega
    have hr3' := hr3.kept hst35 (fun h => h)
    have hr4' := hr4.kept hst35 (fun h => h)
    have hl4 := hr4.lt
    have hl3 := hr3.lt
    have hg56 : w3.heap.size ≤ g5 ∧ w3.heap.size ≤ g6 := by omega
    have hF0 : F = [] := List.eq_nil_of_length_eq_zero HFl.out
    subst hF0
    generalize goneOf (script ws0 0 ns) = two at *
    clear HC hr3 hr4 hK hml HT1 HT2
    go_wp2_with fail
    go_loopg [12, 88] len1 (fun k o i wr => ∃ j g c : Nat, k = len1 - j ∧ j ≤ len1 ∧ o = .slice (some ⟨g, 0, none⟩) j c ∧ i = .int .i64 (j : Int) ∧ Row wr 3 g j c ((two.take j).map n64) ∧ (g = g4 ∨ w5.heap.size ≤ g) ∧ Turns g4 w5 wr)
    case atStart =>
      exact ⟨0, g4, d4, rfl, Nat.zero_le _, rfl, rfl, hr4', .inl rfl, Turned.refl _ _⟩
    case round =>
      obtain ⟨j, g, c, hk, hj, rfl, rfl, hr, hat, hT⟩ := hrel
      have Hk := Lib.hid hk
      have hz5 := hst5.size
      clear hk hr4'
      by_cases hlt : j < len1
      · have hj2 : j < two.length := by rw [HUl.out]; exact hlt
        have c6 : wr.cell? ⟨g6, j, none⟩ = some (.int .i64 (two[j] : Nat)) := (hr6.kept hT (by omega)).cell (by rw [List.getElem?_map, List.getElem?_eq_getElem hj2]; rfl)
        have hx := hsm two[j] (List.getElem_mem hj2)
        have Ht := Lib.hid (List.take_succ_eq_append_getElem hj2)
        generalize two[j] = x at *
        go_wp2_with (at_builtin; refine wpList_push rfl _ _ 23 rfl 3 (.int .i64 0) 8 Try.underlying23 Try.infoInt rfl g j c _ rfl hr (.int .i64 (x : Int)) rfl rfl (by omega) (by omega) ?_)
        intro g' c' w6 hr6' hat6 hT6
        have hz6 := hT.size
        have hT6' : Turns g4 w5 w6 := hT.then hT6 (fun k hk e => by omega)
        go_wp2
        go_roundg (len1 - (j + 1))
        case measure => rw [Hk.out]; omega
        case rel =>
          refine ⟨j + 1, g', c', rfl, by omega, rfl, by go_num, ?_, by omega, hT6'⟩
          rw [Ht.out, List.map_append]
          first | exact hr6' | (rw [List.map_take]; exact hr6')
      · obtain rfl : len1 = j := by omega
        rw [List.take_of_length_le (by rw [HUl.out]; exact Nat.le_refl _)] at hr
        have k3 := hr3'.kept hT (by omega)
        have k5 := hr5.kept hT (by omega)
        have k1 := (hr1'.kept hst35 (fun h => h)).kept hT (by omega)
        have k2 := (hr2'.kept hst35 (fun h => h)).kept hT (by omega)
        have kL : InnsR wr L := fun p hp => ⟨((hrL.kept hst35) p hp).1.kept hT (by have := hLlt p hp; omega), (hrL p hp).2⟩
        have kM : InnsR wr M := fun p hp => ⟨(hrM p hp).1.kept hT (by have := hMn p hp; omega), (hrM p hp).2⟩
        have hst5' : Turns g4 w3 wr := (hst35.mono (fun _ _ h => h.elim)).trans hT
        clear hr3' hr5 hr6 hrM hst35 hst5 hT
        go_wp2_with (at_builtin; refine wpList_pushes rfl _ _ 34 rfl 23 (.slice none 0 0) 24 Try.underlying34 Try.infoInts rfl g3 0 d3 _ rfl k3 (some ⟨g5, 0, none⟩) g5 len1 d5 (M.map Inn.val) (by rw [List.length_map]; exact HMl.out) (vals_cells M) rfl k5.reads (fun h => by cases h) (by omega) (by omega) ?_)
        intro g7 c7 w7 hr7 hat7 hT7
        have hr7 : Row w7 23 g7 len1 c7 (M.map Inn.val) := by simpa using hr7
        have m1 := k1.kept hT7 (by omega)
        have m2 := k2.kept hT7 (by omega)
        have m4 := hr.kept hT7 (by omega)
        have mL : InnsR w7 L := fun p hp => ⟨(kL p hp).1.kept hT7 (by have := hLlt p hp; omega), (kL p hp).2⟩
        have mM : InnsR w7 M := fun p hp => ⟨(kM p hp).1.kept hT7 (by have := hMn p hp; omega), (kM p hp).2⟩
        have hfin : Turned (fun k => k = g4 ∨ k = g3) w3 w7 := (hst5'.mono (fun k _ e => .inl e)).trans (hT7.mono (fun k _ e => .inr e))
        have hst7 : Still w w7 := hst13.then hfin (fun k hk e => by omega)
        have hc8 := Lib.hid (sameLists_any (some ⟨g1, 0, none⟩) (some ⟨g7, 0, none⟩) len1 d1 len1 c7 g1 g7 L M w7 HLl.out HMl.out m1.reads hr7.reads mL mM (by omega))
        have hq : ∀ y, Hid (Calls Try.prog 12 #[.slice (some ⟨g2, 0, none⟩) len1 d2, .slice (some ⟨g, 0, none⟩) len1 c] (w7.drewN y) fun e w' => e = .returned (.bool (decide (two = two))) ∧ ∃ k, w' = (w7.drewN y).drewN k) := fun y =>
          sameNats_any (some ⟨g2, 0, none⟩) (some ⟨g, 0, none⟩) len1 d2 len1 c g2 g _ _ (w7.drewN y) HUl.out HUl.out (m2.kept ((Turned.refl (fun _ => False) _).drewN y) (fun h => h)).reads (m4.kept ((Turned.refl (fun _ => False) _).drewN y) (fun h => h)).reads (by omega)
        rw [decide_eq_true (show L.map Inn.xs = M.map Inn.xs by rw [hL, hM])] at hc8
        rw [decide_eq_true (Eq.refl two)] at hq
        clear k1 k2 k3 k5 kL kM m1 m2 m4 mL mM hr7 hr hT7 hst5'
        go_wp2_with fail
        refine hc8.out.mono ?_
        rintro e w8 ⟨rfl, y, rfl⟩
        have hc9 := hq y
        have hst8 : Still w7 (w7.drewN y) := (Turned.refl _ _).drewN y
        generalize w7.drewN y = w8 at *
        clear hq hc8
        go_wp2_with fail
        refine hc9.out.mono ?_
        rintro e w9 ⟨rfl, y9, rfl⟩
        go_wp2
        go_ret
        exact ⟨rfl, ((hst7.trans hst8).drewN y9).below (Nat.le_refl _) (fun k h => h.elim)⟩
end Go.Proofs.Ytlbhfjmcjbjjgaa
