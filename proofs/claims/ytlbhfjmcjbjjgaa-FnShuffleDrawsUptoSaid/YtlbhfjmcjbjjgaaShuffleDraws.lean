/-
  The walk of FnShuffleDraws.
-/
import Derived.Test.YtlbhfjmcjbjjgaaHelpC
import Derived.Test.YtlbhfjmcjbjjgaaPermIs
import Derived.Test.YtlbhfjmcjbjjgaaDown
namespace Go.Proofs.Ytlbhfjmcjbjjgaa
open Go.RowKit
set_option linter.unusedVariables false

theorem nums_u64 (ns : List Nat) : ns.map (num .u64) = ns.map u64 := rfl

set_option maxRecDepth 100000 in
set_option maxHeartbeats 2000000 in
theorem fnShuffleDraws_walk (a0 : Option Addr) (len0 cap0 b0 : Nat) (ws0 : List Nat) (a1 : Option Addr) (len1 cap1 b1 : Nat) (ws1 : List Nat) (w : World) (A0 : Arg u64 18446744073709551616 8 w a0 len0 cap0 b0 ws0) (S0 : len0 ≤ 1048576) (A1 : Arg u8 256 1 w a1 len1 cap1 b1 ws1) (S1 : len1 ≤ 1048576) :
    Calls Try.prog 6 #[.slice a0 len0 cap0, .slice a1 len1 cap1] w fun e w' => e = .returned (.bool true) ∧ Below w.heap.size w w' := by
  have hc1 := Lib.hid (sizes_any a1 b1 len1 cap1 ws1 w A1.length A1.fit A1.reads S1)
  have hnl : (ws1.map (· % 32)).length = len1 := by rw [List.length_map]; exact A1.length
  have hns : ∀ x ∈ ws1.map (· % 32), x < 32 := by
    intro x hx
    obtain ⟨y, _, rfl⟩ := List.mem_map.1 hx
    exact Nat.mod_lt _ (by omega)
  have hns3 : ∀ x ∈ ws1.map (· % 32), x ≤ 256 := fun x hx => by have := hns x hx; omega
  have hns4 : ∀ x ∈ ws1.map (· % 32), x ≤ 32 := fun x hx => by have := hns x hx; omega
  generalize ws1.map (· % 32) = ns at *
  have HL0 := Lib.hid A0.length
  have HNL := Lib.hid hnl
  have hbl := bnds_length ns hns4
  rw [hnl] at hbl
  have hbb := bnds_bounds ns hns4
  clear hnl
  go_enter Try.func6, Try.ntmps6
  go_wp2_with fail
  refine hc1.out.mono ?_
  rintro e w1 ⟨gl, cl, rfl, hrl, hgl, hst1⟩
  clear hc1
  have hz01 := hst1.size
  go_wp2_with fail
  go_loopg [6, 25] len1 (fun k o i wr => ∃ j g c : Nat, k = len1 - j ∧ j ≤ len1 ∧ o = .slice (some ⟨g, 0, none⟩) (bnds (ns.take j)).length c ∧ i = .int .i64 (j : Int) ∧ Row wr 28 g (bnds (ns.take j)).length c ((bnds (ns.take j)).map u64) ∧ w1.heap.size ≤ g ∧ Still w1 wr)
  case atStart => exact ⟨0, _, _, rfl, Nat.zero_le _, rfl, rfl, Row.empty w1 28, Nat.le_refl _, (Turned.refl _ _).alloc _⟩
  case round =>
    obtain ⟨j, g, c, hk, hj, rfl, rfl, hr, hg, hst⟩ := hrel
    have Hk := Lib.hid hk
    clear hk
    by_cases hlt : j < len1
    · have hjn : j < ns.length := by rw [HNL.out]; exact hlt
      have hmb := hns ns[j] (List.getElem_mem hjn)
      have cm : wr.cell? ⟨gl, j, none⟩ = some (.int .i64 (ns[j] : Nat)) := (hrl.kept hst (fun h => h)).cell (by rw [List.getElem?_map, List.getElem?_eq_getElem hjn]; rfl)
      have Htk := Lib.hid (bnds_take ns j hjn)
      have hbl2 := bnds_length (ns.take j) (fun x hx => hns4 x (List.mem_of_mem_take hx))
      rw [List.length_take, HNL.out] at hbl2
      have hBl : (bnds (ns.take j)).length ≤ 31 * 1048576 := by omega
      generalize ns[j] = n at *
      generalize bnds (ns.take j) = bs at *
      clear hbl2
      go_wp2_with fail
      go_loopg [6, 9] (n - 1) (fun k o z wx => ∃ d g c : Nat, k = n - 1 - d ∧ d ≤ n - 1 ∧ o = .slice (some ⟨g, 0, none⟩) (bs.length + d) c ∧ z = .int .i64 ((n - d : Nat) : Int) ∧ Row wx 28 g (bs.length + d) c ((bs ++ (down (n - 1)).take d).map u64) ∧ w1.heap.size ≤ g ∧ Still w1 wx)
      case atStart =>
        refine ⟨0, g, c, rfl, Nat.zero_le _, rfl, rfl, ?_, hg, hst⟩
        simpa using hr
      case round =>
        obtain ⟨d, g', c', hk2, hd, rfl, rfl, hr2, hg2, hst2⟩ := hrel
        have Hk2 := Lib.hid hk2
        clear hk2 hr cm hg hst
        by_cases hd2 : d < n - 1
        · have Hdt := Lib.hid (down_take (n - 1) d hd2)
          rw [show n - 1 + 1 - d = n - d by omega] at Hdt
          obtain ⟨y, hy⟩ : ∃ y, y = n - d := ⟨_, rfl⟩
          rw [← hy] at Hdt
          rw [← hy]
          have hy1 : (1 : Int) < (y : Int) := by omega
          have hy2 : y ≤ 32 := by omega
          have Hy := Lib.hid hy
          clear hy
          go_wp2_with (at_builtin; refine wpList_push rfl _ _ 22 rfl 28 (.int .u64 0) 8 Try.underlying22 Try.infoU64 rfl g' (bs.length + d) c' _ rfl hr2 (.int .u64 (y : Int)) rfl rfl (by omega) (by omega) ?_)
          intro g3 c3 w3 hr3 hat3 hT3
          have hz := hst2.size
          go_wp2
          go_roundg (n - 1 - (d + 1))
          case measure => rw [Hk2.out]; omega
          case rel =>
            refine ⟨d + 1, g3, c3, rfl, by omega, rfl, ?_, ?_, by omega, hst2.then hT3 (fun k hk e => by omega)⟩
            · have := Hy.out
              congr 1
              omega
            · rw [Hdt.out, ← List.append_assoc, List.map_append]
              first | exact hr3 | (rw [List.map_append]; exact hr3) | simpa [u64, Nat.add_assoc] using hr3
        · obtain rfl : d = n - 1 := by omega
          have hyx : ¬ (1 : Int) < ((n - (n - 1) : Nat) : Int) := by omega
          generalize n - (n - 1) = y at *
          clear Hk2
          rw [List.take_of_length_le (by rw [down_length]; exact Nat.le_refl _)] at hr2
          go_wp2
          go_roundg (len1 - (j + 1))
          case measure => rw [Hk.out]; omega
          case rel =>
            have hll : (bnds (ns.take (j + 1))).length = bs.length + (n - 1) := by rw [Htk.out, List.length_append, down_length]
            refine ⟨j + 1, g', c', rfl, by omega, by rw [hll], by go_num, ?_, hg2, hst2⟩
            rw [hll, Htk.out]
            exact hr2
    · obtain rfl : len1 = j := by omega
      rw [List.take_of_length_le (by rw [HNL.out]; exact Nat.le_refl _)] at hr
      rw [List.take_of_length_le (by rw [HNL.out]; exact Nat.le_refl _)]
      obtain ⟨bl, hbl'⟩ : ∃ bl, bl = (bnds ns).length := ⟨_, rfl⟩
      rw [← hbl'] at hr hbl
      rw [← hbl']
      have HBL := Lib.hid hbl'
      have hst01 := hst1.trans hst
      have hrl2 := hrl.kept hst (fun h => h)
      have hc2 := Lib.hid (uint64Ns_any a0 b0 len0 cap0 ws0 (some ⟨g, 0, none⟩) g bl c (bnds ns) wr A0.size A0.fit (A0.reads.kept hst01 (fun h => h)) A0.nil (by omega) HBL.out.symm hbb hr.reads (by omega))
      clear hbl' hst1 hst hrl Hk hlt
      go_wp2_with fail
      refine hc2.out.mono ?_
      rintro e w2 ⟨gV, dV, gU, dU, rfl, hrV, hrU, hgeV, hst2⟩
      have hrl3 := hrl2.kept hst2 (fun h => h)
      have hst02 := hst01.trans hst2
      have hc3 := Lib.hid (shuffles_any a0 b0 len0 cap0 ws0 (some ⟨gl, 0, none⟩) gl len1 cl ns w2 A0.size A0.fit (A0.reads.kept hst02 (fun h => h)) A0.nil (by omega) HNL.out hns3 hrl3.reads (by omega))
      clear hc2 hst01 hrl2
      go_wp2_with fail
      refine hc3.out.mono ?_
      rintro e w3 ⟨M, g3, d3, g4, d4, rfl, hM, hr3, hr4, hJ, hge3, hst3⟩
      have hst03 := hst02.trans hst3
      have hrl4 := hrl3.kept hst3 (fun h => h)
      have hrV3 := hrV.kept hst3 (fun h => h)
      have hrU3 := hrU.kept hst3 (fun h => h)
      clear hc3 hst02 hrl3 hrV hrU hst3 hr
      go_wp2_with fail
      go_loopg [14, 15, 80] len1 (fun k at' bf i wx => ∃ j : Nat, k = len1 - j ∧ j ≤ len1 ∧ at' = .int .i64 (((bnds (ns.take j)).length : Nat) : Int) ∧ bf = .int .i64 ((scriptEnd ws0 0 (ns.take j) : Nat) : Int) ∧ i = .int .i64 (j : Int) ∧ Still w3 wx)
      case atStart => exact ⟨0, rfl, Nat.zero_le _, rfl, rfl, rfl, Turned.refl _ _⟩
      case round =>
        obtain ⟨j, hk, hj, rfl, rfl, rfl, hst⟩ := hrel
        have Hk := Lib.hid hk
        clear hk
        by_cases hlt : j < len1
        · have hjn : j < ns.length := by rw [HNL.out]; exact hlt
          have hsg := script_get ws0 0 ns j hjn
          have hmb := hns ns[j] (List.getElem_mem hjn)
          have cm : wr.cell? ⟨gl, j, none⟩ = some (.int .i64 (ns[j] : Nat)) := (hrl4.kept hst (fun h => h)).cell (by rw [List.getElem?_map, List.getElem?_eq_getElem hjn]; rfl)
          have Hdr := Lib.hid (fun d => draws_bnds ws0 ns j d hjn)
          have Htk := Lib.hid (bnds_take ns j hjn)
          have Hse := Lib.hid (script_take ws0 0 ns j hjn).2
          have hbl2 := bnds_length (ns.take j) (fun x hx => hns4 x (List.mem_of_mem_take hx))
          rw [List.length_take, HNL.out] at hbl2
          have hBl : (bnds (ns.take j)).length ≤ 31 * 1048576 := by omega
          have hAl : (bnds (ns.take j)).length + (ns[j] - 1) ≤ bl := by
            rw [HBL.out, bnds_split ns j hjn, List.length_append, List.length_append, down_length]
            omega
          generalize ns[j] = n at *
          generalize scriptEnd ws0 0 (ns.take j) = q at *
          obtain ⟨G, C, hp⟩ := inn_at hM (j := j) (xs := flat (prs ws0 (n - 1) q)) (by rw [pairsOf, List.getElem?_map, hsg]; rfl)
          have cp3 : w3.cell? ⟨g3, j, none⟩ = some (.slice (some ⟨G, 0, none⟩) (2 * (n - 1)) C) := hr3.cell (by rw [List.getElem?_map, hp]; simp [Inn.val, flat_length, prs_length])
          have rp : Row w3 3 G (2 * (n - 1)) C ((flat (prs ws0 (n - 1) q)).map n64) := by
            have := (hJ _ (List.mem_of_getElem? hp)).1
            simpa [flat_length, prs_length] using this
          have cu : w3.cell? ⟨g4, j, none⟩ = some (.int .i64 ((pend ws0 (n - 1) q : Nat) : Int)) := hr4.cell (by rw [List.getElem?_map, goneOf, List.getElem?_map, hsg]; rfl)
          generalize bnds (ns.take j) = bs at *
          clear hbl2 hsg hp
          obtain ⟨m, hm⟩ : ∃ m, m = n - 1 := ⟨_, rfl⟩
          rw [← hm] at Hdr Htk Hse hAl cp3 rp cu
          obtain ⟨mm, hmm⟩ : ∃ mm, mm = 2 * m := ⟨_, rfl⟩
          rw [← hmm] at cp3 rp
          have cp := hst.cell cp3 (fun h => h)
          have hmax : (if (1 : Int) < (n : Int) then (n : Int) - 1 else 0) = (m : Int) := by split <;> omega
          have hm2 : (2 : Int) * (m : Int) = (mm : Int) := by omega
          have Hm := Lib.hid hm
          have Hmm := Lib.hid hmm
          have hmb2 : m < 32 := by omega
          have hmmb : mm < 64 := by omega
          clear hm hmm
          go_wp2_with fail
          go_loopg [14, 15, 18] m (fun k at' bf z wx => ∃ d : Nat, k = m - d ∧ d ≤ m ∧ at' = .int .i64 ((bs.length + d : Nat) : Int) ∧ bf = .int .i64 ((midEnd ws0 m q d : Nat) : Int) ∧ z = .int .i64 ((n : Int) - 1 - (d : Int)) ∧ Still w3 wx)
          case atStart => exact ⟨0, rfl, Nat.zero_le _, rfl, rfl, by simp, hst⟩
          case round =>
            obtain ⟨d, hk2, hd, rfl, rfl, rfl, hst2⟩ := hrel
            have Hk2 := Lib.hid hk2
            clear hk2 cm cp hst
            by_cases hd2 : d < m
            · obtain ⟨f1, f2⟩ := flat_at ws0 m q d hd2
              have hdr := Hdr.out d hd2
              have Hms := Lib.hid (midEnd_succ ws0 m q d hd2)
              have hvlt : (fin ws0 (m + 1 - d) (midEnd ws0 m q d)).1 < 32 := by
                have := fin_fst_lt ws0 (m + 1 - d) (midEnd ws0 m q d) A0.fit (by omega)
                omega
              have cp := hst2.cell cp3 (fun h => h)
              have c1 : wr.cell? ⟨G, 2 * d, none⟩ = some (.int .i64 ((m - d : Nat) : Int)) := (rp.kept hst2 (fun h => h)).cell (by rw [List.getElem?_map, f1]; rfl)
              have c2 : wr.cell? ⟨G, 2 * d + 1, none⟩ = some (.int .i64 (((fin ws0 (m + 1 - d) (midEnd ws0 m q d)).1 : Nat) : Int)) := (rp.kept hst2 (fun h => h)).cell (by rw [List.getElem?_map, f2]; rfl)
              have cV : wr.cell? ⟨gV, bs.length + d, none⟩ = some (.int .u64 (((fin ws0 (m + 1 - d) (midEnd ws0 m q d)).1 : Nat) : Int)) := (hrV3.kept hst2 (fun h => h)).cell (by simp [vals, hdr])
              have cU : wr.cell? ⟨gU, bs.length + d, none⟩ = some (.int .i64 (((fin ws0 (m + 1 - d) (midEnd ws0 m q d)).2 : Nat) : Int)) := (hrU3.kept hst2 (fun h => h)).cell (by simp [uses, hdr])
              have hkk0 : (n : Int) - 1 - (d : Int) = ((m - d : Nat) : Int) := by have := Hm.out; omega
              rw [hkk0]
              have hn1 : (n : Int) - 1 = (m : Int) := by have := Hm.out; omega
              obtain ⟨kk, hkk⟩ : ∃ kk, kk = m - d := ⟨_, rfl⟩
              obtain ⟨tt, htt⟩ : ∃ tt, tt = 2 * d := ⟨_, rfl⟩
              obtain ⟨aa, haa⟩ : ∃ aa, aa = bs.length + d := ⟨_, rfl⟩
              rw [← hkk] at c1 
              rw [← htt] at c1 c2
              rw [← haa] at cV cU
              rw [← hkk, ← haa]
              have hmk : (m : Int) - (kk : Int) = (d : Int) := by omega
              have ht2 : (2 : Int) * (d : Int) = (tt : Int) := by omega
              have htm : tt + 1 < mm := by have := Hmm.out; omega
              have hti : (tt : Int) < (mm : Int) := by omega
              have hti2 : (tt : Int) + 1 < (mm : Int) := by omega
              have hk0 : (0 : Int) < (kk : Int) := by omega
              have haab : aa < bl := by omega
              have haai : (aa : Int) < (bl : Int) := by omega
              have hjl : (j : Int) < (len1 : Int) := by omega
              have Hkk := Lib.hid hkk
              have Haa := Lib.hid haa
              generalize (fin ws0 (m + 1 - d) (midEnd ws0 m q d)).1 = v at *
              generalize (fin ws0 (m + 1 - d) (midEnd ws0 m q d)).2 = e2 at *
              generalize midEnd ws0 m q d = e1 at *
              clear hkk htt haa hkk0 hmax hm2 f1 f2 hdr
              go_wp2_with fail
              go_quiet (fail)
              go_wp2
              go_roundg (m - (d + 1))
              case measure => rw [Hk2.out]; omega
              case rel =>
                refine ⟨d + 1, rfl, by omega, ?_, by rw [Hms.out], ?_, hst2.drewN _⟩
                · have := Haa.out
                  congr 1
                  omega
                · have := Hkk.out
                  congr 1
                  omega
            · obtain rfl : d = m := by omega
              have hz0 : ¬ (0 : Int) < (n : Int) - 1 - (d : Int) := by have := Hm.out; omega
              have cu2 := hst2.cell cu (fun h => h)
              rw [midEnd_all]
              generalize (n : Int) - 1 - (d : Int) = zz at *
              have hll : (bnds (ns.take (j + 1))).length = bs.length + d := by rw [Htk.out, List.length_append, down_length]
              have HLL := Lib.hid hll
              generalize pend ws0 d q = pe at *
              clear Hk2 hll hmax hm2
              go_wp2
              go_roundg (len1 - (j + 1))
              case measure => rw [Hk.out]; omega
              case rel => exact ⟨j + 1, rfl, by omega, by rw [HLL.out, Int.natCast_add], by rw [Hse.out], by go_num, hst2⟩
        · go_wp2
          go_ret
          exact ⟨rfl, (hst03.trans hst).below (Nat.le_refl _) (fun k h => h.elim)⟩
end Go.Proofs.Ytlbhfjmcjbjjgaa
