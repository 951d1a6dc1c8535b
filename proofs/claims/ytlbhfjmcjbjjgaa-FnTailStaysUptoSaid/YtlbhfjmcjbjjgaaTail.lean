/-
  The walk of FnTailStays.
-/
import Derived.Test.YtlbhfjmcjbjjgaaFurther
import Derived.Test.YtlbhfjmcjbjjgaaDown
import Derived.Test.YtlbhfjmcjbjjgaaSlice
namespace Go.Proofs.Ytlbhfjmcjbjjgaa
open Go.RowKit
set_option linter.unusedVariables false

theorem drawsEnd_ge (ws : List Nat) (i : Nat) (ns : List Nat) : i + ns.length ≤ drawsEnd ws i ns := by
  induction ns generalizing i with
  | nil => exact Nat.le_refl _
  | cons n ns ih =>
    have h1 := (fin_snd ws n i).1
    have h2 := ih (fin ws n i).2
    simp only [drawsEnd, List.length_cons]
    omega
theorem midEnd_ge (ws : List Nat) (k q d : Nat) (h : d ≤ k) : q + d ≤ midEnd ws k q d := by
  have := drawsEnd_ge ws q ((down k).take d)
  rw [List.length_take, down_length] at this
  unfold midEnd
  omega
/-- The first d swaps depend on the words that they use alone. -/
theorem prs_front (ws us : List Nat) (d k i : Nat) (hd : d ≤ k) (hk : k < 1048576) (h : ∀ t, i ≤ t → t < midEnd ws k i d → wordAt us t = wordAt ws t) :
    ∃ ps, prs ws k i = ps ++ prs ws (k - d) (midEnd ws k i d) ∧ prs us k i = ps ++ prs us (k - d) (midEnd ws k i d) := by
  induction d generalizing k i with
  | zero => exact ⟨[], rfl, rfl⟩
  | succ d ih =>
    obtain ⟨k, rfl⟩ : ∃ k', k = k' + 1 := ⟨k - 1, by omega⟩
    have e : midEnd ws (k + 1) i (d + 1) = midEnd ws k (fin ws (k + 2) i).2 d := rfl
    have hge := midEnd_ge ws k (fin ws (k + 2) i).2 d (by omega)
    have hlt := (fin_snd ws (k + 2) i).1
    have hf := fin_local ws us (k + 2) i (by omega) (by omega) (fun t h1 h2 => h t h1 (by rw [e]; omega))
    obtain ⟨ps, h1, h2⟩ := ih k (fin ws (k + 2) i).2 (by omega) (by omega) (fun t a b => h t (by omega) (by rw [e]; exact b))
    refine ⟨(k + 1, (fin ws (k + 2) i).1) :: ps, ?_, ?_⟩
    · simp only [prs, e]
      rw [h1, show k + 1 - (d + 1) = k - d by omega]
      rfl
    · simp only [prs, e]
      rw [hf, h2, show k + 1 - (d + 1) = k - d by omega]
      rfl
theorem tail_stays (ws us : List Nat) (n d : Nat) (hf : ∀ x ∈ ws, x < 18446744073709551616) (hg : ∀ x ∈ us, x < 18446744073709551616) (hd : d ≤ n - 1) (hn : n < 1048576) (h : ∀ t, t < midEnd ws (n - 1) 0 d → wordAt us t = wordAt ws t) :
    (permOf ws n 0).drop (n - d) = (permOf us n 0).drop (n - d) := by
  obtain ⟨ps, h1, h2⟩ := prs_front ws us d (n - 1) 0 hd (by omega) (fun t _ => h t)
  apply List.ext_getElem?
  intro i
  rw [List.getElem?_drop, List.getElem?_drop, permOf, permOf, h1, h2]
  simp only [swps, List.foldl_append]
  have hlen : (swps (List.range n) ps).length = n := by rw [swps_length, List.length_range]
  by_cases hin : n - d + i < n
  · have a := swps_high (swps (List.range n) ps) (n - 1 - d) (prs ws (n - 1 - d) (midEnd ws (n - 1) 0 d)) (prs_fall ws _ _ hf) (by omega) (n - d + i) (by omega)
    have b := swps_high (swps (List.range n) ps) (n - 1 - d) (prs us (n - 1 - d) (midEnd ws (n - 1) 0 d)) (prs_fall us _ _ hg) (by omega) (n - d + i) (by omega)
    simp only [swps] at a b
    rw [a, b]
  · have a : ∀ qs, (swps (swps (List.range n) ps) qs).length = n := fun qs => by rw [swps_length, hlen]
    simp only [swps] at a
    rw [List.getElem?_eq_none (by rw [a]; omega), List.getElem?_eq_none (by rw [a]; omega)]
theorem wordAt_range (ws more : List Nat) (U t : Nat) (h : t < U) : wordAt ((List.range U).map (wordAt ws) ++ more) t = wordAt ws t := by
  have hl : t < ((List.range U).map (wordAt ws)).length := by simpa using h
  show (((List.range U).map (wordAt ws) ++ more)[t]?).getD 18446744073709551615 = _
  rw [List.getElem?_append_left hl, List.getElem?_map, List.getElem?_range h]
  rfl
theorem u64_def (n : Nat) : u64 n = .int .u64 (n : Int) := rfl

theorem cut_some (g n c k : Nat) (hnc : n ≤ c) : CutAt (some ⟨g, 0, none⟩) (if c = k then some (⟨g, 0, none⟩ : Addr) else some ⟨g, k, none⟩) n c k := by
  have := cutAt_mk (some ⟨g, 0, none⟩) n c k hnc
  have e : (⟨g, 0, none⟩ : Addr).add k = ⟨g, k, none⟩ := by unfold Addr.add; split <;> simp_all
  simp only [Nat.mul_one, Option.map_some, e] at this
  exact this

set_option maxRecDepth 100000 in
set_option maxHeartbeats 2000000 in
theorem fnTailStays_walk (a0 : Option Addr) (len0 cap0 b0 : Nat) (ws0 : List Nat) (a1 : Option Addr) (len1 cap1 b1 : Nat) (ws1 : List Nat) (n2 : Nat) (z3 : Int) (w : World) (A0 : Arg u64 18446744073709551616 8 w a0 len0 cap0 b0 ws0) (S0 : len0 ≤ 1048576) (A1 : Arg u64 18446744073709551616 8 w a1 len1 cap1 b1 ws1) (S1 : len1 ≤ 1048576) (l2 : n2 < 256) (l3 : -9223372036854775808 ≤ z3 ∧ z3 ≤ 9223372036854775807) :
    Calls Try.prog 3 #[.slice a0 len0 cap0, .slice a1 len1 cap1, .int .u8 (n2 : Int), .int .i64 z3] w fun e w' => e = .returned (.bool true) ∧ Below w.heap.size w w' := by
  have hand := and31_nat n2
  have hm : n2 % 32 < 32 := Nat.mod_lt _ (by omega)
  have HL0 := Lib.hid A0.length
  have hc1 : ∀ w1, Still w w1 → Calls Try.prog 11 #[.slice a0 len0 cap0, .int .i64 ((n2 % 32 : Nat) : Int)] w1 (OnePost w1 ws0 (n2 % 32)) := fun w1 hst => one_any a0 b0 len0 cap0 ws0 (n2 % 32) w1 A0.size A0.fit (A0.reads.kept hst (fun h => h)) A0.nil (by omega) (by omega)
  have HC1 := Lib.hid hc1
  clear hc1
  generalize n2 % 32 = m at *
  by_cases hm2 : m < 2
  · have hmi : (m : Int) < 2 := by omega
    have hp0 : permOf ws0 m 0 = List.range m := by
      unfold permOf
      rw [show m - 1 = 0 by omega]
      rfl
    have hu0 : pend ws0 (m - 1) 0 = 0 := by rw [show m - 1 = 0 by omega]; rfl
    go_enter Try.func3, Try.ntmps3
    go_wp2_with fail
    refine (HC1.out w (Turned.refl _ _)).mono ?_
    rintro e w1 ⟨g1, d1, g2, d2, rfl, hr1, hr2, hge1, hst1⟩
    rw [hu0]
    rw [hp0] at hr1
    have hci := Lib.hid (inOrder_any m w1 (by omega))
    clear HC1 hr2
    generalize 2 * (m - 1) = mm at *
    go_wp2_with fail
    refine hci.out.mono ?_
    rintro e w2 ⟨g3, d3, rfl, hr3, hg3, hst2⟩
    have hcs := Lib.hid (sameNats_any (some ⟨g1, 0, none⟩) (some ⟨g3, 0, none⟩) m d1 m d3 g1 g3 _ _ w2 (List.length_range) (List.length_range) (hr1.kept hst2 (fun h => h)).reads hr3.reads (by omega))
    rw [decide_eq_true (Eq.refl (List.range m))] at hcs
    clear hci
    go_wp2_with fail
    refine hcs.out.mono ?_
    rintro e w3 ⟨rfl, q, rfl⟩
    go_wp2
    go_ret
    exact ⟨rfl, ((hst1.trans hst2).drewN q).below (Nat.le_refl _) (fun k h => h.elim)⟩
  · obtain ⟨kk, hand2, hkk⟩ : ∃ kk : Nat, bits .and .i64 z3 65535 = (kk : Int) ∧ kk < 65536 := ⟨(z3 % 65536).toNat, by rw [and65535]; omega, by omega⟩
    have hmi : ¬ (m : Int) < 2 := by omega
    obtain ⟨m1, hm1⟩ : ∃ m1, m1 = m - 1 := ⟨_, rfl⟩
    have hm1i : (m : Int) - 1 = (m1 : Int) := by omega
    have hr1 : kk % m1 < m1 := Nat.mod_lt _ (by omega)
    have hr2 : (kk : Int).tmod (m1 : Int) = ((kk % m1 : Nat) : Int) := rfl
    have hr3 : (kk : Int) % (m1 : Int) = ((kk % m1 : Nat) : Int) := rfl
    generalize kk % m1 = r at *
    obtain ⟨ct, hct⟩ : ∃ ct, ct = 1 + r := ⟨_, rfl⟩
    have hcti : (1 : Int) + (r : Int) = (ct : Int) := by omega
    have hct1 : 1 ≤ ct := by omega
    have hctm : ct ≤ m - 1 := by omega
    have hm1z : ¬ (m1 : Int) = 0 := by omega
    have hm1b : ((m1 : Int) == 0) = false := by simp; omega
    have Hm1 := Lib.hid hm1
    clear hct hm1
    go_enter Try.func3, Try.ntmps3
    go_wp2_with fail
    go_loopg [15, 62] ct (fun k o i wr => ∃ j g c : Nat, k = ct - j ∧ j ≤ ct ∧ o = .slice (some ⟨g, 0, none⟩) j c ∧ i = .int .i64 (j : Int) ∧ Row wr 28 g j c (((down (m - 1)).take j).map Go.Proofs.Ytlbhfjmcjbjjgaa.u64) ∧ w.heap.size ≤ g ∧ Still w wr)
    case atStart => exact ⟨0, _, _, rfl, Nat.zero_le _, rfl, rfl, Row.empty w 28, Nat.le_refl _, (Turned.refl _ _).alloc _⟩
    case round =>
      obtain ⟨j, g, c, hk, hj, rfl, rfl, hr, hg, hst⟩ := hrel
      have Hk := Lib.hid hk
      clear hk
      by_cases hlt : j < ct
      · have Hdt := Lib.hid (down_take (m - 1) j (by omega))
        rw [show m - 1 + 1 - j = m - j by omega] at Hdt
        obtain ⟨y, hy⟩ : ∃ y, y = m - j := ⟨_, rfl⟩
        rw [← hy] at Hdt
        have hyi : (m : Int) - (j : Int) = (y : Int) := by omega
        have hy2 : y ≤ 32 := by omega
        clear hy
        go_wp2_with (at_builtin; refine wpList_push rfl _ _ 22 rfl 28 (.int .u64 0) 8 Try.underlying22 Try.infoU64 rfl g j c _ rfl hr (.int .u64 (y : Int)) rfl rfl (by omega) (by omega) ?_)
        intro g3 c3 w3 hr3 hat3 hT3
        have hz := hst.size
        go_wp2
        go_roundg (ct - (j + 1))
        case measure => rw [Hk.out]; omega
        case rel =>
          refine ⟨j + 1, g3, c3, rfl, by omega, rfl, by go_num, ?_, by omega, hst.then hT3 (fun k hk e => by omega)⟩
          rw [Hdt.out, List.map_append]
          first | exact hr3 | simpa [u64_def] using hr3
      · obtain rfl : ct = j := by omega
        have hbl : ((down (m - 1)).take ct).length = ct := by rw [List.length_take, down_length]; omega
        have hbb : ∀ x ∈ (down (m - 1)).take ct, 1 ≤ x ∧ x < 18446744073709551616 := fun x hx => by
          have := down_bounds (m - 1) x (List.mem_of_mem_take hx)
          omega
        have hc2 := Lib.hid (uint64Ns_any a0 b0 len0 cap0 ws0 (some ⟨g, 0, none⟩) g ct c ((down (m - 1)).take ct) wr A0.size A0.fit (A0.reads.kept hst (fun h => h)) A0.nil (by omega) hbl hbb hr.reads (by omega))
        clear Hk hlt
        go_wp2_with fail
        refine hc2.out.mono ?_
        rintro e w2 ⟨gV, dV, gU, dU, rfl, hrV, hrU, hgeV, hst2⟩
        have hst02 := hst.trans hst2
        have cU : w2.cell? ⟨gU, ct - 1, none⟩ = some (.int .i64 ((midEnd ws0 (m - 1) 0 ct : Nat) : Int)) := by
          apply hrU.cell
          have hl : ct - 1 < ((down (m - 1)).take ct).length := by rw [hbl]; omega
          have e1 := draws_get_from ws0 ((down (m - 1)).take ct) 0 (ct - 1) hl
          have e2 := midEnd_succ ws0 (m - 1) 0 (ct - 1) (by omega)
          rw [Nat.sub_add_cancel hct1] at e2
          have e3 : ((down (m - 1)).take ct)[ct - 1]? = some (m - 1 + 1 - (ct - 1)) := by rw [List.getElem?_take, if_pos (by omega)]; exact down_get (m - 1) (ct - 1) (by omega)
          rw [List.getElem?_eq_getElem hl] at e3
          simp only [Option.some.injEq] at e3
          rw [e3, List.take_take, Nat.min_eq_left (by omega)] at e1
          rw [uses, List.getElem?_map, e1, e2]
          rfl
        have hge := midEnd_ge ws0 (m - 1) 0 ct hctm
        have hle : midEnd ws0 (m - 1) 0 ct ≤ len0 + ct := by
          have := drawsEnd_le ws0 0 ((down (m - 1)).take ct) len0 (by omega) (by rw [HL0.out]; exact Nat.le_refl _)
          rw [hbl] at this
          exact this
        have Htail := Lib.hid (fun us hg h => tail_stays ws0 us m ct A0.fit hg hctm (by omega) h)
        generalize midEnd ws0 (m - 1) 0 ct = U at *
        have hct1i : (ct : Int) - 1 = ((ct - 1 : Nat) : Int) := by omega
        have hge2 : ¬ (U : Int) < (ct : Int) := by omega
        have hle2 : ¬ (len0 : Int) + (ct : Int) < (U : Int) := by omega
        have hctl : (ct : Int) - 1 < (ct : Int) := by omega
        have hb1 : decide (U < ct) = false := decide_eq_false (by omega)
        have hb2 : decide ((U : Int) < (ct : Int)) = false := decide_eq_false hge2
        have hb3 : decide ((len0 : Int) + (ct : Int) < (U : Int)) = false := decide_eq_false hle2
        have cUA := ((Turned.refl (fun _ => False) w2).alloc (.cells #[] 28)).cell cU (fun h => h)
        clear hc2 hr hst hst2 hrV hbl hbb
        go_wp2_with fail
        go_loopg [19, 116] U (fun k o i wr => ∃ j g c : Nat, k = U - j ∧ j ≤ U ∧ o = .slice (some ⟨g, 0, none⟩) j c ∧ i = .int .i64 (j : Int) ∧ Row wr 28 g j c (((List.range j).map (wordAt ws0)).map Go.Proofs.Ytlbhfjmcjbjjgaa.u64) ∧ w.heap.size ≤ g ∧ Still w wr)
        case atStart => exact ⟨0, _, _, rfl, Nat.zero_le _, rfl, rfl, Row.empty w2 28, hst02.size, hst02.alloc _⟩
        case round =>
          clear cU cUA hct1i hge2 hle2 hctl
          obtain ⟨j, g, c, hk, hj, rfl, rfl, hr, hg, hst⟩ := hrel
          have Hk := Lib.hid hk
          clear hk
          by_cases hlt : j < U
          · by_cases hjl : j < len0
            · obtain ⟨off, rfl, hcw⟩ := A0.at hjl
              have cw := hst.cell hcw (fun h => h)
              have hwb := A0.word j
              clear hcw
              have Hwj : Hid (wordAt ws0 j = wordAt ws0 j) := Lib.hid rfl
              generalize hwj : wordAt ws0 j = x at *
              have Hx := Lib.hid hwj
              clear hwj Hwj
              go_wp2_with (at_builtin; refine wpList_push rfl _ _ 22 rfl 28 (.int .u64 0) 8 Try.underlying22 Try.infoU64 rfl g j c _ rfl hr (.int .u64 (x : Int)) rfl rfl (by omega) (by omega) ?_)
              intro g' c' w4 hr4 hat4 hT4
              have hz := hst.size
              go_wp2
              go_roundg (U - (j + 1))
              case measure => rw [Hk.out]; omega
              case rel =>
                refine ⟨j + 1, g', c', rfl, by omega, rfl, by go_num, ?_, by omega, hst.then hT4 (fun k hk e => by omega)⟩
                rw [List.range_succ, List.map_append, List.map_append]
                first | exact hr4 | simpa [u64_def, Hx.out] using hr4
            · have hjl2 : ¬ (j : Int) < (len0 : Int) := by omega
              have hx : wordAt ws0 j = 18446744073709551615 := by simp [wordAt, List.getElem?_eq_none (show ws0.length ≤ j by rw [HL0.out]; omega)]
              have Hx := Lib.hid hx
              clear hx
              go_wp2_with (at_builtin; refine wpList_push rfl _ _ 22 rfl 28 (.int .u64 0) 8 Try.underlying22 Try.infoU64 rfl g j c _ rfl hr (.int .u64 (18446744073709551615 : Int)) rfl rfl (by omega) (by omega) ?_)
              intro g' c' w4 hr4 hat4 hT4
              have hz := hst.size
              go_wp2
              go_roundg (U - (j + 1))
              case measure => rw [Hk.out]; omega
              case rel =>
                refine ⟨j + 1, g', c', rfl, by omega, rfl, by go_num, ?_, by omega, hst.then hT4 (fun k hk e => by omega)⟩
                rw [List.range_succ, List.map_append, List.map_append]
                first | exact hr4 | simpa [u64_def, Hx.out] using hr4
          · obtain rfl : U = j := by omega
            go_wp2_with (at_builtin; refine wpList_pushes rfl _ _ 22 rfl 28 (.int .u64 0) 8 Try.underlying22 Try.infoU64 rfl g U c _ rfl hr a1 b1 len1 cap1 (ws1.map Go.Proofs.Ytlbhfjmcjbjjgaa.u64) A1.size (words_cells _) rfl (A1.reads.kept hst (fun h => h)) A1.nil (by omega) (by omega) ?_)
            intro g4 c4 w4 hr4 hat4 hT4
            have hz := hst.size
            have hst4 : Still w w4 := hst.then hT4 (fun k hk e => by omega)
            have hr4' : Row w4 28 g4 (U + len1) c4 (((List.range U).map (wordAt ws0) ++ ws1).map Go.Proofs.Ytlbhfjmcjbjjgaa.u64) := by
              rw [List.map_append]
              first | exact hr4 | simpa using hr4
            clear hr4
            have hfit : ∀ x ∈ (List.range U).map (wordAt ws0) ++ ws1, x < 18446744073709551616 := by
              intro x hx
              rcases List.mem_append.1 hx with h | h
              · obtain ⟨y, _, rfl⟩ := List.mem_map.1 h
                exact A0.word y
              · exact A1.fit x h
            have htl := Htail.out _ hfit (fun t ht => wordAt_range ws0 ws1 U t ht)
            generalize (List.range U).map (wordAt ws0) ++ ws1 = us at *
            have hul : (us.map Go.Proofs.Ytlbhfjmcjbjjgaa.u64).length = U + len1 := hr4'.len
            clear hr hT4 hst Hk hlt hj
            go_wp2_with fail
            refine (HC1.out w4 hst4).mono ?_
            rintro e w5 ⟨g5, d5, g6, d6, rfl, hr5, hr6, hge5, hst5⟩
            have hc6 := Lib.hid (one_any (some ⟨g4, 0, none⟩) g4 (U + len1) c4 us m w5 hul hfit (hr4'.kept hst5 (fun h => h)).reads (fun h => by cases h) (by omega) (by omega))
            clear HC1 hr6
            generalize 2 * (m - 1) = mm at *
            go_wp2_with fail
            refine hc6.out.mono ?_
            rintro e w6 ⟨g7, d7, g8, d8, rfl, hr7, hr8, hge7, hst7⟩
            clear hc6 hr8
            generalize 2 * (m - 1) = mm2 at *
            obtain ⟨sc, hsc⟩ : ∃ sc, sc = m - ct := ⟨_, rfl⟩
            have hsci : (m : Int) - (ct : Int) = (sc : Int) := by omega
            rw [← hsc] at htl
            have hscm : sc ≤ m := by omega
            have hscmi : (sc : Int) ≤ (m : Int) := by omega
            have h5c := hr5.le
            have h7c := hr7.le
            have c5 := cut_some g5 m d5 sc h5c
            have c7 := cut_some g7 m d7 sc h7c
            rw [if_neg (by omega)] at c5 c7
            have hq : ∀ q, Calls Try.prog 12 #[.slice (some ⟨g5, sc, none⟩) (m - sc) (d5 - sc), .slice (some ⟨g7, sc, none⟩) (m - sc) (d7 - sc)] (w6.drewN q) fun e w' => e = .returned (.bool (decide ((permOf ws0 m 0).drop sc = (permOf us m 0).drop sc))) ∧ ∃ k, w' = (w6.drewN q).drewN k := by
              intro q
              have k5 := ((hr5.kept hst7 (fun h => h)).kept ((Turned.refl (fun _ => False) _).drewN q) (fun h => h))
              have k7 := (hr7.kept ((Turned.refl (fun _ => False) _).drewN q) (fun h => h))
              refine sameNats_any (some ⟨g5, sc, none⟩) (some ⟨g7, sc, none⟩) (m - sc) (d5 - sc) (m - sc) (d7 - sc) g5 g7 _ _ (w6.drewN q) (by rw [List.length_drop, permOf_length]) (by rw [List.length_drop, permOf_length]) ?_ ?_ (by omega)
              · rw [List.map_drop]
                exact c5.reads _ g5 _ k5.len k5.reads
              · rw [List.map_drop]
                exact c7.reads _ g7 _ k7.len k7.reads
            rw [decide_eq_true htl] at hq
            have HQ := Lib.hid hq
            clear hq c5 c7 htl hsc hr5 hr7
            generalize pend ws0 (m - 1) 0 = used0 at *
            generalize pend us (m - 1) 0 = used1 at *
            go_wp2_with fail
            go_quiet ((go_at_call 12; exact Calls.quiet_of (HQ.out _)))
            go_wp2
            go_ret
            exact ⟨rfl, (((hst4.trans hst5).trans hst7).drewN _).below (Nat.le_refl _) (fun k h => h.elim)⟩
end Go.Proofs.Ytlbhfjmcjbjjgaa
