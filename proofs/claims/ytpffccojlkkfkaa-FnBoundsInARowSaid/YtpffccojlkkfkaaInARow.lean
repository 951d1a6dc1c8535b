/-
  The walk of FnBoundsInARow.
-/
import Derived.Test.YtpffccojlkkfkaaHelpB
import Derived.Test.YtpffccojlkkfkaaFin
import Derived.Test.YtpffccojlkkfkaaLists
import Derived.Test.YtpffccojlkkfkaaSameW
import Derived.Test.YtpffccojlkkfkaaSlice
namespace Go.Proofs.Ytpffccojlkkfkaa
open Go.RowKit
set_option linter.unusedVariables false

theorem fin_drop (ws : List Nat) (n q i : Nat) : fin ws n (q + i) = ((fin (ws.drop q) n i).1, q + (fin (ws.drop q) n i).2) := by
  simp only [fin, List.drop_drop]
  rw [Nat.add_assoc]
theorem draws_append (ws : List Nat) (i : Nat) (ms ns : List Nat) : draws ws i (ms ++ ns) = draws ws i ms ++ draws ws (drawsEnd ws i ms) ns := by
  induction ms generalizing i with
  | nil => rfl
  | cons m ms ih => simp [draws, drawsEnd, ih]
theorem draws_shift (ws : List Nat) (q i : Nat) (ns : List Nat) : draws ws (q + i) ns = (draws (ws.drop q) i ns).map (fun p => (p.1, q + p.2)) := by
  induction ns generalizing i with
  | nil => rfl
  | cons n ns ih =>
    simp only [draws, List.map_cons]
    rw [fin_drop]
    simp only [List.cons.injEq, true_and]
    exact ih _
/-- What bounds behind others draw. -/
theorem draws_behind (ws ns : List Nat) (t i : Nat) (p : Nat × Nat) (ht : t ≤ ns.length) (hp : (draws (ws.drop (drawsEnd ws 0 (ns.take t))) 0 (ns.drop t))[i]? = some p) : (draws ws 0 ns)[t + i]? = some (p.1, drawsEnd ws 0 (ns.take t) + p.2) := by
  conv => lhs; rw [← List.take_append_drop t ns]
  rw [draws_append, List.getElem?_append_right (by rw [draws_length, List.length_take]; omega), draws_length, List.length_take, show t + i - min t ns.length = i by omega]
  have := draws_shift ws (drawsEnd ws 0 (ns.take t)) 0 (ns.drop t)
  rw [Nat.add_zero] at this
  rw [this, List.getElem?_map, hp]
  rfl
theorem draws_front (ws ns : List Nat) (t : Nat) (ht : t ≤ ns.length) : (draws ws 0 ns).take t = draws ws 0 (ns.take t) := by
  conv => lhs; rw [← List.take_append_drop t ns]
  rw [draws_append, List.take_append_of_le_length (by rw [draws_length, List.length_take]; omega), List.take_of_length_le (by rw [draws_length, List.length_take]; omega)]
theorem end_use (ws ns : List Nat) (t : Nat) (h0 : 0 < t) (ht : t ≤ ns.length) : (uses (draws ws 0 (ns.take t)))[t - 1]? = some (.int .i64 (drawsEnd ws 0 (ns.take t) : Nat)) := by
  obtain ⟨k, rfl⟩ : ∃ k, t = k + 1 := ⟨t - 1, by omega⟩
  obtain ⟨h1, h2⟩ := draws_take ws ns k (by omega)
  rw [h1, h2]
  simp [uses, draws_length, Nat.min_eq_left (show k ≤ ns.length by omega)]
theorem take_reads {w : World} {a : Option Addr} {b : Nat} {xs : List Value} (t : Nat) (h : Reads w a b xs) : Reads w a b (xs.take t) := by
  intro hne
  obtain ⟨off, ha, hc⟩ := h (by intro h; apply hne; rw [h, List.take_nil])
  refine ⟨off, ha, fun i u hu => hc i u ?_⟩
  rw [List.getElem?_take] at hu
  split at hu
  · exact hu
  · cases hu
theorem Try.elemW : Try.prog.elem 22 = 26 := by kernel_rfl
theorem Try.undW : Try.prog.underlying 22 = some (.slice (Try.prog.elem 22)) := by kernel_rfl
theorem Try.sizeW (w : World) : (sizeOf 26).run Try.prog w = .ok 1 w := by kernel_rfl

set_option maxRecDepth 100000 in
set_option maxHeartbeats 2000000 in
theorem fnBoundsInARow_walk (a0 : Option Addr) (len0 cap0 b0 : Nat) (ws0 : List Nat) (a1 : Option Addr) (len1 cap1 b1 : Nat) (ws1 : List Nat) (n2 : Nat) (w : World) (A0 : Arg u64 18446744073709551616 8 w a0 len0 cap0 b0 ws0) (A1 : Arg u64 18446744073709551616 8 w a1 len1 cap1 b1 ws1) (l2 : n2 < 256) :
    Calls Try.prog 7 #[.slice a0 len0 cap0, .slice a1 len1 cap1, .int .u8 (n2 : Int)] w fun e w' => e = .returned (.bool true) ∧ Below w.heap.size w w' := by
  have hs0 := A0.small
  have hs1 := A1.small
  have HL0 := Lib.hid A0.length
  have hpl : (pos ws1).length ≤ len1 := by rw [← A1.length]; exact List.length_filter_le _ _
  have hpb := pos_bounds ws1 _ A1.fit
  go_enter Try.func7, Try.ntmps7
  go_wp2_with fail
  refine (positive_any a1 b1 len1 cap1 ws1 _ A1).mono ?_
  rintro e w1 ⟨gL, cL, rfl, rL, hgL, s1⟩
  generalize pos ws1 = ns at *
  obtain ⟨L, hL⟩ : ∃ L, L = ns.length := ⟨_, rfl⟩
  rw [← hL] at hpl rL
  rw [← hL]
  have HL := Lib.hid hL
  clear hL
  have hat1 : n2 % (L + 1) < L + 1 := Nat.mod_lt _ (by omega)
  have hat2 : (n2 : Int) % ((L : Int) + 1) = ((n2 % (L + 1) : Nat) : Int) := by rw [show (L : Int) + 1 = ((L + 1 : Nat) : Int) by omega]; rfl
  have hat3 : (n2 : Int).tmod ((L : Int) + 1) = ((n2 % (L + 1) : Nat) : Int) := by rw [show (L : Int) + 1 = ((L + 1 : Nat) : Int) by omega]; rfl
  generalize n2 % (L + 1) = t at *
  have htL : t ≤ L := by omega
  have hcL := rL.le
  have hcM := rL.max
  unfold maxLen at hcM
  go_wp2_with fail
  refine (uint64Ns_any a0 b0 len0 cap0 ws0 _ gL L cL ns _ A0.size A0.fit (A0.reads.kept s1 (fun h => h)) A0.nil (by omega) HL.out.symm hpb rL.reads (by omega)).mono ?_
  rintro e w2 ⟨gV, cV, gU, cU, rfl, rV, rU, hgV, s2⟩
  have st2 := s1.trans s2
  have rL2 := rL.kept s2 (fun h => h)
  clear rL s1 s2 hat2 hat3
  have rT : Reads w2 (some ⟨gL, 0, none⟩) gL ((ns.take t).map u64) := by
    intro hne
    obtain ⟨off, ha, hc⟩ := rL2.reads (by intro h; apply hne; rw [List.map_take, h, List.take_nil])
    refine ⟨off, ha, fun i u hu => hc i u ?_⟩
    rw [List.map_take, List.getElem?_take] at hu
    split at hu
    · exact hu
    · cases hu
  have hlt : (ns.take t).length = t := by rw [List.length_take, ← HL.out]; omega
  have HLT := Lib.hid hlt
  clear hlt
  go_wp2_with fail
  refine (uint64Ns_any a0 b0 len0 cap0 ws0 _ gL t cL (ns.take t) _ A0.size A0.fit (A0.reads.kept st2 (fun h => h)) A0.nil (by omega) HLT.out (fun x hx => hpb x (List.mem_of_mem_take hx)) rT (by omega)).mono ?_
  rintro e w3 ⟨gF, cF, gG, cG, rfl, rF, rG, hgF, s3⟩
  have st3 := st2.trans s3
  have rV3 := rV.kept s3 (fun h => h)
  have rU3 := rU.kept s3 (fun h => h)
  have rL3 := rL2.kept s3 (fun h => h)
  clear rV rU rL2 s3 st2 rT
  have hbeh := fun i p => draws_behind ws0 ns t i p (by rw [← HL.out]; exact htL)
  have HBE := Lib.hid hbeh
  have hfr := draws_front ws0 ns t (by rw [← HL.out]; exact htL)
  have HFR := Lib.hid hfr
  have hdl : (ns.drop t).length = L - t := by rw [List.length_drop, ← HL.out]
  have HDL := Lib.hid hdl
  clear hbeh hfr hdl
  by_cases ht0 : 0 < t
  · have hcq := rG.cell (end_use ws0 ns t ht0 (by rw [← HL.out]; exact htL))
    have hq2 : drawsEnd ws0 0 (ns.take t) ≤ 35184372087808 := (used_small ws0 ns t (by rw [HL0.out]; omega) (by rw [← HL.out]; omega)).1
    generalize drawsEnd ws0 0 (ns.take t) = q at *
    have ht1 : (t : Int) - 1 = ((t - 1 : Nat) : Int) := by omega
    have hcap := A0.le
    have htop := A0.top
    unfold maxLen at htop
    obtain ⟨qm, hqm, hmin, hmin2⟩ : ∃ qm : Nat, qm = min q len0 ∧ (if (len0 : Int) < (q : Int) then (len0 : Int) else (q : Int)) = (qm : Int) ∧ (if len0 < q then (len0 : Int) else (q : Int)) = (qm : Int) := by
      by_cases h : len0 < q
      · exact ⟨len0, by omega, by rw [if_pos (by omega)], by rw [if_pos h]⟩
      · exact ⟨q, by omega, by rw [if_neg (by omega)], by rw [if_neg h]⟩
    have hqml : qm ≤ len0 := by omega
    have hdrop : ws0.drop q = ws0.drop qm := by
      by_cases h : q ≤ len0
      · rw [show qm = q by omega]
      · rw [List.drop_of_length_le (by rw [HL0.out]; omega), List.drop_of_length_le (by rw [HL0.out]; omega)]
    have HQ := Lib.hid hdrop
    clear hdrop hqm
    have hq0 : ¬ (q : Int) < 0 := by omega
    go_wp2_with (with_reducible show wpList _ _ _ (⟨_, Op.slice _ _ (some _) none none, _, _, _, _⟩ :: _) _ _; refine wpList_from rfl _ _ 22 rfl 26 Try.elemW Try.undW Try.sizeW a0 len0 cap0 qm _ rfl rfl rfl hqml hcap ?_)
    intro aR cR
    have hRr : Reads w3 aR b0 ((ws0.drop q).map u64) := by rw [HQ.out, List.map_drop]; exact cR.reads w3 b0 _ A0.size (A0.reads.kept st3 (fun h => h))
    have hRl : ((ws0.drop q).map u64).length = len0 - qm := by rw [HQ.out, List.length_map, List.length_drop, HL0.out]
    have hRn : aR = none → cap0 - qm = 0 := fun h => by have := A0.nil (cR.nil h); omega
    clear cR hcq hmin hmin2 ht1
    go_wp2_with (with_reducible show wpList _ _ _ (⟨_, Op.slice _ _ (some _) none none, _, _, _, _⟩ :: _) _ _; refine wpList_from rfl _ _ 22 rfl 26 Try.elemW Try.undW Try.sizeW (some ⟨gL, 0, none⟩) L cL t _ rfl rfl rfl htL hcL ?_)
    intro aN cN
    have hNr : Reads w3 aN gL ((ns.drop t).map u64) := by rw [List.map_drop]; exact cN.reads w3 gL _ rL3.len rL3.reads
    clear cN
    go_wp2_with fail
    refine (uint64Ns_any aR b0 (len0 - qm) (cap0 - qm) (ws0.drop q) aN gL (L - t) (cL - t) (ns.drop t) _ hRl (fun x hx => A0.fit x (List.mem_of_mem_drop hx)) hRr hRn (by omega) HDL.out (fun x hx => hpb x (List.mem_of_mem_drop hx)) hNr (by omega)).mono ?_
    rintro e w4 ⟨gX, cX, gY, cY, rfl, rX, rY, hgX, s4⟩
    have st4 := st3.trans s4
    have rV4 := rV3.kept s4 (fun h => h)
    have rU4 := rU3.kept s4 (fun h => h)
    have rF4 := rF.kept s4 (fun h => h)
    have rG4 := rG.kept s4 (fun h => h)
    clear rV3 rU3 rF rG rL3 s4 st3 hNr hRr hRl
    go_wp2_with fail
    go_loopg [106] (L - t) (fun k i wr => ∃ j : Nat, k = L - t - j ∧ j ≤ L - t ∧ i = .int .i64 (j : Int) ∧ Still w4 wr)
    case atStart => exact ⟨0, rfl, Nat.zero_le _, rfl, Turned.refl _ _⟩
    case round =>
      obtain ⟨i, hk, hi, rfl, hst⟩ := hrel
      have Hk := Lib.hid hk
      clear hk
      by_cases hlt : i < L - t
      · obtain ⟨p, hp⟩ : ∃ p, (draws (ws0.drop q) 0 (ns.drop t))[i]? = some p := ⟨_, draws_get _ _ _ (by rw [HDL.out]; exact hlt)⟩
        have hb := HBE.out i p hp
        obtain ⟨pv, pu⟩ := p
        have hp' := hp
        skip
        have k1 : wr.cell? ⟨gX, i, none⟩ = some (.int .u64 (pv : Int)) := (rX.kept hst (fun h => h)).cell (by simp [vals, hp'])
        have k2 : wr.cell? ⟨gY, i, none⟩ = some (.int .i64 (pu : Int)) := (rY.kept hst (fun h => h)).cell (by simp [uses, hp'])
        have k3 : wr.cell? ⟨gV, t + i, none⟩ = some (.int .u64 (pv : Int)) := (rV4.kept hst (fun h => h)).cell (by simp [vals, hb])
        have k4 : wr.cell? ⟨gU, t + i, none⟩ = some (.int .i64 ((q : Int) + (pu : Int))) := (rU4.kept hst (fun h => h)).cell (by simp [uses, hb])
        have hpu : pu ≤ 70368744175618 := by
          have h1 := (used_small (ws0.drop q) (ns.drop t) i (by rw [List.length_drop, HL0.out]; omega) (by rw [HDL.out]; omega)).2
          have h2 := draws_get (ws0.drop q) (ns.drop t) i (by rw [HDL.out]; exact hlt)
          rw [hp] at h2
          have hil : i < (ns.drop t).length := by rw [HDL.out]; exact hlt
          have h3 := h1 (ns.drop t)[i]
          simp only [Option.some.injEq] at h2
          rw [← h2] at h3
          simp only at h3
          omega
        clear hb hp hp'
        go_wp2_with fail
        go_quiet (fail)
        go_wp2_with fail
        go_roundg (L - t - (i + 1))
        case measure => rw [Hk.out]; omega
        case rel => exact ⟨i + 1, rfl, by omega, by go_num, hst.drewN _⟩
      · clear Hk
        have rV5 := take_reads t (rV4.kept hst (fun h => h)).reads
        have rU5 := take_reads t (rU4.kept hst (fun h => h)).reads
        have rF5 := rF4.kept hst (fun h => h)
        have rG5 := rG4.kept hst (fun h => h)
        have e1 : (vals .u64 (draws ws0 0 ns)).take t = ((draws ws0 0 (ns.take t)).map Prod.fst).map u64 := by rw [← vals_words, ← HFR.out, vals, vals, List.map_take]
        have e2 : (uses (draws ws0 0 ns)).take t = ((draws ws0 0 (ns.take t)).map fun p => (p.2 : Int)).map i64 := by rw [← uses_counts, ← HFR.out, uses, uses, List.map_take]
        rw [e1] at rV5
        rw [e2] at rU5
        rw [vals_words] at rF5
        rw [uses_counts] at rG5
        have hcV := rV4.le
        have hcU := rU4.le
        have hmV := rV4.max
        have hmU := rU4.max
        unfold maxLen at hmV hmU
        have st5 := st4.trans hst
        clear rV4 rU4 rF4 rG4 rX rY e1 e2 HBE
        go_wp2_with fail
        refine (sameWords_any _ _ t _ t cF gV gF _ _ _ rF5.len rF5.len rV5 rF5.reads (by omega)).mono ?_
        rintro e w6 ⟨rfl, s6⟩
        simp only [decide_true]
        go_wp2_with fail
        refine (sameCounts_any _ _ t _ t cG gU gG _ _ _ rG5.len rG5.len (rU5.kept s6 (fun h => h)) (rG5.kept s6 (fun h => h)).reads (by omega)).mono ?_
        rintro e w7 ⟨rfl, s7⟩
        simp only [decide_true]
        go_wp2_with fail
        go_ret
        exact ⟨rfl, ((st5.trans s6).trans s7).below (Nat.le_refl _) (fun k h => h.elim)⟩
  · obtain rfl : t = 0 := by omega
    have hRr : Reads w3 a0 b0 ((ws0.drop 0).map u64) := A0.reads.kept st3 (fun h => h)
    have hRl : ((ws0.drop 0).map u64).length = len0 := A0.size
    go_wp2_with (with_reducible show wpList _ _ _ (⟨_, Op.slice _ _ (some _) none none, _, _, _, _⟩ :: _) _ _; refine wpList_from rfl _ _ 22 rfl 26 Try.elemW Try.undW Try.sizeW (some ⟨gL, 0, none⟩) L cL 0 _ rfl rfl rfl htL hcL ?_)
    intro aN cN
    have hNr : Reads w3 aN gL ((ns.drop 0).map u64) := by rw [List.map_drop]; exact cN.reads w3 gL _ rL3.len rL3.reads
    clear cN
    go_wp2_with fail
    refine (uint64Ns_any a0 b0 len0 cap0 (ws0.drop 0) aN gL (L - 0) (cL - 0) (ns.drop 0) _ hRl (fun x hx => A0.fit x (List.mem_of_mem_drop hx)) hRr A0.nil (by omega) HDL.out (fun x hx => hpb x (List.mem_of_mem_drop hx)) hNr (by omega)).mono ?_
    rintro e w4 ⟨gX, cX, gY, cY, rfl, rX, rY, hgX, s4⟩
    have st4 := st3.trans s4
    have rV4 := rV3.kept s4 (fun h => h)
    have rU4 := rU3.kept s4 (fun h => h)
    have rF4 := rF.kept s4 (fun h => h)
    have rG4 := rG.kept s4 (fun h => h)
    clear rV3 rU3 rF rG rL3 s4 st3 hNr hRr hRl
    go_wp2_with fail
    go_loopg [106] (L - 0) (fun k i wr => ∃ j : Nat, k = L - 0 - j ∧ j ≤ L - 0 ∧ i = .int .i64 (j : Int) ∧ Still w4 wr)
    case atStart => exact ⟨0, rfl, Nat.zero_le _, rfl, Turned.refl _ _⟩
    case round =>
      obtain ⟨i, hk, hi, rfl, hst⟩ := hrel
      have Hk := Lib.hid hk
      clear hk
      by_cases hlt : i < L - 0
      · obtain ⟨p, hp⟩ : ∃ p, (draws (ws0.drop 0) 0 (ns.drop 0))[i]? = some p := ⟨_, draws_get _ _ _ (by rw [HDL.out]; exact hlt)⟩
        have hb := HBE.out i p hp
        obtain ⟨pv, pu⟩ := p
        have hp' := hp
        simp only [List.drop_zero] at hp'
        have k1 : wr.cell? ⟨gX, i, none⟩ = some (.int .u64 (pv : Int)) := (rX.kept hst (fun h => h)).cell (by simp [vals, hp'])
        have k2 : wr.cell? ⟨gY, i, none⟩ = some (.int .i64 (pu : Int)) := (rY.kept hst (fun h => h)).cell (by simp [uses, hp'])
        have k3 : wr.cell? ⟨gV, i, none⟩ = some (.int .u64 (pv : Int)) := (rV4.kept hst (fun h => h)).cell (by rw [Nat.zero_add] at hb; simp [vals, hb])
        have k4 : wr.cell? ⟨gU, i, none⟩ = some (.int .i64 ((pu : Int))) := (rU4.kept hst (fun h => h)).cell (by rw [Nat.zero_add] at hb; simp [uses, hb, drawsEnd])
        have hpu : pu ≤ 70368744175618 := by
          have h1 := (used_small (ws0.drop 0) (ns.drop 0) i (by rw [List.length_drop, HL0.out]; omega) (by rw [HDL.out]; omega)).2
          have h2 := draws_get (ws0.drop 0) (ns.drop 0) i (by rw [HDL.out]; exact hlt)
          rw [hp] at h2
          have hil : i < (ns.drop 0).length := by rw [HDL.out]; exact hlt
          have h3 := h1 (ns.drop 0)[i]
          simp only [Option.some.injEq] at h2
          rw [← h2] at h3
          simp only at h3
          omega
        clear hb hp hp'
        go_wp2_with fail
        go_quiet (fail)
        go_wp2_with fail
        go_roundg (L - 0 - (i + 1))
        case measure => rw [Hk.out]; omega
        case rel => exact ⟨i + 1, rfl, by omega, by go_num, hst.drewN _⟩
      · clear Hk
        have rV5 := take_reads 0 (rV4.kept hst (fun h => h)).reads
        have rU5 := take_reads 0 (rU4.kept hst (fun h => h)).reads
        have rF5 := rF4.kept hst (fun h => h)
        have rG5 := rG4.kept hst (fun h => h)
        have e1 : (vals .u64 (draws ws0 0 ns)).take 0 = ((draws ws0 0 (ns.take 0)).map Prod.fst).map u64 := by rw [← vals_words, ← HFR.out, vals, vals, List.map_take]
        have e2 : (uses (draws ws0 0 ns)).take 0 = ((draws ws0 0 (ns.take 0)).map fun p => (p.2 : Int)).map i64 := by rw [← uses_counts, ← HFR.out, uses, uses, List.map_take]
        rw [e1] at rV5
        rw [e2] at rU5
        rw [vals_words] at rF5
        rw [uses_counts] at rG5
        have hcV := rV4.le
        have hcU := rU4.le
        have hmV := rV4.max
        have hmU := rU4.max
        unfold maxLen at hmV hmU
        have st5 := st4.trans hst
        clear rV4 rU4 rF4 rG4 rX rY e1 e2 HBE
        go_wp2_with fail
        refine (sameWords_any _ _ 0 _ 0 cF gV gF _ _ _ rF5.len rF5.len rV5 rF5.reads (by omega)).mono ?_
        rintro e w6 ⟨rfl, s6⟩
        simp only [decide_true]
        go_wp2_with fail
        refine (sameCounts_any _ _ 0 _ 0 cG gU gG _ _ _ rG5.len rG5.len (rU5.kept s6 (fun h => h)) (rG5.kept s6 (fun h => h)).reads (by omega)).mono ?_
        rintro e w7 ⟨rfl, s7⟩
        simp only [decide_true]
        go_wp2_with fail
        go_ret
        exact ⟨rfl, ((st5.trans s6).trans s7).below (Nat.le_refl _) (fun k h => h.elim)⟩
end Go.Proofs.Ytpffccojlkkfkaa
