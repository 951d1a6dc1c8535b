/-
  The walk of FnKindsAgree.
-/
import Derived.Test.YtpffccojlkkfkaaFam
import Derived.Test.YtpffccojlkkfkaaSameW
namespace Go.Proofs.Ytpffccojlkkfkaa
open Go.RowKit
set_option linter.unusedVariables false

set_option maxRecDepth 100000 in
set_option maxHeartbeats 2000000 in
theorem fnKindsAgree_walk (a0 : Option Addr) (len0 cap0 b0 : Nat) (ws0 : List Nat) (a1 : Option Addr) (len1 cap1 b1 : Nat) (ws1 : List Nat) (w : World) (A0 : Arg u64 18446744073709551616 8 w a0 len0 cap0 b0 ws0) (A1 : Arg u64 18446744073709551616 8 w a1 len1 cap1 b1 ws1) :
    Calls Try.prog 6 #[.slice a0 len0 cap0, .slice a1 len1 cap1] w fun e w' => e = .returned (.bool true) ∧ Below w.heap.size w w' := by
  have hs0 := A0.small
  have hs1 := A1.small
  have HL0 := Lib.hid A0.length
  have HL1 := Lib.hid A1.length
  have h0 := ((((((Fam.none w).more 26).more 2).more 46).more 21).more 27).more 3
  simp only [World.size_alloc, List.nil_append, List.cons_append, Nat.add_assoc, Nat.reduceAdd] at h0
  go_enter Try.func6, Try.ntmps6
  go_wp2_with fail
  go_loopg [5, 6, 7, 8, 9, 10, 35] len1 (fun k o0 o1 o2 o3 o4 o5 i wr => ∃ j g0 c0 g1 c1 g2 c2 g3 c3 g4 c4 g5 c5 : Nat, k = len1 - j ∧ j ≤ len1 ∧ o0 = .slice (some ⟨g0, 0, none⟩) (pos ((ws1.map (· % 2147483648)).take j)).length c0 ∧ o1 = .slice (some ⟨g1, 0, none⟩) (pos ((ws1.map (· % 2147483648)).take j)).length c1 ∧ o2 = .slice (some ⟨g2, 0, none⟩) (pos ((ws1.map (· % 2147483648)).take j)).length c2 ∧ o3 = .slice (some ⟨g3, 0, none⟩) (pos ((ws1.map (· % 2147483648)).take j)).length c3 ∧ o4 = .slice (some ⟨g4, 0, none⟩) (pos ((ws1.map (· % 2147483648)).take j)).length c4 ∧ o5 = .slice (some ⟨g5, 0, none⟩) (pos ((ws1.map (· % 2147483648)).take j)).length c5 ∧ i = .int .i64 (j : Int) ∧ Fam w wr [⟨26, g0, (pos ((ws1.map (· % 2147483648)).take j)).length, c0, (pos ((ws1.map (· % 2147483648)).take j)).map (num .u64)⟩, ⟨2, g1, (pos ((ws1.map (· % 2147483648)).take j)).length, c1, (pos ((ws1.map (· % 2147483648)).take j)).map (num .i64)⟩, ⟨46, g2, (pos ((ws1.map (· % 2147483648)).take j)).length, c2, (pos ((ws1.map (· % 2147483648)).take j)).map (num .u32)⟩, ⟨21, g3, (pos ((ws1.map (· % 2147483648)).take j)).length, c3, (pos ((ws1.map (· % 2147483648)).take j)).map (num .i32)⟩, ⟨27, g4, (pos ((ws1.map (· % 2147483648)).take j)).length, c4, (pos ((ws1.map (· % 2147483648)).take j)).map (num .u64)⟩, ⟨3, g5, (pos ((ws1.map (· % 2147483648)).take j)).length, c5, (pos ((ws1.map (· % 2147483648)).take j)).map (num .i64)⟩])
  case atStart => exact ⟨0, _, _, _, _, _, _, _, _, _, _, _, _, rfl, Nat.zero_le _, rfl, rfl, rfl, rfl, rfl, rfl, rfl, h0⟩
  case round =>
    obtain ⟨j, g0, c0, g1, c1, g2, c2, g3, c3, g4, c4, g5, c5, hk, hj, rfl, rfl, rfl, rfl, rfl, rfl, rfl, h1⟩ := hrel
    have Hk := Lib.hid hk
    clear hk h0
    by_cases hlt : j < len1
    · have hx := A1.word j
      have hjn : j < (ws1.map (· % 2147483648)).length := by rw [List.length_map, HL1.out]; exact hlt
      obtain ⟨off, rfl, hc⟩ := A1.at hlt
      have hd := h1.still.cell hc (fun h => h)
      have hmv : (ws1.map (· % 2147483648))[j] = wordAt ws1 j % 2147483648 := by
        have hl : j < ws1.length := by rw [HL1.out]; exact hlt
        simp [wordAt, List.getElem?_eq_getElem hl]
      have hp := pos_take (ws1.map (· % 2147483648)) j hjn
      rw [hmv] at hp
      have hpl := pos_le (ws1.map (· % 2147483648)) j
      have hmask : bits .and .u64 (wordAt ws1 j : Int) 2147483647 = ((wordAt ws1 j % 2147483648 : Nat) : Int) := mask_mod (wordAt ws1 j) 31 hx (by omega)
      have hml : wordAt ws1 j % 2147483648 < 2147483648 := Nat.mod_lt _ (by omega)
      clear hc hmv
      generalize (pos ((ws1.map (· % 2147483648)).take j)) = ps at *
      by_cases hz : wordAt ws1 j % 2147483648 = 0
      · rw [if_pos hz, List.append_nil] at hp
        have Hp := Lib.hid hp
        have hmask0 : bits .and .u64 (wordAt ws1 j : Int) 2147483647 = 0 := by rw [hmask, hz]; rfl
        clear hp hz hml hmask
        go_wp2_with fail
        go_roundg (len1 - (j + 1))
        case measure => rw [Hk.out]; omega
        case rel => exact ⟨j + 1, g0, c0, g1, c1, g2, c2, g3, c3, g4, c4, g5, c5, rfl, by omega, by rw [Hp.out], by rw [Hp.out], by rw [Hp.out], by rw [Hp.out], by rw [Hp.out], by rw [Hp.out], by go_num, by rw [Hp.out]; exact h1⟩
      · rw [if_neg hz] at hp
        have Hp := Lib.hid hp
        have hb1 : 1 ≤ wordAt ws1 j % 2147483648 := by omega
        clear hp
        generalize wordAt ws1 j % 2147483648 = m at *
        have hne : ((m : Int) == 0) = false := by simp; omega
        clear hz
        go_wp2_with (at_builtin; refine wpList_push rfl _ _ 22 rfl 26 (.int .u64 0) 8 Try.underlying22 Try.infoU64 rfl g0 _ c0 _ rfl h1.head (.int .u64 (m : Nat)) rfl rfl (by omega) (by omega) ?_)
        intro g0' c0' v0 hr0 hat0 hT0
        have q0 := h1.push hr0 hat0 hT0
        clear hr0 hat0 hT0 h1 hd hmask
        simp only [List.cons_append, List.nil_append] at q0
        go_wp2_with (at_builtin; refine wpList_push rfl _ _ 23 rfl 2 (.int .i64 0) 8 Try.underlying23 Try.infoInt64K rfl g1 _ c1 _ rfl q0.head (.int .i64 (m : Nat)) rfl rfl (by omega) (by omega) ?_)
        intro g1' c1' v1 hr1 hat1 hT1
        have q1 := q0.push hr1 hat1 hT1
        clear hr1 hat1 hT1 q0
        simp only [List.cons_append, List.nil_append] at q1
        go_wp2_with (at_builtin; refine wpList_push rfl _ _ 44 rfl 46 (.int .u32 0) 4 Try.underlying44 Try.infoUint32K rfl g2 _ c2 _ rfl q1.head (.int .u32 (m : Nat)) rfl rfl (by omega) (by omega) ?_)
        intro g2' c2' v2 hr2 hat2 hT2
        have q2 := q1.push hr2 hat2 hT2
        clear hr2 hat2 hT2 q1
        simp only [List.cons_append, List.nil_append] at q2
        go_wp2_with (at_builtin; refine wpList_push rfl _ _ 45 rfl 21 (.int .i32 0) 4 Try.underlying45 Try.infoInt32K rfl g3 _ c3 _ rfl q2.head (.int .i32 (m : Nat)) rfl rfl (by omega) (by omega) ?_)
        intro g3' c3' v3 hr3 hat3 hT3
        have q3 := q2.push hr3 hat3 hT3
        clear hr3 hat3 hT3 q2
        simp only [List.cons_append, List.nil_append] at q3
        go_wp2_with (at_builtin; refine wpList_push rfl _ _ 25 rfl 27 (.int .u64 0) 8 Try.underlying25 Try.infoUintK rfl g4 _ c4 _ rfl q3.head (.int .u64 (m : Nat)) rfl rfl (by omega) (by omega) ?_)
        intro g4' c4' v4 hr4 hat4 hT4
        have q4 := q3.push hr4 hat4 hT4
        clear hr4 hat4 hT4 q3
        simp only [List.cons_append, List.nil_append] at q4
        go_wp2_with (at_builtin; refine wpList_push rfl _ _ 24 rfl 3 (.int .i64 0) 8 Try.underlying24 Try.infoInt rfl g5 _ c5 _ rfl q4.head (.int .i64 (m : Nat)) rfl rfl (by omega) (by omega) ?_)
        intro g5' c5' v5 hr5 hat5 hT5
        have q5 := q4.push hr5 hat5 hT5
        clear hr5 hat5 hT5 q4
        simp only [List.cons_append, List.nil_append] at q5
        go_wp2
        go_roundg (len1 - (j + 1))
        case measure => rw [Hk.out]; omega
        case rel =>
          refine ⟨j + 1, g0', c0', g1', c1', g2', c2', g3', c3', g4', c4', g5', c5', rfl, by omega, by rw [Hp.out]; simp, by rw [Hp.out]; simp, by rw [Hp.out]; simp, by rw [Hp.out]; simp, by rw [Hp.out]; simp, by rw [Hp.out]; simp, by go_num, ?_⟩
          rw [Hp.out]
          simpa [num] using q5
    · obtain rfl : len1 = j := by omega
      clear Hk
      rw [List.take_of_length_le (by rw [List.length_map, HL1.out]; exact Nat.le_refl _)] at *
      have hpl : (pos (ws1.map (· % 2147483648))).length ≤ len1 := by
        have := List.length_filter_le (fun n => n != 0) (ws1.map (· % 2147483648))
        rw [List.length_map, HL1.out] at this
        exact this
      have hpb := pos_bounds (ws1.map (· % 2147483648)) 2147483648 (by
        intro x hx
        obtain ⟨y, _, rfl⟩ := List.mem_map.1 hx
        exact Nat.mod_lt _ (by omega))
      generalize pos (ws1.map (· % 2147483648)) = ns at *
      obtain ⟨L, hL⟩ : ∃ L, L = ns.length := ⟨_, rfl⟩
      rw [← hL] at hpl h1
      rw [← hL]
      have HL := Lib.hid hL
      clear hL
      have st0 := h1.still
      have p0 := h1.get (r := ⟨26, g0, L, c0, ns.map (num .u64)⟩) (by simp)
      have p1 := h1.get (r := ⟨2, g1, L, c1, ns.map (num .i64)⟩) (by simp)
      have p2 := h1.get (r := ⟨46, g2, L, c2, ns.map (num .u32)⟩) (by simp)
      have p3 := h1.get (r := ⟨21, g3, L, c3, ns.map (num .i32)⟩) (by simp)
      have p4 := h1.get (r := ⟨27, g4, L, c4, ns.map (num .u64)⟩) (by simp)
      have p5 := h1.get (r := ⟨3, g5, L, c5, ns.map (num .i64)⟩) (by simp)
      clear h1
      go_wp2_with fail
      refine (uint64Ns_any a0 b0 len0 cap0 ws0 _ g0 L c0 ns _ A0.size A0.fit (A0.reads.kept st0 (fun h => h)) A0.nil (by omega) HL.out.symm (fun x hx => ⟨(hpb x hx).1, by have := (hpb x hx).2; omega⟩) p0.reads (by omega)).mono ?_
      rintro e x0 ⟨gV0, cV0, gU0, cU0, rfl, rV0, rU0, hgV0, s0⟩
      have st1 := st0.trans s0
      replace p0 := p0.kept s0 (fun h => h)
      replace p1 := p1.kept s0 (fun h => h)
      replace p2 := p2.kept s0 (fun h => h)
      replace p3 := p3.kept s0 (fun h => h)
      replace p4 := p4.kept s0 (fun h => h)
      replace p5 := p5.kept s0 (fun h => h)
      clear s0 st0
      go_wp2_with fail
      refine (int64Ns_any a0 b0 len0 cap0 ws0 _ g1 L c1 ns _ A0.size A0.fit (A0.reads.kept st1 (fun h => h)) A0.nil (by omega) HL.out.symm (fun x hx => ⟨(hpb x hx).1, by have := (hpb x hx).2; omega⟩) p1.reads (by omega)).mono ?_
      rintro e x1 ⟨gV1, cV1, gU1, cU1, rfl, rV1, rU1, hgV1, s1⟩
      have st2 := st1.trans s1
      replace p0 := p0.kept s1 (fun h => h)
      replace p1 := p1.kept s1 (fun h => h)
      replace p2 := p2.kept s1 (fun h => h)
      replace p3 := p3.kept s1 (fun h => h)
      replace p4 := p4.kept s1 (fun h => h)
      replace p5 := p5.kept s1 (fun h => h)
      replace rV0 := rV0.kept s1 (fun h => h)
      replace rU0 := rU0.kept s1 (fun h => h)
      clear s1 st1
      go_wp2_with fail
      refine (uint32Ns_any a0 b0 len0 cap0 ws0 _ g2 L c2 ns _ A0.size A0.fit (A0.reads.kept st2 (fun h => h)) A0.nil (by omega) HL.out.symm (fun x hx => ⟨(hpb x hx).1, by have := (hpb x hx).2; omega⟩) p2.reads (by omega)).mono ?_
      rintro e x2 ⟨gV2, cV2, gU2, cU2, rfl, rV2, rU2, hgV2, s2⟩
      have st3 := st2.trans s2
      replace p0 := p0.kept s2 (fun h => h)
      replace p1 := p1.kept s2 (fun h => h)
      replace p2 := p2.kept s2 (fun h => h)
      replace p3 := p3.kept s2 (fun h => h)
      replace p4 := p4.kept s2 (fun h => h)
      replace p5 := p5.kept s2 (fun h => h)
      replace rV0 := rV0.kept s2 (fun h => h)
      replace rU0 := rU0.kept s2 (fun h => h)
      replace rV1 := rV1.kept s2 (fun h => h)
      replace rU1 := rU1.kept s2 (fun h => h)
      clear s2 st2
      go_wp2_with fail
      refine (int32Ns_any a0 b0 len0 cap0 ws0 _ g3 L c3 ns _ A0.size A0.fit (A0.reads.kept st3 (fun h => h)) A0.nil (by omega) HL.out.symm (fun x hx => ⟨(hpb x hx).1, by have := (hpb x hx).2; omega⟩) p3.reads (by omega)).mono ?_
      rintro e x3 ⟨gV3, cV3, gU3, cU3, rfl, rV3, rU3, hgV3, s3⟩
      have st4 := st3.trans s3
      replace p0 := p0.kept s3 (fun h => h)
      replace p1 := p1.kept s3 (fun h => h)
      replace p2 := p2.kept s3 (fun h => h)
      replace p3 := p3.kept s3 (fun h => h)
      replace p4 := p4.kept s3 (fun h => h)
      replace p5 := p5.kept s3 (fun h => h)
      replace rV0 := rV0.kept s3 (fun h => h)
      replace rU0 := rU0.kept s3 (fun h => h)
      replace rV1 := rV1.kept s3 (fun h => h)
      replace rU1 := rU1.kept s3 (fun h => h)
      replace rV2 := rV2.kept s3 (fun h => h)
      replace rU2 := rU2.kept s3 (fun h => h)
      clear s3 st3
      go_wp2_with fail
      refine (uintNs_any a0 b0 len0 cap0 ws0 _ g4 L c4 ns _ A0.size A0.fit (A0.reads.kept st4 (fun h => h)) A0.nil (by omega) HL.out.symm (fun x hx => ⟨(hpb x hx).1, by have := (hpb x hx).2; omega⟩) p4.reads (by omega)).mono ?_
      rintro e x4 ⟨gV4, cV4, gU4, cU4, rfl, rV4, rU4, hgV4, s4⟩
      have st5 := st4.trans s4
      replace p0 := p0.kept s4 (fun h => h)
      replace p1 := p1.kept s4 (fun h => h)
      replace p2 := p2.kept s4 (fun h => h)
      replace p3 := p3.kept s4 (fun h => h)
      replace p4 := p4.kept s4 (fun h => h)
      replace p5 := p5.kept s4 (fun h => h)
      replace rV0 := rV0.kept s4 (fun h => h)
      replace rU0 := rU0.kept s4 (fun h => h)
      replace rV1 := rV1.kept s4 (fun h => h)
      replace rU1 := rU1.kept s4 (fun h => h)
      replace rV2 := rV2.kept s4 (fun h => h)
      replace rU2 := rU2.kept s4 (fun h => h)
      replace rV3 := rV3.kept s4 (fun h => h)
      replace rU3 := rU3.kept s4 (fun h => h)
      clear s4 st4
      go_wp2_with fail
      refine (intNs_any a0 b0 len0 cap0 ws0 _ g5 L c5 ns _ A0.size A0.fit (A0.reads.kept st5 (fun h => h)) A0.nil (by omega) HL.out.symm (fun x hx => ⟨(hpb x hx).1, by have := (hpb x hx).2; omega⟩) p5.reads (by omega)).mono ?_
      rintro e x5 ⟨gV5, cV5, gU5, cU5, rfl, rV5, rU5, hgV5, s5⟩
      have st6 := st5.trans s5
      replace p0 := p0.kept s5 (fun h => h)
      replace p1 := p1.kept s5 (fun h => h)
      replace p2 := p2.kept s5 (fun h => h)
      replace p3 := p3.kept s5 (fun h => h)
      replace p4 := p4.kept s5 (fun h => h)
      replace p5 := p5.kept s5 (fun h => h)
      replace rV0 := rV0.kept s5 (fun h => h)
      replace rU0 := rU0.kept s5 (fun h => h)
      replace rV1 := rV1.kept s5 (fun h => h)
      replace rU1 := rU1.kept s5 (fun h => h)
      replace rV2 := rV2.kept s5 (fun h => h)
      replace rU2 := rU2.kept s5 (fun h => h)
      replace rV3 := rV3.kept s5 (fun h => h)
      replace rU3 := rU3.kept s5 (fun h => h)
      replace rV4 := rV4.kept s5 (fun h => h)
      replace rU4 := rU4.kept s5 (fun h => h)
      clear s5 st5
      clear p0 p1 p2 p3 p4 p5
      go_wp2_with fail
      go_loopg [150] L (fun k i wr => ∃ j : Nat, k = L - j ∧ j ≤ L ∧ i = .int .i64 (j : Int) ∧ wr = x5)
      case atStart => exact ⟨0, rfl, Nat.zero_le _, rfl, rfl⟩
      case round =>
        obtain ⟨j, hk, hj, rfl, rfl⟩ := hrel
        have Hk := Lib.hid hk
        clear hk
        by_cases hlt : j < L
        · have hjn : j < ns.length := by rw [← HL.out]; exact hlt
          obtain ⟨hb1, hb2⟩ := hpb ns[j] (List.getElem_mem hjn)
          have hv := fin_fst_lt ws0 ns[j] (drawsEnd ws0 0 (ns.take j)) A0.fit hb1
          have k0 := rV0.cell (vals_get .u64 ws0 ns j hjn)
          have k1 := rV1.cell (vals_get .i64 ws0 ns j hjn)
          have k2 := rV2.cell (vals_get .u32 ws0 ns j hjn)
          have k3 := rV3.cell (vals_get .i32 ws0 ns j hjn)
          have k4 := rV4.cell (vals_get .u64 ws0 ns j hjn)
          have k5 := rV5.cell (vals_get .i64 ws0 ns j hjn)
          generalize (fin ws0 ns[j] (drawsEnd ws0 0 (ns.take j))).1 = v at *
          have hvM : v < 2147483648 := by omega
          clear hb1 hb2 hv
          go_wp2_with fail
          go_roundg (L - (j + 1))
          case measure => rw [Hk.out]; omega
          case rel => exact ⟨j + 1, rfl, by omega, by go_num, rfl⟩
        · clear Hk
          rw [uses_counts] at rU0 rU1 rU2 rU3 rU4 rU5
          clear rV0 rV1 rV2 rV3 rV4 rV5
          go_wp2_with fail
          refine (sameCounts_any _ _ L cU0 L cU1 gU0 gU1 _ _ _ rU0.len rU1.len rU0.reads rU1.reads (by omega)).mono ?_
          rintro e y1 ⟨rfl, z1⟩
          simp only [decide_true]
          go_wp2_with fail
          refine (sameCounts_any _ _ L cU0 L cU2 gU0 gU2 _ _ _ (rU0.kept z1 (fun h => h)).len (rU2.kept z1 (fun h => h)).len (rU0.kept z1 (fun h => h)).reads (rU2.kept z1 (fun h => h)).reads (by omega)).mono ?_
          rintro e y2 ⟨rfl, z2⟩
          simp only [decide_true]
          go_wp2_with fail
          refine (sameCounts_any _ _ L cU0 L cU3 gU0 gU3 _ _ _ ((rU0.kept z1 (fun h => h)).kept z2 (fun h => h)).len ((rU3.kept z1 (fun h => h)).kept z2 (fun h => h)).len ((rU0.kept z1 (fun h => h)).kept z2 (fun h => h)).reads ((rU3.kept z1 (fun h => h)).kept z2 (fun h => h)).reads (by omega)).mono ?_
          rintro e y3 ⟨rfl, z3⟩
          simp only [decide_true]
          go_wp2_with fail
          refine (sameCounts_any _ _ L cU0 L cU4 gU0 gU4 _ _ _ (((rU0.kept z1 (fun h => h)).kept z2 (fun h => h)).kept z3 (fun h => h)).len (((rU4.kept z1 (fun h => h)).kept z2 (fun h => h)).kept z3 (fun h => h)).len (((rU0.kept z1 (fun h => h)).kept z2 (fun h => h)).kept z3 (fun h => h)).reads (((rU4.kept z1 (fun h => h)).kept z2 (fun h => h)).kept z3 (fun h => h)).reads (by omega)).mono ?_
          rintro e y4 ⟨rfl, z4⟩
          simp only [decide_true]
          go_wp2_with fail
          refine (sameCounts_any _ _ L cU0 L cU5 gU0 gU5 _ _ _ ((((rU0.kept z1 (fun h => h)).kept z2 (fun h => h)).kept z3 (fun h => h)).kept z4 (fun h => h)).len ((((rU5.kept z1 (fun h => h)).kept z2 (fun h => h)).kept z3 (fun h => h)).kept z4 (fun h => h)).len ((((rU0.kept z1 (fun h => h)).kept z2 (fun h => h)).kept z3 (fun h => h)).kept z4 (fun h => h)).reads ((((rU5.kept z1 (fun h => h)).kept z2 (fun h => h)).kept z3 (fun h => h)).kept z4 (fun h => h)).reads (by omega)).mono ?_
          rintro e y5 ⟨rfl, z5⟩
          simp only [decide_true]
          go_wp2_with fail
          go_ret
          exact ⟨rfl, (((((st6.trans z1).trans z2).trans z3).trans z4).trans z5).below (Nat.le_refl _) (fun k h => h.elim)⟩
end Go.Proofs.Ytpffccojlkkfkaa
