/-
  The walk of FnPlainDraws.
-/
import Derived.Test.YtgjopehkmfbafaaFloatBits
namespace Go.Proofs.Ytgjopehkmfbafaa
open Go.RowKit
set_option linter.unusedVariables false

set_option maxRecDepth 100000 in
set_option maxHeartbeats 2000000 in
theorem fnPlainDraws_walk (a0 : Option Addr) (len0 cap0 b0 : Nat) (ws0 : List Nat) (w : World) (A0 : Arg u64 18446744073709551616 8 w a0 len0 cap0 b0 ws0) :
    Calls Try.prog 7 #[.slice a0 len0 cap0] w fun e w' => e = .returned (.bool true) ∧ Below w.heap.size w w' := by
  have hs0 := A0.small
  have hle := A0.le
  have htop := A0.top
  unfold maxLen at htop
  obtain ⟨cnt, hcnt1, hcnt2, _, hmin⟩ := min40 len0 40 (by omega)
  go_enter Try.func7, Try.ntmps7
  go_wp2_with fail
  refine (uint32s_any a0 b0 len0 cap0 ws0 cnt _ A0.size A0.fit A0.reads A0.nil (by omega) (by omega)).mono ?_
  rintro e w1 ⟨ga, ca, gp, cp, rfl, ra, rp, hga, hT1⟩
  go_wp2_with fail
  refine (int32s_any a0 b0 len0 cap0 ws0 cnt _ A0.size A0.fit (A0.reads.kept hT1 (fun h => h)) A0.nil (by omega) (by omega)).mono ?_
  rintro e w2 ⟨gb, cb, gq, cq, rfl, rb, rq, hgb, hT2⟩
  have hst2 := hT1.trans hT2
  go_wp2_with fail
  refine (int64s_any a0 b0 len0 cap0 ws0 cnt _ A0.size A0.fit (A0.reads.kept hst2 (fun h => h)) A0.nil (by omega) (by omega)).mono ?_
  rintro e w3 ⟨gc, cc, gr, cr, rfl, rc, rr, hgc, hT3⟩
  have hst3 := hst2.trans hT3
  go_wp2_with fail
  refine (ints_any a0 b0 len0 cap0 ws0 cnt _ A0.size A0.fit (A0.reads.kept hst3 (fun h => h)) A0.nil (by omega) (by omega)).mono ?_
  rintro e w4 ⟨gd, cd, gs, cs, rfl, rd, rs, hgd, hT4⟩
  have hst4 := hst3.trans hT4
  have ra4 := ((ra.kept hT2 (fun h => h)).kept hT3 (fun h => h)).kept hT4 (fun h => h)
  have rp4 := ((rp.kept hT2 (fun h => h)).kept hT3 (fun h => h)).kept hT4 (fun h => h)
  have rb4 := (rb.kept hT3 (fun h => h)).kept hT4 (fun h => h)
  have rq4 := (rq.kept hT3 (fun h => h)).kept hT4 (fun h => h)
  have rc4 := rc.kept hT4 (fun h => h)
  have rr4 := rr.kept hT4 (fun h => h)
  clear ra rp rb rq rc rr hT1 hT2 hT3 hT4 hst2 hst3
  go_wp2_with fail
  have hz4 := hst4.size
  go_loopg [12, 73] cnt (fun k o i wr => ∃ j g1 c1 : Nat, k = cnt - j ∧ j ≤ cnt ∧ o = .slice (some ⟨g1, 0, none⟩) j c1 ∧ i = .int .i64 (j : Int) ∧ Row wr 3 g1 j c1 (firsts counted j) ∧ w4.heap.size ≤ g1 ∧ Still w4 wr)
  case atStart => exact ⟨0, w4.heap.size, 0, rfl, Nat.zero_le _, rfl, rfl, Row.empty _ _, Nat.le_refl _, (Turned.refl _ _).alloc _⟩
  case round =>
    obtain ⟨j, g1, c1, hk, hj, rfl, rfl, hrow, hg1, hst⟩ := hrel
    have Hk := Lib.hid hk
    clear hk
    by_cases hlt : j < cnt
    · have hx := A0.word j
      obtain ⟨off0, rfl, hc0⟩ := A0.at (j := j) (by omega)
      have hd0 := (hst4.trans hst).cell hc0 (fun h => h)
      have hca : wr.cell? ⟨ga, j, none⟩ = some (.int .u32 (wordAt ws0 j / 4294967296 : Nat)) := (ra4.kept hst (fun h => h)).cell (firsts_get _ _ _ hlt)
      have hcb : wr.cell? ⟨gb, j, none⟩ = some (.int .i32 (wordAt ws0 j / 8589934592 : Nat)) := (rb4.kept hst (fun h => h)).cell (firsts_get _ _ _ hlt)
      have hcc : wr.cell? ⟨gc, j, none⟩ = some (.int .i64 (wordAt ws0 j % 9223372036854775808 : Nat)) := (rc4.kept hst (fun h => h)).cell (firsts_get _ _ _ hlt)
      have hcd : wr.cell? ⟨gd, j, none⟩ = some (.int .i64 (wordAt ws0 j % 9223372036854775808 : Nat)) := (rd.kept hst (fun h => h)).cell (firsts_get _ _ _ hlt)
      have e32 : (wordAt ws0 j : Int) / 4294967296 = ((wordAt ws0 j / 4294967296 : Nat) : Int) := rfl
      have e33 : (wordAt ws0 j : Int) / 8589934592 = ((wordAt ws0 j / 8589934592 : Nat) : Int) := rfl
      have l32 : wordAt ws0 j / 4294967296 < 4294967296 := by omega
      have l33 : wordAt ws0 j / 8589934592 < 2147483648 := by omega
      have hb1 : (j + 1) * 8 ≤ 140737488355328 := by omega
      have hb2 : j + 1 ≤ 140737488355328 := by omega
      have h63 := low63' (wordAt ws0 j) hx
      clear hc0
      generalize wordAt ws0 j % 9223372036854775808 = m at *
      generalize wordAt ws0 j / 4294967296 = p at *
      generalize wordAt ws0 j / 8589934592 = q at *
      generalize wordAt ws0 j = x at *
      go_wp2_with (at_builtin; refine wpList_push rfl _ _ 25 rfl 3 (.int .i64 0) 8 Try.underlying25 Try.infoInt rfl g1 j c1 _ rfl hrow (counted j) rfl rfl hb1 hb2 ?_)
      intro g1' c1' w5 hr5 hat5 hT5
      clear h63
      rw [← firsts_succ] at hr5
      have hst5 := hst.then hT5 (fun k hk e => by subst e; omega)
      have hz := hst.size
      clear hd0 hca hcb hcc hcd e32 e33
      go_wp2
      go_roundg (cnt - (j + 1))
      case measure => rw [Hk.out]; omega
      case rel => exact ⟨j + 1, g1', c1', rfl, by omega, rfl, by go_num, hr5, by omega, hst5⟩
    · obtain rfl : cnt = j := by omega
      have rp5 := rp4.kept hst (fun h => h)
      have rq5 := rq4.kept hst (fun h => h)
      have rr5 := rr4.kept hst (fun h => h)
      have rs5 := rs.kept hst (fun h => h)
      rw [counted_i64] at rp5 rq5 rr5 rs5 hrow
      have hstw := hst4.trans hst
      clear ra4 rp4 rb4 rq4 rc4 rr4 rs rd hst hst4 Hk
      go_wp2_with fail
      refine (sameCounts_any _ _ cnt cp cnt c1 gp g1 _ _ _ rp5.len hrow.len rp5.reads hrow.reads (by omega)).mono ?_
      rintro e w6 ⟨rfl, hT6⟩
      simp only [decide_true]
      go_wp2_with fail
      have rq6 := rq5.kept hT6 (fun h => h)
      have hw6 := hrow.kept hT6 (fun h => h)
      refine (sameCounts_any _ _ cnt cq cnt c1 gq g1 _ _ _ rq6.len hw6.len rq6.reads hw6.reads (by omega)).mono ?_
      rintro e w7 ⟨rfl, hT7⟩
      simp only [decide_true]
      go_wp2_with fail
      have rr7 := (rr5.kept hT6 (fun h => h)).kept hT7 (fun h => h)
      have hw7 := hw6.kept hT7 (fun h => h)
      refine (sameCounts_any _ _ cnt cr cnt c1 gr g1 _ _ _ rr7.len hw7.len rr7.reads hw7.reads (by omega)).mono ?_
      rintro e w8 ⟨rfl, hT8⟩
      simp only [decide_true]
      go_wp2_with fail
      have rs8 := ((rs5.kept hT6 (fun h => h)).kept hT7 (fun h => h)).kept hT8 (fun h => h)
      have hw8 := hw7.kept hT8 (fun h => h)
      refine (sameCounts_any _ _ cnt cs cnt c1 gs g1 _ _ _ rs8.len hw8.len rs8.reads hw8.reads (by omega)).mono ?_
      rintro e w9 ⟨rfl, hT9⟩
      simp only [decide_true]
      go_wp2_with fail
      go_ret
      exact ⟨rfl, ((((hstw.trans hT6).trans hT7).trans hT8).trans hT9).below (Nat.le_refl _) (fun k h => h.elim)⟩
end Go.Proofs.Ytgjopehkmfbafaa
