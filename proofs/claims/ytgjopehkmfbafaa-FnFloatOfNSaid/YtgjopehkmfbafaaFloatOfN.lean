/-
  The walk of FnFloatOfN.
-/
import Derived.Test.YtgjopehkmfbafaaFloatBits
import Derived.Test.YtgjopehkmfbafaaFloats
import Derived.Test.YtgjopehkmfbafaaOnePer
import Derived.Test.YtgjopehkmfbafaaBounds
import Derived.Test.YtgjopehkmfbafaaSame
import Derived.Test.YtgjopehkmfbafaaFrame
namespace Go.Proofs.Ytgjopehkmfbafaa
open Go.RowKit
set_option linter.unusedVariables false

theorem isPow53 : isPow 9007199254740992 = true := by decide
theorem kept53 (x : Nat) : thrown x 9007199254740992 = false := by simp [thrown, isPow53]
theorem drawn53 (x : Nat) : drawn x 9007199254740992 = x % 9007199254740992 := by
  rw [drawn, isPow53, if_pos rfl]
  exact Nat.and_two_pow_sub_one_eq_mod _ 53
theorem all53 (us : List Nat) (c : Nat) (j : Nat) (hj : j < (List.replicate c 9007199254740992).length) : thrown (wordAt us j) (List.replicate c 9007199254740992)[j] = false := by
  rw [List.getElem_replicate]
  exact kept53 _
theorem uses53 (us : List Nat) (c : Nat) : uses (draws us 0 (List.replicate c 9007199254740992)) = ((List.range c).map fun i : Nat => (i : Int) + 1).map i64 := by
  rw [one_per_uses us _ (all53 us c), List.length_replicate]
  simp [i64, Function.comp_def]
theorem vals53 (us : List Nat) (c j : Nat) (hj : j < c) : (vals .u64 (draws us 0 (List.replicate c 9007199254740992)))[j]? = some (.int .u64 ((wordAt us j % 9007199254740992 : Nat) : Int)) := by
  have h := one_per_get us _ (all53 us c) j (by rw [List.length_replicate]; exact hj)
  rw [List.getElem_replicate, drawn53] at h
  simp [vals, h]

set_option maxRecDepth 100000 in
set_option maxHeartbeats 2000000 in
theorem fnFloatOfN_walk (a0 : Option Addr) (len0 cap0 b0 : Nat) (ws0 : List Nat) (w : World) (A0 : Arg u64 18446744073709551616 8 w a0 len0 cap0 b0 ws0) :
    Calls Try.prog 8 #[.slice a0 len0 cap0] w fun e w' => e = .returned (.bool true) ∧ RowKit.Below w.heap.size w w' := by
  have hs0 := A0.small
  obtain ⟨cnt, hcnt1, hcnt2, _, hmin⟩ := min40 len0 40 (by omega)
  go_enter Try.func8, Try.ntmps8
  go_wp2_with fail
  go_loopg [4, 16] cnt (fun k o i wr => ∃ j g1 c1 : Nat, k = cnt - j ∧ j ≤ cnt ∧ o = .slice (some ⟨g1, 0, none⟩) j c1 ∧ i = .int .i64 (j : Int) ∧ Row wr 36 g1 j c1 ((List.replicate j 9007199254740992).map u64) ∧ w.heap.size ≤ g1 ∧ Still w wr)
  case atStart => exact ⟨0, w.heap.size, 0, rfl, Nat.zero_le _, rfl, rfl, Row.empty _ _, Nat.le_refl _, (Turned.refl _ _).alloc _⟩
  case round =>
    obtain ⟨j, g1, c1, hk, hj, rfl, rfl, hrow, hg1, hst⟩ := hrel
    have Hk := Lib.hid hk
    clear hk
    by_cases hlt : j < cnt
    · go_wp2_with (at_builtin; refine wpList_push rfl _ _ 22 rfl 36 (.int .u64 0) 8 Try.underlying22 Try.infoU64 rfl g1 j c1 _ rfl hrow (.int .u64 9007199254740992) rfl rfl (by omega) (by omega) ?_)
      intro g1' c1' w3 hr3 hat3 hT3
      have hst3 := hst.then hT3 (fun k hk e => by subst e; omega)
      have hz := hst.size
      go_wp2
      go_roundg (cnt - (j + 1))
      case measure => rw [Hk.out]; omega
      case rel =>
        refine ⟨j + 1, g1', c1', rfl, by omega, rfl, by go_num, ?_, by omega, hst3⟩
        rw [List.replicate_succ', List.map_append, List.map_replicate]
        exact hr3
    · obtain rfl : cnt = j := by omega
      clear Hk hlt
      go_wp2_with fail
      refine (float64s_any a0 b0 len0 cap0 ws0 cnt _ A0.size A0.fit (A0.reads.kept hst (fun h => h)) A0.nil (by omega) (by omega)).mono ?_
      rintro e w1 ⟨ga, ca, gu, cu, rfl, ra, ru, hga, hT1⟩
      have hst1 := hst.trans hT1
      have hrow1 := hrow.kept hT1 (fun h => h)
      have HRL : Hid ((List.replicate cnt 9007199254740992).length = cnt) := List.length_replicate ..
      have hbn : ∀ x ∈ List.replicate cnt 9007199254740992, 1 ≤ x ∧ x < 18446744073709551616 := fun x hx => by rw [List.eq_of_mem_replicate hx]; omega
      have HU := Lib.hid (uses53 ws0 cnt)
      have HV := Lib.hid (vals53 ws0 cnt)
      generalize List.replicate cnt 9007199254740992 = ns at *
      go_wp2_with fail
      refine (uint64Ns_any a0 b0 len0 cap0 ws0 _ g1 cnt c1 ns _ A0.size A0.fit (A0.reads.kept hst1 (fun h => h)) A0.nil (by omega) HRL.out hbn hrow1.reads (by omega)).mono ?_
      rintro e w2 ⟨gb, cb, gv, cv, rfl, rb, rv, hgb, hT2⟩
      have hst2 := hst1.trans hT2
      rw [counted_i64] at ru
      rw [HU.out] at rv
      have ra2 := ra.kept hT2 (fun h => h)
      have ru2 := ru.kept hT2 (fun h => h)
      clear hrow hrow1 hst hst1 hT1 hT2 ra ru HU
      go_wp2_with fail
      refine (sameCounts_any _ _ cnt cu cnt cv gu gv _ _ _ ru2.len rv.len ru2.reads rv.reads (by omega)).mono ?_
      rintro e w3 ⟨rfl, hT3⟩
      have hst3 := hst2.trans hT3
      have ra3 := ra2.kept hT3 (fun h => h)
      have rb3 := rb.kept hT3 (fun h => h)
      clear ra2 ru2 rb rv hst2 hT3
      simp only [decide_true]
      go_wp2_with fail
      go_loopg [53] cnt (fun k i wr => ∃ j : Nat, k = cnt - j ∧ j ≤ cnt ∧ i = .int .i64 (j : Int) ∧ Still w3 wr)
      case atStart => exact ⟨0, rfl, Nat.zero_le _, rfl, Turned.refl _ _⟩
      case round =>
        obtain ⟨j, hk, hj, rfl, hstr⟩ := hrel
        have Hk := Lib.hid hk
        clear hk
        by_cases hlt : j < cnt
        · have hca : wr.cell? ⟨ga, j, none⟩ = some (.float .f64 (d53 (wordAt ws0 j % 9007199254740992))) := (ra3.kept hstr (fun h => h)).cell (firsts_get _ _ _ hlt)
          have hcb := (rb3.kept hstr (fun h => h)).cell (HV.out j hlt)
          have hmx : wordAt ws0 j % 9007199254740992 < 9007199254740992 := Nat.mod_lt _ (by omega)
          generalize wordAt ws0 j % 9007199254740992 = mj at *
          have heq2 : (FloatKind.f64.format.order (floatOfInt .f64 (mj : Int)) (floatOfInt .f64 (mj : Int)) != some .eq) = false := by rw [order_int_f64 _ _ hmx hmx]; simp
          have hq := fun w => run_float_arith (P := Try.prog) w .mul 38 .f64 _ _ _ (mul_f64 mj hmx)
          go_wp2_with fail
          go_roundg (cnt - (j + 1))
          case measure => rw [Hk.out]; omega
          case rel => exact ⟨j + 1, rfl, by omega, by go_num, hstr⟩
        · go_wp2_with fail
          go_ret
          exact ⟨rfl, (hst3.trans hstr).below (Nat.le_refl _) (fun k h => h.elim)⟩
end Go.Proofs.Ytgjopehkmfbafaa
