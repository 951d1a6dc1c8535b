/-
  FnTailStays, as it was given (its second form: arguments of bulk at most 1048576): for every input the call returns true, and each argument reads afterwards as it read before. No further condition.
-/
import Derived.Test.YtlbhfjmcjbjjgaaTail
import Derived.Test.YtlbhfjmcjbjjgaaFrame
import Derived.Test.YtlbhfjmcjbjjgaaBulk
import Derived.Deep.CondSized
namespace Go.Proofs.Ytlbhfjmcjbjjgaa.fnTailStays
open Go.ChangeShapes Go.WideShapes Go.ChangeAt Go.RowKit
set_option linter.unusedVariables false

set_option maxRecDepth 100000 in
theorem lifted (os : Os) (started : os.Started) (H : Type) (enc : TypeId × Value → H) (F : Stop.Interp) :
    ReturnsInHanded {} Try.checked os 3 .any ((Rows.OpenSpec.upto Rows.fnTailStaysSpec).pre6 enc Try.prog Try.f3 Rows.fnTailStaysUptoRow.domain false) (((Rows.OpenSpec.upto Rows.fnTailStaysSpec).at F).post enc Try.prog Try.f3 false true false false) := by
  refine returnsInHanded_of_cond_sized (C := Try.checked) (s := Rows.OpenSpec.upto Rows.fnTailStaysSpec) (k := Rows.uptoSmall) rfl own started (by kernel_rfl) Try.func3
    (OpenSpec.witness (enc := enc) (C := Try.checked) (s := Rows.OpenSpec.upto Rows.fnTailStaysSpec) (k := Rows.uptoSmall) rfl false ⟨#[], #[.slice none 0 0, .slice none 0 0, .int .u8 0, .int .i64 0], []⟩ 8 (by kernel_rfl) (by kernel_rfl) (by kernel_rfl)
      (x := ([.nil, .nil, .lit (.int .u8 0), .lit (.int .i64 0)], [], [])) (by kernel_rfl) rfl (by kernel_rfl)) ?_
  intro W base args ds gs before hval0 hW hcnd hk hsz0 _
  have hval : ∀ (j : Nat) t v, Try.f3.params[j]? = some t → args[j]? = some v → Value.okWide Try.prog W .any base t v := hval0
  have hsz : (DataW.weightsEach Try.prog (Try.f3.params.toList ++ Rows.fnTailStaysSpec.plain.varTypes Try.prog) (ds ++ gs)).all (· ≤ reachBytes) = true := hsz0
  have hW' := hW
  obtain ⟨p, q, hA0, hV, rfl, hfz, hnd⟩ := hW
  have hA : DataW.TrodAll enc Try.prog W 0 (fun _ => true) true Try.f3.params.toList args.toList ds p := hA0
  rw [Try.params3] at hA hval hsz
  obtain ⟨v0, vs0, d0, ds0, p0, q0, hargs, rfl, rfl, h0, r0⟩ := trodAll_cons hA
  obtain ⟨v1, vs1, d1, ds1, p1, q1, rfl, rfl, rfl, h1, r1⟩ := trodAll_cons r0
  obtain ⟨v2, vs2, d2, ds2, p2, q2, rfl, rfl, rfl, h2, r2⟩ := trodAll_cons r1
  obtain ⟨v3, vs3, d3, ds3, p3, q3, rfl, rfl, rfl, h3, r3⟩ := trodAll_cons r2
  obtain ⟨rfl, rfl, rfl⟩ := trodAll_nil r3
  obtain rfl : args = #[v0, v1, v2, v3] := by cases args; simp_all
  obtain ⟨rfl, rfl⟩ := trodVars_none hV
  obtain ⟨a0, len0, cap0, rfl⟩ := okWide_slice Try.underlying22 (hval 0 22 v0 rfl rfl)
  have k0 := h0
  have lt0 : ∀ x ∈ p0, x.block < W.heap.size := by obtain ⟨m, hm⟩ := k0; exact DataW.trod_lt m _ _ _ hm
  obtain ⟨b0, ws0, A0, S0⟩ : ∃ b ws, Arg u64 18446744073709551616 8 W a0 len0 cap0 b ws ∧ len0 ≤ 1048576 := by
    obtain ⟨fuel, hf⟩ := h0
    rcases open_ints Try.underlying22 Try.underlying28 (by kernel_rfl) hf with ⟨hcs, _⟩ | ⟨x, l, c, zs, hcs, _, hl, hm, hz, hx, hcell, hwz⟩
    · simp [Value.cells] at hcs
      obtain ⟨rfl, rfl, rfl⟩ := hcs
      exact ⟨0, [], Arg.none _ _ _ _, by omega⟩
    · simp [Value.cells] at hcs
      obtain ⟨rfl, rfl, rfl⟩ := hcs
      simp only [Prod.mk.injEq] at hx
      obtain ⟨rfl, rfl⟩ := hx
      simp only [if_true] at hz
      have hr : len0 * 8 ≤ 140737488351232 := by
        have := sized_slice hsz (j := 0) (t := 22) (e := 28) rfl rfl Try.underlying22
        rw [show Try.prog.bytesOf 28 = 8 by kernel_rfl] at this
        simp only [lits, List.length_map, List.length_take, List.length_drop, reachBytes] at this
        omega
      have hs : len0 ≤ 1048576 := by
        have h4 : Rows.uptoBulk (DataW.slice (H := H) (lits .u64 (zs.take len0)) (lits .u64 (zs.drop len0))) ≤ 1048576 := by
          refine Nat.le_trans (bulks.part_le ?_) (bulks.bound hk)
          exact List.mem_of_getElem? (i := 0) rfl
        have h3 := Nat.le_trans (bulks.slice_le (H := H) (lits .u64 (zs.take len0)) (lits .u64 (zs.drop len0))) h4
        simp only [lits, List.length_map, List.length_take, List.length_drop] at h3
        omega
      obtain ⟨b, ws, hA⟩ := arg_open wf_u64 hl hm hz hcell hwz hr
      exact ⟨b, ws, hA, hs⟩
  obtain ⟨a1, len1, cap1, rfl⟩ := okWide_slice Try.underlying22 (hval 1 22 v1 rfl rfl)
  have k1 := h1
  have lt1 : ∀ x ∈ p1, x.block < W.heap.size := by obtain ⟨m, hm⟩ := k1; exact DataW.trod_lt m _ _ _ hm
  obtain ⟨b1, ws1, A1, S1⟩ : ∃ b ws, Arg u64 18446744073709551616 8 W a1 len1 cap1 b ws ∧ len1 ≤ 1048576 := by
    obtain ⟨fuel, hf⟩ := h1
    rcases open_ints Try.underlying22 Try.underlying28 (by kernel_rfl) hf with ⟨hcs, _⟩ | ⟨x, l, c, zs, hcs, _, hl, hm, hz, hx, hcell, hwz⟩
    · simp [Value.cells] at hcs
      obtain ⟨rfl, rfl, rfl⟩ := hcs
      exact ⟨0, [], Arg.none _ _ _ _, by omega⟩
    · simp [Value.cells] at hcs
      obtain ⟨rfl, rfl, rfl⟩ := hcs
      simp only [Prod.mk.injEq] at hx
      obtain ⟨rfl, rfl⟩ := hx
      simp only [if_true] at hz
      have hr : len1 * 8 ≤ 140737488351232 := by
        have := sized_slice hsz (j := 1) (t := 22) (e := 28) rfl rfl Try.underlying22
        rw [show Try.prog.bytesOf 28 = 8 by kernel_rfl] at this
        simp only [lits, List.length_map, List.length_take, List.length_drop, reachBytes] at this
        omega
      have hs : len1 ≤ 1048576 := by
        have h4 : Rows.uptoBulk (DataW.slice (H := H) (lits .u64 (zs.take len1)) (lits .u64 (zs.drop len1))) ≤ 1048576 := by
          refine Nat.le_trans (bulks.part_le ?_) (bulks.bound hk)
          exact List.mem_of_getElem? (i := 1) rfl
        have h3 := Nat.le_trans (bulks.slice_le (H := H) (lits .u64 (zs.take len1)) (lits .u64 (zs.drop len1))) h4
        simp only [lits, List.length_map, List.length_take, List.length_drop] at h3
        omega
      obtain ⟨b, ws, hA⟩ := arg_open wf_u64 hl hm hz hcell hwz hr
      exact ⟨b, ws, hA, hs⟩
  obtain ⟨z2, rfl, rfl, rfl, w2⟩ := open_int Try.underlying5 (hval 2 5 v2 rfl rfl) h2
  obtain ⟨n2, rfl, l2⟩ := wf_u8 z2 w2
  obtain ⟨z3, rfl, rfl, rfl, w3⟩ := open_int Try.underlying3 (hval 3 3 v3 rfl rfl) h3
  have l3 := wf_i64 z3 w3
  clear hA0 hval0
  refine (fnTailStays_walk a0 len0 cap0 b0 ws0 a1 len1 cap1 b1 ws1 n2 z3 W A0 S0 A1 S1 l2 l3).mono fun e W' ⟨he, bel⟩ => ?_
  subst he
  exact ⟨_, rfl, _, _, _, [], _, [], hW', trodAll_mk1 (shut_bool Try.underlying4 _), (trodAll_cons_mk (Below.trod laidOut (by kernel_rfl) (of_decide_eq_true (by kernel_rfl)) k0 bel lt0) (trodAll_cons_mk (Below.trod laidOut (by kernel_rfl) (of_decide_eq_true (by kernel_rfl)) k1 bel lt1) (trodAll_cons_mk (shut_int Try.underlying5 w2) (trodAll_cons_mk (shut_int Try.underlying3 w3) trodAll_mk0)))), rfl, bel.frame _, fun h => by cases h⟩

theorem over : Rows.fnTailStaysUptoRow.holds Try.pinned (Rows.OpenSpec.upto Rows.fnTailStaysSpec) :=
  OpenClaim.holds_of_cond 3 Try.f3 rfl rfl rfl rfl rfl rfl rfl ⟨rfl, rfl, rfl, rfl, rfl⟩ rfl rfl rfl rfl rfl (by kernel_rfl) Try.func3 (by kernel_rfl)
    (of_decide_eq_true (by kernel_rfl)) (by unfold Func.isWrapper; first | (rw [if_pos (by decide +kernel)]; kernel_rfl) | (rw [if_neg (by decide +kernel)]; exact ⟨rfl, rfl⟩))
    (fun os started H enc _ F => lifted os started H enc F)

theorem proved : Rows.FnTailStaysUptoSaid := over
#print axioms proved
end Go.Proofs.Ytlbhfjmcjbjjgaa.fnTailStays
