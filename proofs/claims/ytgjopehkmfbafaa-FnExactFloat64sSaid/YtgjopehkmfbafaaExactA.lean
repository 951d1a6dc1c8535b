/-
  The helpers of the exact law: the reference's Float64s, copies, comparisons, marks.
-/
import Derived.Test.YtgjopehkmfbafaaMake
import Derived.Test.YtgjopehkmfbafaaFloatBits
namespace Go.Proofs.Ytgjopehkmfbafaa
open Go.RowKit
set_option linter.unusedVariables false

/-- A copy of words, whose first j are copied. -/
def copied (ws : List Nat) (j : Nat) : List Nat := ws.take j ++ List.replicate (ws.length - j) 0
theorem copied_zero (ws : List Nat) : (copied ws 0).map u64 = List.replicate ws.length (.int .u64 0) := by simp [copied, u64]
theorem copied_all (ws : List Nat) : copied ws ws.length = ws := by simp [copied]
theorem copied_set (ws : List Nat) (j : Nat) (h : j < ws.length) : ((copied ws j).map u64).set j (.int .u64 (wordAt ws j : Nat)) = (copied ws (j + 1)).map u64 := by
  have e1 : ws.length - j = (ws.length - (j + 1)) + 1 := by omega
  have e2 : wordAt ws j = ws[j] := by simp [wordAt, List.getElem?_eq_getElem h]
  simp only [copied, e1, List.replicate_succ, List.map_append, List.map_cons, e2]
  rw [List.set_append_right _ _ (by simp; omega)]
  have e3 : List.take (j + 1) (ws.map u64) = List.take j (ws.map u64) ++ [u64 ws[j]] := by
    rw [List.take_succ_eq_append_getElem (by simpa using h)]
    simp
  simp [Nat.min_eq_left (Nat.le_of_lt h), e3, u64]

/-- What a new row holds: it lies behind all that was there. -/
def NewRow (w : World) (e : TypeId) (n : Nat) (xs : List Value) (r : Ending) (w' : World) : Prop := ∃ g c, r = .returned (.slice (some ⟨g, 0, none⟩) n c) ∧ Row w' e g n c xs ∧ w.heap.size ≤ g ∧ Still w w'

set_option maxHeartbeats 1000000 in
theorem toUint64S_any (a : Option Addr) (b n c : Nat) (ws : List Nat) (w : World) (A : Arg u64 18446744073709551616 8 w a n c b ws) :
    Calls Try.prog 11 #[.slice a n c] w (NewRow w 36 n (ws.map u64)) := by
  have hs := A.small
  have hl := A.length
  have HL := Lib.hid hl
  clear hl
  go_enter Try.func11, Try.ntmps11
  go_wp2_with (at_make; refine wpList_makes rfl _ _ 22 rfl 36 (.int .u64 0) 8 Try.underlying22 Try.infoU64 rfl n rfl rfl (by omega) (by omega) ?_)
  intro w1 hr1 hT1
  go_wp2_with fail
  go_loopg [4] n (fun k i wr => ∃ j : Nat, k = n - j ∧ j ≤ n ∧ i = .int .i64 (j : Int) ∧ Row wr 36 w.heap.size n n ((copied ws j).map u64) ∧ Still w wr)
  case atStart => exact ⟨0, rfl, Nat.zero_le _, rfl, by rw [copied_zero, HL.out]; exact hr1, hT1⟩
  case round =>
    obtain ⟨j, hk, hj, rfl, hrow, hst⟩ := hrel
    have Hk := Lib.hid hk
    clear hk
    by_cases hlt : j < n
    · obtain ⟨off, rfl, hc⟩ := A.at hlt
      have hd := hst.cell hc (fun h => h)
      have hwc : wr.cell? ⟨w.heap.size, j, none⟩ = some (u64 ((copied ws j)[j]?.getD 0)) := hrow.cell (by
        have : j < (copied ws j).length := by have := hrow.len; simp at this; omega
        simp [List.getElem?_eq_getElem this])
      have hwf := hrow.free j
      have hset := hrow.set j (.int .u64 (wordAt ws j : Nat))
      rw [copied_set ws j (by rw [HL.out]; exact hlt)] at hset
      have hst2 : Still w (wr.setCell ⟨w.heap.size, j, none⟩ (.int .u64 (wordAt ws j : Nat))) := hst.setCell (fun h => by simp at h) _
      generalize (copied ws j)[j]?.getD 0 = old at *
      unfold u64 at hwc
      clear hc
      go_wp2_with fail
      generalize wr.setCell ⟨w.heap.size, j, none⟩ (.int .u64 (wordAt ws j : Nat)) = w2 at *
      go_roundg (n - (j + 1))
      case measure => rw [Hk.out]; omega
      case rel => exact ⟨j + 1, rfl, by omega, by go_num, hset, hst2⟩
    · obtain rfl : n = j := by omega
      go_wp2_with fail
      go_ret
      refine ⟨w.heap.size, n, rfl, ?_, Nat.le_refl _, hst⟩
      have := HL.out
      subst this
      rw [copied_all] at hrow
      exact hrow

/-- sameFloat at one number. -/
theorem sameFloat_any (m : Nat) (w : World) (hm : m < 9007199254740992) :
    Calls Try.prog 30 #[.float .f64 (d53 m), .float .f64 (d53 m)] w fun e w' => e = .returned (.bool true) ∧ w = w' := by
  have h1 : (FloatKind.f64.format.order (d53 m) (d53 m) != some .eq) = false := by rw [order_f64 _ _ hm hm]; simp
  have h2 : (FloatKind.f64.format.order (d53 m) (d53 m) == some .eq) = true := by rw [order_f64 _ _ hm hm]; simp
  by_cases h0 : m = 0
  · subst h0
    rw [d53_zero] at *
    have hq := fun w => run_float_arith (P := Try.prog) w .quo 38 .f64 _ _ _ one_by_zero
    have hg : (FloatKind.f64.format.order 9218868437227405312 0 == some .gt) = true := by rw [inf_gt]; rfl
    go_enter Try.func30, Try.ntmps30
    go_wp2
    go_ret
    exact ⟨rfl, rfl⟩
  · have h3 : (FloatKind.f64.format.order (d53 m) 0 == some .eq) = false := by
      have := order_f64 m 0 hm (by omega)
      rw [d53_zero] at this
      rw [this, Nat.compare_eq_gt.2 (by omega)]
      rfl
    go_enter Try.func30, Try.ntmps30
    go_wp2
    go_ret
    exact ⟨rfl, rfl⟩

set_option maxHeartbeats 1000000 in
theorem eqFloat64S_any (a1 a2 : Option Addr) (n c1 c2 b1 b2 : Nat) (f : Nat → Nat) (w : World) (hf : ∀ i, f i < 9007199254740992) (hr1 : Reads w a1 b1 (firsts (fun i => .float .f64 (d53 (f i))) n)) (hr2 : Reads w a2 b2 (firsts (fun i => .float .f64 (d53 (f i))) n)) (hm : n < 4611686018427387904) :
    Calls Try.prog 13 #[.slice a1 n c1, .slice a2 n c2] w fun e w' => e = .returned (.bool true) ∧ Still w w' := by
  go_enter Try.func13, Try.ntmps13
  go_wp2_with fail
  go_loopg [5] n (fun k i wr => ∃ j : Nat, k = n - j ∧ j ≤ n ∧ i = .int .i64 (j : Int) ∧ Still w wr)
  case atStart => exact ⟨0, rfl, Nat.zero_le _, rfl, Turned.refl _ _⟩
  case round =>
    obtain ⟨j, hk, hj, rfl, hst⟩ := hrel
    have Hk := Lib.hid hk
    clear hk
    by_cases hlt : j < n
    · have hfj := hf j
      obtain ⟨off1, rfl, hc1⟩ := hr1.at (i := j) (by simpa [firsts] using hlt)
      obtain ⟨off2, rfl, hc2⟩ := hr2.at (i := j) (by simpa [firsts] using hlt)
      have hd1 : wr.cell? ⟨b1, off1 + j, none⟩ = some (.float .f64 (d53 (f j))) := hst.cell (by simpa [firsts] using hc1) (fun h => h)
      have hd2 : wr.cell? ⟨b2, off2 + j, none⟩ = some (.float .f64 (d53 (f j))) := hst.cell (by simpa [firsts] using hc2) (fun h => h)
      clear hc1 hc2 hr1 hr2 hf
      generalize f j = m at *
      have hsame := fun w => sameFloat_any m w hfj
      have Hs := Lib.hid hsame
      clear hsame
      go_wp2_with fail
      go_quiet ((go_at_call 30; exact Calls.quiet_of_same ((Hs.out _).mono (fun e w' h => ⟨h.1, h.2.symm⟩))))
      go_wp2_with fail
      go_roundg (n - (j + 1))
      case measure => rw [Hk.out]; omega
      case rel => exact ⟨j + 1, rfl, by omega, by go_num, hst.drewN _⟩
    · go_wp2_with fail
      go_ret
      exact ⟨rfl, hst⟩
end Go.Proofs.Ytgjopehkmfbafaa
