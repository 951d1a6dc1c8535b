/-
  The exact law's comparisons, marks and looks at marks, and the reference's Float64s.
-/
import Derived.Test.YtgjopehkmfbafaaExactA
namespace Go.Proofs.Ytgjopehkmfbafaa
open Go.RowKit
set_option linter.unusedVariables false

set_option maxHeartbeats 1000000 in
theorem eqIntS_any (a1 a2 : Option Addr) (n c1 c2 b1 b2 : Nat) (f : Nat → Int) (w : World) (hr1 : Reads w a1 b1 (firsts (fun i => .int .i64 (f i)) n)) (hr2 : Reads w a2 b2 (firsts (fun i => .int .i64 (f i)) n)) (hm : n < 4611686018427387904) :
    Calls Try.prog 14 #[.slice a1 n c1, .slice a2 n c2] w fun e w' => e = .returned (.bool true) ∧ Still w w' := by
  go_enter Try.func14, Try.ntmps14
  go_wp2_with fail
  go_loopg [5] n (fun k i wr => ∃ j : Nat, k = n - j ∧ j ≤ n ∧ i = .int .i64 (j : Int) ∧ Still w wr)
  case atStart => exact ⟨0, rfl, Nat.zero_le _, rfl, Turned.refl _ _⟩
  case round =>
    obtain ⟨j, hk, hj, rfl, hst⟩ := hrel
    have Hk := Lib.hid hk
    clear hk
    by_cases hlt : j < n
    · obtain ⟨off1, rfl, hc1⟩ := hr1.at (i := j) (by simpa [firsts] using hlt)
      obtain ⟨off2, rfl, hc2⟩ := hr2.at (i := j) (by simpa [firsts] using hlt)
      have hd1 : wr.cell? ⟨b1, off1 + j, none⟩ = some (.int .i64 (f j)) := hst.cell (by simpa [firsts] using hc1) (fun h => h)
      have hd2 : wr.cell? ⟨b2, off2 + j, none⟩ = some (.int .i64 (f j)) := hst.cell (by simpa [firsts] using hc2) (fun h => h)
      clear hc1 hc2 hr1 hr2
      generalize f j = m at *
      go_wp2_with fail
      go_quiet (fail)
      go_wp2_with fail
      go_roundg (n - (j + 1))
      case measure => rw [Hk.out]; omega
      case rel => exact ⟨j + 1, rfl, by omega, by go_num, hst.drewN _⟩
    · go_wp2_with fail
      go_ret
      exact ⟨rfl, hst⟩

set_option maxHeartbeats 1000000 in
theorem eqUint64S_any (a1 a2 : Option Addr) (n c1 c2 b1 b2 : Nat) (f : Nat → Int) (w : World) (hr1 : Reads w a1 b1 (firsts (fun i => .int .u64 (f i)) n)) (hr2 : Reads w a2 b2 (firsts (fun i => .int .u64 (f i)) n)) (hm : n < 4611686018427387904) :
    Calls Try.prog 15 #[.slice a1 n c1, .slice a2 n c2] w fun e w' => e = .returned (.bool true) ∧ Still w w' := by
  go_enter Try.func15, Try.ntmps15
  go_wp2_with fail
  go_loopg [5] n (fun k i wr => ∃ j : Nat, k = n - j ∧ j ≤ n ∧ i = .int .i64 (j : Int) ∧ Still w wr)
  case atStart => exact ⟨0, rfl, Nat.zero_le _, rfl, Turned.refl _ _⟩
  case round =>
    obtain ⟨j, hk, hj, rfl, hst⟩ := hrel
    have Hk := Lib.hid hk
    clear hk
    by_cases hlt : j < n
    · obtain ⟨off1, rfl, hc1⟩ := hr1.at (i := j) (by simpa [firsts] using hlt)
      obtain ⟨off2, rfl, hc2⟩ := hr2.at (i := j) (by simpa [firsts] using hlt)
      have hd1 : wr.cell? ⟨b1, off1 + j, none⟩ = some (.int .u64 (f j)) := hst.cell (by simpa [firsts] using hc1) (fun h => h)
      have hd2 : wr.cell? ⟨b2, off2 + j, none⟩ = some (.int .u64 (f j)) := hst.cell (by simpa [firsts] using hc2) (fun h => h)
      clear hc1 hc2 hr1 hr2
      generalize f j = m at *
      go_wp2_with fail
      go_quiet (fail)
      go_wp2_with fail
      go_roundg (n - (j + 1))
      case measure => rw [Hk.out]; omega
      case rel => exact ⟨j + 1, rfl, by omega, by go_num, hst.drewN _⟩
    · go_wp2_with fail
      go_ret
      exact ⟨rfl, hst⟩

/-- A row whose first j cells are marked from k on. -/
def marking (f : Nat → Value) (k : Nat) (xs : List Value) (j : Nat) : List Value := (List.range j).map (fun i => f (k + i)) ++ xs.drop j
theorem marking_set (f : Nat → Value) (k : Nat) (xs : List Value) (j : Nat) (h : j < xs.length) : (marking f k xs j).set j (f (k + j)) = marking f k xs (j + 1) := by
  simp only [marking]
  have e := List.drop_eq_getElem_cons h
  rw [List.set_append_right _ _ (by simp), e, List.length_map, List.length_range, Nat.sub_self, List.set_cons_zero, List.range_succ, List.map_append, List.append_assoc]
  rfl
theorem marking_zero (f : Nat → Value) (k : Nat) (xs : List Value) : marking f k xs 0 = xs := by simp [marking]
theorem marking_all (f : Nat → Value) (k : Nat) (xs : List Value) : marking f k xs xs.length = firsts (fun i => f (k + i)) xs.length := by simp [marking, firsts]
theorem marking_len (f : Nat → Value) (k : Nat) (xs : List Value) (j : Nat) (h : j ≤ xs.length) : (marking f k xs j).length = xs.length := by simp [marking]; omega
theorem marking_at (f : Nat → Value) (k : Nat) (xs : List Value) (j : Nat) (h : j < xs.length) : (marking f k xs j)[j]? = some xs[j] := by
  rw [marking, List.getElem?_append_right (by simp)]
  simp [List.getElem?_eq_getElem h]
/-- A float is stored as any other cell. -/
theorem run_store_float {P : Program} {w : World} {a : Addr} {m : Mode} (k : FloatKind) (b : Nat) : (store a (.float k b) m).run P w = stored P w a (.float k b) m := run_store P w a _ m rfl
attribute [local go_sem] run_store_float
def mU64 (k : Nat) : Value := .int .u64 (k : Int)
def mI64 (k : Nat) : Value := .int .i64 (k : Int)
def mF64 (k : Nat) : Value := .float .f64 (floatOfInt .f64 (k : Int))

set_option maxHeartbeats 1000000 in
theorem markUint64S_any (g n c k : Nat) (xs : List Value) (w : World) (K : Int) (hK : K = (k : Int)) (hr : Row w 36 g n c xs) (hx : ∀ v ∈ xs, ∃ q, v = .int .u64 q) (hn : n < 9007199254740992) (hk : k < 9007199254740992) :
    Calls Try.prog 16 #[.slice (some ⟨g, 0, none⟩) n c, .int .i64 K] w fun e w' => e = .returned (.int .i64 (K + n)) ∧ Row w' 36 g n c (firsts (fun i => mU64 (k + i)) n) ∧ Turns g w w' := by
  subst hK
  have HL := Lib.hid hr.len
  go_enter Try.func16, Try.ntmps16
  go_wp2_with fail
  go_loopg [5, 1] n (fun m i q wr => ∃ j : Nat, m = n - j ∧ j ≤ n ∧ i = .int .i64 (j : Int) ∧ q = .int .i64 ((k : Int) + j) ∧ Row wr 36 g n c (marking mU64 k xs j) ∧ Turns g w wr)
  case atStart => exact ⟨0, rfl, Nat.zero_le _, rfl, by simp, by rw [marking_zero]; exact hr, Turned.refl _ _⟩
  case round =>
    obtain ⟨j, hm, hj, rfl, rfl, hrow, hst⟩ := hrel
    have Hm := Lib.hid hm
    clear hm
    by_cases hlt : j < n
    · have hl : j < xs.length := by rw [HL.out]; exact hlt
      have hwc := hrow.cell (marking_at mU64 k xs j hl)
      obtain ⟨old, hold⟩ := hx xs[j] (List.getElem_mem hl)
      rw [hold] at hwc
      have hwf := hrow.free j
      have hset := hrow.set j (mU64 (k + j))
      rw [marking_set mU64 k xs j hl] at hset
      have hst2 : Turns g w (wr.setCell ⟨g, j, none⟩ (mU64 (k + j))) := hst.setCell (p := ⟨g, j, none⟩) (fun h => rfl) _
      have ek : ((k + j : Nat) : Int) = (k : Int) + j := by omega
      simp only [mU64, ek] at hset hst2
      clear hold ek hl
      go_wp2_with fail
      go_roundg (n - (j + 1))
      case measure => rw [Hm.out]; omega
      case rel => exact ⟨j + 1, rfl, by omega, by go_num, by go_num, hset, hst2⟩
    · obtain rfl : n = j := by omega
      go_wp2_with fail
      go_ret
      refine ⟨rfl, ?_, hst⟩
      have := HL.out
      subst this
      rw [marking_all] at hrow
      exact hrow

set_option maxHeartbeats 1000000 in
theorem markIntS_any (g n c k : Nat) (xs : List Value) (w : World) (K : Int) (hK : K = (k : Int)) (hr : Row w 3 g n c xs) (hx : ∀ v ∈ xs, ∃ q, v = .int .i64 q) (hn : n < 9007199254740992) (hk : k < 9007199254740992) :
    Calls Try.prog 18 #[.slice (some ⟨g, 0, none⟩) n c, .int .i64 K] w fun e w' => e = .returned (.int .i64 (K + n)) ∧ Row w' 3 g n c (firsts (fun i => mI64 (k + i)) n) ∧ Turns g w w' := by
  subst hK
  have HL := Lib.hid hr.len
  go_enter Try.func18, Try.ntmps18
  go_wp2_with fail
  go_loopg [5, 1] n (fun m i q wr => ∃ j : Nat, m = n - j ∧ j ≤ n ∧ i = .int .i64 (j : Int) ∧ q = .int .i64 ((k : Int) + j) ∧ Row wr 3 g n c (marking mI64 k xs j) ∧ Turns g w wr)
  case atStart => exact ⟨0, rfl, Nat.zero_le _, rfl, by simp, by rw [marking_zero]; exact hr, Turned.refl _ _⟩
  case round =>
    obtain ⟨j, hm, hj, rfl, rfl, hrow, hst⟩ := hrel
    have Hm := Lib.hid hm
    clear hm
    by_cases hlt : j < n
    · have hl : j < xs.length := by rw [HL.out]; exact hlt
      have hwc := hrow.cell (marking_at mI64 k xs j hl)
      obtain ⟨old, hold⟩ := hx xs[j] (List.getElem_mem hl)
      rw [hold] at hwc
      have hwf := hrow.free j
      have hset := hrow.set j (mI64 (k + j))
      rw [marking_set mI64 k xs j hl] at hset
      have hst2 : Turns g w (wr.setCell ⟨g, j, none⟩ (mI64 (k + j))) := hst.setCell (p := ⟨g, j, none⟩) (fun h => rfl) _
      have ek : ((k + j : Nat) : Int) = (k : Int) + j := by omega
      simp only [mI64, ek] at hset hst2
      clear hold ek hl
      go_wp2_with fail
      go_roundg (n - (j + 1))
      case measure => rw [Hm.out]; omega
      case rel => exact ⟨j + 1, rfl, by omega, by go_num, by go_num, hset, hst2⟩
    · obtain rfl : n = j := by omega
      go_wp2_with fail
      go_ret
      refine ⟨rfl, ?_, hst⟩
      have := HL.out
      subst this
      rw [marking_all] at hrow
      exact hrow

set_option maxHeartbeats 1000000 in
theorem markFloat64S_any (g n c k : Nat) (xs : List Value) (w : World) (K : Int) (hK : K = (k : Int)) (hr : Row w 38 g n c xs) (hx : ∀ v ∈ xs, ∃ q, v = .float .f64 q) (hn : n < 9007199254740992) (hk : k < 9007199254740992) :
    Calls Try.prog 17 #[.slice (some ⟨g, 0, none⟩) n c, .int .i64 K] w fun e w' => e = .returned (.int .i64 (K + n)) ∧ Row w' 38 g n c (firsts (fun i => mF64 (k + i)) n) ∧ Turns g w w' := by
  subst hK
  have HL := Lib.hid hr.len
  go_enter Try.func17, Try.ntmps17
  go_wp2_with fail
  go_loopg [5, 1] n (fun m i q wr => ∃ j : Nat, m = n - j ∧ j ≤ n ∧ i = .int .i64 (j : Int) ∧ q = .int .i64 ((k : Int) + j) ∧ Row wr 38 g n c (marking mF64 k xs j) ∧ Turns g w wr)
  case atStart => exact ⟨0, rfl, Nat.zero_le _, rfl, by simp, by rw [marking_zero]; exact hr, Turned.refl _ _⟩
  case round =>
    obtain ⟨j, hm, hj, rfl, rfl, hrow, hst⟩ := hrel
    have Hm := Lib.hid hm
    clear hm
    by_cases hlt : j < n
    · have hl : j < xs.length := by rw [HL.out]; exact hlt
      have hwc := hrow.cell (marking_at mF64 k xs j hl)
      obtain ⟨old, hold⟩ := hx xs[j] (List.getElem_mem hl)
      rw [hold] at hwc
      have hwf := hrow.free j
      have hset := hrow.set j (mF64 (k + j))
      rw [marking_set mF64 k xs j hl] at hset
      have hst2 : Turns g w (wr.setCell ⟨g, j, none⟩ (mF64 (k + j))) := hst.setCell (p := ⟨g, j, none⟩) (fun h => rfl) _
      have ek : ((k + j : Nat) : Int) = (k : Int) + j := by omega
      simp only [mF64, ek] at hset hst2
      clear hold ek hl
      go_wp2_with fail
      go_roundg (n - (j + 1))
      case measure => rw [Hm.out]; omega
      case rel => exact ⟨j + 1, rfl, by omega, by go_num, by go_num, hset, hst2⟩
    · obtain rfl : n = j := by omega
      go_wp2_with fail
      go_ret
      refine ⟨rfl, ?_, hst⟩
      have := HL.out
      subst this
      rw [marking_all] at hrow
      exact hrow

set_option maxHeartbeats 1000000 in
theorem heldIntS_any (g n c k : Nat) (w : World) (K : Int) (hK : K = (k : Int)) (hr : Row w 3 g n c (firsts (fun i => mI64 (k + i)) n)) (hn : n < 900719925474099) (hk : k < 900719925474099) :
    Calls Try.prog 20 #[.slice (some ⟨g, 0, none⟩) n c, .int .i64 K] w fun e w' => e = .returned (.int .i64 (K + n)) ∧ Still w w' := by
  subst hK
  go_enter Try.func20, Try.ntmps20
  go_wp2_with fail
  go_loopg [5, 1] n (fun m i q wr => ∃ j : Nat, m = n - j ∧ j ≤ n ∧ i = .int .i64 (j : Int) ∧ q = .int .i64 ((k : Int) + j) ∧ Still w wr)
  case atStart => exact ⟨0, rfl, Nat.zero_le _, rfl, by simp, Turned.refl _ _⟩
  case round =>
    obtain ⟨j, hm, hj, rfl, rfl, hst⟩ := hrel
    have Hm := Lib.hid hm
    clear hm
    by_cases hlt : j < n
    · have hwc : wr.cell? ⟨g, j, none⟩ = some (.int .i64 ((k : Int) + j)) := by
        have := (hr.kept hst (fun h => h)).cell (firsts_get (fun i => mI64 (k + i)) n j hlt)
        rw [this]
        simp only [mI64]
        rw [show ((k + j : Nat) : Int) = (k : Int) + j by omega]
      go_wp2_with fail
      go_roundg (n - (j + 1))
      case measure => rw [Hm.out]; omega
      case rel => exact ⟨j + 1, rfl, by omega, by go_num, by go_num, hst⟩
    · obtain rfl : n = j := by omega
      go_wp2_with fail
      go_ret
      exact ⟨rfl, hst⟩

set_option maxHeartbeats 1000000 in
theorem heldFloat64S_any (g n c k : Nat) (w : World) (K : Int) (hK : K = (k : Int)) (hr : Row w 38 g n c (firsts (fun i => mF64 (k + i)) n)) (hn : n < 900719925474099) (hk : k < 900719925474099) :
    Calls Try.prog 19 #[.slice (some ⟨g, 0, none⟩) n c, .int .i64 K] w fun e w' => e = .returned (.int .i64 (K + n)) ∧ Still w w' := by
  subst hK
  go_enter Try.func19, Try.ntmps19
  go_wp2_with fail
  go_loopg [5, 1] n (fun m i q wr => ∃ j : Nat, m = n - j ∧ j ≤ n ∧ i = .int .i64 (j : Int) ∧ q = .int .i64 ((k : Int) + j) ∧ Still w wr)
  case atStart => exact ⟨0, rfl, Nat.zero_le _, rfl, by simp, Turned.refl _ _⟩
  case round =>
    obtain ⟨j, hm, hj, rfl, rfl, hst⟩ := hrel
    have Hm := Lib.hid hm
    clear hm
    by_cases hlt : j < n
    · have hwc : wr.cell? ⟨g, j, none⟩ = some (.float .f64 (floatOfInt .f64 ((k : Int) + j))) := by
        have := (hr.kept hst (fun h => h)).cell (firsts_get (fun i => mF64 (k + i)) n j hlt)
        rw [this]
        simp only [mF64]
        rw [show ((k + j : Nat) : Int) = (k : Int) + j by omega]
      have hord : (FloatKind.f64.format.order (floatOfInt .f64 ((k : Int) + j)) (floatOfInt .f64 ((k : Int) + j)) != some .eq) = false := by
        have := order_int_f64 (k + j) (k + j) (by omega) (by omega)
        rw [show ((k + j : Nat) : Int) = (k : Int) + j by omega] at this
        rw [this]; simp
      go_wp2_with fail
      go_roundg (n - (j + 1))
      case measure => rw [Hm.out]; omega
      case rel => exact ⟨j + 1, rfl, by omega, by go_num, by go_num, hst⟩
    · obtain rfl : n = j := by omega
      go_wp2_with fail
      go_ret
      exact ⟨rfl, hst⟩
end Go.Proofs.Ytgjopehkmfbafaa
