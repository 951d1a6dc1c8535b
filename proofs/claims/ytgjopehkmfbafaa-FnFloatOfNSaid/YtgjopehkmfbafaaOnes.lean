/-
  The Rand's functions that use one word each: floats and plain numbers.
-/
import Derived.Test.YtgjopehkmfbafaaSrc
import Derived.Test.YtgjopehkmfbafaaFloat
namespace Go.Proofs.Ytgjopehkmfbafaa
open Go.RowKit
set_option linter.unusedVariables false

theorem shl11 (x : Nat) (h : x < 18446744073709551616) : IntKind.u64.wrap ((x : Int) * 2048) / 2048 = ((x % 9007199254740992 : Nat) : Int) := by
  rw [IntKind.wrap_u64]; omega
theorem shl8 (y : Nat) (h : y < 4294967296) : (y : Int) * 256 % 4294967296 / 256 = ((y % 16777216 : Nat) : Int) := by omega
theorem ret_int {k : IntKind} {a b : Int} (h : a = b) : Ending.returned (.int k a) = .returned (.int k b) := by rw [h]
theorem low63 (x : Nat) (h : x < 18446744073709551616) : wrap64 (bits .andNot .u64 (x : Int) 9223372036854775808) = ((x % 9223372036854775808 : Nat) : Int) := by
  have h1 := u64_andNot_nat x 9223372036854775808 h (by omega)
  have e : x &&& (18446744073709551615 - 9223372036854775808) = x % 9223372036854775808 := Nat.and_two_pow_sub_one_eq_mod x 63
  rw [e] at h1
  have h2 : bits .andNot .u64 (x : Int) 9223372036854775808 = ((x % 9223372036854775808 : Nat) : Int) := h1
  rw [h2]
  exact IntWalk.wrap64_in _ (by omega)
theorem low63' (x : Nat) (h : x < 18446744073709551616) : wrap64 (IntKind.u64.wrap ((x : Int) * 2) / 2) = ((x % 9223372036854775808 : Nat) : Int) := by
  have : IntKind.u64.wrap ((x : Int) * 2) / 2 = ((x % 9223372036854775808 : Nat) : Int) := by rw [IntKind.wrap_u64]; omega
  rw [this]
  exact IntWalk.wrap64_in _ (by omega)

theorem float64_any (r s g cap i : Nat) (ws : List Nat) (w : World) (h : Src w r s g cap ws i) (hi : i < 4611686018427387904) :
    Calls Try.prog 29 #[.pointer (some ⟨r, 0, none⟩)] w fun e w' => e = .returned (.float .f64 (d53 (wordAt ws i % 9007199254740992))) ∧ Src w' r s g cap ws (i + 1) ∧ Turns s w w' := by
  have hx := wordAt_lt ws i h.fit
  have hm : wordAt ws i % 9007199254740992 < 9007199254740992 := Nat.mod_lt _ (by omega)
  have hs11 := shl11 (wordAt ws i) hx
  generalize wordAt ws i % 9007199254740992 = m at *
  have hq := fun w => run_float_arith (P := Try.prog) w .quo 38 .f64 _ _ _ (quo_f64 m hm)
  go_enter Try.func29, Try.ntmps29
  go_wp2_with fail
  refine (word_any r s g cap i ws _ h hi).mono ?_
  rintro e w1 ⟨rfl, hs1, hT1⟩
  go_wp2
  go_ret
  exact ⟨rfl, hs1, hT1⟩

theorem uint32_any (r s g cap i : Nat) (ws : List Nat) (w : World) (h : Src w r s g cap ws i) (hi : i < 4611686018427387904) :
    Calls Try.prog 33 #[.pointer (some ⟨r, 0, none⟩)] w fun e w' => e = .returned (.int .u32 (wordAt ws i / 4294967296 : Nat)) ∧ Src w' r s g cap ws (i + 1) ∧ Turns s w w' := by
  have hx := wordAt_lt ws i h.fit
  have hm := method_next
  have hc0 : w.cell? ⟨r, 0, none⟩ = some (.iface 61 (.pointer (some ⟨s, 0, none⟩))) := by rw [cell_of_row _ _ _ _ _ _ h.rand]; rfl
  go_enter Try.func33, Try.ntmps33
  go_wp2_with fail
  refine (next_any r s g cap i ws _ h hi).mono ?_
  rintro e w1 ⟨rfl, hs1, hT1⟩
  go_wp2
  go_ret
  exact ⟨rfl, hs1, hT1⟩

theorem float32_any (r s g cap i : Nat) (ws : List Nat) (w : World) (h : Src w r s g cap ws i) (hi : i < 4611686018427387904) :
    Calls Try.prog 31 #[.pointer (some ⟨r, 0, none⟩)] w fun e w' => e = .returned (.float .f32 (s24 (wordAt ws i / 4294967296 % 16777216))) ∧ Src w' r s g cap ws (i + 1) ∧ Turns s w w' := by
  have hx := wordAt_lt ws i h.fit
  have hu := uint32_any r s g cap i ws w h hi
  have hy : wordAt ws i / 4294967296 < 4294967296 := by omega
  generalize wordAt ws i / 4294967296 = y at *
  have hm : y % 16777216 < 16777216 := Nat.mod_lt _ (by omega)
  have hs8 := shl8 y hy
  have Hu := Lib.hid hu
  clear hu
  generalize y % 16777216 = m at *
  have hq := fun w => run_float_arith (P := Try.prog) w .quo 42 .f32 _ _ _ (quo_f32 m hm)
  go_enter Try.func31, Try.ntmps31
  go_wp2_with fail
  refine Hu.out.mono ?_
  rintro e w1 ⟨rfl, hs1, hT1⟩
  go_wp2
  go_ret
  exact ⟨rfl, hs1, hT1⟩

theorem int64_any (r s g cap i : Nat) (ws : List Nat) (w : World) (h : Src w r s g cap ws i) (hi : i < 4611686018427387904) :
    Calls Try.prog 32 #[.pointer (some ⟨r, 0, none⟩)] w fun e w' => e = .returned (.int .i64 (wordAt ws i % 9223372036854775808 : Nat)) ∧ Src w' r s g cap ws (i + 1) ∧ Turns s w w' := by
  have hx := wordAt_lt ws i h.fit
  have hm := method_next
  have hc0 : w.cell? ⟨r, 0, none⟩ = some (.iface 61 (.pointer (some ⟨s, 0, none⟩))) := by rw [cell_of_row _ _ _ _ _ _ h.rand]; rfl
  go_enter Try.func32, Try.ntmps32
  go_wp2_with fail
  refine (next_any r s g cap i ws _ h hi).mono ?_
  rintro e w1 ⟨rfl, hs1, hT1⟩
  go_wp2
  go_ret
  exact ⟨ret_int (low63 _ hx), hs1, hT1⟩

theorem int32_any (r s g cap i : Nat) (ws : List Nat) (w : World) (h : Src w r s g cap ws i) (hi : i < 4611686018427387904) :
    Calls Try.prog 34 #[.pointer (some ⟨r, 0, none⟩)] w fun e w' => e = .returned (.int .i32 (wordAt ws i / 8589934592 : Nat)) ∧ Src w' r s g cap ws (i + 1) ∧ Turns s w w' := by
  have hx := wordAt_lt ws i h.fit
  have hm := method_next
  have hc0 : w.cell? ⟨r, 0, none⟩ = some (.iface 61 (.pointer (some ⟨s, 0, none⟩))) := by rw [cell_of_row _ _ _ _ _ _ h.rand]; rfl
  go_enter Try.func34, Try.ntmps34
  go_wp2_with fail
  refine (next_any r s g cap i ws _ h hi).mono ?_
  rintro e w1 ⟨rfl, hs1, hT1⟩
  go_wp2
  go_ret
  exact ⟨rfl, hs1, hT1⟩

theorem int_any (r s g cap i : Nat) (ws : List Nat) (w : World) (h : Src w r s g cap ws i) (hi : i < 4611686018427387904) :
    Calls Try.prog 35 #[.pointer (some ⟨r, 0, none⟩)] w fun e w' => e = .returned (.int .i64 (wordAt ws i % 9223372036854775808 : Nat)) ∧ Src w' r s g cap ws (i + 1) ∧ Turns s w w' := by
  have hx := wordAt_lt ws i h.fit
  have hm := method_next
  have hc0 : w.cell? ⟨r, 0, none⟩ = some (.iface 61 (.pointer (some ⟨s, 0, none⟩))) := by rw [cell_of_row _ _ _ _ _ _ h.rand]; rfl
  go_enter Try.func35, Try.ntmps35
  go_wp2_with fail
  refine (next_any r s g cap i ws _ h hi).mono ?_
  rintro e w1 ⟨rfl, hs1, hT1⟩
  go_wp2
  go_ret
  exact ⟨ret_int (low63' _ hx), hs1, hT1⟩
end Go.Proofs.Ytgjopehkmfbafaa
