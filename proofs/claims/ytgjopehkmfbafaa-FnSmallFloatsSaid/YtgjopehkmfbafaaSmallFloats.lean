/-
  The walk of FnSmallFloats.
-/
import Derived.Test.YtgjopehkmfbafaaFloatBits
import Derived.Test.YtgjopehkmfbafaaFloats
import Derived.Test.YtgjopehkmfbafaaSame
import Derived.Test.YtgjopehkmfbafaaFrame
namespace Go.Proofs.Ytgjopehkmfbafaa
open Go.RowKit
set_option linter.unusedVariables false

/-- The words os have the bits 32 to 55 of the first n of ws. -/
def Alike24 (os ws : List Nat) (n : Nat) : Prop := (∀ x ∈ os, x < 18446744073709551616) ∧ ∀ i, i < n → wordAt os i / 4294967296 % 16777216 = wordAt ws i / 4294967296 % 16777216

theorem Alike24.snoc {os ws : List Nat} {y : Nat} (h : Alike24 os ws os.length) (hy : y < 18446744073709551616) (he : y / 4294967296 % 16777216 = wordAt ws os.length / 4294967296 % 16777216) : Alike24 (os ++ [y]) ws (os.length + 1) := by
  refine ⟨fun x hx => ?_, fun i hi => ?_⟩
  · rcases List.mem_append.1 hx with hx | hx
    · exact h.1 x hx
    · simp only [List.mem_singleton] at hx
      omega
  · by_cases hl : i < os.length
    · rw [wordAt_snoc_lt _ _ _ hl]; exact h.2 i hl
    · obtain rfl : i = os.length := by omega
      rw [wordAt_snoc]; exact he
theorem Alike24.firsts {os ws : List Nat} {n : Nat} (h : Alike24 os ws n) : firsts (f32At os) n = firsts (f32At ws) n := by
  apply List.map_congr_left
  intro i hi
  simp only [f32At]
  rw [h.2 i (by simpa using hi)]
theorem clear_bits : ∀ i, i < 24 → Nat.testBit 18374686483966590975 (32 + i) = false := by decide
theorem xor_mask32 (x m : Nat) : (x ^^^ (m &&& 18374686483966590975)) / 4294967296 % 16777216 = x / 4294967296 % 16777216 := by
  rw [show (16777216 : Nat) = 2 ^ 24 from rfl, show (4294967296 : Nat) = 2 ^ 32 from rfl, ← Nat.shiftRight_eq_div_pow, ← Nat.shiftRight_eq_div_pow]
  apply Nat.eq_of_testBit_eq
  intro i
  simp only [Nat.testBit_mod_two_pow, Nat.testBit_shiftRight, Nat.testBit_xor, Nat.testBit_and]
  by_cases h : i < 24
  · simp [h, clear_bits i h]
  · simp [h]
theorem xor_word32 (x m : Nat) (hx : x < 18446744073709551616) (hm : m < 18446744073709551616) : bits .xor .u64 (x : Int) (bits .andNot .u64 (m : Int) 72057589742960640) = ((x ^^^ (m &&& 18374686483966590975) : Nat) : Int) ∧ x ^^^ (m &&& 18374686483966590975) < 18446744073709551616 := by
  have h1 := u64_andNot_nat m 72057589742960640 hm (by omega)
  have h2 : bits .andNot .u64 (m : Int) 72057589742960640 = ((m &&& 18374686483966590975 : Nat) : Int) := h1
  have h3 : m &&& 18374686483966590975 < 18446744073709551616 := Nat.lt_of_le_of_lt Nat.and_le_left hm
  rw [h2, bits_xor_u64_nat x _ hx h3]
  exact ⟨rfl, Nat.xor_lt_two_pow (n := 64) hx h3⟩
theorem and_low24 (x : Nat) (hx : x < 18446744073709551616) : bits .and .u64 ((x : Int) / 4294967296) 16777215 = ((x / 4294967296 % 16777216 : Nat) : Int) := by
  have h := bits_and_u64_nat (x / 4294967296) 16777215 (by omega) (by omega)
  rw [show x / 4294967296 &&& 16777215 = x / 4294967296 % 16777216 from Nat.and_two_pow_sub_one_eq_mod _ 24] at h
  exact h

set_option maxRecDepth 100000 in
set_option maxHeartbeats 2000000 in
theorem fnSmallFloats_walk (a0 : Option Addr) (len0 cap0 b0 : Nat) (ws0 : List Nat) (a1 : Option Addr) (len1 cap1 b1 : Nat) (ws1 : List Nat) (w : World) (A0 : Arg u64 18446744073709551616 8 w a0 len0 cap0 b0 ws0) (A1 : Arg u64 18446744073709551616 8 w a1 len1 cap1 b1 ws1) :
    Calls Try.prog 5 #[.slice a0 len0 cap0, .slice a1 len1 cap1] w fun e w' => e = .returned (.bool true) ∧ Below w.heap.size w w' := by
  have hs0 := A0.small
  have hs1 := A1.small
  have hle := A0.le
  have htop := A0.top
  unfold maxLen at htop
  obtain ⟨cnt, hcnt1, hcnt2, _, hmin⟩ := min40 len0 40 (by omega)
  go_enter Try.func5, Try.ntmps5
  go_wp2_with fail
  go_loopg [6, 23] cnt (fun k o i wr => ∃ (j g1 c1 : Nat) (os : List Nat), k = cnt - j ∧ j ≤ cnt ∧ o = .slice (some ⟨g1, 0, none⟩) j c1 ∧ i = .int .i64 (j : Int) ∧ Row wr 36 g1 j c1 (os.map u64) ∧ w.heap.size ≤ g1 ∧ Still w wr ∧ Alike24 os ws0 j)
  case atStart => exact ⟨0, w.heap.size, 0, [], rfl, Nat.zero_le _, rfl, rfl, Row.empty _ _, Nat.le_refl _, (Turned.refl _ _).alloc _, (fun x hx => by cases hx), fun i hi => by omega⟩
  case round =>
    obtain ⟨j, g1, c1, os, hk, hj, rfl, rfl, hrow, hg1, hst, hal⟩ := hrel
    have Hk := Lib.hid hk
    clear hk
    by_cases hlt : j < cnt
    · have hx := A0.word j
      obtain ⟨off0, rfl, hc0⟩ := A0.at (j := j) (by omega)
      have hd0 := hst.cell hc0 (fun h => h)
      have hol : os.length = j := by simpa using hrow.len
      by_cases hm : j < len1
      · have hy := A1.word j
        obtain ⟨off1, rfl, hc1⟩ := A1.at (j := j) (by omega)
        have hd1 := hst.cell hc1 (fun h => h)
        obtain ⟨hxor, hlt2⟩ := xor_word32 (wordAt ws0 j) (wordAt ws1 j) hx hy
        have hmod := xor_mask32 (wordAt ws0 j) (wordAt ws1 j)
        clear hc0 hc1
        generalize wordAt ws0 j ^^^ (wordAt ws1 j &&& 18374686483966590975) = y at *
        have Hm := Lib.hid hmod
        clear hmod
        go_wp2_with (at_builtin; refine wpList_push rfl _ _ 22 rfl 36 (.int .u64 0) 8 Try.underlying22 Try.infoU64 rfl g1 j c1 _ rfl hrow (u64 y) rfl rfl (by omega) (by omega) ?_)
        intro g1' c1' w3 hr3 hat3 hT3
        have hst3 := hst.then hT3 (fun k hk e => by subst e; omega)
        have hz := hst.size
        clear hd0 hd1
        go_wp2
        go_roundg (cnt - (j + 1))
        case measure => rw [Hk.out]; omega
        case rel => 
          subst hol
          exact ⟨os.length + 1, g1', c1', os ++ [y], rfl, by omega, rfl, by go_num, by simpa using hr3, by omega, hst3, hal.snoc hlt2 Hm.out⟩
      · clear hc0
        go_wp2_with (at_builtin; refine wpList_push rfl _ _ 22 rfl 36 (.int .u64 0) 8 Try.underlying22 Try.infoU64 rfl g1 j c1 _ rfl hrow (u64 (wordAt ws0 j)) rfl rfl (by omega) (by omega) ?_)
        intro g1' c1' w3 hr3 hat3 hT3
        have hst3 := hst.then hT3 (fun k hk e => by subst e; omega)
        have hz := hst.size
        clear hd0
        go_wp2
        go_roundg (cnt - (j + 1))
        case measure => rw [Hk.out]; omega
        case rel => 
          subst hol
          exact ⟨os.length + 1, g1', c1', os ++ [wordAt ws0 os.length], rfl, by omega, rfl, by go_num, by simpa using hr3, by omega, hst3, hal.snoc hx rfl⟩
    · obtain rfl : cnt = j := by omega
      clear Hk
      go_wp2_with fail
      refine (float32s_any a0 b0 len0 cap0 ws0 cnt _ A0.size A0.fit (A0.reads.kept hst (fun h => h)) A0.nil (by omega) (by omega)).mono ?_
      rintro e w1 ⟨ga, ca, gu, cu, rfl, ra, ru, hga, hT1⟩
      have hst1 := hst.trans hT1
      have hrow1 := hrow.kept hT1 (fun h => h)
      go_wp2_with fail
      refine (float32s_any _ g1 cnt c1 os cnt _ hrow1.len hal.1 hrow1.reads (fun h => by cases h) (by omega) (by omega)).mono ?_
      rintro e w2 ⟨gb, cb, gv, cv, rfl, rb, rv, hgb, hT2⟩
      have hst2 := hst1.trans hT2
      rw [hal.firsts] at rb
      rw [counted_i64] at ru rv
      have ra2 := ra.kept hT2 (fun h => h)
      have ru2 := ru.kept hT2 (fun h => h)
      clear hrow hrow1 hal hst hst1 hT1 hT2 ra ru
      go_wp2_with fail
      refine (sameCounts_any _ _ cnt cu cnt cv gu gv _ _ _ ru2.len rv.len ru2.reads rv.reads (by omega)).mono ?_
      rintro e w3 ⟨rfl, hT3⟩
      have hst3 := hst2.trans hT3
      have ra3 := ra2.kept hT3 (fun h => h)
      have rb3 := rb.kept hT3 (fun h => h)
      clear ra2 ru2 rb rv hst2 hT3
      simp only [decide_true]
      go_wp2_with fail
      go_loopg [76] cnt (fun k i wr => ∃ j : Nat, k = cnt - j ∧ j ≤ cnt ∧ i = .int .i64 (j : Int) ∧ Still w3 wr)
      case atStart => exact ⟨0, rfl, Nat.zero_le _, rfl, Turned.refl _ _⟩
      case round =>
        obtain ⟨j, hk, hj, rfl, hstr⟩ := hrel
        have Hk := Lib.hid hk
        clear hk
        by_cases hlt : j < cnt
        · have hca : wr.cell? ⟨ga, j, none⟩ = some (.float .f32 (s24 (wordAt ws0 j / 4294967296 % 16777216))) := (ra3.kept hstr (fun h => h)).cell (firsts_get _ _ _ hlt)
          have hcb : wr.cell? ⟨gb, j, none⟩ = some (.float .f32 (s24 (wordAt ws0 j / 4294967296 % 16777216))) := (rb3.kept hstr (fun h => h)).cell (firsts_get _ _ _ hlt)
          have hx := A0.word j
          have hwx := and_low24 (wordAt ws0 j) hx
          have hmx : wordAt ws0 j / 4294967296 % 16777216 < 16777216 := Nat.mod_lt _ (by omega)
          obtain ⟨off0, rfl, hc0⟩ := A0.at (j := j) (by omega)
          have hd0 := hstr.cell (hst3.cell hc0 (fun h => h)) (fun h => h)
          clear hc0
          generalize wordAt ws0 j / 4294967296 % 16777216 = mj at *
          generalize wordAt ws0 j = xj at *
          have heq : (FloatKind.f32.format.order (s24 mj) (s24 mj) != some .eq) = false := by rw [order_f32 _ _ hmx hmx]; simp
          have heq2 : (FloatKind.f32.format.order (floatOfInt .f32 (mj : Int)) (floatOfInt .f32 (mj : Int)) != some .eq) = false := by rw [order_int_f32 _ _ hmx hmx]; simp
          have hq := fun w => run_float_arith (P := Try.prog) w .mul 42 .f32 _ _ _ (mul_f32 mj hmx)
          go_wp2_with fail
          go_roundg (cnt - (j + 1))
          case measure => rw [Hk.out]; omega
          case rel => exact ⟨j + 1, rfl, by omega, by go_num, hstr⟩
        · go_wp2_with fail
          go_ret
          exact ⟨rfl, (hst3.trans hstr).below (Nat.le_refl _) (fun k h => h.elim)⟩
end Go.Proofs.Ytgjopehkmfbafaa
