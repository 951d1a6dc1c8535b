/-
  The walk of FnFloatBits.
-/
import Derived.Test.YtgjopehkmfbafaaFloats
import Derived.Test.YtgjopehkmfbafaaSame
import Derived.Test.YtgjopehkmfbafaaFrame
namespace Go.Proofs.Ytgjopehkmfbafaa
open Go.RowKit
set_option linter.unusedVariables false

/-- The words os have the lower 53 bits of the first n of ws. -/
def Alike53 (os ws : List Nat) (n : Nat) : Prop := (∀ x ∈ os, x < 18446744073709551616) ∧ ∀ i, i < n → wordAt os i % 9007199254740992 = wordAt ws i % 9007199254740992

theorem wordAt_snoc (os : List Nat) (y : Nat) : wordAt (os ++ [y]) os.length = y := by simp [wordAt]
theorem wordAt_snoc_lt (os : List Nat) (y i : Nat) (h : i < os.length) : wordAt (os ++ [y]) i = wordAt os i := by simp [wordAt, List.getElem?_append_left h]

theorem Alike53.snoc {os ws : List Nat} {y : Nat} (h : Alike53 os ws os.length) (hy : y < 18446744073709551616) (he : y % 9007199254740992 = wordAt ws os.length % 9007199254740992) : Alike53 (os ++ [y]) ws (os.length + 1) := by
  refine ⟨fun x hx => ?_, fun i hi => ?_⟩
  · rcases List.mem_append.1 hx with hx | hx
    · exact h.1 x hx
    · simp only [List.mem_singleton] at hx
      omega
  · by_cases hl : i < os.length
    · rw [wordAt_snoc_lt _ _ _ hl]; exact h.2 i hl
    · obtain rfl : i = os.length := by omega
      rw [wordAt_snoc]; exact he
theorem Alike53.firsts {os ws : List Nat} {n : Nat} (h : Alike53 os ws n) : firsts (f64At os) n = firsts (f64At ws) n := by
  apply List.map_congr_left
  intro i hi
  simp only [f64At]
  rw [h.2 i (by simpa using hi)]
theorem xor_mask (x m : Nat) (hx : x < 18446744073709551616) : (x ^^^ (m * 9007199254740992 % 18446744073709551616)) % 9007199254740992 = x % 9007199254740992 := by
  have e1 : m * 9007199254740992 % 18446744073709551616 = m % 2048 * 9007199254740992 := by omega
  rw [e1, show (9007199254740992 : Nat) = 2 ^ 53 from rfl, Nat.xor_mod_two_pow, Nat.mul_mod_left, Nat.xor_zero]
theorem xor_word (x m : Nat) (hx : x < 18446744073709551616) : bits .xor .u64 (x : Int) (IntKind.u64.wrap ((m : Int) * 9007199254740992)) = ((x ^^^ (m * 9007199254740992 % 18446744073709551616) : Nat) : Int) ∧ x ^^^ (m * 9007199254740992 % 18446744073709551616) < 18446744073709551616 := by
  have hm : m * 9007199254740992 % 18446744073709551616 < 18446744073709551616 := Nat.mod_lt _ (by omega)
  have e : IntKind.u64.wrap ((m : Int) * 9007199254740992) = ((m * 9007199254740992 % 18446744073709551616 : Nat) : Int) := by rw [IntKind.wrap_u64]; omega
  rw [e, bits_xor_u64_nat x _ hx hm]
  exact ⟨rfl, Nat.xor_lt_two_pow (n := 64) hx hm⟩

theorem firsts_get (f : Nat → Value) (n j : Nat) (h : j < n) : (firsts f n)[j]? = some (f j) := by simp [firsts, h]
theorem counted_i64 (n : Nat) : firsts counted n = ((List.range n).map fun i : Nat => (i : Int) + 1).map i64 := by simp [firsts, counted, i64, Function.comp_def]

set_option maxRecDepth 100000 in
set_option maxHeartbeats 2000000 in
theorem fnFloatBits_walk (a0 : Option Addr) (len0 cap0 b0 : Nat) (ws0 : List Nat) (a1 : Option Addr) (len1 cap1 b1 : Nat) (ws1 : List Nat) (w : World) (A0 : Arg u64 18446744073709551616 8 w a0 len0 cap0 b0 ws0) (A1 : Arg u64 18446744073709551616 8 w a1 len1 cap1 b1 ws1) :
    Calls Try.prog 4 #[.slice a0 len0 cap0, .slice a1 len1 cap1] w fun e w' => e = .returned (.bool true) ∧ Below w.heap.size w w' := by
  have hs0 := A0.small
  have hs1 := A1.small
  have hle := A0.le
  have htop := A0.top
  unfold maxLen at htop
  obtain ⟨cnt, hcnt1, hcnt2, _, hmin⟩ := min40 len0 40 (by omega)
  go_enter Try.func4, Try.ntmps4
  go_wp2_with fail
  go_loopg [6, 25] cnt (fun k o i wr => ∃ (j g1 c1 : Nat) (os : List Nat), k = cnt - j ∧ j ≤ cnt ∧ o = .slice (some ⟨g1, 0, none⟩) j c1 ∧ i = .int .i64 (j : Int) ∧ Row wr 36 g1 j c1 (os.map u64) ∧ w.heap.size ≤ g1 ∧ Still w wr ∧ Alike53 os ws0 j)
  case atStart => exact ⟨0, w.heap.size, 0, [], rfl, Nat.zero_le _, rfl, rfl, Row.empty _ _, Nat.le_refl _, (Turned.refl _ _).alloc _, (fun x hx => by cases hx), fun i hi => by omega⟩
  case round =>
    obtain ⟨j, g1, c1, os, hk, hj, rfl, rfl, hrow, hg1, hst, hal⟩ := hrel
    have Hk := Lib.hid hk
    clear hk
    by_cases hlt : j < cnt
    · have hx := A0.word j
      obtain ⟨off0, rfl, hc0⟩ := A0.at (j := j) (by omega)
      have hd0 := hst.cell hc0 (fun h => h)
      have hol : os.length = j := by simpa using hrow.len
      by_cases hm : j < len1
      · have hy := A1.word j
        obtain ⟨off1, rfl, hc1⟩ := A1.at (j := j) (by omega)
        have hd1 := hst.cell hc1 (fun h => h)
        obtain ⟨hxor, hlt2⟩ := xor_word (wordAt ws0 j) (wordAt ws1 j) hx
        have hmod := xor_mask (wordAt ws0 j) (wordAt ws1 j) hx
        clear hc0 hc1
        generalize wordAt ws0 j ^^^ (wordAt ws1 j * 9007199254740992 % 18446744073709551616) = y at *
        have Hm := Lib.hid hmod
        clear hmod
        go_wp2_with (at_builtin; refine wpList_push rfl _ _ 22 rfl 36 (.int .u64 0) 8 Try.underlying22 Try.infoU64 rfl g1 j c1 _ rfl hrow (u64 y) rfl rfl (by omega) (by omega) ?_)
        intro g1' c1' w3 hr3 hat3 hT3
        have hst3 := hst.then hT3 (fun k hk e => by subst e; omega)
        have hz := hst.size
        clear hd0 hd1
        go_wp2
        go_roundg (cnt - (j + 1))
        case measure => rw [Hk.out]; omega
        case rel => 
          subst hol
          exact ⟨os.length + 1, g1', c1', os ++ [y], rfl, by omega, rfl, by go_num, by simpa using hr3, by omega, hst3, hal.snoc hlt2 Hm.out⟩
      · clear hc0
        go_wp2_with (at_builtin; refine wpList_push rfl _ _ 22 rfl 36 (.int .u64 0) 8 Try.underlying22 Try.infoU64 rfl g1 j c1 _ rfl hrow (u64 (wordAt ws0 j)) rfl rfl (by omega) (by omega) ?_)
        intro g1' c1' w3 hr3 hat3 hT3
        have hst3 := hst.then hT3 (fun k hk e => by subst e; omega)
        have hz := hst.size
        clear hd0
        go_wp2
        go_roundg (cnt - (j + 1))
        case measure => rw [Hk.out]; omega
        case rel => 
          subst hol
          exact ⟨os.length + 1, g1', c1', os ++ [wordAt ws0 os.length], rfl, by omega, rfl, by go_num, by simpa using hr3, by omega, hst3, hal.snoc hx rfl⟩
    · obtain rfl : cnt = j := by omega
      clear Hk
      go_wp2_with fail
      refine (float64s_any a0 b0 len0 cap0 ws0 cnt _ A0.size A0.fit (A0.reads.kept hst (fun h => h)) A0.nil (by omega) (by omega)).mono ?_
      rintro e w1 ⟨ga, ca, gu, cu, rfl, ra, ru, hga, hT1⟩
      have hst1 := hst.trans hT1
      have hrow1 := hrow.kept hT1 (fun h => h)
      go_wp2_with fail
      refine (float64s_any _ g1 cnt c1 os cnt _ hrow1.len hal.1 hrow1.reads (fun h => by cases h) (by omega) (by omega)).mono ?_
      rintro e w2 ⟨gb, cb, gv, cv, rfl, rb, rv, hgb, hT2⟩
      have hst2 := hst1.trans hT2
      rw [hal.firsts] at rb
      rw [counted_i64] at ru rv
      have ra2 := ra.kept hT2 (fun h => h)
      have ru2 := ru.kept hT2 (fun h => h)
      clear hrow hrow1 hal hst hst1 hT1 hT2 ra ru
      go_wp2_with fail
      refine (sameCounts_any _ _ cnt cu cnt cv gu gv _ _ _ ru2.len rv.len ru2.reads rv.reads (by omega)).mono ?_
      rintro e w3 ⟨rfl, hT3⟩
      have hst3 := hst2.trans hT3
      have ra3 := ra2.kept hT3 (fun h => h)
      have rb3 := rb.kept hT3 (fun h => h)
      clear ra2 ru2 rb rv hst2 hT3
      simp only [decide_true]
      go_wp2_with fail
      go_loopg [78] cnt (fun k i wr => ∃ j : Nat, k = cnt - j ∧ j ≤ cnt ∧ i = .int .i64 (j : Int) ∧ Still w3 wr)
      case atStart => exact ⟨0, rfl, Nat.zero_le _, rfl, Turned.refl _ _⟩
      case round =>
        obtain ⟨j, hk, hj, rfl, hstr⟩ := hrel
        have Hk := Lib.hid hk
        clear hk
        by_cases hlt : j < cnt
        · have hca : wr.cell? ⟨ga, j, none⟩ = some (.float .f64 (d53 (wordAt ws0 j % 9007199254740992))) := (ra3.kept hstr (fun h => h)).cell (firsts_get _ _ _ hlt)
          have hcb : wr.cell? ⟨gb, j, none⟩ = some (.float .f64 (d53 (wordAt ws0 j % 9007199254740992))) := (rb3.kept hstr (fun h => h)).cell (firsts_get _ _ _ hlt)
          have hx := A0.word j
          have hwx : IntKind.u64.wrap ((wordAt ws0 j : Int) * 2048) = ((wordAt ws0 j % 9007199254740992 * 2048 : Nat) : Int) := by rw [IntKind.wrap_u64]; omega
          have hmx : wordAt ws0 j % 9007199254740992 < 9007199254740992 := Nat.mod_lt _ (by omega)
          have heq : (FloatKind.f64.format.order (d53 (wordAt ws0 j % 9007199254740992)) (d53 (wordAt ws0 j % 9007199254740992)) != some .eq) = false := by rw [order_f64 _ _ hmx hmx]; simp
          obtain ⟨off0, rfl, hc0⟩ := A0.at (j := j) (by omega)
          have hd0 := hst3.cell hc0 (fun h => h)
          clear hc0
          generalize hmj : wordAt ws0 j % 9007199254740992 = mj at *
          have Hmj := Lib.hid hmj
          clear hmj
          generalize hxj : wordAt ws0 j = xj at *
          have Hxj := Lib.hid hxj
          clear hxj
          go_wp2_with fail
          clear hca hcb heq
          obtain ⟨wo, rfl⟩ : ∃ wo : World, wo = wr := ⟨_, rfl⟩
          go_loopg [91] cnt (fun k i wr => ∃ l : Nat, k = cnt - l ∧ l ≤ cnt ∧ i = .int .i64 (l : Int) ∧ Still w3 wr)
          case atStart => exact ⟨0, rfl, Nat.zero_le _, rfl, hstr⟩
          case round =>
            obtain ⟨l, hk, hl, rfl, hstr2⟩ := hrel
            have Hk2 := Lib.hid hk
            clear hk
            by_cases hlt2 : l < cnt
            · have hcy : wr.cell? ⟨ga, l, none⟩ = some (.float .f64 (d53 (wordAt ws0 l % 9007199254740992))) := (ra3.kept hstr2 (fun h => h)).cell (firsts_get _ _ _ hlt2)
              have hy := A0.word l
              have hwy : IntKind.u64.wrap ((wordAt ws0 l : Int) * 2048) = ((wordAt ws0 l % 9007199254740992 * 2048 : Nat) : Int) := by rw [IntKind.wrap_u64]; omega
              have hmy : wordAt ws0 l % 9007199254740992 < 9007199254740992 := Nat.mod_lt _ (by omega)
              obtain ⟨off0', he, hc0⟩ := A0.at (j := l) (by omega)
              obtain rfl : off0' = off0 := by simpa using he.symm
              have hdy := hst3.cell hc0 (fun h => h)
              have hdy2 := hstr2.cell hdy (fun h => h)
              have hd02 := hstr2.cell hd0 (fun h => h)
              clear hc0 hdy he
              generalize wordAt ws0 l % 9007199254740992 = ml at *
              generalize wordAt ws0 l = xl at *
              have hord := order_f64 mj ml hmx hmy
              by_cases hc : mj < ml
              · have h1 : (FloatKind.f64.format.order (d53 mj) (d53 ml) == some .lt) = true := by rw [hord, Nat.compare_eq_lt.2 hc]; rfl
                have h2 : decide (IntKind.u64.wrap ((xj : Int) * 2048) < IntKind.u64.wrap ((xl : Int) * 2048)) = true := by rw [hwx, hwy]; simp; omega
                clear hord hwx hwy
                go_wp2_with fail
                go_quiet (fail)
                go_wp2_with fail
                go_roundg (cnt - (l + 1))
                case measure => rw [Hk2.out]; omega
                case rel => exact ⟨l + 1, rfl, by omega, by go_num, hstr2.drewN _⟩
              · have h1 : (FloatKind.f64.format.order (d53 mj) (d53 ml) == some .lt) = false := by
                  rw [hord]
                  rcases Nat.lt_or_ge ml mj with h | h
                  · rw [Nat.compare_eq_gt.2 h]; rfl
                  · obtain rfl : mj = ml := by omega
                    simp
                have h2 : decide (IntKind.u64.wrap ((xj : Int) * 2048) < IntKind.u64.wrap ((xl : Int) * 2048)) = false := by rw [hwx, hwy]; simp; omega
                clear hord hwx hwy
                go_wp2_with fail
                go_quiet (fail)
                go_wp2_with fail
                go_roundg (cnt - (l + 1))
                case measure => rw [Hk2.out]; omega
                case rel => exact ⟨l + 1, rfl, by omega, by go_num, hstr2.drewN _⟩
            · go_wp2_with fail
              go_roundg (cnt - (j + 1))
              case measure => rw [Hk.out]; omega
              case rel => exact ⟨j + 1, rfl, by omega, by go_num, hstr2⟩
        · go_wp2_with fail
          go_ret
          exact ⟨rfl, (hst3.trans hstr).below (Nat.le_refl _) (fun k h => h.elim)⟩
end Go.Proofs.Ytgjopehkmfbafaa
