/-
  The statements' own comparison of lists.
-/
import Derived.Test.YtlbhfjmcjbjjgaaSrc
import Derived.Deep.LoopGhost
namespace Go.Proofs.Ytlbhfjmcjbjjgaa
open Go.RowKit
set_option linter.unusedVariables false

/-- A number as a value. -/
def i64 (n : Int) : Value := .int .i64 n

theorem take_ne {xs ys : List Int} {k : Nat} (h1 : k < xs.length) (h2 : k < ys.length) (h : xs[k] ≠ ys[k]) : decide (xs = ys) = false := by
  simp only [decide_eq_false_iff_not]
  rintro rfl
  exact h rfl
theorem take_eq_succ {xs ys : List Int} {k : Nat} (h1 : k < xs.length) (h2 : k < ys.length) (h : xs[k] = ys[k]) (ht : xs.take k = ys.take k) : xs.take (k + 1) = ys.take (k + 1) := by
  rw [List.take_succ_eq_append_getElem h1, List.take_succ_eq_append_getElem h2, h, ht]

set_option maxHeartbeats 1000000 in
theorem sameCounts_any (a1 a2 : Option Addr) (n1 c1 n2 c2 b1 b2 : Nat) (xs ys : List Int) (w : World) (h1 : (xs.map i64).length = n1) (h2 : (ys.map i64).length = n2) (hr1 : Reads w a1 b1 (xs.map i64)) (hr2 : Reads w a2 b2 (ys.map i64)) (hm : n1 < 4611686018427387904) :
    Calls Try.prog 12 #[.slice a1 n1 c1, .slice a2 n2 c2] w fun e w' => e = .returned (.bool (decide (xs = ys))) ∧ Still w w' := by
  by_cases hne : n1 = n2
  · subst hne
    simp only [List.length_map] at h1 h2
    have H1 := Lib.hid h1
    have H2 := Lib.hid h2
    clear h1 h2
    go_enter Try.func12, Try.ntmps12
    go_wp2
    go_loopg [13] n1 (fun k i wr => ∃ j : Nat, k = n1 - j ∧ j ≤ n1 ∧ i = .int .i64 (j : Int) ∧ Hid (xs.take j = ys.take j) ∧ Still w wr)
    case atStart => exact ⟨0, rfl, Nat.zero_le _, rfl, rfl, Turned.refl _ _⟩
    case round =>
      obtain ⟨j, hk, hj, rfl, Ht, hst⟩ := hrel
      have Hk := Lib.hid hk
      clear hk
      by_cases hlt : j < n1
      · have l1 : j < xs.length := by rw [H1.out]; exact hlt
        have l2 : j < ys.length := by rw [H2.out]; exact hlt
        obtain ⟨off1, rfl, hc1⟩ := hr1.at (i := j) (by simpa using l1)
        obtain ⟨off2, rfl, hc2⟩ := hr2.at (i := j) (by simpa using l2)
        have hd1 : wr.cell? ⟨b1, off1 + j, none⟩ = some (.int .i64 xs[j]) := hst.cell (by simpa [i64] using hc1) (fun h => h)
        have hd2 : wr.cell? ⟨b2, off2 + j, none⟩ = some (.int .i64 ys[j]) := hst.cell (by simpa [i64] using hc2) (fun h => h)
        clear hc1 hc2 hr1 hr2
        by_cases he : xs[j] = ys[j]
        · have Hn := Lib.hid (take_eq_succ l1 l2 he Ht.out)
          have hb : (xs[j] != ys[j]) = false := by simp [he]
          clear he
          generalize xs[j] = x at *
          generalize ys[j] = y at *
          clear l1 l2
          go_wp2
          go_quiet (fail)
          go_wp2
          go_roundg (n1 - (j + 1))
          case measure => rw [Hk.out]; omega
          case rel => exact ⟨j + 1, rfl, by omega, by go_num, Hn.out, hst.drewN _⟩
        · have hd := take_ne l1 l2 he
          have hb : (xs[j] != ys[j]) = true := by simp [he]
          have Hd := Lib.hid hd
          clear hd he
          generalize xs[j] = x at *
          generalize ys[j] = y at *
          clear l1 l2
          go_wp2
          go_quiet (fail)
          go_wp2
          go_ret
          exact ⟨by rw [Hd.out]; rfl, hst.drewN _⟩
      · have hd : decide (xs = ys) = true := by
          have := Ht.out
          rw [List.take_of_length_le (by rw [H1.out]; omega), List.take_of_length_le (by rw [H2.out]; omega)] at this
          simpa using this
        have Hd := Lib.hid hd
        clear hd
        go_wp2
        go_ret
        exact ⟨by rw [Hd.out]; rfl, hst⟩
  · have hd : decide (xs = ys) = false := by
      simp only [decide_eq_false_iff_not]
      rintro rfl
      omega
    have hb : ((n1 : Int) != (n2 : Int)) = true := by rw [bne_iff_ne]; omega
    rw [hd]
    clear h1 h2 hd
    go_enter Try.func12, Try.ntmps12
    go_wp2
    go_ret
    exact ⟨rfl, Turned.refl _ _⟩
end Go.Proofs.Ytlbhfjmcjbjjgaa
