/-
  The reference's Float64s.
-/
import Derived.Test.YtgjopehkmfbafaaExactB
namespace Go.Proofs.Ytgjopehkmfbafaa
open Go.RowKit
set_option linter.unusedVariables false

theorem and53 (x : Nat) (h : x < 18446744073709551616) : bits .and .u64 (x : Int) 9007199254740991 = ((x % 9007199254740992 : Nat) : Int) := by
  have h1 := bits_and_u64_nat x 9007199254740991 h (by omega)
  rw [show x &&& 9007199254740991 = x % 9007199254740992 from Nat.and_two_pow_sub_one_eq_mod _ 53] at h1
  exact h1

/-- Two rows of the call's own. -/
structure Duo (w wr : World) (e1 g1 n1 c1 : Nat) (xs : List Value) (e2 g2 n2 c2 : Nat) (ys : List Value) : Prop where
  row1 : Row wr e1 g1 n1 c1 xs
  row2 : Row wr e2 g2 n2 c2 ys
  ge : w.heap.size ≤ g1 ∧ w.heap.size ≤ g2
  apart : g1 ≠ g2
  still : Still w wr

section
variable {w wr w1 : World} {e1 g1 n1 c1 : Nat} {xs : List Value} {e2 g2 n2 c2 : Nat} {ys : List Value}
theorem Duo.start (w : World) (e1 e2 : Nat) : Duo w ((w.alloc (.cells #[] e1)).alloc (.cells #[] e2)) e1 w.heap.size 0 0 [] e2 (w.heap.size + 1) 0 0 [] := by
  have r1 := (Row.empty w e1).kept ((Turned.refl (fun _ => False) _).alloc (.cells #[] e2)) (fun h => h)
  have r2 := Row.empty (w.alloc (.cells #[] e1)) e2
  simp only [World.size_alloc] at r2
  exact ⟨r1, r2, by omega, by omega, ((Turned.refl (fun _ => False) w).alloc _).alloc _⟩
theorem Duo.push1 {g1' c1' : Nat} {u : Value} (h : Duo w wr e1 g1 n1 c1 xs e2 g2 n2 c2 ys) (hr : Row w1 e1 g1' (n1 + 1) c1' (xs ++ [u])) (hat : g1' = g1 ∨ wr.heap.size ≤ g1') (hT : Turns g1 wr w1) :
    Duo w w1 e1 g1' (n1 + 1) c1' (xs ++ [u]) e2 g2 n2 c2 ys := by
  have hge := h.ge
  have hap := h.apart
  have hl2 := h.row2.lt
  have hz := h.still.size
  exact ⟨hr, h.row2.kept hT (by omega), by omega, by omega, h.still.then hT (fun k hk e => by subst e; omega)⟩
theorem Duo.push2 {g2' c2' : Nat} {u : Value} (h : Duo w wr e1 g1 n1 c1 xs e2 g2 n2 c2 ys) (hr : Row w1 e2 g2' (n2 + 1) c2' (ys ++ [u])) (hat : g2' = g2 ∨ wr.heap.size ≤ g2') (hT : Turns g2 wr w1) :
    Duo w w1 e1 g1 n1 c1 xs e2 g2' (n2 + 1) c2' (ys ++ [u]) := by
  have hge := h.ge
  have hap := h.apart
  have hl1 := h.row1.lt
  have hz := h.still.size
  exact ⟨h.row1.kept hT (by omega), hr, by omega, by omega, h.still.then hT (fun k hk e => by subst e; omega)⟩
theorem Duo.post {n : Nat} (h : Duo w wr e1 g1 n c1 xs e2 g2 n c2 ys) : TwoPost w e1 e2 n xs ys (.returned (.tuple #[.slice (some ⟨g1, 0, none⟩) n c1, .slice (some ⟨g2, 0, none⟩) n c2])) wr := by
  have hge := h.ge
  have hap := h.apart
  exact ⟨g1, c1, g2, c2, rfl, h.row1, h.row2, by omega, h.still⟩
end

set_option maxHeartbeats 1000000 in
theorem specFloat64s_any (a : Option Addr) (b n c : Nat) (ws : List Nat) (cnt : Nat) (w : World) (A : Arg u64 18446744073709551616 8 w a n c b ws) (hcnt : cnt < 65536) :
    Calls Try.prog 10 #[.slice a n c, .int .u16 (cnt : Int)] w (TwoPost w 38 3 cnt (firsts (f64At ws) cnt) (firsts counted cnt)) := by
  have h0 := Duo.start w 38 3
  have hsm := A.small
  have hlen := A.length
  have HL := Lib.hid hlen
  clear hlen
  go_enter Try.func10, Try.ntmps10
  go_wp2_with fail
  go_loopg [6, 7, 14] cnt (fun k o u i wr => ∃ j g1 c1 g2 c2 : Nat, k = cnt - j ∧ j ≤ cnt ∧ o = .slice (some ⟨g1, 0, none⟩) j c1 ∧ u = .slice (some ⟨g2, 0, none⟩) j c2 ∧ i = .int .i64 (j : Int) ∧ Duo w wr 38 g1 j c1 (firsts (f64At ws) j) 3 g2 j c2 (firsts counted j))
  case atStart => exact ⟨0, _, _, _, _, rfl, Nat.zero_le _, rfl, rfl, rfl, h0⟩
  case round =>
    obtain ⟨j, g1, c1, g2, c2, hk, hj, rfl, rfl, rfl, h1⟩ := hrel
    have Hk := Lib.hid hk
    clear hk h0
    by_cases hlt : j < cnt
    · have hx := A.word j
      have hand := and53 (wordAt ws j) hx
      have hm : wordAt ws j % 9007199254740992 < 9007199254740992 := Nat.mod_lt _ (by omega)
      have hval : f64At ws j = .float .f64 (d53 (wordAt ws j % 9007199254740992)) := rfl
      have Hv := Lib.hid hval
      clear hval
      by_cases hin : j < n
      · obtain ⟨off, rfl, hc⟩ := A.at hin
        have hd := h1.still.cell hc (fun h => h)
        clear hc
        generalize wordAt ws j % 9007199254740992 = m at *
        have hq := fun w => run_float_arith (P := Try.prog) w .quo 38 .f64 _ _ _ (quo_f64 m hm)
        go_wp2_with (at_builtin; refine wpList_push rfl _ _ 24 rfl 38 (.float .f64 0) 8 Try.underlying24 Try.infoF64 rfl g1 j c1 _ rfl h1.row1 (.float .f64 (d53 m)) rfl rfl (by omega) (by omega) ?_)
        intro g1' c1' w3 hr3 hat3 hT3
        rw [← Hv.out] at hr3
        have h3 := h1.push1 hr3 hat3 hT3
        rw [← firsts_succ] at h3
        clear h1 hr3 hat3 hT3 hd hq
        go_wp2_with (at_builtin; refine wpList_push rfl _ _ 25 rfl 3 (.int .i64 0) 8 Try.underlying25 Try.infoInt rfl g2 j c2 _ rfl h3.row2 (counted j) rfl rfl (by omega) (by omega) ?_)
        intro g2' c2' w4 hr4 hat4 hT4
        have h4 := h3.push2 hr4 hat4 hT4
        rw [← firsts_succ] at h4
        clear h3 hr4 hat4 hT4
        go_wp2
        go_roundg (cnt - (j + 1))
        case measure => rw [Hk.out]; omega
        case rel => exact ⟨j + 1, g1', c1', g2', c2', rfl, by omega, rfl, rfl, by go_num, h4⟩
      · have hw : wordAt ws j = 18446744073709551615 := by simp [wordAt, List.getElem?_eq_none (show ws.length ≤ j by rw [HL.out]; omega)]
        rw [hw] at hand hm
        have Hv2 : Hid (f64At ws j = .float .f64 (d53 (18446744073709551615 % 9007199254740992))) := by have := Hv.out; rw [hw] at this; exact this
        clear Hv hw hx
        have hand' : bits .and .u64 18446744073709551615 9007199254740991 = ((18446744073709551615 % 9007199254740992 : Nat) : Int) := hand
        clear hand
        generalize 18446744073709551615 % 9007199254740992 = m at *
        have hq := fun w => run_float_arith (P := Try.prog) w .quo 38 .f64 _ _ _ (quo_f64 m hm)
        go_wp2_with (at_builtin; refine wpList_push rfl _ _ 24 rfl 38 (.float .f64 0) 8 Try.underlying24 Try.infoF64 rfl g1 j c1 _ rfl h1.row1 (.float .f64 (d53 m)) rfl rfl (by omega) (by omega) ?_)
        intro g1' c1' w3 hr3 hat3 hT3
        rw [← Hv2.out] at hr3
        have h3 := h1.push1 hr3 hat3 hT3
        rw [← firsts_succ] at h3
        clear h1 hr3 hat3 hT3 hq
        go_wp2_with (at_builtin; refine wpList_push rfl _ _ 25 rfl 3 (.int .i64 0) 8 Try.underlying25 Try.infoInt rfl g2 j c2 _ rfl h3.row2 (counted j) rfl rfl (by omega) (by omega) ?_)
        intro g2' c2' w4 hr4 hat4 hT4
        have h4 := h3.push2 hr4 hat4 hT4
        rw [← firsts_succ] at h4
        clear h3 hr4 hat4 hT4
        go_wp2
        go_roundg (cnt - (j + 1))
        case measure => rw [Hk.out]; omega
        case rel => exact ⟨j + 1, g1', c1', g2', c2', rfl, by omega, rfl, rfl, by go_num, h4⟩
    · obtain rfl : cnt = j := by omega
      go_wp2
      go_ret2
      exact h1.post
end Go.Proofs.Ytgjopehkmfbafaa
