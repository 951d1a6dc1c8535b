/-
  The statements' own word for a number below a small bound.
-/
import Derived.Test.YtlbhfjmcjbjjgaaDraw
namespace Go.Proofs.Ytlbhfjmcjbjjgaa
open Go.RowKit
set_option linter.unusedVariables false

/-- A word of which the bound n draws j. -/
def wf (j n : Nat) : Nat := if isPow n then j else j * (18446744073709551615 / n) + j * (18446744073709551615 % n + 1) / n + 2

/-- It holds what is asked of it, at each of the small bounds. -/
theorem wf_all : (List.range 21).all (fun n => decide (n < 2) || (List.range n).all (fun j => !thrown (wf j n) n && (drawn (wf j n) n == j) && decide (wf j n < 18446744073709551616) && decide (j * (18446744073709551615 / n) < 18446744073709551616) && decide (j * (18446744073709551615 % n + 1) < 18446744073709551616))) = true := by decide +kernel
theorem wf_spec (j n : Nat) (h1 : 2 ≤ n) (h2 : n ≤ 20) (hj : j < n) : thrown (wf j n) n = false ∧ drawn (wf j n) n = j ∧ wf j n < 18446744073709551616 ∧ j * (18446744073709551615 / n) < 18446744073709551616 ∧ j * (18446744073709551615 % n + 1) < 18446744073709551616 := by
  have h := List.all_eq_true.1 wf_all n (List.mem_range.2 (by omega))
  simp only [Bool.or_eq_true, decide_eq_true_eq] at h
  have h := h.resolve_left (by omega)
  have h := List.all_eq_true.1 h j (List.mem_range.2 hj)
  simp only [Bool.and_eq_true, Bool.not_eq_true', beq_iff_eq, decide_eq_true_eq] at h
  obtain ⟨⟨⟨⟨a, b⟩, c⟩, d⟩, e⟩ := h
  exact ⟨a, b, c, d, e⟩

theorem wordFor_any (j n : Nat) (w : World) (h1 : 2 ≤ n) (h2 : n ≤ 20) (hj : j < n) :
    Calls Try.prog 19 #[.int .u64 (j : Int), .int .u64 (n : Int)] w fun e w' => e = .returned (.int .u64 ((wf j n : Nat) : Int)) ∧ w' = w := by
  obtain ⟨_, _, hwl, hal, hbl⟩ := wf_spec j n h1 h2 hj
  cases hp : isPow n with
  | true =>
    have hand := and_pred_pow n (by omega) (by omega) hp
    have hwf : wf j n = j := by simp [wf, hp]
    rw [hwf]
    clear hwl hal hbl
    go_enter Try.func19, Try.ntmps19
    go_wp2
    go_ret
    exact ⟨rfl, rfl⟩
  | false =>
    have hand := and_pred_not n (by omega) (by omega) hp
    have hwf : wf j n = j * (18446744073709551615 / n) + j * (18446744073709551615 % n + 1) / n + 2 := by simp [wf, hp]
    rw [hwf] at hwl ⊢
    have hrl : 18446744073709551615 % n < n := Nat.mod_lt _ (by omega)
    have hnz : ((n : Int) == 0) = false := by simp; omega
    have hn0 : ¬ (n : Int) = 0 := by omega
    have q1 : (18446744073709551615 : Int).tdiv (n : Int) = ((18446744073709551615 / n : Nat) : Int) := rfl
    have q2 : (18446744073709551615 : Int) / (n : Int) = ((18446744073709551615 / n : Nat) : Int) := rfl
    have r1 : (18446744073709551615 : Int).tmod (n : Int) = ((18446744073709551615 % n : Nat) : Int) := rfl
    have r2 : (18446744073709551615 : Int) % (n : Int) = ((18446744073709551615 % n : Nat) : Int) := rfl
    have hql : 18446744073709551615 / n ≤ 18446744073709551615 := Nat.div_le_self _ _
    generalize 18446744073709551615 / n = q at *
    generalize 18446744073709551615 % n = r at *
    obtain ⟨r', hr'⟩ : ∃ r', r' = r + 1 := ⟨_, rfl⟩
    have hri : (r : Int) + 1 = (r' : Int) := by omega
    rw [← hr'] at hbl hwl
    rw [← hr']
    have p1 : (j : Int) * (q : Int) = ((j * q : Nat) : Int) := (Int.natCast_mul _ _).symm
    have p2 : (j : Int) * (r' : Int) = ((j * r' : Nat) : Int) := (Int.natCast_mul _ _).symm
    generalize j * q = a at *
    generalize j * r' = b at *
    have s1 : (b : Int).tdiv (n : Int) = ((b / n : Nat) : Int) := rfl
    have s2 : (b : Int) / (n : Int) = ((b / n : Nat) : Int) := rfl
    generalize b / n = s at *
    have t1 : ((a + s + 2 : Nat) : Int) = (a : Int) + (s : Int) + 2 := by omega
    rw [t1]
    have ht : (a : Int) + (s : Int) + 2 < 18446744073709551616 := by omega
    have hrb : r' ≤ 20 := by omega
    clear hr' hwf t1
    go_enter Try.func19, Try.ntmps19
    go_wp2
    go_ret
    exact ⟨rfl, rfl⟩
end Go.Proofs.Ytlbhfjmcjbjjgaa
