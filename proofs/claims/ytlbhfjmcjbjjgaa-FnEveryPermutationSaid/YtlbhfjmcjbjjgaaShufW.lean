/-
  Shuffle: what it does by the closure that it is handed, told by an invariant over the swaps that are done.
-/
import Derived.Test.YtlbhfjmcjbjjgaaShuf
import Derived.Test.YtlbhfjmcjbjjgaaTwo
import Derived.Test.YtlbhfjmcjbjjgaaDraw
import Derived.Test.YtlbhfjmcjbjjgaaBounds
namespace Go.Proofs.Ytlbhfjmcjbjjgaa
open Go.RowKit
set_option linter.unusedVariables false

set_option maxHeartbeats 1000000 in
theorem shuffle_pairs (I : List (Nat × Nat) → World → Prop) (B : Nat) (p : Addr) (r s g cap i n : Nat) (ws : List Nat) (w : World) (h : Src w r s g cap ws i) (hi : i ≤ 2305843009213693952) (hl : ws.length ≤ 2305843009213693952) (hn : n ≤ 1048576) (hr : r < B) (hs : s < B) (hg : g < B)
    (h0 : I [] w) (hkeep : ∀ d a b, I d a → Turns s a b → I d b)
    (hstep : Hid (∀ (d : List (Nat × Nat)) (x y : Nat) (a : World), x < n → y < n → d.length < n → I d a → Calls Try.prog 25 #[.int .i64 (x : Int), .int .i64 (y : Int), .pointer (some p)] a fun e b => e = .returned (.tuple #[]) ∧ I (d ++ [(x, y)]) b ∧ Turned (fun k => B ≤ k) a b)) :
    Calls Try.prog 24 #[.pointer (some ⟨r, 0, none⟩), .int .i64 (n : Int), .func (.func 25) #[] #[.pointer (some p)]] w fun e w' => e = .returned (.tuple #[]) ∧ I (prs ws (n - 1) i) w' ∧ Src w' r s g cap ws (pend ws (n - 1) i) ∧ Turned (fun k => B ≤ k ∨ k = s) w w' := by
  have hn0 : ¬ (n : Int) < 0 := by omega
  go_enter Try.func24, Try.ntmps24
  go_wp2_with fail
  go_loopg [6] (n - 1) (fun k z wr => ∃ (m q : Nat) (v : Int) (d : List (Nat × Nat)), k = m ∧ z = .int .i64 v ∧ (v = m ∨ m = 0 ∧ v = -1) ∧ m ≤ n - 1 ∧ d.length + m = n - 1 ∧ q ≤ 2305843009213693952 + d.length ∧ Hid (d ++ prs ws m q = prs ws (n - 1) i) ∧ Hid (pend ws m q = pend ws (n - 1) i) ∧ I d wr ∧ Src wr r s g cap ws q ∧ Turned (fun k => B ≤ k ∨ k = s) w wr)
  case atStart => exact ⟨n - 1, i, (n : Int) - 1, [], rfl, rfl, by omega, Nat.le_refl _, by simp, by simpa using hi, rfl, rfl, h0, h, Turned.refl _ _⟩
  case round =>
    obtain ⟨m, q, v, d, hk, rfl, hv, hm, hd, hq, HP, HE, hI, hS, hT⟩ := hrel
    have Hk := Lib.hid hk
    clear hk h0 h
    by_cases hm0 : 0 < m
    · obtain ⟨k, rfl⟩ : ∃ k, m = k + 1 := ⟨m - 1, by omega⟩
      obtain rfl : v = ((k + 1 : Nat) : Int) := by omega
      have hfl := fin_fst_lt ws (k + 2) q hS.fit (by omega)
      have hfs := fin_snd ws (k + 2) q
      have hu := uint64n_any r s g cap q (k + 2) ws wr hS (by omega) (by omega) (by omega) (by omega)
      have Hu := Lib.hid hu
      have HP' : Hid (d ++ (k + 1, (fin ws (k + 2) q).1) :: prs ws k (fin ws (k + 2) q).2 = prs ws (n - 1) i) := HP
      have HE' : Hid (pend ws k (fin ws (k + 2) q).2 = pend ws (n - 1) i) := HE
      clear hu HP HE hv
      generalize fin ws (k + 2) q = f at *
      obtain ⟨y, q'⟩ := f
      simp only at *
      have hz : ((k + 1 : Nat) : Int) + 1 = ((k + 2 : Nat) : Int) := by omega
      go_wp2_with fail
      refine Hu.out.mono ?_
      rintro e w1 ⟨rfl, hS1, hT1⟩
      have hI1 := hkeep _ _ _ hI hT1
      go_wp2_with (go_at_call 25; refine (hstep.out d (k + 1) y _ (by omega) (by omega) (by omega) hI1).mono ?_; rintro e w2 ⟨rfl, hI2, hT2⟩)
      have hT3 := hT.trans ((hT1.mono (fun _ _ h => .inr h)).trans (hT2.mono (fun _ _ h => .inl h)))
      have hS2 := hS1.kept hT2 (by omega) (by omega) (by omega)
      go_wp2
      go_roundg k
      case measure => rw [Hk.out]; omega
      case rel => exact ⟨k, q', (k : Int), d ++ [(k + 1, y)], rfl, by go_num, .inl rfl, by omega, by simp; omega, by simp; omega, by simpa using HP', HE', hI2, hS2, hT3⟩
    · have hv0 : ¬ 0 < v := by omega
      obtain rfl : m = 0 := by omega
      go_wp2_with fail
      go_end0
      have e1 : d = prs ws (n - 1) i := by have := HP.out; simpa [prs] using this
      have e2 : q = pend ws (n - 1) i := HE.out
      rw [← e1, ← e2]
      exact ⟨rfl, hI, hS, hT⟩

set_option maxHeartbeats 1000000 in
theorem shuffle_perm (I : List (Nat × Nat) → World → Prop) (B : Nat) (p : Addr) (r s g cap i n : Nat) (ws : List Nat) (w : World) (h : Src w r s g cap ws i) (hi : i ≤ 2305843009213693952) (hl : ws.length ≤ 2305843009213693952) (hn : n ≤ 1048576) (hr : r < B) (hs : s < B) (hg : g < B)
    (h0 : I [] w) (hkeep : ∀ d a b, I d a → Turns s a b → I d b)
    (hstep : Hid (∀ (d : List (Nat × Nat)) (x y : Nat) (a : World), x < n → y < n → d.length < n → I d a → Calls Try.prog 28 #[.int .i64 (x : Int), .int .i64 (y : Int), .pointer (some p)] a fun e b => e = .returned (.tuple #[]) ∧ I (d ++ [(x, y)]) b ∧ Turned (fun k => B ≤ k) a b)) :
    Calls Try.prog 24 #[.pointer (some ⟨r, 0, none⟩), .int .i64 (n : Int), .func (.func 28) #[] #[.pointer (some p)]] w fun e w' => e = .returned (.tuple #[]) ∧ I (prs ws (n - 1) i) w' ∧ Src w' r s g cap ws (pend ws (n - 1) i) ∧ Turned (fun k => B ≤ k ∨ k = s) w w' := by
  have hn0 : ¬ (n : Int) < 0 := by omega
  go_enter Try.func24, Try.ntmps24
  go_wp2_with fail
  go_loopg [6] (n - 1) (fun k z wr => ∃ (m q : Nat) (v : Int) (d : List (Nat × Nat)), k = m ∧ z = .int .i64 v ∧ (v = m ∨ m = 0 ∧ v = -1) ∧ m ≤ n - 1 ∧ d.length + m = n - 1 ∧ q ≤ 2305843009213693952 + d.length ∧ Hid (d ++ prs ws m q = prs ws (n - 1) i) ∧ Hid (pend ws m q = pend ws (n - 1) i) ∧ I d wr ∧ Src wr r s g cap ws q ∧ Turned (fun k => B ≤ k ∨ k = s) w wr)
  case atStart => exact ⟨n - 1, i, (n : Int) - 1, [], rfl, rfl, by omega, Nat.le_refl _, by simp, by simpa using hi, rfl, rfl, h0, h, Turned.refl _ _⟩
  case round =>
    obtain ⟨m, q, v, d, hk, rfl, hv, hm, hd, hq, HP, HE, hI, hS, hT⟩ := hrel
    have Hk := Lib.hid hk
    clear hk h0 h
    by_cases hm0 : 0 < m
    · obtain ⟨k, rfl⟩ : ∃ k, m = k + 1 := ⟨m - 1, by omega⟩
      obtain rfl : v = ((k + 1 : Nat) : Int) := by omega
      have hfl := fin_fst_lt ws (k + 2) q hS.fit (by omega)
      have hfs := fin_snd ws (k + 2) q
      have hu := uint64n_any r s g cap q (k + 2) ws wr hS (by omega) (by omega) (by omega) (by omega)
      have Hu := Lib.hid hu
      have HP' : Hid (d ++ (k + 1, (fin ws (k + 2) q).1) :: prs ws k (fin ws (k + 2) q).2 = prs ws (n - 1) i) := HP
      have HE' : Hid (pend ws k (fin ws (k + 2) q).2 = pend ws (n - 1) i) := HE
      clear hu HP HE hv
      generalize fin ws (k + 2) q = f at *
      obtain ⟨y, q'⟩ := f
      simp only at *
      have hz : ((k + 1 : Nat) : Int) + 1 = ((k + 2 : Nat) : Int) := by omega
      go_wp2_with fail
      refine Hu.out.mono ?_
      rintro e w1 ⟨rfl, hS1, hT1⟩
      have hI1 := hkeep _ _ _ hI hT1
      go_wp2_with (go_at_call 28; refine (hstep.out d (k + 1) y _ (by omega) (by omega) (by omega) hI1).mono ?_; rintro e w2 ⟨rfl, hI2, hT2⟩)
      have hT3 := hT.trans ((hT1.mono (fun _ _ h => .inr h)).trans (hT2.mono (fun _ _ h => .inl h)))
      have hS2 := hS1.kept hT2 (by omega) (by omega) (by omega)
      go_wp2
      go_roundg k
      case measure => rw [Hk.out]; omega
      case rel => exact ⟨k, q', (k : Int), d ++ [(k + 1, y)], rfl, by go_num, .inl rfl, by omega, by simp; omega, by simp; omega, by simpa using HP', HE', hI2, hS2, hT3⟩
    · have hv0 : ¬ 0 < v := by omega
      obtain rfl : m = 0 := by omega
      go_wp2_with fail
      go_end0
      have e1 : d = prs ws (n - 1) i := by have := HP.out; simpa [prs] using this
      have e2 : q = pend ws (n - 1) i := HE.out
      rw [← e1, ← e2]
      exact ⟨rfl, hI, hS, hT⟩

end Go.Proofs.Ytlbhfjmcjbjjgaa
