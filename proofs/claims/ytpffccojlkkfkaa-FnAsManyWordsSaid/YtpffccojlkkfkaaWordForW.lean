/-
  The walk of wordFor.
-/
import Derived.Test.YtpffccojlkkfkaaWordForP
namespace Go.Proofs.Ytpffccojlkkfkaa
open Go.RowKit
set_option linter.unusedVariables false

set_option maxRecDepth 100000 in
set_option maxHeartbeats 2000000 in
theorem wordFor_not (x n : Nat) (w : World) (hx : x < n) (h1 : 1 ≤ n) (h2 : n < 18446744073709551616) (hp : isPow n = false) :
    Calls Try.prog 21 #[.int .u64 (x : Int), .int .u64 (n : Int)] w fun e w' => e = .returned (.int .u64 (wordFor x n : Nat)) ∧ w = w' := by
  have hnr := neg_rem n h1 h2
  have Hp := Lib.hid hp
  have HL := Lib.hid (reaches_last x n h1 h2 hx)
  clear hp
  go_enter Try.func21, Try.ntmps21
  go_wp2_with fail
  refine (isPower_any n _ h1 h2).mono ?_
  rintro e w' ⟨rfl, rfl⟩
  rw [Hp.out]
  go_wp2_with fail
  go_loopg [5, 6] 18446744073709551615 (fun k lo hi wr => ∃ l h : Nat, k = h - l ∧ l ≤ h ∧ h ≤ 18446744073709551615 ∧ lo = .int .u64 (l : Int) ∧ hi = .int .u64 (h : Int) ∧ Hid (reaches h x n ∧ ∀ m, m < l → ¬ reaches m x n) ∧ w = wr)
  case atStart => exact ⟨0, 18446744073709551615, rfl, by omega, by omega, rfl, rfl, ⟨HL.out, fun m hm => by omega⟩, rfl⟩
  case round =>
    obtain ⟨l, h, hk, hlh, hh, rfl, rfl, HR, rfl⟩ := hrel
    have Hk := Lib.hid hk
    clear hk
    by_cases hlt : l < h
    · obtain ⟨m, hm⟩ : ∃ m : Nat, m = l + (h - l) / 2 := ⟨_, rfl⟩
      have hmid : (l : Int) + ((h : Int) - (l : Int)) / 2 = (m : Int) := by omega
      have hml : l ≤ m := by omega
      have hmh : m < h := by omega
      have hmM : m < 18446744073709551616 := by omega
      clear hm
      have HI := Lib.hid (reaches_iff m x n h2 h1)
      have HMo := Lib.hid (fun m' => reaches_mono m' m x n)
      have hlo := lo_lt m n
      go_wp2_with fail
      clear hmid
      refine (product_any m n hmM h2 _).mono ?_
      rintro e w' ⟨rfl, rfl⟩
      generalize hiOf m n = A at *
      generalize loOf m n = B at *
      rcases Nat.lt_trichotomy x A with c | c | c
      · have hr := HI.out.2 (.inl c)
        have Hr := Lib.hid hr
        clear hr
        go_wp2_with fail
        go_roundg (m - l)
        case measure => rw [Hk.out]; omega
        case rel => exact ⟨l, m, rfl, hml, by omega, rfl, rfl, ⟨Hr.out, HR.out.2⟩, rfl⟩
      · have c0 : ((A : Int) == (x : Int)) = true := by simp; omega
        have c1 : ¬ (x : Int) < (A : Int) := by omega
        by_cases d : thr n ≤ B
        · have hr := HI.out.2 (.inr ⟨c.symm, d⟩)
          have Hr := Lib.hid hr
          clear hr c
          go_wp2_with fail
          go_roundg (m - l)
          case measure => rw [Hk.out]; omega
          case rel => exact ⟨l, m, rfl, hml, by omega, rfl, rfl, ⟨Hr.out, HR.out.2⟩, rfl⟩
        · have hr : ¬ reaches m x n := fun hr => by rcases HI.out.1 hr with q | q <;> omega
          have Hr := Lib.hid hr
          clear hr c
          go_wp2_with fail
          go_roundg (h - (m + 1))
          case measure => rw [Hk.out]; omega
          case rel => exact ⟨m + 1, h, rfl, by omega, hh, by go_num, rfl, ⟨HR.out.1, fun m' hm' hr' => Hr.out (HMo.out m' (by omega) hr')⟩, rfl⟩
      · have c0 : ((A : Int) == (x : Int)) = false := by simp; omega
        have c1 : ¬ (x : Int) < (A : Int) := by omega
        have hr : ¬ reaches m x n := fun hr => by rcases HI.out.1 hr with q | q <;> omega
        have Hr := Lib.hid hr
        clear hr
        go_wp2_with fail
        go_roundg (h - (m + 1))
        case measure => rw [Hk.out]; omega
        case rel => exact ⟨m + 1, h, rfl, by omega, hh, by go_num, rfl, ⟨HR.out.1, fun m' hm' hr' => Hr.out (HMo.out m' (by omega) hr')⟩, rfl⟩
    · obtain rfl : l = h := by omega
      have hW : wordFor x n = l := by
        rw [least_eq x n l h1 HR.out]
        simp [wordFor, Hp.out]
      have HW := Lib.hid hW
      clear hW Hk HR HL
      go_wp2_with fail
      go_ret
      exact ⟨by rw [HW.out]; rfl, rfl⟩

theorem wordFor_any (x n : Nat) (w : World) (hx : x < n) (h1 : 1 ≤ n) (h2 : n < 18446744073709551616) :
    Calls Try.prog 21 #[.int .u64 (x : Int), .int .u64 (n : Int)] w fun e w' => e = .returned (.int .u64 (wordFor x n : Nat)) ∧ w = w' := by
  cases hp : isPow n with
  | false => exact wordFor_not x n w hx h1 h2 hp
  | true =>
    have HW : Hid (wordFor x n = x) := by show _ = _; simp [wordFor, hp]
    have Hp := Lib.hid hp
    clear hp
    go_enter Try.func21, Try.ntmps21
    go_wp2_with fail
    refine (isPower_any n _ h1 h2).mono ?_
    rintro e w' ⟨rfl, rfl⟩
    rw [Hp.out]
    go_wp2_with fail
    go_ret
    exact ⟨by rw [HW.out]; rfl, rfl⟩

/-- There is a least word. -/
theorem wordFor_least (x n : Nat) (hx : x < n) (h1 : 1 ≤ n) (h2 : n < 18446744073709551616) (hp : isPow n = false) : least x n (wordFor x n) := by
  have hlast := reaches_last x n h1 h2 hx
  obtain ⟨W, hW, hmin⟩ := exists_least (p := fun m => reaches m x n) ⟨_, hlast⟩
  have hl : least x n W := ⟨hW, fun m hm hr => by have := hmin m hr; omega⟩
  have : wordFor x n = W := by
    rw [least_eq x n W h1 hl]
    simp [wordFor, hp]
  rw [this]
  exact hl
theorem wordFor_kept (x n : Nat) (hx : x < n) (h1 : 1 ≤ n) (h2 : n < 18446744073709551616) : thrown (wordFor x n) n = false ∧ drawn (wordFor x n) n = x := by
  cases hp : isPow n with
  | false => exact word_kept x n _ h1 h2 hp (wordFor_least x n hx h1 h2 hp)
  | true =>
    have e : wordFor x n = x := by simp [wordFor, hp]
    rw [e]
    exact ⟨by simp [thrown, hp], drawn_pow x n h1 hp hx⟩
theorem wordFor_lt (x n : Nat) (hx : x < n) (h1 : 1 ≤ n) (h2 : n < 18446744073709551616) : wordFor x n < 18446744073709551616 := by
  cases hp : isPow n with
  | false =>
    have hl := wordFor_least x n hx h1 h2 hp
    rcases Nat.lt_or_ge (wordFor x n) 18446744073709551616 with h | h
    · exact h
    · exact absurd (reaches_last x n h1 h2 hx) (hl.2 _ (by omega))
  | true =>
    have e : wordFor x n = x := by simp [wordFor, hp]
    omega
end Go.Proofs.Ytpffccojlkkfkaa
