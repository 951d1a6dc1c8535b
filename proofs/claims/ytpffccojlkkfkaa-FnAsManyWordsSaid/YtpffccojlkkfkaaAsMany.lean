/-
  The walk of FnAsManyWords.
-/
import Derived.Test.YtpffccojlkkfkaaWordForW
namespace Go.Proofs.Ytpffccojlkkfkaa
open Go.RowKit
set_option linter.unusedVariables false

theorem isPow_double (m : Nat) (h1 : 1 ≤ m) (hp : isPow m = true) : isPow (2 * m) = true := by
  simp only [isPow, beq_iff_eq] at hp ⊢
  have h2 : (2 * m &&& (2 * m - 1)) / 2 = m &&& (m - 1) := by
    rw [Nat.and_div_two]
    congr 1 <;> omega
  have h3 : (2 * m &&& (2 * m - 1)) % 2 ^ 1 = 2 * m % 2 ^ 1 &&& (2 * m - 1) % 2 ^ 1 := Nat.and_mod_two_pow
  rw [show 2 * m % 2 ^ 1 = 0 by omega, Nat.zero_and] at h3
  rw [hp] at h2
  omega
theorem isPow_of_dvd (n k : Nat) (h : n ∣ 2 ^ k) : isPow n = true := by
  induction k generalizing n with
  | zero =>
    have : n = 1 := by simpa using h
    subst this
    rfl
  | succ k ih =>
    rcases Nat.mod_two_eq_zero_or_one n with h0 | h0
    · obtain ⟨m, rfl⟩ : ∃ m, n = 2 * m := ⟨n / 2, by omega⟩
      have hm : m ∣ 2 ^ k := by
        rw [Nat.pow_succ, Nat.mul_comm (2 ^ k)] at h
        exact Nat.dvd_of_mul_dvd_mul_left (show 0 < 2 by omega) h
      have hpos : 1 ≤ m := Nat.pos_of_dvd_of_pos hm (Nat.two_pow_pos k)
      exact isPow_double m hpos (ih m hm)
    · have hc : Nat.Coprime n 2 := by
        unfold Nat.Coprime
        have h2 : Nat.gcd n 2 ∣ 2 := Nat.gcd_dvd_right n 2
        have h3 : Nat.gcd n 2 ∣ n := Nat.gcd_dvd_left n 2
        have h4 : Nat.gcd n 2 ≤ 2 := Nat.le_of_dvd (by omega) h2
        have h5 : Nat.gcd n 2 ≠ 2 := by
          intro h6
          rw [h6] at h3
          obtain ⟨c, hc⟩ := h3
          omega
        have h7 : 0 < Nat.gcd n 2 := Nat.gcd_pos_of_pos_right n (by omega)
        omega
      rw [Nat.pow_succ] at h
      exact ih n (hc.dvd_of_dvd_mul_right h)

/-- So many words are drawn to each number. -/
def many (n : Nat) : Nat := 18446744073709551615 / n
theorem many_facts (n : Nat) (h1 : 1 ≤ n) (h2 : n < 18446744073709551616) (hp : isPow n = false) : 1 ≤ many n ∧ many n * n + thr n = 18446744073709551616 := by
  have hd := Nat.div_add_mod' 18446744073709551615 n
  have hr : 18446744073709551615 % n < n := Nat.mod_lt _ h1
  have hm : 1 ≤ 18446744073709551615 / n := (Nat.le_div_iff_mul_le h1).2 (by omega)
  refine ⟨hm, ?_⟩
  have ht : thr n = 18446744073709551616 % n := by
    unfold thr
    rw [← Nat.mod_eq_sub_mod (show 18446744073709551616 ≥ n by omega)]
  have hne : 18446744073709551616 % n ≠ 0 := by
    intro h0
    have hdv : n ∣ 2 ^ 64 := Nat.dvd_of_mod_eq_zero h0
    rw [isPow_of_dvd n 64 hdv] at hp
    cases hp
  unfold many
  generalize 18446744073709551615 / n = q at *
  generalize hrr : 18446744073709551615 % n = r at *
  have e : 18446744073709551616 = r + 1 + q * n := by omega
  have hM : 18446744073709551616 % n = (r + 1) % n := by rw [e, Nat.add_mul_mod_self_right]
  have hlt : r + 1 < n := by
    rcases Nat.lt_or_ge (r + 1) n with h | h
    · exact h
    · exfalso
      have : r + 1 = n := by omega
      rw [hM, this, Nat.mod_self] at hne
      exact hne rfl
  rw [ht, hM, Nat.mod_eq_of_lt hlt]
  omega

/-- The three looks of the law. -/
theorem before_row (x n W : Nat) (h1 : 1 ≤ n) (h2 : n < 18446744073709551616) (hp : isPow n = false) (h : least x n W) (hx : 0 < x) : 1 ≤ W ∧ ((one (W - 1) n).2 = 1 → (one (W - 1) n).1 < x) := by
  have hW : 1 ≤ W := by
    rcases Nat.eq_zero_or_pos W with h0 | h0
    · exfalso
      subst h0
      have := h.1
      unfold reaches at this
      omega
    · exact h0
  refine ⟨hW, fun hu => ?_⟩
  have hn := h.2 (W - 1) (by omega)
  rw [reaches_iff _ _ _ h2 h1] at hn
  rcases one_used (W - 1) n h1 h2 with ⟨ht, e⟩ | ⟨_, e⟩
  · rw [e]
    simp only [drawn_hi _ n hp]
    simp only [thrown, hp, Bool.not_false, Bool.true_and, decide_eq_false_iff_not] at ht
    rcases Nat.lt_trichotomy x (hiOf (W - 1) n) with c | c | c
    · exact absurd (.inl c) hn
    · exact absurd (.inr ⟨c.symm, by omega⟩) hn
    · exact c
  · omega
theorem within_row (x n W s : Nat) (h1 : 1 ≤ n) (h2 : n < 18446744073709551616) (hx : x < n) (hp : isPow n = false) (h : least x n W) (hs : s < many n) : one (W + s) n = (x, 1) ∧ W + s < 18446744073709551616 := by
  obtain ⟨hm1, hm2⟩ := many_facts n h1 h2 hp
  have hsn : s * n + n ≤ many n * n := by
    have := Nat.mul_le_mul_right n (show s + 1 ≤ many n from hs)
    rw [Nat.add_mul, Nat.one_mul] at this
    exact this
  obtain ⟨ht, hd⟩ := in_row x n W s h1 h2 hp h (by omega)
  refine ⟨by rw [one_kept _ _ ht, hd], ?_⟩
  have hhi := hd
  rw [drawn_hi _ _ hp] at hhi
  have hsp := prod_split (W + s) n
  have hl := lo_lt (W + s) n
  rw [hhi] at hsp
  rcases Nat.lt_or_ge (W + s) 18446744073709551616 with c | c
  · exact c
  · exfalso
    have := Nat.mul_le_mul_right n c
    omega
theorem behind_row (x n W : Nat) (h1 : 1 ≤ n) (h2 : n < 18446744073709551616) (hp : isPow n = false) (h : least x n W) : 1 < (one (W + many n) n).2 ∨ x < (one (W + many n) n).1 := by
  obtain ⟨hm1, hm2⟩ := many_facts n h1 h2 hp
  have hr := h.1
  unfold reaches at hr
  rcases one_used (W + many n) n h1 h2 with ⟨ht, e⟩ | ⟨_, e⟩
  · right
    rw [e]
    simp only [drawn_hi _ n hp]
    unfold hiOf
    rw [← Nat.succ_le_iff, Nat.le_div_iff_mul_le (by omega), Nat.succ_mul, Nat.add_mul]
    omega
  · left; omega

set_option maxRecDepth 100000 in
set_option maxHeartbeats 2000000 in
theorem fnAsManyWords_walk (n0 n1 n2 : Nat) (w : World) (l0 : n0 < 18446744073709551616) (l1 : n1 < 18446744073709551616) (l2 : n2 < 18446744073709551616) :
    Calls Try.prog 4 #[.int .u64 (n0 : Int), .int .u64 (n1 : Int), .int .u64 (n2 : Int)] w fun e w' => e = .returned (.bool true) ∧ Below w.heap.size w w' := by
  by_cases h0 : n0 = 0
  · subst h0
    go_enter Try.func4, Try.ntmps4
    go_wp2_with fail
    go_ret
    exact ⟨rfl, Below.refl _ _⟩
  have hz : ((n0 : Int) == 0) = false := by simp; omega
  have hb1 : 1 ≤ n0 := by omega
  clear h0
  cases hp : isPow n0 with
  | true =>
    have Hp := Lib.hid hp
    clear hp
    go_enter Try.func4, Try.ntmps4
    go_wp2_with fail
    refine (isPower_any n0 _ hb1 l0).mono ?_
    rintro e w' ⟨rfl, rfl⟩
    rw [Hp.out]
    go_wp2_with fail
    go_ret
    exact ⟨rfl, Below.refl _ _⟩
  | false =>
    have hx : n1 % n0 < n0 := Nat.mod_lt _ hb1
    have hle := wordFor_least (n1 % n0) n0 hx hb1 l0 hp
    have hWl := wordFor_lt (n1 % n0) n0 hx hb1 l0
    obtain ⟨hm1, _⟩ := many_facts n0 hb1 l0 hp
    have hKl : many n0 < 18446744073709551616 := by unfold many; have := Nat.div_le_self 18446744073709551615 n0; omega
    have hs : n2 % many n0 < many n0 := Nat.mod_lt _ hm1
    have E1 := Lib.hid (before_row (n1 % n0) n0 _ hb1 l0 hp hle)
    obtain ⟨e2, hWs⟩ := within_row (n1 % n0) n0 _ (n2 % many n0) hb1 l0 hx hp hle hs
    have E2 := Lib.hid e2
    have E3 := Lib.hid (behind_row (n1 % n0) n0 _ hb1 l0 hp hle)
    have r1 : (n1 : Int) % (n0 : Int) = ((n1 % n0 : Nat) : Int) := rfl
    have r1t : (n1 : Int).tmod (n0 : Int) = ((n1 % n0 : Nat) : Int) := rfl
    have r2 : (18446744073709551615 : Int) / (n0 : Int) = ((many n0 : Nat) : Int) := rfl
    have r2t : (18446744073709551615 : Int).tdiv (n0 : Int) = ((many n0 : Nat) : Int) := rfl
    have r3 : (n2 : Int) % ((many n0 : Nat) : Int) = ((n2 % many n0 : Nat) : Int) := rfl
    have r3t : (n2 : Int).tmod ((many n0 : Nat) : Int) = ((n2 % many n0 : Nat) : Int) := rfl
    have hmz : ((many n0 : Int) == 0) = false := by simp; omega
    have Hp := Lib.hid hp
    clear hp hle e2
    have HW : Hid (wordFor (n1 % n0) n0 = wordFor (n1 % n0) n0) := rfl
    generalize hWv : wordFor (n1 % n0) n0 = W at *
    have HWv := Lib.hid hWv
    clear hWv HW
    generalize n2 % many n0 = s at *
    generalize many n0 = K at *
    generalize n1 % n0 = x at *
    have rs : (W : Int) + (s : Int) = ((W + s : Nat) : Int) := by omega
    generalize W + s = V1 at *
    go_enter Try.func4, Try.ntmps4
    go_wp2_with fail
    refine (isPower_any n0 _ hb1 l0).mono ?_
    rintro e w' ⟨rfl, rfl⟩
    rw [Hp.out]
    go_wp2_with fail
    refine (wordFor_any x n0 _ hx hb1 l0).mono ?_
    rintro e w' ⟨rfl, rfl⟩
    rw [HWv.out]
    have tail : True := trivial
    by_cases hx0 : 0 < x
    · obtain ⟨hW1, hbef⟩ := E1.out hx0
      have HB := Lib.hid hbef
      clear hbef
      have rw1 : (W : Int) - 1 = ((W - 1 : Nat) : Int) := by omega
      have P1 := one_pos (W - 1) n0 hb1 l0
      go_wp2_with fail
      refine (drawnBy_any (W - 1) n0 _ (by omega) hb1 l0).mono ?_
      rintro e w1 ⟨rfl, s1⟩
      generalize one (W - 1) n0 = p at *
      obtain ⟨pv, pu⟩ := p
      simp only at P1
      obtain ⟨P1a, P1b⟩ := P1
      clear rw1
      by_cases c1 : pu = 1
      · have d1 : ((pu : Int) == 1) = true := by simp; omega
        have d2 : pv < x := HB.out c1
        clear c1 HB
        go_wp2_with fail
        refine (drawnBy_any V1 n0 _ hWs hb1 l0).mono ?_
        rintro e w2 ⟨rfl, s2⟩
        rw [E2.out]
        have st2 := s1.trans s2
        clear rs
        by_cases hov : W + K < 18446744073709551616
        · have rk : (W : Int) + (K : Int) = ((W + K : Nat) : Int) := by omega
          have P3 := one_pos (W + K) n0 hb1 l0
          generalize W + K = V2 at *
          go_wp2_with fail
          refine (drawnBy_any V2 n0 _ hov hb1 l0).mono ?_
          rintro e w3 ⟨rfl, s3⟩
          have st3 := st2.trans s3
          have e3 := E3.out
          generalize one V2 n0 = q at *
          obtain ⟨qv, qu⟩ := q
          simp only at P3 e3
          obtain ⟨P3a, P3b⟩ := P3
          clear rk
          by_cases c3 : 1 < qu
          · clear e3
            have c3' : (1 : Int) < (qu : Int) := by omega
            go_wp2_with fail
            go_ret
            exact ⟨by simp, st3.below (Nat.le_refl _) (fun k h => h.elim)⟩
          · have c4 : x < qv := by omega
            have c3' : ¬ (1 : Int) < (qu : Int) := by omega
            clear e3
            go_wp2_with fail
            go_ret
            exact ⟨by simp, st3.below (Nat.le_refl _) (fun k h => h.elim)⟩
        · have rk : IntKind.u64.wrap ((W : Int) + (K : Int)) = ((W + K - 18446744073709551616 : Nat) : Int) := by rw [IntKind.wrap_u64]; omega
          have hlt : W + K - 18446744073709551616 < W := by omega
          generalize W + K - 18446744073709551616 = V at *
          go_wp2_with fail
          go_ret
          exact ⟨rfl, st2.below (Nat.le_refl _) (fun k h => h.elim)⟩
      · have d1 : ((pu : Int) == 1) = false := by simp; omega
        clear c1 HB
        go_wp2_with fail
        refine (drawnBy_any V1 n0 _ hWs hb1 l0).mono ?_
        rintro e w2 ⟨rfl, s2⟩
        rw [E2.out]
        have st2 := s1.trans s2
        clear rs
        by_cases hov : W + K < 18446744073709551616
        · have rk : (W : Int) + (K : Int) = ((W + K : Nat) : Int) := by omega
          have P3 := one_pos (W + K) n0 hb1 l0
          generalize W + K = V2 at *
          go_wp2_with fail
          refine (drawnBy_any V2 n0 _ hov hb1 l0).mono ?_
          rintro e w3 ⟨rfl, s3⟩
          have st3 := st2.trans s3
          have e3 := E3.out
          generalize one V2 n0 = q at *
          obtain ⟨qv, qu⟩ := q
          simp only at P3 e3
          obtain ⟨P3a, P3b⟩ := P3
          clear rk
          by_cases c3 : 1 < qu
          · clear e3
            have c3' : (1 : Int) < (qu : Int) := by omega
            go_wp2_with fail
            go_ret
            exact ⟨by simp, st3.below (Nat.le_refl _) (fun k h => h.elim)⟩
          · have c4 : x < qv := by omega
            have c3' : ¬ (1 : Int) < (qu : Int) := by omega
            clear e3
            go_wp2_with fail
            go_ret
            exact ⟨by simp, st3.below (Nat.le_refl _) (fun k h => h.elim)⟩
        · have rk : IntKind.u64.wrap ((W : Int) + (K : Int)) = ((W + K - 18446744073709551616 : Nat) : Int) := by rw [IntKind.wrap_u64]; omega
          have hlt : W + K - 18446744073709551616 < W := by omega
          generalize W + K - 18446744073709551616 = V at *
          go_wp2_with fail
          go_ret
          exact ⟨rfl, st2.below (Nat.le_refl _) (fun k h => h.elim)⟩
    · have hst1 : Still w w := Turned.refl _ _
      go_wp2_with fail
      refine (drawnBy_any V1 n0 _ hWs hb1 l0).mono ?_
      rintro e w2 ⟨rfl, s2⟩
      rw [E2.out]
      have st2 := hst1.trans s2
      clear rs
      by_cases hov : W + K < 18446744073709551616
      · have rk : (W : Int) + (K : Int) = ((W + K : Nat) : Int) := by omega
        have P3 := one_pos (W + K) n0 hb1 l0
        generalize W + K = V2 at *
        go_wp2_with fail
        refine (drawnBy_any V2 n0 _ hov hb1 l0).mono ?_
        rintro e w3 ⟨rfl, s3⟩
        have st3 := st2.trans s3
        have e3 := E3.out
        generalize one V2 n0 = q at *
        obtain ⟨qv, qu⟩ := q
        simp only at P3 e3
        obtain ⟨P3a, P3b⟩ := P3
        clear rk
        by_cases c3 : 1 < qu
        · clear e3
          have c3' : (1 : Int) < (qu : Int) := by omega
          go_wp2_with fail
          go_ret
          exact ⟨by simp, st3.below (Nat.le_refl _) (fun k h => h.elim)⟩
        · have c4 : x < qv := by omega
          have c3' : ¬ (1 : Int) < (qu : Int) := by omega
          clear e3
          go_wp2_with fail
          go_ret
          exact ⟨by simp, st3.below (Nat.le_refl _) (fun k h => h.elim)⟩
      · have rk : IntKind.u64.wrap ((W : Int) + (K : Int)) = ((W + K - 18446744073709551616 : Nat) : Int) := by rw [IntKind.wrap_u64]; omega
        have hlt : W + K - 18446744073709551616 < W := by omega
        generalize W + K - 18446744073709551616 = V at *
        go_wp2_with fail
        go_ret
        exact ⟨rfl, st2.below (Nat.le_refl _) (fun k h => h.elim)⟩
end Go.Proofs.Ytpffccojlkkfkaa
