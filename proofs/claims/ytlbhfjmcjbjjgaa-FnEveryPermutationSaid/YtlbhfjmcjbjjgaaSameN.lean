/-
  The statements' own comparison of lists of numbers, and of lists of them: they only read.
-/
import Derived.Test.YtlbhfjmcjbjjgaaManyS
namespace Go.Proofs.Ytlbhfjmcjbjjgaa
open Go.RowKit
set_option linter.unusedVariables false

set_option maxHeartbeats 1000000 in
theorem sameCounts_quiet (a1 a2 : Option Addr) (n1 c1 n2 c2 b1 b2 : Nat) (xs ys : List Int) (w : World) (h1 : (xs.map i64).length = n1) (h2 : (ys.map i64).length = n2) (hr1 : Reads w a1 b1 (xs.map i64)) (hr2 : Reads w a2 b2 (ys.map i64)) (hm : n1 < 4611686018427387904) :
    Calls Try.prog 12 #[.slice a1 n1 c1, .slice a2 n2 c2] w fun e w' => e = .returned (.bool (decide (xs = ys))) ∧ ∃ m, w' = w.drewN m := by
  by_cases hne : n1 = n2
  · subst hne
    simp only [List.length_map] at h1 h2
    have H1 := Lib.hid h1
    have H2 := Lib.hid h2
    clear h1 h2
    go_enter Try.func12, Try.ntmps12
    go_wp2
    go_loopg [13] n1 (fun k i wr => ∃ j : Nat, k = n1 - j ∧ j ≤ n1 ∧ i = .int .i64 (j : Int) ∧ Hid (xs.take j = ys.take j) ∧ ∃ m, wr = w.drewN m)
    case atStart => exact ⟨0, rfl, Nat.zero_le _, rfl, rfl, 0, rfl⟩
    case round =>
      obtain ⟨j, hk, hj, rfl, Ht, mq, hw⟩ := hrel
      have hst : Still w wr := by rw [hw]; exact (Turned.refl _ _).drewN mq
      have Hw := Lib.hid hw
      clear hw
      have Hk := Lib.hid hk
      clear hk
      by_cases hlt : j < n1
      · have l1 : j < xs.length := by rw [H1.out]; exact hlt
        have l2 : j < ys.length := by rw [H2.out]; exact hlt
        obtain ⟨off1, rfl, hc1⟩ := hr1.at (i := j) (by simpa using l1)
        obtain ⟨off2, rfl, hc2⟩ := hr2.at (i := j) (by simpa using l2)
        have hd1 : wr.cell? ⟨b1, off1 + j, none⟩ = some (.int .i64 xs[j]) := hst.cell (by simpa [i64] using hc1) (fun h => h)
        have hd2 : wr.cell? ⟨b2, off2 + j, none⟩ = some (.int .i64 ys[j]) := hst.cell (by simpa [i64] using hc2) (fun h => h)
        clear hc1 hc2 hr1 hr2
        by_cases he : xs[j] = ys[j]
        · have Hn := Lib.hid (take_eq_succ l1 l2 he Ht.out)
          have hb : (xs[j] != ys[j]) = false := by simp [he]
          clear he
          generalize xs[j] = x at *
          generalize ys[j] = y at *
          clear l1 l2
          go_wp2
          go_quiet (fail)
          go_wp2
          go_roundg (n1 - (j + 1))
          case measure => rw [Hk.out]; omega
          case rel => exact ⟨j + 1, rfl, by omega, by go_num, Hn.out, _, by rw [Hw.out]; exact World.drewN_drewN ..⟩
        · have hd := take_ne l1 l2 he
          have hb : (xs[j] != ys[j]) = true := by simp [he]
          have Hd := Lib.hid hd
          clear hd he
          generalize xs[j] = x at *
          generalize ys[j] = y at *
          clear l1 l2
          go_wp2
          go_quiet (fail)
          go_wp2
          go_ret
          exact ⟨by rw [Hd.out]; rfl, _, by rw [Hw.out]; exact World.drewN_drewN ..⟩
      · have hd : decide (xs = ys) = true := by
          have := Ht.out
          rw [List.take_of_length_le (by rw [H1.out]; omega), List.take_of_length_le (by rw [H2.out]; omega)] at this
          simpa using this
        have Hd := Lib.hid hd
        clear hd
        go_wp2
        go_ret
        exact ⟨by rw [Hd.out]; rfl, mq, Hw.out⟩
  · have hd : decide (xs = ys) = false := by
      simp only [decide_eq_false_iff_not]
      rintro rfl
      omega
    have hb : ((n1 : Int) != (n2 : Int)) = true := by rw [bne_iff_ne]; omega
    rw [hd]
    clear h1 h2 hd
    go_enter Try.func12, Try.ntmps12
    go_wp2
    go_ret
    exact ⟨rfl, 0, rfl⟩

theorem map_n64 (xs : List Nat) : xs.map n64 = (xs.map fun x : Nat => (x : Int)).map i64 := by simp [n64, i64, Function.comp_def]
theorem map_cast_inj {xs ys : List Nat} : ((xs.map fun x : Nat => (x : Int)) = ys.map fun x : Nat => (x : Int)) ↔ xs = ys := by
  constructor
  · intro h
    induction xs generalizing ys with
    | nil => cases ys <;> simp_all
    | cons x xs ih =>
      cases ys with
      | nil => simp at h
      | cons y ys =>
        simp only [List.map_cons, List.cons.injEq] at h
        rw [ih h.2, show x = y by omega]
  · rintro rfl; rfl

theorem sameNats_any (a1 a2 : Option Addr) (n1 c1 n2 c2 b1 b2 : Nat) (xs ys : List Nat) (w : World) (h1 : xs.length = n1) (h2 : ys.length = n2) (hr1 : Reads w a1 b1 (xs.map n64)) (hr2 : Reads w a2 b2 (ys.map n64)) (hm : n1 < 4611686018427387904) :
    Calls Try.prog 12 #[.slice a1 n1 c1, .slice a2 n2 c2] w fun e w' => e = .returned (.bool (decide (xs = ys))) ∧ ∃ m, w' = w.drewN m := by
  rw [map_n64] at hr1 hr2
  have := sameCounts_quiet a1 a2 n1 c1 n2 c2 b1 b2 _ _ w (by simpa using h1) (by simpa using h2) hr1 hr2 hm
  simpa only [map_cast_inj] using this

theorem takeL_ne {xs ys : List (List Nat)} {k : Nat} (h1 : k < xs.length) (h2 : k < ys.length) (h : xs[k] ≠ ys[k]) : decide (xs = ys) = false := by
  simp only [decide_eq_false_iff_not]
  rintro rfl
  exact h rfl
theorem takeL_eq_succ {xs ys : List (List Nat)} {k : Nat} (h1 : k < xs.length) (h2 : k < ys.length) (h : xs[k] = ys[k]) (ht : xs.take k = ys.take k) : xs.take (k + 1) = ys.take (k + 1) := by
  rw [List.take_succ_eq_append_getElem h1, List.take_succ_eq_append_getElem h2, h, ht]

/-- The inner slices can be read. -/
def InnsR (w : World) (L : List Inn) : Prop := ∀ p ∈ L, Row w 3 p.g p.xs.length p.c (p.xs.map n64) ∧ p.xs.length < 4611686018427387904
theorem InnsR.kept {w w' : World} {L : List Inn} (h : InnsR w L) (hT : Still w w') : InnsR w' L := fun p hp => ⟨(h p hp).1.kept hT (fun h => h), (h p hp).2⟩

set_option maxHeartbeats 1000000 in
theorem sameLists_any (a1 a2 : Option Addr) (n1 c1 n2 c2 b1 b2 : Nat) (L M : List Inn) (w : World) (h1 : L.length = n1) (h2 : M.length = n2) (hr1 : Reads w a1 b1 (L.map Inn.val)) (hr2 : Reads w a2 b2 (M.map Inn.val)) (hi1 : InnsR w L) (hi2 : InnsR w M) (hm : n1 < 4611686018427387904) :
    Calls Try.prog 17 #[.slice a1 n1 c1, .slice a2 n2 c2] w fun e w' => e = .returned (.bool (decide (L.map Inn.xs = M.map Inn.xs))) ∧ ∃ m, w' = w.drewN m := by
  by_cases hne : n1 = n2
  · subst hne
    have H1 := Lib.hid h1
    have H2 := Lib.hid h2
    clear h1 h2
    go_enter Try.func17, Try.ntmps17
    go_wp2_with fail
    go_loopg [13] n1 (fun k i wr => ∃ j : Nat, k = n1 - j ∧ j ≤ n1 ∧ i = .int .i64 (j : Int) ∧ Hid ((L.map Inn.xs).take j = (M.map Inn.xs).take j) ∧ ∃ m, wr = w.drewN m)
    case atStart => exact ⟨0, rfl, Nat.zero_le _, rfl, rfl, 0, rfl⟩
    case round =>
      obtain ⟨j, hk, hj, rfl, Ht, mq, hw⟩ := hrel
      have hst0 : Still w wr := by rw [hw]; exact (Turned.refl _ _).drewN mq
      have Hw := Lib.hid hw
      clear hw
      have Hk := Lib.hid hk
      clear hk
      by_cases hlt : j < n1
      · have l1 : j < L.length := by rw [H1.out]; exact hlt
        have l2 : j < M.length := by rw [H2.out]; exact hlt
        obtain ⟨off1, rfl, hc1⟩ := hr1.at (i := j) (by simpa using l1)
        obtain ⟨off2, rfl, hc2⟩ := hr2.at (i := j) (by simpa using l2)
        have hst : ∀ q, Still w (wr.drewN q) := fun q => hst0.drewN q
        have hd1 : wr.cell? ⟨b1, off1 + j, none⟩ = some L[j].val := hst0.cell (by simpa using hc1) (fun h => h)
        have hd2 : wr.cell? ⟨b2, off2 + j, none⟩ = some M[j].val := hst0.cell (by simpa using hc2) (fun h => h)
        have hs1 := hi1 L[j] (List.getElem_mem l1)
        have hs2 := hi2 M[j] (List.getElem_mem l2)
        have hE : decide (L[j].xs = M[j].xs) = true → (L.map Inn.xs).take (j + 1) = (M.map Inn.xs).take (j + 1) := fun he => takeL_eq_succ (by simpa using l1) (by simpa using l2) (by simpa using he) Ht.out
        have hN : decide (L[j].xs = M[j].xs) = false → decide (L.map Inn.xs = M.map Inn.xs) = false := fun he => takeL_ne (k := j) (by simpa using l1) (by simpa using l2) (by simpa using he)
        have HE := Lib.hid hE
        have HN := Lib.hid hN
        clear hc1 hc2 hr1 hr2 hi1 hi2 hE hN
        generalize L[j] = p1 at *
        generalize M[j] = p2 at *
        obtain ⟨G1, C1, xs⟩ := p1
        obtain ⟨G2, C2, ys⟩ := p2
        clear l1 l2
        simp only [Inn.val] at *
        have hcall : ∀ q, Calls Try.prog 12 #[.slice (some ⟨G1, 0, none⟩) xs.length C1, .slice (some ⟨G2, 0, none⟩) ys.length C2] (wr.drewN q) fun e w' => e = .returned (.bool (decide (xs = ys))) ∧ ∃ m, w' = (wr.drewN q).drewN m :=
          fun q => sameNats_any _ _ _ _ _ _ G1 G2 xs ys _ rfl rfl (hs1.1.kept (hst q) (fun h => h)).reads (hs2.1.kept (hst q) (fun h => h)).reads hs1.2
        have HC := Lib.hid hcall
        clear hcall hs1 hs2 hst hst0
        generalize xs.length = len1 at *
        generalize ys.length = len2 at *
        generalize hbe : decide (xs = ys) = be at *
        clear hbe
        go_wp2_with fail
        go_quiet ((go_at_call 12; exact Calls.quiet_of (HC.out _)))
        cases be with
        | true =>
          go_wp2
          go_roundg (n1 - (j + 1))
          case measure => rw [Hk.out]; omega
          case rel => exact ⟨j + 1, rfl, by omega, by go_num, HE.out (by trivial), _, by rw [Hw.out]; exact World.drewN_drewN ..⟩
        | false =>
          go_wp2
          go_ret
          exact ⟨by rw [HN.out (by trivial)]; rfl, _, by rw [Hw.out]; exact World.drewN_drewN ..⟩
      · have hd : decide (L.map Inn.xs = M.map Inn.xs) = true := by
          have := Ht.out
          rw [List.take_of_length_le (by rw [List.length_map, H1.out]; omega), List.take_of_length_le (by rw [List.length_map, H2.out]; omega)] at this
          simpa using this
        have Hd := Lib.hid hd
        clear hd
        go_wp2
        go_ret
        exact ⟨by rw [Hd.out]; rfl, mq, Hw.out⟩
  · have hd : decide (L.map Inn.xs = M.map Inn.xs) = false := by
      simp only [decide_eq_false_iff_not]
      intro h
      have := congrArg List.length h
      simp only [List.length_map] at this
      omega
    have hb : ((n1 : Int) != (n2 : Int)) = true := by rw [bne_iff_ne]; omega
    rw [hd]
    clear h1 h2 hd
    go_enter Try.func17, Try.ntmps17
    go_wp2
    go_ret
    exact ⟨rfl, 0, rfl⟩
end Go.Proofs.Ytlbhfjmcjbjjgaa
