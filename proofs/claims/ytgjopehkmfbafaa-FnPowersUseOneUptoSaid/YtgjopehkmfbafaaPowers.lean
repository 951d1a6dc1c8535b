/-
  The walk of FnPowersUseOne.
-/
import Derived.Test.YtgjopehkmfbafaaOnePer
import Derived.Test.YtgjopehkmfbafaaBounds
import Derived.Test.YtgjopehkmfbafaaSame
import Derived.Test.YtgjopehkmfbafaaFrame
namespace Go.Proofs.Ytgjopehkmfbafaa
open Go.RowKit
set_option linter.unusedVariables false

theorem isPow_two (p : Nat) : isPow (2 ^ p) = true := by
  rw [isPow, Nat.and_two_pow_sub_one_eq_mod, Nat.mod_self]
  rfl
theorem drawn_two (x p : Nat) : drawn x (2 ^ p) = x % 2 ^ p := by
  rw [drawn, isPow_two, if_pos rfl]
  exact Nat.and_two_pow_sub_one_eq_mod _ p
theorem thrown_two (x p : Nat) : thrown x (2 ^ p) = false := by simp [thrown, isPow_two]

theorem wrap_two (p : Nat) (h : p < 64) : IntKind.u64.wrap ((2 : Int) ^ p) = ((2 ^ p : Nat) : Int) := by
  have h1 : 2 ^ p < 18446744073709551616 := by have h : 2 ^ p < 2 ^ 64 := Nat.pow_lt_pow_right (by omega) h; simpa using h
  have h2 : (2 : Int) ^ p = ((2 ^ p : Nat) : Int) := by simp
  rw [h2]
  generalize 2 ^ p = m at *
  show ((m : Int)) % 18446744073709551616 = m
  omega
/-- Powers of two, the second not less than the first. -/
structure Pows (ss gs : List Nat) : Prop where
  same : gs.length = ss.length
  at' : ∀ i, i < ss.length → ∃ p q, p ≤ q ∧ q < 64 ∧ ss[i]? = some (2 ^ p) ∧ gs[i]? = some (2 ^ q)
theorem Pows.nil : Pows [] [] := ⟨rfl, fun i h => absurd h (Nat.not_lt_zero _)⟩
theorem Pows.snoc {ss gs : List Nat} (h : Pows ss gs) (p q : Nat) (hpq : p ≤ q) (hq : q < 64) : Pows (ss ++ [2 ^ p]) (gs ++ [2 ^ q]) := by
  refine ⟨by simp [h.same], fun i hi => ?_⟩
  by_cases hl : i < ss.length
  · obtain ⟨p', q', h1, h2, h3, h4⟩ := h.at' i hl
    exact ⟨p', q', h1, h2, by rw [List.getElem?_append_left hl]; exact h3, by rw [List.getElem?_append_left (by rw [h.same]; exact hl)]; exact h4⟩
  · have : i = ss.length := by simp at hi; omega
    subst this
    exact ⟨p, q, hpq, hq, by simp, by rw [← h.same]; simp⟩
theorem two_small {q : Nat} (hq : q < 64) : 1 ≤ 2 ^ q ∧ 2 ^ q < 18446744073709551616 := ⟨Nat.two_pow_pos q, by have h : 2 ^ q < 2 ^ 64 := Nat.pow_lt_pow_right (by omega) hq; simpa using h⟩
theorem Pows.left {ss gs : List Nat} (h : Pows ss gs) : (∀ x ∈ ss, 1 ≤ x ∧ x < 18446744073709551616) ∧ ∀ (us : List Nat) j (hj : j < ss.length), thrown (wordAt us j) ss[j] = false := by
  refine ⟨fun x hx => ?_, fun us j hj => ?_⟩
  · obtain ⟨i, hi, rfl⟩ := List.getElem_of_mem hx
    obtain ⟨p, q, h1, h2, h3, h4⟩ := h.at' i hi
    rw [List.getElem?_eq_getElem hi] at h3
    simp only [Option.some.injEq] at h3
    rw [h3]
    exact two_small (by omega)
  · obtain ⟨p, q, h1, h2, h3, h4⟩ := h.at' j hj
    rw [List.getElem?_eq_getElem hj] at h3
    simp only [Option.some.injEq] at h3
    rw [h3]
    exact thrown_two _ _
theorem Pows.right {ss gs : List Nat} (h : Pows ss gs) : (∀ x ∈ gs, 1 ≤ x ∧ x < 18446744073709551616) ∧ ∀ (us : List Nat) j (hj : j < gs.length), thrown (wordAt us j) gs[j] = false := by
  refine ⟨fun x hx => ?_, fun us j hj => ?_⟩
  · obtain ⟨i, hi, rfl⟩ := List.getElem_of_mem hx
    obtain ⟨p, q, h1, h2, h3, h4⟩ := h.at' i (by rw [← h.same]; exact hi)
    rw [List.getElem?_eq_getElem hi] at h4
    simp only [Option.some.injEq] at h4
    rw [h4]
    exact two_small (by omega)
  · obtain ⟨p, q, h1, h2, h3, h4⟩ := h.at' j (by rw [← h.same]; exact hj)
    rw [List.getElem?_eq_getElem hj] at h4
    simp only [Option.some.injEq] at h4
    rw [h4]
    exact thrown_two _ _
theorem Pows.usesL {ss gs : List Nat} (h : Pows ss gs) (us : List Nat) (L : Nat) (hL : ss.length = L) : uses (draws us 0 ss) = ((List.range L).map fun i : Nat => (i : Int) + 1).map i64 := by
  rw [one_per_uses us _ (h.left.2 us), hL]
  simp [i64, Function.comp_def]
theorem Pows.usesR {ss gs : List Nat} (h : Pows ss gs) (us : List Nat) (L : Nat) (hL : ss.length = L) : uses (draws us 0 gs) = ((List.range L).map fun i : Nat => (i : Int) + 1).map i64 := by
  rw [one_per_uses us _ (h.right.2 us), h.same, hL]
  simp [i64, Function.comp_def]
/-- The numbers of one place: x, y and the lesser bound. -/
theorem Pows.nums {ss gs : List Nat} (h : Pows ss gs) (us : List Nat) (j : Nat) (hj : j < ss.length) : ∃ x y s : Nat, (vals .u64 (draws us 0 ss))[j]? = some (.int .u64 (x : Int)) ∧ (vals .u64 (draws us 0 gs))[j]? = some (.int .u64 (y : Int)) ∧ (ss.map u64)[j]? = some (.int .u64 (s : Int)) ∧ 1 ≤ s ∧ s < 18446744073709551616 ∧ y < 18446744073709551616 ∧ y % s = x := by
  obtain ⟨p, q, h1, h2, h3, h4⟩ := h.at' j hj
  have hg : j < gs.length := by rw [h.same]; exact hj
  have e1 := one_per_get us ss (h.left.2 us) j hj
  have e2 := one_per_get us gs (h.right.2 us) j hg
  have k3 := h3
  have k4 := h4
  rw [List.getElem?_eq_getElem hj] at k3
  rw [List.getElem?_eq_getElem hg] at k4
  simp only [Option.some.injEq] at k3 k4
  rw [k3, drawn_two] at e1
  rw [k4, drawn_two] at e2
  have b1 := two_small (q := p) (by omega)
  have b2 := two_small (q := q) (by omega)
  refine ⟨wordAt us j % 2 ^ p, wordAt us j % 2 ^ q, 2 ^ p, by simp [vals, e1], by simp [vals, e2], by simp [h3, u64], b1.1, b1.2, Nat.lt_trans (Nat.mod_lt _ b2.1) b2.2, ?_⟩
  exact Nat.mod_mod_of_dvd _ (Nat.pow_dvd_pow 2 h1)

set_option maxRecDepth 100000 in
set_option maxHeartbeats 2000000 in
theorem fnPowersUseOne_walk (a0 : Option Addr) (len0 cap0 b0 : Nat) (ws0 : List Nat) (a1 : Option Addr) (len1 cap1 b1 : Nat) (ws1 : List Nat) (w : World) (A0 : Arg u64 18446744073709551616 8 w a0 len0 cap0 b0 ws0) (S0 : len0 ≤ 1048576) (A1 : Arg u8 256 1 w a1 len1 cap1 b1 ws1) (S1 : len1 ≤ 1048576) :
    Calls Try.prog 9 #[.slice a0 len0 cap0, .slice a1 len1 cap1] w fun e w' => e = .returned (.bool true) ∧ RowKit.Below w.heap.size w w' := by
  have HL1 := Lib.hid A1.length
  go_enter Try.func9, Try.ntmps9
  go_wp2_with fail
  go_loopg [5, 6, 20] len1 (fun k o q i wr => ∃ (j g1 c1 g2 c2 : Nat) (ss gs : List Nat), k = len1 - j ∧ j ≤ len1 ∧ o = .slice (some ⟨g1, 0, none⟩) j c1 ∧ q = .slice (some ⟨g2, 0, none⟩) j c2 ∧ i = .int .i64 (j : Int) ∧ Row wr 36 g1 j c1 (ss.map u64) ∧ Row wr 36 g2 j c2 (gs.map u64) ∧ w.heap.size ≤ g1 ∧ w.heap.size ≤ g2 ∧ g1 ≠ g2 ∧ Still w wr ∧ Pows ss gs)
  case atStart => exact ⟨0, w.heap.size, 0, w.heap.size + 1, 0, [], [], rfl, Nat.zero_le _, rfl, rfl, rfl, (Row.empty w _).kept ((Turned.refl (fun _ => False) _).alloc _) (fun h => h), (by have := Row.empty (w.alloc (.cells #[] 36)) 36; simpa using this), Nat.le_refl _, by omega, by omega, ((Turned.refl _ _).alloc _).alloc _, Pows.nil⟩
  case round =>
    obtain ⟨j, g1, c1, g2, c2, ss, gs, hk, hj, rfl, rfl, rfl, hrow1, hrow2, hg1, hg2, hne, hst, hP⟩ := hrel
    have Hk := Lib.hid hk
    clear hk
    by_cases hlt : j < len1
    · have hjn : j < ws1.length := by rw [HL1.out]; exact hlt
      obtain ⟨off, rfl, hcs⟩ := A1.reads (by intro h; simp at h; subst h; simp at hjn)
      have hd : wr.cell? ⟨b1, off + j, none⟩ = some (.int .u8 ((ws1[j] : Nat) : Int)) := hst.cell (hcs j _ (by rw [List.getElem?_map, List.getElem?_eq_getElem hjn]; rfl)) (fun h => h)
      have hfj := A1.fit ws1[j] (List.getElem_mem hjn)
      have hm1 : ((ws1[j] : Nat) : Int) % 64 = ((ws1[j] % 64 : Nat) : Int) := rfl
      have hm2 : ((ws1[j] : Nat) : Int).tmod 64 = ((ws1[j] % 64 : Nat) : Int) := rfl
      have hp : ws1[j] % 64 < 64 := Nat.mod_lt _ (by omega)
      generalize ws1[j] = s at *
      generalize s % 64 = p at *
      by_cases h0 : 0 < j
      · have hj1 : (j : Int) - 1 = ((j - 1 : Nat) : Int) := by omega
        have hjn' : j - 1 < ws1.length := by omega
        have hd' : wr.cell? ⟨b1, off + (j - 1), none⟩ = some (.int .u8 ((ws1[j - 1] : Nat) : Int)) := hst.cell (hcs (j - 1) _ (by rw [List.getElem?_map, List.getElem?_eq_getElem hjn']; rfl)) (fun h => h)
        have hfj' := A1.fit ws1[j - 1] (List.getElem_mem hjn')
        have hm1' : ((ws1[j - 1] : Nat) : Int) % 64 = ((ws1[j - 1] % 64 : Nat) : Int) := rfl
        have hm2' : ((ws1[j - 1] : Nat) : Int).tmod 64 = ((ws1[j - 1] % 64 : Nat) : Int) := rfl
        have hp' : ws1[j - 1] % 64 < 64 := Nat.mod_lt _ (by omega)
        generalize ws1[j - 1] = s' at *
        generalize s' % 64 = p' at *
        obtain ⟨q, hq1, hq2, hmax, hmax2⟩ : ∃ q : Nat, p ≤ q ∧ q < 64 ∧ (if (p : Int) < (p' : Int) then (p' : Int) else (p : Int)) = (q : Int) ∧ (if p < p' then (p' : Int) else (p : Int)) = (q : Int) := by
          by_cases h : p < p'
          · exact ⟨p', by omega, by omega, by rw [if_pos (by omega)], by rw [if_pos h]⟩
          · exact ⟨p, by omega, by omega, by rw [if_neg (by omega)], by rw [if_neg h]⟩
        clear hcs
        go_wp2_with (at_builtin; refine wpList_push rfl _ _ 22 rfl 36 (.int .u64 0) 8 Try.underlying22 Try.infoU64 rfl g1 j c1 _ rfl hrow1 (.int .u64 (IntKind.u64.wrap (2 ^ p))) rfl rfl (by omega) (by omega) ?_)
        intro g3 c3 w3 hr3 hat3 hT3
        have hst3 := hst.then hT3 (fun k hk e => by subst e; omega)
        have hrow3 := hrow2.kept hT3 (fun e => hne e.symm)
        have hz := hst.size
        have hz3 := hst3.size
        have hl2 := hrow2.lt
        have hne3 : g3 ≠ g2 := by omega
        go_wp2_with (at_builtin; refine wpList_push rfl _ _ 22 rfl 36 (.int .u64 0) 8 Try.underlying22 Try.infoU64 rfl g2 j c2 _ rfl hrow3 (.int .u64 (IntKind.u64.wrap (2 ^ q))) rfl rfl (by omega) (by omega) ?_)
        intro g4 c4 w4 hr4 hat4 hT4
        have hst4 := hst3.then hT4 (fun k hk e => by subst e; omega)
        have hl3 := hr3.lt
        have hr5 := hr3.kept hT4 hne3
        have hP' := hP.snoc p q (by omega) (by omega)
        go_wp2
        go_roundg (len1 - (j + 1))
        case measure => rw [Hk.out]; omega
        case rel =>
          rw [wrap_two p hp] at hr5
          rw [wrap_two q (by omega)] at hr4
          refine ⟨j + 1, g3, c3, g4, c4, _, _, rfl, by omega, rfl, rfl, by go_num, ?_, ?_, by omega, by omega, by omega, hst4, hP'⟩
          · rw [List.map_append]; exact hr5
          · rw [List.map_append]; exact hr4
      · have h0' : ¬ ((0 : Int) < (j : Int)) := by omega
        clear hcs
        go_wp2_with (at_builtin; refine wpList_push rfl _ _ 22 rfl 36 (.int .u64 0) 8 Try.underlying22 Try.infoU64 rfl g1 j c1 _ rfl hrow1 (.int .u64 (IntKind.u64.wrap (2 ^ p))) rfl rfl (by omega) (by omega) ?_)
        intro g3 c3 w3 hr3 hat3 hT3
        have hst3 := hst.then hT3 (fun k hk e => by subst e; omega)
        have hrow3 := hrow2.kept hT3 (fun e => hne e.symm)
        have hz := hst.size
        have hz3 := hst3.size
        have hl2 := hrow2.lt
        have hne3 : g3 ≠ g2 := by omega
        go_wp2_with (at_builtin; refine wpList_push rfl _ _ 22 rfl 36 (.int .u64 0) 8 Try.underlying22 Try.infoU64 rfl g2 j c2 _ rfl hrow3 (.int .u64 (IntKind.u64.wrap (2 ^ p))) rfl rfl (by omega) (by omega) ?_)
        intro g4 c4 w4 hr4 hat4 hT4
        have hst4 := hst3.then hT4 (fun k hk e => by subst e; omega)
        have hl3 := hr3.lt
        have hr5 := hr3.kept hT4 hne3
        have hP' := hP.snoc p p (by omega) (by omega)
        go_wp2
        go_roundg (len1 - (j + 1))
        case measure => rw [Hk.out]; omega
        case rel =>
          rw [wrap_two p hp] at hr5
          rw [wrap_two p (by omega)] at hr4
          refine ⟨j + 1, g3, c3, g4, c4, _, _, rfl, by omega, rfl, rfl, by go_num, ?_, ?_, by omega, by omega, by omega, hst4, hP'⟩
          · rw [List.map_append]; exact hr5
          · rw [List.map_append]; exact hr4
    · obtain rfl : len1 = j := by omega
      clear Hk hlt
      have hsl : ss.length = len1 := by simpa using hrow1.len
      have HSL := Lib.hid hsl
      have HGL : Hid (gs.length = len1) := by show gs.length = len1; rw [hP.same, hsl]
      have HUL := Lib.hid (hP.usesL ws0 len1 hsl)
      have HUR := Lib.hid (hP.usesR ws0 len1 hsl)
      have HN := Lib.hid (hP.nums ws0)
      have hbl := hP.left.1
      have hbr := hP.right.1
      clear hsl hP
      go_wp2_with fail
      refine (uint64Ns_any a0 b0 len0 cap0 ws0 _ g1 len1 c1 ss _ A0.size A0.fit (A0.reads.kept hst (fun h => h)) A0.nil (by omega) HSL.out hbl hrow1.reads (by omega)).mono ?_
      rintro e w1 ⟨ga, ca, gu, cu, rfl, ra, ru, hga, hT1⟩
      have hst1 := hst.trans hT1
      have rS1 := hrow1.kept hT1 (fun h => h)
      have rG1 := hrow2.kept hT1 (fun h => h)
      clear hrow1 hrow2 hst hT1
      go_wp2_with fail
      refine (uint64Ns_any a0 b0 len0 cap0 ws0 _ g2 len1 c2 gs _ A0.size A0.fit (A0.reads.kept hst1 (fun h => h)) A0.nil (by omega) HGL.out hbr rG1.reads (by omega)).mono ?_
      rintro e w2 ⟨gb, cb, gv, cv, rfl, rb, rv, hgb, hT2⟩
      have hst2 := hst1.trans hT2
      rw [HUL.out] at ru
      rw [HUR.out] at rv
      have ra2 := ra.kept hT2 (fun h => h)
      have ru2 := ru.kept hT2 (fun h => h)
      have rS2 := rS1.kept hT2 (fun h => h)
      clear hst1 hT2 ra ru HUL HUR rS1 rG1
      go_wp2_with fail
      refine (sameCounts_any _ _ len1 cu len1 cv gu gv _ _ _ ru2.len rv.len ru2.reads rv.reads (by omega)).mono ?_
      rintro e w3 ⟨rfl, hT3⟩
      have hst3 := hst2.trans hT3
      have ra3 := ra2.kept hT3 (fun h => h)
      have rb3 := rb.kept hT3 (fun h => h)
      have ru3 := ru2.kept hT3 (fun h => h)
      have rS3 := rS2.kept hT3 (fun h => h)
      clear ra2 ru2 rb rv hst2 hT3 rS2
      simp only [decide_true]
      go_wp2_with fail
      go_loopg [90] len1 (fun k i wr => ∃ j : Nat, k = len1 - j ∧ j ≤ len1 ∧ i = .int .i64 (j : Int) ∧ Still w3 wr)
      case atStart => exact ⟨0, rfl, Nat.zero_le _, rfl, Turned.refl _ _⟩
      case round =>
        obtain ⟨j, hk, hj, rfl, hstr⟩ := hrel
        have Hk := Lib.hid hk
        clear hk
        by_cases hlt : j < len1
        · obtain ⟨x, y, s, e1, e2, e3, hs1, hs2, hy, hys⟩ := HN.out j (by rw [HSL.out]; exact hlt)
          have k1 := (ra3.kept hstr (fun h => h)).cell e1
          have k2 := (rb3.kept hstr (fun h => h)).cell e2
          have k3 := (rS3.kept hstr (fun h => h)).cell e3
          have k4 : wr.cell? ⟨gu, j, none⟩ = some (.int .i64 ((j : Int) + 1)) := (ru3.kept hstr (fun h => h)).cell (by simp [hlt, i64])
          have hmod : (y : Int) % (s : Int) = (x : Int) := by rw [← hys]; rfl
          have hmod2 : (y : Int).tmod (s : Int) = (x : Int) := by rw [← hys]; rfl
          have hs0 : ((s : Int) == 0) = false := by simp; omega
          have hs0' : ¬ (s : Int) = 0 := by omega
          have hxx : (x : Int) < 18446744073709551616 := by have := Nat.mod_le y s; omega
          clear e1 e2 e3 hys
          go_wp2_with fail
          go_quiet (fail)
          go_wp2_with fail
          go_roundg (len1 - (j + 1))
          case measure => rw [Hk.out]; omega
          case rel => exact ⟨j + 1, rfl, by omega, by go_num, hstr.drewN _⟩
        · go_wp2_with fail
          go_ret
          exact ⟨rfl, (hst3.trans hstr).below (Nat.le_refl _) (fun k h => h.elim)⟩
end Go.Proofs.Ytgjopehkmfbafaa
