/-
  The walk of FnEveryPermutation.
-/
import Derived.Test.YtlbhfjmcjbjjgaaUndone
import Derived.Test.YtlbhfjmcjbjjgaaEvery
namespace Go.Proofs.Ytlbhfjmcjbjjgaa
open Go.RowKit
set_option linter.unusedVariables false

theorem wordsFor_snoc (ps : List (Nat × Nat)) (i j : Nat) : wordsFor (ps ++ [(i, j)]) = wordsFor ps ++ [wf j (i + 1)] := by simp [wordsFor]
theorem u8_at {w : World} {a : Option Addr} {len cap b : Nat} {ws : List Nat} (A : Arg u8 256 1 w a len cap b ws) {j : Nat} (hj : j < len) : ∃ off x, a = some ⟨b, off, none⟩ ∧ w.cell? ⟨b, off + j, none⟩ = some (.int .u8 ((x : Nat) : Int)) ∧ x < 256 := by
  have hl : j < ws.length := by rw [A.length]; exact hj
  obtain ⟨off, rfl, hc⟩ := A.reads.at (i := j) (by simpa using hl)
  exact ⟨off, ws[j], rfl, by simpa [u8] using hc, A.fit _ (List.getElem_mem hl)⟩
theorem u8_off {w : World} {b off len cap b' : Nat} {ws : List Nat} (A : Arg u8 256 1 w (some ⟨b, off, none⟩) len cap b' ws) {j : Nat} (hj : j < len) : ∃ x : Nat, w.cell? ⟨b, off + j, none⟩ = some (.int .u8 ((x : Nat) : Int)) ∧ x < 256 := by
  obtain ⟨off', x, e, h⟩ := u8_at A hj
  simp only [Option.some.injEq, Addr.mk.injEq, and_true] at e
  obtain ⟨rfl, rfl⟩ := e
  exact ⟨x, h⟩
theorem u8_some {w : World} {a : Option Addr} {len cap b : Nat} {ws : List Nat} (A : Arg u8 256 1 w a len cap b ws) (hj : 0 < len) : ∃ off, a = some ⟨b, off, none⟩ := by
  obtain ⟨off, x, e, _⟩ := u8_at A hj
  exact ⟨off, e⟩

set_option maxRecDepth 100000 in
set_option maxHeartbeats 2000000 in
theorem fnEveryPermutation_walk (a0 : Option Addr) (len0 cap0 b0 : Nat) (ws0 : List Nat) (w : World) (A0 : Arg u8 256 1 w a0 len0 cap0 b0 ws0) :
    Calls Try.prog 7 #[.slice a0 len0 cap0] w fun e w' => e = .returned (.bool true) ∧ Below w.heap.size w w' := by
  obtain ⟨n, hn1, hn2, _, hmin⟩ := min40 len0 20 (by omega)
  have hl0 := A0.reach
  have hci := Lib.hid (inOrder_any n w (by omega))
  go_enter Try.func7, Try.ntmps7
  go_wp2_with fail
  refine hci.out.mono ?_
  rintro e w1 ⟨gT, cT, rfl, hrT, hgT, hst1⟩
  have hP0 := permL_range n
  clear hci
  go_wp2_with fail
  go_loopg [23] n (fun k i wr => ∃ (j : Nat) (l : List Nat), k = n - j ∧ j ≤ n ∧ i = .int .i64 (j : Int) ∧ PermL n l ∧ Row wr 3 gT n cT (l.map n64) ∧ Still w wr)
  case atStart => exact ⟨0, _, rfl, Nat.zero_le _, rfl, hP0, hrT, hst1⟩
  case round =>
    obtain ⟨j, l, hk, hj, rfl, hP, hr, hst⟩ := hrel
    have Hk := Lib.hid hk
    clear hk hrT hP0 hst1
    by_cases hlt : j < n
    · go_wp2_with fail
      go_loopg [6] j (fun k z wx => ∃ (y : Nat) (l : List Nat), k = y ∧ y ≤ j ∧ z = .int .i64 (y : Int) ∧ PermL n l ∧ Row wx 3 gT n cT (l.map n64) ∧ Still w wx)
      case atStart => exact ⟨j, l, rfl, Nat.le_refl _, rfl, hP, hr, hst⟩
      case round =>
        clear hP hr hst
        obtain ⟨y, l, hk2, hy, rfl, hP, hr, hst⟩ := hrel
        have Hk2 := Lib.hid hk2
        clear hk2
        by_cases hy0 : 0 < y
        · obtain ⟨off, rfl⟩ := u8_some A0 (by omega)
          obtain ⟨y1, hy1⟩ : ∃ y1, y1 = y - 1 := ⟨_, rfl⟩
          have hy1i : (y : Int) - 1 = (y1 : Int) := by omega
          have hyi : (0 : Int) < (y : Int) := by omega
          have hyd : decide ((0 : Int) < (y : Int)) = true := decide_eq_true hyi
          obtain ⟨v1, e1, hv1⟩ := hP.get (show y < n by omega)
          obtain ⟨v2, e2, hv2⟩ := hP.get (show y1 < n by omega)
          have k1 : wr.cell? ⟨gT, y, none⟩ = some (.int .i64 (v1 : Int)) := hr.cell (by rw [List.getElem?_map, e1]; rfl)
          have k2 : wr.cell? ⟨gT, y1, none⟩ = some (.int .i64 (v2 : Int)) := hr.cell (by rw [List.getElem?_map, e2]; rfl)
          obtain ⟨x1, f1, hx1⟩ := u8_off A0 (show v1 < len0 by omega)
          obtain ⟨x2, f2, hx2⟩ := u8_off A0 (show v2 < len0 by omega)
          have f1 := hst.cell f1 (fun h => h)
          have f2 := hst.cell f2 (fun h => h)
          have hyn : (y : Int) < (n : Int) := by omega
          have hy1n : (y1 : Int) < (n : Int) := by omega
          have hv1i : (v1 : Int) < (len0 : Int) := by omega
          have hv2i : (v2 : Int) < (len0 : Int) := by omega
          have hyb : y < n := by omega
          have hy1b : y1 < n := by omega
          have Hy1 := Lib.hid hy1
          clear hy1 e1 e2
          by_cases hx : x1 < x2
          · have hxi : (x1 : Int) < (x2 : Int) := by omega
            have hxd : decide ((x1 : Int) < (x2 : Int)) = true := decide_eq_true hxi
            go_wp2_with fail
            go_quiet (fail)
            have hr2 := hr.kept ((Turned.refl (fun _ => False) wr).drewN nq) (fun h => h)
            have hst2 := hst.drewN nq
            clear k1 k2 f1 f2 hr hst
            generalize wr.drewN nq = wq at *
            obtain ⟨vx, vy, cx, cy, fx, fy, cy2, hrow', hT'⟩ := swap_at hr2 (x := y) (y := y1) hyb hy1b
            have hP2 := hP.swp hyb hy1b
            have hst3 : Still w ((wq.setCell ⟨gT, y, none⟩ (.int .i64 (vy : Int))).setCell ⟨gT, y1, none⟩ (.int .i64 (vx : Int))) := hst2.then hT' (fun k hk e => by omega)
            clear hr2
            go_wp2
            go_roundg y1
            case measure => rw [Hk2.out]; have := Hy1.out; omega
            case rel => exact ⟨y1, _, rfl, by have := Hy1.out; omega, by first | rfl | go_num, hP2, hrow', hst3⟩
          · have hxi : ¬ (x1 : Int) < (x2 : Int) := by omega
            have hxd : decide ((x1 : Int) < (x2 : Int)) = false := decide_eq_false hxi
            have hxd2 : decide (x1 < x2) = false := decide_eq_false hx
            clear Hk2
            go_wp2_with fail
            go_quiet (fail)
            go_wp2
            go_roundg (n - (j + 1))
            case measure => rw [Hk.out]; omega
            case rel => exact ⟨j + 1, l, rfl, by omega, by go_num, hP, hr.kept ((Turned.refl (fun _ => False) _).drewN _) (fun h => h), hst.drewN _⟩
        · have hyd : decide ((0 : Int) < (y : Int)) = false := decide_eq_false (by omega)
          have hyd2 : decide (0 < y) = false := decide_eq_false hy0
          clear Hk2
          go_wp2_with fail
          go_quiet (fail)
          go_wp2
          go_roundg (n - (j + 1))
          case measure => rw [Hk.out]; omega
          case rel => exact ⟨j + 1, l, rfl, by omega, by go_num, hP, hr.kept ((Turned.refl (fun _ => False) _).drewN _) (fun h => h), hst.drewN _⟩
    · clear Hk
      have hci := Lib.hid (inOrder_any n wr (by omega))
      go_wp2_with fail
      refine hci.out.mono ?_
      rintro e w2 ⟨gA, cA, rfl, hrA, hgA, hst2⟩
      have hrT := hr.kept hst2 (fun h => h)
      have hst02 := hst.trans hst2
      have hltT := hr.lt
      have hltT2 := hrT.lt
      have hltA := hrA.lt
      have hz0 := hst.size
      have hz02 := hst02.size
      have hB0 := built_start n l
      clear hci hr hst hst2 hlt
      go_wp2_with fail
      go_loopg [9, 10] (n - 1) (fun k o z wx => ∃ (d gW cW : Nat) (now : List Nat) (ps : List (Nat × Nat)), k = n - 1 - d ∧ d ≤ n - 1 ∧ o = .slice (some ⟨gW, 0, none⟩) d cW ∧ z = .int .i64 ((n : Int) - 1 - (d : Int)) ∧ Built n d l now ps ∧ Row wx 3 gT n cT (l.map n64) ∧ Row wx 3 gA n cA (now.map n64) ∧ Row wx 28 gW d cW ((wordsFor ps).map Go.Proofs.Ytlbhfjmcjbjjgaa.u64) ∧ (gW ≠ gT ∧ gW ≠ gA ∧ w.heap.size ≤ gW) ∧ Still w wx)
      case atStart =>
        have hs2 : Still w2 (w2.alloc (.cells #[] 28)) := (Turned.refl _ _).alloc _
        exact ⟨0, _, _, _, _, rfl, Nat.zero_le _, rfl, by simp, hB0, hrT.kept hs2 (fun h => h), hrA.kept hs2 (fun h => h), Row.empty w2 28, by omega, hst02.alloc _⟩
      case round =>
        clear hrT hrA hst02 hB0
        obtain ⟨d, gW, cW, now, ps, hk, hd, rfl, rfl, hB, hrT, hrA, hrW, hgW, hst⟩ := hrel
        have Hk := Lib.hid hk
        clear hk
        by_cases hd2 : d < n - 1
        · obtain ⟨p, v, hp, ep, et⟩ := hB.find hP hd2
          have HB := Lib.hid (hB.step hd2 hp ep et)
          obtain ⟨i, hi⟩ : ∃ i, i = n - 1 - d := ⟨_, rfl⟩
          rw [← hi] at HB hp et
          have hzi : (n : Int) - 1 - (d : Int) = (i : Int) := by omega
          rw [hzi]
          have hi0 : (0 : Int) < (i : Int) := by omega
          have hin : i < n := by omega
          have hpn : p < n := by omega
          have Hi := Lib.hid hi
          clear hi hzi
          go_wp2_with fail
          go_loopg [11] p (fun k z wx => ∃ y : Nat, k = p - y ∧ y ≤ p ∧ z = .int .i64 (y : Int) ∧ Still wr wx)
          case atStart => exact ⟨0, rfl, Nat.zero_le _, rfl, Turned.refl _ _⟩
          case round =>
            obtain ⟨y, hk3, hy, rfl, hst3⟩ := hrel
            have Hk3 := Lib.hid hk3
            clear hk3
            have rT := hrT.kept hst3 (fun h => h)
            have rA := hrA.kept hst3 (fun h => h)
            have kT : wr.cell? ⟨gT, i, none⟩ = some (.int .i64 (v : Int)) := rT.cell (by rw [List.getElem?_map, et]; rfl)
            have hini : (i : Int) < (n : Int) := by omega
            have hyni : (y : Int) < (n : Int) := by omega
            by_cases hyp : y < p
            · obtain ⟨u, eu, hu⟩ := hB.perm.get (show y < n by omega)
              have kA : wr.cell? ⟨gA, y, none⟩ = some (.int .i64 (u : Int)) := rA.cell (by rw [List.getElem?_map, eu]; rfl)
              have hne : u ≠ v := by
                rintro rfl
                have := hB.perm.uniq eu ep
                omega
              have hb : ((u : Int) != (v : Int)) = true := by rw [bne_iff_ne]; omega
              have hb2 : (u != v) = true := by rw [bne_iff_ne]; exact hne
              clear rT rA eu
              go_wp2_with fail
              go_quiet (fail)
              go_wp2
              go_roundg (p - (y + 1))
              case measure => rw [Hk3.out]; omega
              case rel => exact ⟨y + 1, rfl, by omega, by go_num, hst3.drewN _⟩
            · obtain rfl : y = p := by omega
              have kA : wr.cell? ⟨gA, y, none⟩ = some (.int .i64 (v : Int)) := rA.cell (by rw [List.getElem?_map, ep]; rfl)
              have rW := hrW.kept hst3 (fun h => h)
              have hst4 := hst.trans hst3
              obtain ⟨bd, hbd⟩ : ∃ bd, bd = i + 1 := ⟨_, rfl⟩
              have hbdi : (i : Int) + 1 = (bd : Int) := by omega
              have hcw : ∀ w', Calls Try.prog 19 #[.int .u64 (y : Int), .int .u64 (bd : Int)] w' fun e w'' => e = .returned (.int .u64 ((wf y bd : Nat) : Int)) ∧ w'' = w' := fun w' => wordFor_any y bd w' (by omega) (by omega) (by omega)
              have HC := Lib.hid hcw
              have hwl := (wf_spec y bd (by omega) (by omega) (by omega)).2.2.1
              have hyb : y < n := hpn
              have Hbd := Lib.hid hbd
              clear hcw hbd Hk3 hrT hrA hrW hst
              go_wp2_with fail
              go_quiet (fail)
              have rT := rT.kept ((Turned.refl (fun _ => False) wr).drewN nq) (fun h => h)
              have rA := rA.kept ((Turned.refl (fun _ => False) wr).drewN nq) (fun h => h)
              have rW := rW.kept ((Turned.refl (fun _ => False) wr).drewN nq) (fun h => h)
              have hst5 := hst4.drewN nq
              clear kT kA hst3 hst4
              generalize wr.drewN nq = wq at *
              go_wp2_with fail
              refine (HC.out wq).mono ?_
              rintro e w6 ⟨rfl, rfl⟩
              generalize hwf : wf y bd = word at *
              have Hwf := Lib.hid hwf
              clear HC hwf
              go_wp2_with (at_builtin; refine wpList_push rfl _ _ 22 rfl 28 (.int .u64 0) 8 Try.underlying22 Try.infoU64 rfl gW d cW _ rfl rW (.int .u64 (word : Int)) rfl rfl (by omega) (by omega) ?_)
              intro gW' cW' w7 hrW7 hat7 hT7
              have rT7 := rT.kept hT7 (by omega)
              have rA7 := rA.kept hT7 (by omega)
              have hst7 : Still w w7 := hst5.then hT7 (fun k hk e => by omega)
              have hlA := rA.lt
              have hlT := rT.lt
              have hz5 := hst5.size
              clear rT rA rW hst5 hT7
              obtain ⟨vx, vy, cx, cy, fx, fy, cy2, hrow', hT'⟩ := swap_at rA7 (x := y) (y := i) hyb hin
              have kA7 : w7.cell? ⟨gA, y, none⟩ = some (.int .i64 (v : Int)) := rA7.cell (by rw [List.getElem?_map, ep]; rfl)
              have hvx : vx = v := by
                rw [cx] at kA7
                have : (vx : Int) = (v : Int) := by simpa using kA7
                omega
              subst hvx
              have kT7 : (w7.setCell ⟨gA, y, none⟩ (.int .i64 (vy : Int))).cell? ⟨gT, i, none⟩ = some (.int .i64 (vx : Int)) := (Turned.setCell (p := ⟨gA, y, none⟩) (Turned.refl (fun k => k = gA) w7) (fun _ => rfl) _).cell (rT7.cell (by rw [List.getElem?_map, et]; rfl)) (show ¬ gT = gA by omega)
              have rT8 := rT7.kept hT' (show ¬ gT = gA by omega)
              have rW8 := hrW7.kept hT' (show ¬ gW' = gA by omega)
              have hst8 : Still w ((w7.setCell ⟨gA, y, none⟩ (.int .i64 (vy : Int))).setCell ⟨gA, i, none⟩ (.int .i64 (vx : Int))) := hst7.then hT' (fun k hk e => by omega)
              clear rT7 rA7 hrW7 kA7 hst7
              go_wp2
              go_roundg (n - 1 - (d + 1))
              case measure => rw [Hk.out]; omega
              case rel =>
                refine ⟨d + 1, gW', cW', _, _, rfl, by omega, rfl, ?_, HB.out, rT8, hrow', ?_, by omega, hst8⟩
                · have := Hi.out
                  congr 1
                  omega
                · rw [wordsFor_snoc, ← Hbd.out, Hwf.out, List.map_append]
                  exact rW8
        · have hdn : d = n - 1 := by omega
          have hz0 : ¬ (0 : Int) < (n : Int) - 1 - (d : Int) := by omega
          obtain ⟨q1, q2⟩ := hB.perms hP hdn (by omega)
          have hfit := hB.fit (by omega) hd
          have hc8 := Lib.hid (one_any (some ⟨gW, 0, none⟩) gW d cW (wordsFor ps) n wr hrW.len hfit hrW.reads (fun h => by cases h) (by omega) (by omega))
          generalize (n : Int) - 1 - (d : Int) = zz at *
          have Q1 := Lib.hid q1
          have Q2 := Lib.hid q2
          clear Hk hdn q1 q2
          go_wp2_with fail
          refine hc8.out.mono ?_
          rintro e w9 ⟨g9, d9, g10, d10, rfl, hr9, hr10, hge9, hst9⟩
          rw [Q2.out]
          have hpl : permOf (wordsFor ps) n 0 = l := Q1.out
          rw [hpl] at hr9
          have hcs := Lib.hid (sameNats_any (some ⟨g9, 0, none⟩) (some ⟨gT, 0, none⟩) n d9 n cT g9 gT l l w9 hP.len hP.len hr9.reads (hrT.kept hst9 (fun h => h)).reads (by omega))
          rw [decide_eq_true (Eq.refl l)] at hcs
          clear hc8 hr10
          generalize 2 * (n - 1) = mm at *
          go_wp2_with fail
          refine hcs.out.mono ?_
          rintro e w10 ⟨rfl, q, rfl⟩
          go_wp2
          go_ret
          exact ⟨rfl, ((hst.trans hst9).drewN q).below (Nat.le_refl _) (fun k h => h.elim)⟩
end Go.Proofs.Ytlbhfjmcjbjjgaa
