/-
  The walk of FnThrownPutIn: words that are thrown away, put among the words, change no number.
-/
import Derived.Test.YtpffccojlkkfkaaHelpB
import Derived.Test.YtpffccojlkkfkaaOnePer
import Derived.Test.YtpffccojlkkfkaaLists
import Derived.Test.YtpffccojlkkfkaaSameW
namespace Go.Proofs.Ytpffccojlkkfkaa
open Go.RowKit
set_option linter.unusedVariables false

/-- The words that a bound keeps. -/
def keeps (n : Nat) (ws : List Nat) : List Nat := ws.filter fun x => !thrown x n

theorem keeps_val (n : Nat) (l : List Nat) : drawVal n l = drawn (wordAt (keeps n l) 0) n := by
  induction l with
  | nil => simp [drawVal, keeps, wordAt]
  | cons w l ih =>
    cases h : thrown w n with
    | true => simp only [drawVal, h, if_true, ih, keeps, List.filter_cons, Bool.not_true, Bool.false_eq_true, if_false]
    | false => simp [drawVal, h, keeps, wordAt]
theorem keeps_use (n : Nat) (l : List Nat) : keeps n (l.drop (drawUse n l)) = (keeps n l).drop 1 := by
  induction l with
  | nil => simp [drawUse, keeps]
  | cons w l ih =>
    cases h : thrown w n with
    | true =>
      have e : keeps n (w :: l) = keeps n l := by simp [keeps, h]
      simp only [drawUse, h, if_true, List.drop_succ_cons]
      rw [ih, e]
    | false => simp [drawUse, h, keeps]
theorem keeps_draws (n m : Nat) (ws us : List Nat) (i j : Nat) (h : keeps n (ws.drop i) = keeps n (us.drop j)) : (draws ws i (List.replicate m n)).map Prod.fst = (draws us j (List.replicate m n)).map Prod.fst := by
  induction m generalizing i j with
  | zero => rfl
  | succ m ih =>
    simp only [List.replicate_succ, draws, List.map_cons, fin]
    rw [keeps_val, keeps_val, h]
    congr 1
    apply ih
    rw [← List.drop_drop, ← List.drop_drop, keeps_use, keeps_use, h]

structure More (n : Nat) (ws : List Nat) (j c : Nat) (ms : List Nat) : Prop where
  keep : keeps n ms = keeps n (ws.take j)
  fit : ∀ x ∈ ms, x < 18446744073709551616
  len : ms.length ≤ c
theorem More.put {n : Nat} {ws : List Nat} {j c : Nat} {ms : List Nat} (h : More n ws j c ms) (x : Nat) (hx : x < 18446744073709551616) (ht : thrown x n = true) : More n ws j (c + 1) (ms ++ [x]) where
  keep := by rw [← h.keep]; simp [keeps, ht]
  fit := by
    intro y hy
    rcases List.mem_append.1 hy with h1 | h1
    · exact h.fit y h1
    · simp at h1; omega
  len := by have := h.len; simp; omega
theorem More.one {n : Nat} {ws : List Nat} {j c : Nat} {ms : List Nat} (h : More n ws j c ms) (hj : j < ws.length) (hx : wordAt ws j < 18446744073709551616) : More n ws (j + 1) (c + 1) (ms ++ [wordAt ws j]) where
  keep := by
    rw [List.take_succ_eq_append_getElem hj]
    have := h.keep
    simp only [keeps, List.filter_append] at this ⊢
    rw [this]
    simp [wordAt, List.getElem?_eq_getElem hj]
  fit := by
    intro y hy
    rcases List.mem_append.1 hy with h1 | h1
    · exact h.fit y h1
    · simp at h1; omega
  len := by have := h.len; simp; omega
theorem More.two {n : Nat} {ws : List Nat} {j c : Nat} {ms : List Nat} (h : More n ws j c ms) (hj : j < ws.length) (hx : wordAt ws j < 18446744073709551616) (ht : thrown (wordAt ws j) n = true) : More n ws (j + 1) (c + 2) (ms ++ [wordAt ws j, wordAt ws j]) := by
  have h1 := (h.one hj hx).put (wordAt ws j) hx ht
  rw [List.append_assoc] at h1
  exact h1
theorem More.mono {n : Nat} {ws : List Nat} {j c d : Nat} {ms : List Nat} (h : More n ws j c ms) (hcd : c ≤ d) : More n ws j d ms := ⟨h.keep, h.fit, Nat.le_trans h.len hcd⟩

set_option maxRecDepth 100000 in
set_option maxHeartbeats 2000000 in
theorem fnThrownPutIn_walk (a0 : Option Addr) (len0 cap0 b0 : Nat) (ws0 : List Nat) (n1 : Nat) (a2 : Option Addr) (len2 cap2 b2 : Nat) (ws2 : List Nat) (n3 : Nat) (w : World) (A0 : Arg u64 18446744073709551616 8 w a0 len0 cap0 b0 ws0) (S0 : len0 ≤ 1048576) (l1 : n1 < 18446744073709551616) (A2 : Arg u64 18446744073709551616 8 w a2 len2 cap2 b2 ws2) (S2 : len2 ≤ 1048576) (l3 : n3 < 256) :
    Calls Try.prog 14 #[.slice a0 len0 cap0, .int .u64 (n1 : Int), .slice a2 len2 cap2, .int .u8 (n3 : Int)] w fun e w' => e = .returned (.bool true) ∧ Below w.heap.size w w' := by
  have HL0 := Lib.hid A0.length
  by_cases hz : n1 = 0
  · subst hz
    go_enter Try.func14, Try.ntmps14
    go_wp2_with fail
    go_ret
    exact ⟨rfl, (Turned.refl (fun _ => False) w).below (Nat.le_refl _) (fun k h => h.elim)⟩
  have hn0 : ((n1 : Int) == 0) = false := by simp; omega
  have h1 : 1 ≤ n1 := by omega
  clear hz
  have hm9 : n3 % 9 < 9 := Nat.mod_lt _ (by omega)
  have hm1 : (n3 : Int) % 9 = ((n3 % 9 : Nat) : Int) := rfl
  have hm2 : (n3 : Int).tmod 9 = ((n3 % 9 : Nat) : Int) := rfl
  generalize n3 % 9 = C at *
  go_enter Try.func14, Try.ntmps14
  go_wp2_with fail
  go_loopg [9, 22] len0 (fun k o i wr => ∃ (j g1 c1 M : Nat) (ms : List Nat), k = len0 - j ∧ j ≤ len0 ∧ o = .slice (some ⟨g1, 0, none⟩) M c1 ∧ i = .int .i64 (j : Int) ∧ Row wr 26 g1 M c1 (ms.map u64) ∧ w.heap.size ≤ g1 ∧ Still w wr ∧ More n1 ws0 j (3 * j) ms)
  case atStart => exact ⟨0, w.heap.size, 0, 0, [], rfl, Nat.zero_le _, rfl, rfl, Row.empty _ _, Nat.le_refl _, (Turned.refl _ _).alloc _, ⟨rfl, fun x h => (List.not_mem_nil h).elim, Nat.le_refl _⟩⟩
  case round =>
    obtain ⟨j, g1, c1, M, ms, hk, hj, rfl, rfl, hrow, hg1, hst, hM⟩ := hrel
    have Hk := Lib.hid hk
    clear hk
    have hMl : M ≤ 3 * j := by have := hrow.len; have := hM.len; simp at *; omega
    by_cases hlt : j < len0
    · have hjn : j < ws0.length := by rw [HL0.out]; exact hlt
      obtain ⟨off, rfl, hc⟩ := A0.at hlt
      have hd := hst.cell hc (fun h => h)
      have hx := A0.word j
      clear hc
      have Hone := Lib.hid (fun (c : Nat) (l : List Nat) (h : More n1 ws0 j c l) => h.one hjn hx)
      have Htwo := Lib.hid (fun (c : Nat) (l : List Nat) (h : More n1 ws0 j c l) (ht : thrown (wordAt ws0 j) n1 = true) => h.two hjn hx ht)
      generalize wordAt ws0 j = x at *
      by_cases hin : j < len2
      · obtain ⟨off2, rfl, hc2⟩ := A2.at hin
        have hd2 := hst.cell hc2 (fun h => h)
        have hy := A2.word j
        clear hc2
        generalize wordAt ws2 j = y at *
        go_wp2_with fail
        refine (isThrown_any y n1 _ hy h1 l1).mono ?_
        rintro e w' ⟨rfl, rfl⟩
        cases hth : thrown y n1 with
        | true =>
          have hM1 := hM.put y hy hth
          go_wp2_with (at_builtin; refine wpList_push rfl _ _ 22 rfl 26 (.int .u64 0) 8 Try.underlying22 Try.infoU64 rfl g1 M c1 _ rfl hrow (u64 y) rfl rfl (by omega) (by omega) ?_)
          intro g2 c2 w3 hr3 hat3 hT3
          have hst3 := hst.then hT3 (fun k hk e => by subst e; omega)
          have hz := hst.size
          have hg2 : w.heap.size ≤ g2 := by omega
          have hd3 := hst3.cell (A0.at hlt).choose_spec.2 (fun h => h)
          have hr4 : Row w3 26 g2 (M + 1) c2 ((ms ++ [y]).map u64) := by rw [List.map_append]; exact hr3
          clear hr3 hat3 hT3 hrow hst hd hd2 hg1
          go_wp2_with fail
          refine (isThrown_any x n1 _ hx h1 l1).mono ?_
          rintro e w' ⟨rfl, rfl⟩
          have hzz := hst3.size
          cases htx : thrown x n1 with
          | true =>
            have hMM := (Htwo.out _ _ hM1 htx).mono (show 3 * j + 1 + 2 ≤ 3 * (j + 1) by omega)
            go_wp2_with (at_builtin; refine wpList_pushes rfl _ _ 22 rfl 26 (.int .u64 0) 8 Try.underlying22 Try.infoU64 rfl g2 (M + 1) c2 _ rfl (hr4.kept ((Turned.refl (fun _ => False) _).alloc _) (fun h => h)) _ _ 2 2 [u64 x, u64 x] rfl (by intro u hu; simp at hu; subst hu; rfl) rfl (Row.new _ 26 #[u64 x, u64 x] (show 2 ≤ maxLen by decide)).reads (fun h => by cases h) (by omega) (by omega) ?_)
            intro g5 c5 w5 hr5 hat5 hT5
            have hst5 := (hst3.alloc (.cells #[u64 x, u64 x] 26)).then hT5 (fun k hk e => by subst e; omega)
            have hz5 := (hst3.alloc (.cells #[u64 x, u64 x] 26)).size
            go_wp2
            go_roundg (len0 - (j + 1))
            case measure => rw [Hk.out]; omega
            case rel => exact ⟨j + 1, g5, c5, _, _, rfl, by omega, rfl, by go_num, by simpa using hr5, by omega, hst5, hMM⟩
          | false =>
            have hMM := (Hone.out _ _ hM1).mono (show 3 * j + 1 + 1 ≤ 3 * (j + 1) by omega)
            go_wp2_with (at_builtin; refine wpList_push rfl _ _ 22 rfl 26 (.int .u64 0) 8 Try.underlying22 Try.infoU64 rfl g2 (M + 1) c2 _ rfl hr4 (u64 x) rfl rfl (by omega) (by omega) ?_)
            intro g5 c5 w5 hr5 hat5 hT5
            have hst5 := hst3.then hT5 (fun k hk e => by subst e; omega)
            go_wp2
            go_roundg (len0 - (j + 1))
            case measure => rw [Hk.out]; omega
            case rel => exact ⟨j + 1, g5, c5, _, _, rfl, by omega, rfl, by go_num, by simpa using hr5, by omega, hst5, hMM⟩
        | false =>
          go_wp2_with fail
          refine (isThrown_any x n1 _ hx h1 l1).mono ?_
          rintro e w' ⟨rfl, rfl⟩
          have hzz := hst.size
          cases htx : thrown x n1 with
          | true =>
            have hMM := (Htwo.out _ _ hM htx).mono (show 3 * j + 2 ≤ 3 * (j + 1) by omega)
            go_wp2_with (at_builtin; refine wpList_pushes rfl _ _ 22 rfl 26 (.int .u64 0) 8 Try.underlying22 Try.infoU64 rfl g1 M c1 _ rfl (hrow.kept ((Turned.refl (fun _ => False) _).alloc _) (fun h => h)) _ _ 2 2 [u64 x, u64 x] rfl (by intro u hu; simp at hu; subst hu; rfl) rfl (Row.new _ 26 #[u64 x, u64 x] (show 2 ≤ maxLen by decide)).reads (fun h => by cases h) (by omega) (by omega) ?_)
            intro g5 c5 w5 hr5 hat5 hT5
            have hst5 := (hst.alloc (.cells #[u64 x, u64 x] 26)).then hT5 (fun k hk e => by subst e; omega)
            have hz5 := (hst.alloc (.cells #[u64 x, u64 x] 26)).size
            go_wp2
            go_roundg (len0 - (j + 1))
            case measure => rw [Hk.out]; omega
            case rel => exact ⟨j + 1, g5, c5, _, _, rfl, by omega, rfl, by go_num, by simpa using hr5, by omega, hst5, hMM⟩
          | false =>
            have hMM := (Hone.out _ _ hM).mono (show 3 * j + 1 ≤ 3 * (j + 1) by omega)
            go_wp2_with (at_builtin; refine wpList_push rfl _ _ 22 rfl 26 (.int .u64 0) 8 Try.underlying22 Try.infoU64 rfl g1 M c1 _ rfl hrow (u64 x) rfl rfl (by omega) (by omega) ?_)
            intro g5 c5 w5 hr5 hat5 hT5
            have hst5 := hst.then hT5 (fun k hk e => by subst e; omega)
            go_wp2
            go_roundg (len0 - (j + 1))
            case measure => rw [Hk.out]; omega
            case rel => exact ⟨j + 1, g5, c5, _, _, rfl, by omega, rfl, by go_num, by simpa using hr5, by omega, hst5, hMM⟩
      · have hin' : ¬ ((j : Int) < (len2 : Int)) := by omega
        go_wp2_with fail
        refine (isThrown_any x n1 _ hx h1 l1).mono ?_
        rintro e w' ⟨rfl, rfl⟩
        have hzz := hst.size
        cases htx : thrown x n1 with
        | true =>
          have hMM := (Htwo.out _ _ hM htx).mono (show 3 * j + 2 ≤ 3 * (j + 1) by omega)
          go_wp2_with (at_builtin; refine wpList_pushes rfl _ _ 22 rfl 26 (.int .u64 0) 8 Try.underlying22 Try.infoU64 rfl g1 M c1 _ rfl (hrow.kept ((Turned.refl (fun _ => False) _).alloc _) (fun h => h)) _ _ 2 2 [u64 x, u64 x] rfl (by intro u hu; simp at hu; subst hu; rfl) rfl (Row.new _ 26 #[u64 x, u64 x] (show 2 ≤ maxLen by decide)).reads (fun h => by cases h) (by omega) (by omega) ?_)
          intro g5 c5 w5 hr5 hat5 hT5
          have hst5 := (hst.alloc (.cells #[u64 x, u64 x] 26)).then hT5 (fun k hk e => by subst e; omega)
          have hz5 := (hst.alloc (.cells #[u64 x, u64 x] 26)).size
          go_wp2
          go_roundg (len0 - (j + 1))
          case measure => rw [Hk.out]; omega
          case rel => exact ⟨j + 1, g5, c5, _, _, rfl, by omega, rfl, by go_num, by simpa using hr5, by omega, hst5, hMM⟩
        | false =>
          have hMM := (Hone.out _ _ hM).mono (show 3 * j + 1 ≤ 3 * (j + 1) by omega)
          go_wp2_with (at_builtin; refine wpList_push rfl _ _ 22 rfl 26 (.int .u64 0) 8 Try.underlying22 Try.infoU64 rfl g1 M c1 _ rfl hrow (u64 x) rfl rfl (by omega) (by omega) ?_)
          intro g5 c5 w5 hr5 hat5 hT5
          have hst5 := hst.then hT5 (fun k hk e => by subst e; omega)
          go_wp2
          go_roundg (len0 - (j + 1))
          case measure => rw [Hk.out]; omega
          case rel => exact ⟨j + 1, g5, c5, _, _, rfl, by omega, rfl, by go_num, by simpa using hr5, by omega, hst5, hMM⟩
    · obtain rfl : len0 = j := by omega
      clear Hk hlt
      have hkp : keeps n1 ms = keeps n1 ws0 := by rw [hM.keep, List.take_of_length_le (by rw [HL0.out]; exact Nat.le_refl _)]
      have hms := hM.fit
      go_wp2_with fail
      have hz := hst.size
      go_loopg [12, 63] C (fun k o i wr2 => ∃ (j g2 c2 : Nat), k = C - j ∧ j ≤ C ∧ o = .slice (some ⟨g2, 0, none⟩) j c2 ∧ i = .int .i64 (j : Int) ∧ Row wr2 26 g2 j c2 ((List.replicate j n1).map u64) ∧ wr.heap.size ≤ g2 ∧ Still wr wr2)
      case atStart => exact ⟨0, wr.heap.size, 0, rfl, Nat.zero_le _, rfl, rfl, Row.empty _ _, Nat.le_refl _, (Turned.refl _ _).alloc _⟩
      case round =>
        obtain ⟨j, g2, c2, hk, hj, rfl, rfl, hrow2, hg2, hst2⟩ := hrel
        have Hk := Lib.hid hk
        clear hk
        by_cases hlt : j < C
        · go_wp2_with (at_builtin; refine wpList_push rfl _ _ 22 rfl 26 (.int .u64 0) 8 Try.underlying22 Try.infoU64 rfl g2 j c2 _ rfl hrow2 (.int .u64 (n1 : Int)) rfl rfl (by omega) (by omega) ?_)
          intro g2' c2' w3 hr3 hat3 hT3
          have hst3 := hst2.then hT3 (fun k hk e => by subst e; omega)
          have hz2 := hst2.size
          go_wp2
          go_roundg (C - (j + 1))
          case measure => rw [Hk.out]; omega
          case rel =>
            refine ⟨j + 1, g2', c2', rfl, by omega, rfl, by go_num, ?_, by omega, hst3⟩
            rw [List.replicate_succ', List.map_append, List.map_replicate]
            exact hr3
        · obtain rfl : C = j := by omega
          have st2 := hst.trans hst2
          have rM := hrow.kept hst2 (fun h => h)
          have hbn : ∀ x ∈ List.replicate C n1, 1 ≤ x ∧ x < 18446744073709551616 := fun x hx => by rw [List.eq_of_mem_replicate hx]; exact ⟨h1, l1⟩
          have HV := Lib.hid (keeps_draws n1 C ms ws0 0 0 hkp)
          have hrl : (List.replicate C n1).length = C := List.length_replicate ..
          have HRL := Lib.hid hrl
          clear hrow hst hst2 Hk hkp hrl hlt
          generalize List.replicate C n1 = ns at *
          go_wp2_with fail
          refine (uint64Ns_any a0 b0 len0 cap0 ws0 _ g2 C c2 ns _ A0.size A0.fit (A0.reads.kept st2 (fun h => h)) A0.nil (by omega) HRL.out hbn hrow2.reads (by omega)).mono ?_
          rintro e w3 ⟨gV, cV, gU, cU, rfl, rV, rU, hgV, s3⟩
          have st3 := st2.trans s3
          have rN3 := hrow2.kept s3 (fun h => h)
          have rM3 := rM.kept s3 (fun h => h)
          clear st2 rU rM hrow2 s3
          go_wp2_with fail
          refine (uint64Ns_any _ g1 M c1 ms _ g2 C c2 ns _ rM3.len hms rM3.reads (fun h => by cases h) (by omega) HRL.out hbn rN3.reads (by omega)).mono ?_
          rintro e w4 ⟨gX, cX, gY, cY, rfl, rX, rY, hgX, s4⟩
          have st4 := st3.trans s4
          have rV4 := rV.kept s4 (fun h => h)
          rw [vals_words] at rV4
          rw [vals_words, HV.out] at rX
          clear rV rN3 rM3 rY st3 s4
          go_wp2_with fail
          refine (sameWords_any _ _ C cV C cX gV gX _ _ _ rV4.len rX.len rV4.reads rX.reads (by omega)).mono ?_
          rintro e w5 ⟨rfl, s5⟩
          simp only [decide_true]
          go_wp2_with fail
          go_ret
          exact ⟨rfl, (st4.trans s5).below (Nat.le_refl _) (fun k h => h.elim)⟩
end Go.Proofs.Ytpffccojlkkfkaa
