/-
  The statements' own helpers: sizes, numbers in order, Perm and Shuffle of one size, swaps made on the numbers in order.
-/
import Derived.Test.YtlbhfjmcjbjjgaaSameN
import Derived.Test.YtlbhfjmcjbjjgaaFrame
namespace Go.Proofs.Ytlbhfjmcjbjjgaa
open Go.RowKit
set_option linter.unusedVariables false

/-- A new row of numbers as a result. -/
def RowPost (w : World) (n : Nat) (xs : List Nat) (e : Ending) (w' : World) : Prop :=
  ∃ g c, e = .returned (.slice (some ⟨g, 0, none⟩) n c) ∧ Row w' 3 g n c (xs.map n64) ∧ w.heap.size ≤ g ∧ Still w w'

theorem inOrder_any (n : Nat) (w : World) (hn : n ≤ 1048576) : Calls Try.prog 13 #[.int .i64 (n : Int)] w (RowPost w n (List.range n)) := by
  go_enter Try.func13, Try.ntmps13
  go_wp2_with fail
  go_loopg [3, 7] n (fun k o i wr => ∃ j g c : Nat, k = n - j ∧ j ≤ n ∧ o = .slice (some ⟨g, 0, none⟩) j c ∧ i = .int .i64 (j : Int) ∧ Row wr 3 g j c ((List.range j).map n64) ∧ w.heap.size ≤ g ∧ Still w wr)
  case atStart => exact ⟨0, _, _, rfl, Nat.zero_le _, rfl, rfl, Row.empty w 3, Nat.le_refl _, (Turned.refl _ _).alloc _⟩
  case round =>
    obtain ⟨j, g, c, hk, hj, rfl, rfl, hr, hg, hst⟩ := hrel
    have Hk := Lib.hid hk
    clear hk
    by_cases hlt : j < n
    · go_wp2_with (at_builtin; refine wpList_push rfl _ _ 23 rfl 3 (.int .i64 0) 8 Try.underlying23 Try.infoInt rfl g j c _ rfl hr (.int .i64 (j : Int)) rfl rfl (by omega) (by omega) ?_)
      intro g' c' w4 hr4 hat4 hT4
      have hz := hst.size
      go_wp2
      go_roundg (n - (j + 1))
      case measure => rw [Hk.out]; omega
      case rel =>
        refine ⟨j + 1, g', c', rfl, by omega, rfl, by go_num, ?_, by omega, hst.then hT4 (fun k hk e => by omega)⟩
        rw [List.range_succ, List.map_append]
        exact hr4
    · obtain rfl : n = j := by omega
      go_wp2
      go_ret
      exact ⟨g, c, rfl, hr, hg, hst⟩

theorem and31 (z : Int) : bits .and .i64 z 31 = z % 32 := by
  show IntKind.i64.wrap ((BitVec.ofInt 64 z &&& BitVec.ofInt 64 31).toNat : Int) = _
  rw [BitVec.toNat_and, BitVec.toNat_ofInt, show (BitVec.ofInt 64 31).toNat = 31 from rfl, show (31 : Nat) = 2 ^ 5 - 1 from rfl, Nat.and_two_pow_sub_one_eq_mod, IntKind.wrap_i64]
  omega
theorem and65535 (z : Int) : bits .and .i64 z 65535 = z % 65536 := by
  show IntKind.i64.wrap ((BitVec.ofInt 64 z &&& BitVec.ofInt 64 65535).toNat : Int) = _
  rw [BitVec.toNat_and, BitVec.toNat_ofInt, show (BitVec.ofInt 64 65535).toNat = 65535 from rfl, show (65535 : Nat) = 2 ^ 16 - 1 from rfl, Nat.and_two_pow_sub_one_eq_mod, IntKind.wrap_i64]
  omega
theorem and31_nat (x : Nat) : bits .and .i64 (x : Int) 31 = ((x % 32 : Nat) : Int) := by rw [and31]; omega

theorem results_tmp4 {fn : Func} {t u v x : Tmp} (h : fn.results = #[.tmp t, .tmp u, .tmp v, .tmp x]) (tmps : Array Value) (P : Program) (w : World) :
    (results fn tmps).run P w = .ok (.tuple #[tmps.getD t undef, tmps.getD u undef, tmps.getD v undef, tmps.getD x undef]) w := by
  simp [results, h]

theorem sizes_any (a : Option Addr) (b n c : Nat) (bs : List Nat) (w : World) (hn : bs.length = n) (hf : ∀ x ∈ bs, x < 256) (hread : Reads w a b (bs.map u8)) (hlen : n ≤ 1048576) :
    Calls Try.prog 15 #[.slice a n c] w (RowPost w n (bs.map (· % 32))) := by
  have HN := Lib.hid hn
  clear hn
  go_enter Try.func15, Try.ntmps15
  go_wp2_with fail
  go_loopg [3, 9] n (fun k o i wr => ∃ j g c : Nat, k = n - j ∧ j ≤ n ∧ o = .slice (some ⟨g, 0, none⟩) j c ∧ i = .int .i64 (j : Int) ∧ Row wr 3 g j c (((bs.take j).map (· % 32)).map n64) ∧ w.heap.size ≤ g ∧ Still w wr)
  case atStart => exact ⟨0, _, _, rfl, Nat.zero_le _, rfl, rfl, Row.empty w 3, Nat.le_refl _, (Turned.refl _ _).alloc _⟩
  case round =>
    obtain ⟨j, g, c', hk, hj, rfl, rfl, hr, hg, hst⟩ := hrel
    have Hk := Lib.hid hk
    clear hk
    by_cases hlt : j < n
    · have hjn : j < bs.length := by rw [HN.out]; exact hlt
      obtain ⟨off, rfl, hc⟩ := hread.at (i := j) (by simpa using hjn)
      have hd : wr.cell? ⟨b, off + j, none⟩ = some (.int .u8 (bs[j] : Nat)) := hst.cell (by simpa [u8] using hc) (fun h => h)
      have hfj := hf bs[j] (List.getElem_mem hjn)
      have Ht := Lib.hid (List.take_succ_eq_append_getElem hjn)
      clear hc
      generalize bs[j] = m at *
      have hand := and31_nat m
      have hm32 : m % 32 < 32 := Nat.mod_lt _ (by omega)
      go_wp2_with (at_builtin; refine wpList_push rfl _ _ 23 rfl 3 (.int .i64 0) 8 Try.underlying23 Try.infoInt rfl g j c' _ rfl hr (.int .i64 ((m % 32 : Nat) : Int)) rfl rfl (by omega) (by omega) ?_)
      intro g' c2 w4 hr4 hat4 hT4
      have hz := hst.size
      go_wp2
      go_roundg (n - (j + 1))
      case measure => rw [Hk.out]; omega
      case rel =>
        refine ⟨j + 1, g', c2, rfl, by omega, rfl, by go_num, ?_, by omega, hst.then hT4 (fun k hk e => by omega)⟩
        rw [Ht.out, List.map_append, List.map_append, List.map_map, List.map_take]
        exact hr4
    · obtain rfl : n = j := by omega
      rw [List.take_of_length_le (by rw [HN.out]; exact Nat.le_refl _)] at hr
      go_wp2
      go_ret
      exact ⟨g, c', rfl, hr, hg, hst⟩

/-- Perm and Shuffle of one size over words. -/
def OnePost (w : World) (ws : List Nat) (n : Nat) (e : Ending) (w' : World) : Prop :=
  ∃ g1 c1 g2 c2, e = .returned (.tuple #[.slice (some ⟨g1, 0, none⟩) n c1, .slice (some ⟨g2, 0, none⟩) (2 * (n - 1)) c2, .int .i64 ((pend ws (n - 1) 0 : Nat) : Int), .bool true]) ∧ Row w' 3 g1 n c1 ((permOf ws n 0).map n64) ∧ Row w' 3 g2 (2 * (n - 1)) c2 ((flat (prs ws (n - 1) 0)).map n64) ∧ (w.heap.size ≤ g1 ∧ w.heap.size ≤ g2 ∧ g1 ≠ g2) ∧ Still w w'

theorem inn_one {L : List Inn} {xs : List Nat} (h : L.map Inn.xs = [xs]) : ∃ g c, L = [⟨g, c, xs⟩] := by
  match L, h with
  | [], h => simp at h
  | [p], h => obtain ⟨g, c, ys⟩ := p; simp at h; subst h; exact ⟨g, c, rfl⟩
  | _ :: _ :: _, h => simp at h

set_option maxHeartbeats 1000000 in
theorem one_any (a : Option Addr) (b n c : Nat) (ws : List Nat) (m : Nat) (w : World) (hn : (ws.map u64).length = n) (hf : ∀ x ∈ ws, x < 18446744073709551616) (hread : Reads w a b (ws.map u64)) (hnil : a = none → c = 0) (hlen : n * 8 ≤ 140737488355328) (hm : m ≤ 256) :
    Calls Try.prog 11 #[.slice a n c, .int .i64 (m : Int)] w (OnePost w ws m) := by
  have hst0 : Still w (w.alloc (.cells #[.int .i64 (m : Int)] 3)) := (Turned.refl _ _).alloc _
  have hp := perms_any a b n c ws (some ⟨w.heap.size, 0, none⟩) w.heap.size 1 1 [m] (w.alloc (.cells #[.int .i64 (m : Int)] 3)) hn hf (hread.kept hst0 (fun h => h)) hnil hlen rfl (by simpa using hm) (Row.new w 3 #[.int .i64 (m : Int)] (show 1 ≤ maxLen by decide)).reads (by omega)
  have HP := Lib.hid hp
  clear hp
  go_enter Try.func11, Try.ntmps11
  go_wp2_with fail
  refine HP.out.mono ?_
  rintro e w1 ⟨L, g1, c1, g2, c2, rfl, hL, hr1, hr2, hI, hge, hst1⟩
  obtain ⟨G, C, rfl⟩ := inn_one (xs := permOf ws m 0) hL
  obtain ⟨hG, hGe, _, hG1, hG2⟩ := hI _ (List.mem_singleton.2 rfl)
  have hst2 : Still w w1 := hst0.trans hst1
  have hst3 : Still w1 (w1.alloc (.cells #[.int .i64 (m : Int)] 3)) := (Turned.refl _ _).alloc _
  have hp := shuffles_any a b n c ws (some ⟨w1.heap.size, 0, none⟩) w1.heap.size 1 1 [m] (w1.alloc (.cells #[.int .i64 (m : Int)] 3)) hn hf ((hread.kept hst2 (fun h => h)).kept hst3 (fun h => h)) hnil hlen rfl (by simpa using hm) (Row.new w1 3 #[.int .i64 (m : Int)] (show 1 ≤ maxLen by decide)).reads (by omega)
  have HS := Lib.hid hp
  have hz1 := hst2.size
  have hz0 := hst0.size
  clear hp HP hL hI hst1 hst0
  simp only [List.map_cons, List.map_nil, Inn.val, permOf_length] at hr1
  simp only [permOf_length] at hG
  go_wp2_with fail
  refine HS.out.mono ?_
  rintro e w3 ⟨L, g3, c3, g4, c4, rfl, hL, hr3, hr4, hI, hge3, hst4⟩
  obtain ⟨G3, C3, rfl⟩ := inn_one (xs := flat (prs ws (m - 1) 0)) hL
  obtain ⟨hH, hHe, _, hH1, hH2⟩ := hI _ (List.mem_singleton.2 rfl)
  have hst5 : Still w1 w3 := hst3.trans hst4
  simp only [List.map_cons, List.map_nil, Inn.val, flat_length, prs_length] at hr3
  simp only [flat_length, prs_length] at hH
  have ca : w3.cell? ⟨g1, 0, none⟩ = some (.slice (some ⟨G, 0, none⟩) m C) := (hr1.kept hst5 (fun h => h)).cell rfl
  have cb : w3.cell? ⟨g2, 0, none⟩ = some (.int .i64 ((pend ws (m - 1) 0 : Nat) : Int)) := (hr2.kept hst5 (fun h => h)).cell rfl
  have cc : w3.cell? ⟨g3, 0, none⟩ = some (.slice (some ⟨G3, 0, none⟩) (2 * (m - 1)) C3) := hr3.cell rfl
  have hlG := hG.lt
  have hfin : OnePost w ws m (.returned (.tuple #[.slice (some ⟨G, 0, none⟩) m C, .slice (some ⟨G3, 0, none⟩) (2 * (m - 1)) C3, .int .i64 ((pend ws (m - 1) 0 : Nat) : Int), .bool true])) w3 := by
    have hz3 := hst3.size
    simp only at hGe hHe
    exact ⟨G, C, G3, C3, rfl, hG.kept hst5 (fun h => h), hH, by omega, hst2.trans hst5⟩
  have HF := Lib.hid hfin
  clear hfin HS hL hI hst4 hst3 hst5 hG hH hr1 hr2 hr3 hr4
  generalize pend ws (m - 1) 0 = used at *
  generalize hmm : 2 * (m - 1) = mm at *
  clear hmm
  go_wp2_with fail
  go_quiet (fail)
  go_wp2
  (try simp only [Exit.inBlock, Exit.then]); refine bodyPost_ret (results_tmp4 rfl _ _ _) rfl ?_
  obtain ⟨q1, q2, q3, q4, q5, q6, q7, q8, q9⟩ := HF.out
  exact ⟨q1, q2, q3, q4, q5, q6.kept ((Turned.refl (fun _ => False) _).drewN _) (fun h => h), q7.kept ((Turned.refl (fun _ => False) _).drewN _) (fun h => h), q8, q9.drewN _⟩
end Go.Proofs.Ytlbhfjmcjbjjgaa
