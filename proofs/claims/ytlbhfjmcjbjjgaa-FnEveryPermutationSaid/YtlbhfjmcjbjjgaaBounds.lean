/-
  Uint64N, and impl.Uint64Ns over given words.
-/
import Derived.Test.YtlbhfjmcjbjjgaaTwo
import Derived.Test.YtlbhfjmcjbjjgaaDraw
namespace Go.Proofs.Ytlbhfjmcjbjjgaa
open Go.RowKit
set_option linter.unusedVariables false

/-- A number of a kind as a value; the numbers drawn, and the words used, of a list of both. -/
def num (k : IntKind) (n : Nat) : Value := .int k (n : Int)
def vals (k : IntKind) (l : List (Nat × Nat)) : List Value := l.map fun p => .int k (p.1 : Int)
def uses (l : List (Nat × Nat)) : List Value := l.map fun p => .int .i64 (p.2 : Int)

theorem draws_take (ws ns : List Nat) (j : Nat) (h : j < ns.length) : draws ws 0 (ns.take (j + 1)) = draws ws 0 (ns.take j) ++ [fin ws ns[j] (drawsEnd ws 0 (ns.take j))] ∧ drawsEnd ws 0 (ns.take (j + 1)) = (fin ws ns[j] (drawsEnd ws 0 (ns.take j))).2 := by
  rw [List.take_succ_eq_append_getElem h]
  exact draws_snoc ws 0 (ns.take j) ns[j]

theorem uint64N_any (r s g cap i n : Nat) (ws : List Nat) (w : World) (h : Src w r s g cap ws i) (hi : i < 4611686018427387904) (hl : ws.length < 4611686018427387904) (h1 : 1 ≤ n) (h2 : n < 18446744073709551616) :
    Calls Try.prog 22 #[.pointer (some ⟨r, 0, none⟩), .int .u64 (n : Int)] w fun e w' => e = .returned (.int .u64 ((fin ws n i).1 : Nat)) ∧ Src w' r s g cap ws (fin ws n i).2 ∧ Turns s w w' := by
  have hlt := fin_fst_lt ws n i h.fit h1
  have hu := uint64n_any r s g cap i n ws w h hi hl h1 (by omega)
  have Hu := Lib.hid hu
  clear hu
  generalize fin ws n i = p at *
  have hz : ((n : Int) == 0) = false := by simp; omega
  have hp : p.1 < 18446744073709551616 := by omega
  generalize p.1 = v at *
  go_enter Try.func22, Try.ntmps22
  go_wp2_with fail
  refine Hu.out.mono ?_
  rintro e w1 ⟨rfl, hs1, hT1⟩
  go_wp2_with fail
  go_ret
  exact ⟨rfl, hs1, hT1⟩

set_option maxHeartbeats 1000000 in
theorem uint64Ns_any (a : Option Addr) (b n c : Nat) (ws : List Nat) (a2 : Option Addr) (b2 n2 c2 : Nat) (ns : List Nat) (w : World) (hn : (ws.map u64).length = n) (hf : ∀ x ∈ ws, x < 18446744073709551616) (hread : Reads w a b (ws.map u64)) (hnil : a = none → c = 0) (hlen : n * 8 ≤ 140737488355328)
    (hn2 : ns.length = n2) (hb : ∀ x ∈ ns, 1 ≤ x ∧ x < 18446744073709551616) (hread2 : Reads w a2 b2 (ns.map (num .u64))) (hlen2 : n2 * 8 ≤ 140737488355328) :
    Calls Try.prog 14 #[.slice a n c, .slice a2 n2 c2] w (TwoPost w 28 3 n2 (vals .u64 (draws ws 0 ns)) (uses (draws ws 0 ns))) := by
  have hread' : Reads ((w.alloc (.cells #[] 28)).alloc (.cells #[] 3)) a b (ws.map u64) := hread.kept (((Turned.refl (fun _ => False) w).alloc _).alloc _) (fun h => h)
  have hwl : ws.length < 4611686018427387904 := by simp only [List.length_map] at hn; omega
  have hwl2 : ws.length ≤ 140737488355328 := by simp only [List.length_map] at hn; omega
  go_enter Try.func14, Try.ntmps14
  go_wp2_with fail
  refine (over_any a b n c ws _ hn hf hread' hnil hlen).mono ?_
  rintro e w1 ⟨r, s, g, cap, rfl, hsrc, hge, hT⟩
  have h0 : Two w w1 r s g cap ws 0 28 w.heap.size 0 0 [] 3 (w.heap.size + 1) 0 0 [] := Two.start hsrc hge hT
  clear hsrc hge hT hread hread'
  have HN := Lib.hid hn2
  clear hn2 hn
  go_wp2_with fail
  go_loopg [6, 7, 21] n2 (fun k o u i wr => ∃ j g1 c1 g2 c2 : Nat, k = n2 - j ∧ j ≤ n2 ∧ o = .slice (some ⟨g1, 0, none⟩) j c1 ∧ u = .slice (some ⟨g2, 0, none⟩) j c2 ∧ i = .int .i64 (j : Int) ∧ Two w wr r s g cap ws (drawsEnd ws 0 (ns.take j)) 28 g1 j c1 (vals .u64 (draws ws 0 (ns.take j))) 3 g2 j c2 (uses (draws ws 0 (ns.take j))))
  case atStart => exact ⟨0, _, _, _, _, rfl, Nat.zero_le _, rfl, rfl, rfl, h0⟩
  case round =>
    obtain ⟨j, g1, c1, g2, c2, hk, hj, rfl, rfl, rfl, h1⟩ := hrel
    have Hk := Lib.hid hk
    clear hk h0
    by_cases hlt : j < n2
    · have hjn : j < ns.length := by rw [HN.out]; exact hlt
      obtain ⟨off, rfl, hc⟩ := hread2.at (i := j) (by simpa using hjn)
      have hd : wr.cell? ⟨b2, off + j, none⟩ = some (.int .u64 (ns[j] : Nat)) := h1.still.cell (by simpa [num] using hc) (fun h => h)
      obtain ⟨hb1, hb2⟩ := hb ns[j] (List.getElem_mem hjn)
      have hde := drawsEnd_le ws 0 (ns.take j) 140737488355328 (by omega) hwl2
      rw [List.length_take] at hde
      obtain ⟨hsn1, hsn2⟩ := draws_take ws ns j hjn
      have Hs1 := Lib.hid hsn1
      have Hs2 := Lib.hid hsn2
      have hdl : drawsEnd ws 0 (ns.take j) < 4611686018427387904 := by omega
      clear hc hsn1 hsn2 hde
      generalize ns[j] = m at *
      generalize hq : drawsEnd ws 0 (ns.take j) = q at *
      clear hq
      generalize hfp : fin ws m q = p at *
      have Hf := Lib.hid hfp
      clear hfp
      go_wp2_with fail
      refine (uint64N_any r s g cap q m ws _ h1.src hdl hwl hb1 hb2).mono ?_
      rintro e w2 ⟨rfl, hs2, hT2⟩
      rw [Hf.out] at hs2
      rw [Hf.out]
      have h2 := h1.draw hs2 hT2
      clear h1 hs2 hT2
      obtain ⟨v, u⟩ := p
      go_wp2_with (at_builtin; refine wpList_push rfl _ _ 22 rfl 28 (.int .u64 0) 8 Try.underlying22 Try.infoU64 rfl g1 j c1 _ rfl h2.row1 (.int .u64 (v : Nat)) rfl rfl (by omega) (by omega) ?_)
      intro g1' c1' w3 hr3 hat3 hT3
      have h3 := h2.push1 hr3 hat3 hT3
      have hu := h3.src.used
      clear h2 hr3 hat3 hT3
      go_wp2_with (at_builtin; refine wpList_push rfl _ _ 23 rfl 3 (.int .i64 0) 8 Try.underlying23 Try.infoInt rfl g2 j c2 _ rfl h3.row2 (.int .i64 (u : Nat)) rfl rfl (by omega) (by omega) ?_)
      intro g2' c2' w4 hr4 hat4 hT4
      have h4 := h3.push2 hr4 hat4 hT4
      clear h3 hr4 hat4 hT4 hu
      go_wp2
      go_roundg (n2 - (j + 1))
      case measure => rw [Hk.out]; omega
      case rel =>
        refine ⟨j + 1, g1', c1', g2', c2', rfl, by omega, rfl, rfl, by go_num, ?_⟩
        rw [Hs1.out, Hs2.out]
        simpa [vals, uses] using h4
    · obtain rfl : n2 = j := by omega
      go_wp2
      go_ret2
      have := h1.post
      rw [List.take_of_length_le (by rw [HN.out]; exact Nat.le_refl _)] at this
      exact this
end Go.Proofs.Ytlbhfjmcjbjjgaa
