/-
  The walk of FnEachNumber.
-/
import Derived.Test.YtpffccojlkkfkaaWordForW
import Derived.Test.YtpffccojlkkfkaaDuo
import Derived.Test.YtpffccojlkkfkaaLists
import Derived.Test.YtpffccojlkkfkaaSameW
namespace Go.Proofs.Ytpffccojlkkfkaa
open Go.RowKit
set_option linter.unusedVariables false

/-- The number that is wanted of the i-th bound; the word for it. -/
def dueAt (ns vs : List Nat) (i : Nat) : Nat := if i < vs.length then wordAt vs i % wordAt ns i else 0
def forAt (ns vs : List Nat) (i : Nat) : Nat := wordFor (dueAt ns vs i) (wordAt ns i)
def firstN (f : Nat → Nat) (n : Nat) : List Nat := (List.range n).map f
theorem firstN_succ (f : Nat → Nat) (n : Nat) : firstN f (n + 1) = firstN f n ++ [f n] := by simp [firstN, List.range_succ]
theorem wordAt_firstN (f : Nat → Nat) (n i : Nat) (h : i < n) : wordAt (firstN f n) i = f i := by simp [wordAt, firstN, h]
theorem wordAt_get (ns : List Nat) (j : Nat) (h : j < ns.length) : wordAt ns j = ns[j] := by simp [wordAt, List.getElem?_eq_getElem h]
theorem dueAt_lt (ns vs : List Nat) (hb : ∀ x ∈ ns, 1 ≤ x ∧ x < 18446744073709551616) (j : Nat) (h : j < ns.length) : dueAt ns vs j < wordAt ns j := by
  have h1 := (hb ns[j] (List.getElem_mem h)).1
  rw [← wordAt_get ns j h] at h1
  unfold dueAt
  split
  · exact Nat.mod_lt _ h1
  · omega
theorem for_kept (ns vs : List Nat) (hb : ∀ x ∈ ns, 1 ≤ x ∧ x < 18446744073709551616) (j : Nat) (h : j < ns.length) : thrown (wordAt (firstN (forAt ns vs) ns.length) j) ns[j] = false := by
  obtain ⟨h1, h2⟩ := hb ns[j] (List.getElem_mem h)
  have hl := dueAt_lt ns vs hb j h
  rw [wordAt_firstN _ _ _ h]
  unfold forAt
  rw [wordAt_get ns j h] at hl ⊢
  exact (wordFor_kept _ _ hl h1 h2).1
theorem for_vals (ns vs : List Nat) (hb : ∀ x ∈ ns, 1 ≤ x ∧ x < 18446744073709551616) : vals .u64 (draws (firstN (forAt ns vs) ns.length) 0 ns) = (firstN (dueAt ns vs) ns.length).map u64 := by
  apply List.ext_getElem?
  intro j
  by_cases hj : j < ns.length
  · obtain ⟨h1, h2⟩ := hb ns[j] (List.getElem_mem hj)
    have hl := dueAt_lt ns vs hb j hj
    simp only [vals, List.getElem?_map, one_per_get _ ns (for_kept ns vs hb) j hj, Option.map_some]
    rw [wordAt_firstN _ _ _ hj]
    unfold forAt
    rw [wordAt_get ns j hj] at hl ⊢
    rw [(wordFor_kept _ _ hl h1 h2).2]
    simp [firstN, hj, u64]
  · rw [List.getElem?_eq_none (by simp [vals, draws_length]; omega), List.getElem?_eq_none (by simp [firstN]; omega)]
theorem for_fit (ns vs : List Nat) (hb : ∀ x ∈ ns, 1 ≤ x ∧ x < 18446744073709551616) : ∀ x ∈ firstN (forAt ns vs) ns.length, x < 18446744073709551616 := by
  intro x hx
  obtain ⟨j, hj, rfl⟩ := List.mem_map.1 hx
  have h : j < ns.length := by simpa using hj
  obtain ⟨h1, h2⟩ := hb ns[j] (List.getElem_mem h)
  have hl := dueAt_lt ns vs hb j h
  unfold forAt
  rw [wordAt_get ns j h] at hl ⊢
  exact wordFor_lt _ _ hl h1 h2
theorem Duo.weak {w0 w wr : World} {e1 g1 n1 c1 : Nat} {xs : List Value} {e2 g2 n2 c2 : Nat} {ys : List Value} (h : Duo w wr e1 g1 n1 c1 xs e2 g2 n2 c2 ys) (hs : Still w0 w) : Still w0 wr := hs.trans h.still

set_option maxRecDepth 100000 in
set_option maxHeartbeats 2000000 in
theorem fnEachNumber_walk (a0 : Option Addr) (len0 cap0 b0 : Nat) (ws0 : List Nat) (a1 : Option Addr) (len1 cap1 b1 : Nat) (ws1 : List Nat) (w : World) (A0 : Arg u64 18446744073709551616 8 w a0 len0 cap0 b0 ws0) (A1 : Arg u64 18446744073709551616 8 w a1 len1 cap1 b1 ws1) :
    Calls Try.prog 8 #[.slice a0 len0 cap0, .slice a1 len1 cap1] w fun e w' => e = .returned (.bool true) ∧ Below w.heap.size w w' := by
  have hs0 := A0.small
  have hs1 := A1.small
  have HL1 := Lib.hid A1.length
  have hpl : (pos ws0).length ≤ len0 := by rw [← A0.length]; exact List.length_filter_le _ _
  have hpb := pos_bounds ws0 _ A0.fit
  go_enter Try.func8, Try.ntmps8
  go_wp2_with fail
  refine (positive_any a0 b0 len0 cap0 ws0 _ A0).mono ?_
  rintro e w1 ⟨gL, cL, rfl, rL, hgL, s1⟩
  generalize pos ws0 = ns at *
  obtain ⟨L, hL⟩ : ∃ L, L = ns.length := ⟨_, rfl⟩
  rw [← hL] at hpl rL
  rw [← hL]
  have HL := Lib.hid hL
  clear hL
  have h0 := Duo.start w1 26 26
  go_wp2_with fail
  go_loopg [6, 7, 21] L (fun k o u i wr => ∃ j g1 c1 g2 c2 : Nat, k = L - j ∧ j ≤ L ∧ o = .slice (some ⟨g1, 0, none⟩) j c1 ∧ u = .slice (some ⟨g2, 0, none⟩) j c2 ∧ i = .int .i64 (j : Int) ∧ Duo w1 wr 26 g1 j c1 ((firstN (forAt ns ws1) j).map u64) 26 g2 j c2 ((firstN (dueAt ns ws1) j).map u64))
  case atStart => exact ⟨0, _, _, _, _, rfl, Nat.zero_le _, rfl, rfl, rfl, h0⟩
  case round =>
    obtain ⟨j, g1, c1, g2, c2, hk, hj, rfl, rfl, rfl, h1⟩ := hrel
    have Hk := Lib.hid hk
    clear hk h0
    by_cases hlt : j < L
    · have hjn : j < ns.length := by rw [← HL.out]; exact hlt
      have hcl : wr.cell? ⟨gL, j, none⟩ = some (.int .u64 (ns[j] : Nat)) := (rL.kept h1.still (fun h => h)).cell (words_get ns j hjn)
      obtain ⟨hb1, hb2⟩ := hpb ns[j] (List.getElem_mem hjn)
      have hdl := dueAt_lt ns ws1 hpb j hjn
      have hfs := firstN_succ (forAt ns ws1) j
      have hds := firstN_succ (dueAt ns ws1) j
      have hfe : forAt ns ws1 j = wordFor (dueAt ns ws1 j) (wordAt ns j) := rfl
      have hde : dueAt ns ws1 j = if j < ws1.length then wordAt ws1 j % wordAt ns j else 0 := rfl
      have hnz : ((ns[j] : Int) == 0) = false := by simp; omega
      rw [wordAt_get ns j hjn] at hfe hdl hde
      have HFS := Lib.hid hfs
      have HDS := Lib.hid hds
      have HFE := Lib.hid hfe
      clear hfs hds hfe
      generalize ns[j] = n at *
      generalize hD : dueAt ns ws1 j = D at *
      generalize forAt ns ws1 j = W at *
      clear hD
      by_cases hin : j < len1
      · have hx := A1.word j
        obtain ⟨off, rfl, hc⟩ := A1.at hin
        have hd := h1.still.cell (s1.cell hc (fun h => h)) (fun h => h)
        clear hc
        rw [if_pos (by rw [HL1.out]; exact hin)] at hde
        have hrem : (wordAt ws1 j : Int) % (n : Int) = (D : Int) := by rw [hde]; rfl
        have hremt : (wordAt ws1 j : Int).tmod (n : Int) = (D : Int) := by rw [hde]; rfl
        have hDM : D < 18446744073709551616 := by omega
        clear hde
        go_wp2_with (at_builtin; refine wpList_push rfl _ _ 22 rfl 26 (.int .u64 0) 8 Try.underlying22 Try.infoU64 rfl g2 j c2 _ rfl h1.row2 (.int .u64 (D : Nat)) rfl rfl (by omega) (by omega) ?_)
        intro g2' c2' w3 hr3 hat3 hT3
        have h3 := h1.push2 hr3 hat3 hT3
        clear h1 hr3 hat3 hT3 hd hcl hrem hremt
        go_wp2_with fail
        refine (wordFor_any D n _ hdl hb1 hb2).mono ?_
        rintro e w' ⟨rfl, rfl⟩
        rw [← HFE.out]
        go_wp2_with (at_builtin; refine wpList_push rfl _ _ 22 rfl 26 (.int .u64 0) 8 Try.underlying22 Try.infoU64 rfl g1 j c1 _ rfl h3.row1 (.int .u64 (W : Nat)) rfl rfl (by omega) (by omega) ?_)
        intro g1' c1' w4 hr4 hat4 hT4
        have h4 := h3.push1 hr4 hat4 hT4
        clear h3 hr4 hat4 hT4
        go_wp2
        go_roundg (L - (j + 1))
        case measure => rw [Hk.out]; omega
        case rel =>
          refine ⟨j + 1, g1', c1', g2', c2', rfl, by omega, rfl, rfl, by go_num, ?_⟩
          rw [HFS.out, HDS.out, List.map_append, List.map_append]
          exact h4
      · rw [if_neg (by rw [HL1.out]; exact hin)] at hde
        have Hde := Lib.hid hde
        clear hde
        go_wp2_with (at_builtin; refine wpList_push rfl _ _ 22 rfl 26 (.int .u64 0) 8 Try.underlying22 Try.infoU64 rfl g2 j c2 _ rfl h1.row2 (.int .u64 0) rfl rfl (by omega) (by omega) ?_)
        intro g2' c2' w3 hr3 hat3 hT3
        have h3 := h1.push2 hr3 hat3 hT3
        clear h1 hr3 hat3 hT3 hcl
        go_wp2_with fail
        refine (wordFor_any 0 n _ (by omega) hb1 hb2).mono ?_
        rintro e w' ⟨rfl, rfl⟩
        rw [show wordFor 0 n = W by rw [HFE.out, Hde.out]]
        go_wp2_with (at_builtin; refine wpList_push rfl _ _ 22 rfl 26 (.int .u64 0) 8 Try.underlying22 Try.infoU64 rfl g1 j c1 _ rfl h3.row1 (.int .u64 (W : Nat)) rfl rfl (by omega) (by omega) ?_)
        intro g1' c1' w4 hr4 hat4 hT4
        have h4 := h3.push1 hr4 hat4 hT4
        clear h3 hr4 hat4 hT4
        go_wp2
        go_roundg (L - (j + 1))
        case measure => rw [Hk.out]; omega
        case rel =>
          refine ⟨j + 1, g1', c1', g2', c2', rfl, by omega, rfl, rfl, by go_num, ?_⟩
          rw [HFS.out, HDS.out, List.map_append, List.map_append, Hde.out]
          exact h4
    · obtain rfl : L = j := by omega
      have hst := s1.trans h1.still
      have rLw := rL.kept h1.still (fun h => h)
      have rW := h1.row1
      have rD := h1.row2
      rw [HL.out] at rW rD
      rw [← HL.out] at rW rD
      clear h1 Hk rL
      go_wp2_with fail
      refine (uint64Ns_any _ g1 L c1 (firstN (forAt ns ws1) L) _ gL L cL ns _ rW.len (by rw [HL.out]; exact for_fit ns ws1 hpb) rW.reads (fun h => by cases h) (by omega) HL.out.symm hpb rLw.reads (by omega)).mono ?_
      rintro e w3 ⟨gX, cX, gY, cY, rfl, rX, rY, hgX, s3⟩
      have st3 := hst.trans s3
      have rD3 := rD.kept s3 (fun h => h)
      rw [HL.out] at rX rY rD3
      rw [for_vals ns ws1 hpb] at rX
      rw [one_per_uses _ ns (for_kept ns ws1 hpb)] at rY
      rw [← HL.out] at rX rY rD3
      clear rLw rW rD hst s3
      go_wp2_with fail
      refine (sameWords_any _ _ L cX L c2 gX g2 _ _ _ rX.len rD3.len rX.reads rD3.reads (by omega)).mono ?_
      rintro e w4 ⟨rfl, s4⟩
      have st4 := st3.trans s4
      have rY4 := rY.kept s4 (fun h => h)
      simp only [decide_true]
      go_wp2_with fail
      go_loopg [66] L (fun k i wr => ∃ j : Nat, k = L - j ∧ j ≤ L ∧ i = .int .i64 (j : Int) ∧ wr = w4)
      case atStart => exact ⟨0, rfl, Nat.zero_le _, rfl, rfl⟩
      case round =>
        obtain ⟨j, hk, hj, rfl, rfl⟩ := hrel
        have Hk := Lib.hid hk
        clear hk
        by_cases hlt : j < L
        · have hcu : wr.cell? ⟨gY, j, none⟩ = some (.int .i64 ((j : Int) + 1)) := rY4.cell (by simp [hlt])
          go_wp2_with fail
          go_roundg (L - (j + 1))
          case measure => rw [Hk.out]; omega
          case rel => exact ⟨j + 1, rfl, by omega, by go_num, rfl⟩
        · go_wp2_with fail
          go_ret
          exact ⟨rfl, st4.below (Nat.le_refl _) (fun k h => h.elim)⟩
end Go.Proofs.Ytpffccojlkkfkaa
