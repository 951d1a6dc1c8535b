/-
  Perms: permutations of several sizes, drawn one after another.
-/
import Derived.Test.YtlbhfjmcjbjjgaaPerm
import Derived.Test.YtlbhfjmcjbjjgaaLists
namespace Go.Proofs.Ytlbhfjmcjbjjgaa
open Go.RowKit
set_option linter.unusedVariables false

theorem Try.infoInts : (Try.prog.info? 23).map (fun i => (i.zero, i.size, i.bytes)) = some (some (.slice none 0 0), 1, 24) := by kernel_rfl

/-- An inner slice of a list of lists: its block, its room, its numbers. -/
structure Inn where
  g : Nat
  c : Nat
  xs : List Nat
def Inn.val (p : Inn) : Value := .slice (some ⟨p.g, 0, none⟩) p.xs.length p.c

/-- The inner slices are rows of the call's own, apart from three blocks that may still turn. -/
def Inns (w wr : World) (s g1 g2 : Nat) (L : List Inn) : Prop := ∀ p ∈ L, Row wr 3 p.g p.xs.length p.c (p.xs.map n64) ∧ w.heap.size ≤ p.g ∧ p.g ≠ s ∧ p.g ≠ g1 ∧ p.g ≠ g2

theorem Inns.turn {w wr w1 : World} {s g1 g2 g1' g2' : Nat} {L : List Inn} {S : Nat → Prop} (h : Inns w wr s g1 g2 L) (hT : Turned S wr w1) (hS : ∀ k, S k → k = s ∨ k = g1 ∨ k = g2 ∨ wr.heap.size ≤ k) (h1 : g1' = g1 ∨ wr.heap.size ≤ g1') (h2 : g2' = g2 ∨ wr.heap.size ≤ g2') : Inns w w1 s g1' g2' L := by
  intro p hp
  obtain ⟨hr, hge, a1, a2, a3⟩ := h p hp
  have hlt := hr.lt
  refine ⟨hr.kept hT (fun hx => ?_), hge, a1, by omega, by omega⟩
  rcases hS _ hx with h | h | h | h <;> omega
theorem Inns.snoc {w wr : World} {s g1 g2 : Nat} {L : List Inn} {p : Inn} (h : Inns w wr s g1 g2 L) (hp : Row wr 3 p.g p.xs.length p.c (p.xs.map n64) ∧ w.heap.size ≤ p.g ∧ p.g ≠ s ∧ p.g ≠ g1 ∧ p.g ≠ g2) : Inns w wr s g1 g2 (L ++ [p]) := by
  intro q hq
  rcases List.mem_append.1 hq with hq | hq
  · exact h q hq
  · rw [List.mem_singleton] at hq
    subst hq
    exact hp

/-- Sizes in a row over the words: each size, the words used ahead of it, and those used behind it. -/
def script (ws : List Nat) : Nat → List Nat → List (Nat × Nat × Nat)
  | _, [] => []
  | i, n :: ns => (n, i, pend ws (n - 1) i) :: script ws (pend ws (n - 1) i) ns
def scriptEnd (ws : List Nat) : Nat → List Nat → Nat
  | i, [] => i
  | i, n :: ns => scriptEnd ws (pend ws (n - 1) i) ns
theorem script_length (ws : List Nat) (i : Nat) (ns : List Nat) : (script ws i ns).length = ns.length := by
  induction ns generalizing i with
  | nil => rfl
  | cons n ns ih => simp [script, ih]
theorem script_snoc (ws : List Nat) (i : Nat) (ns : List Nat) (n : Nat) : script ws i (ns ++ [n]) = script ws i ns ++ [(n, scriptEnd ws i ns, pend ws (n - 1) (scriptEnd ws i ns))] ∧ scriptEnd ws i (ns ++ [n]) = pend ws (n - 1) (scriptEnd ws i ns) := by
  induction ns generalizing i with
  | nil => simp [script, scriptEnd]
  | cons m ns ih => simp [List.cons_append, script, scriptEnd, ih]
theorem script_take (ws : List Nat) (i : Nat) (ns : List Nat) (j : Nat) (h : j < ns.length) : script ws i (ns.take (j + 1)) = script ws i (ns.take j) ++ [(ns[j], scriptEnd ws i (ns.take j), pend ws (ns[j] - 1) (scriptEnd ws i (ns.take j)))] ∧ scriptEnd ws i (ns.take (j + 1)) = pend ws (ns[j] - 1) (scriptEnd ws i (ns.take j)) := by
  rw [List.take_succ_eq_append_getElem h]
  exact script_snoc ws i (ns.take j) ns[j]
theorem scriptEnd_le (ws : List Nat) (i : Nat) (ns : List Nat) (B : Nat) (hi : i ≤ B) (hl : ws.length ≤ B) (hs : ∀ n ∈ ns, n ≤ 256) : scriptEnd ws i ns ≤ B + 256 * ns.length := by
  induction ns generalizing i B with
  | nil => simpa [scriptEnd] using hi
  | cons n ns ih =>
    have h1 := pend_le ws (n - 1) i B hi hl
    have h2 := hs n (List.mem_cons_self ..)
    have := ih (pend ws (n - 1) i) (B + 256) (by omega) (by omega) (fun m hm => hs m (List.mem_cons_of_mem _ hm))
    simp only [scriptEnd, List.length_cons]
    omega
theorem permOf_length (ws : List Nat) (n i : Nat) : (permOf ws n i).length = n := by simp [permOf, swps_length]

/-- The permutations of several sizes, the swaps of several sizes, the words used behind each. -/
def permsOf (l : List Nat) (t : List (Nat × Nat × Nat)) : List (List Nat) := t.map fun x => permOf l x.1 x.2.1
def pairsOf (l : List Nat) (t : List (Nat × Nat × Nat)) : List (List Nat) := t.map fun x => flat (prs l (x.1 - 1) x.2.1)
def goneOf (t : List (Nat × Nat × Nat)) : List Nat := t.map fun x => x.2.2

/-- A list of lists and a list of counts as results, all of the call's own. -/
def ManyPost (w : World) (n : Nat) (xss : List (List Nat)) (us : List Nat) (e : Ending) (w' : World) : Prop :=
  ∃ L g1 c1 g2 c2, e = .returned (.tuple #[.slice (some ⟨g1, 0, none⟩) n c1, .slice (some ⟨g2, 0, none⟩) n c2]) ∧ L.map Inn.xs = xss ∧ Row w' 23 g1 n c1 (L.map Inn.val) ∧ Row w' 3 g2 n c2 (us.map n64) ∧ Inns w w' g1 g1 g2 L ∧ (w.heap.size ≤ g1 ∧ w.heap.size ≤ g2 ∧ g1 ≠ g2) ∧ Still w w'

set_option maxHeartbeats 1000000 in
theorem perms_any (a : Option Addr) (b n c : Nat) (ws : List Nat) (a2 : Option Addr) (b2 n2 c2 : Nat) (ns : List Nat) (w : World) (hn : (ws.map u64).length = n) (hf : ∀ x ∈ ws, x < 18446744073709551616) (hread : Reads w a b (ws.map u64)) (hnil : a = none → c = 0) (hlen : n * 8 ≤ 140737488355328)
    (hn2 : ns.length = n2) (hb : ∀ x ∈ ns, x ≤ 256) (hread2 : Reads w a2 b2 (ns.map n64)) (hlen2 : n2 * 24 ≤ 140737488355328) :
    Calls Try.prog 16 #[.slice a n c, .slice a2 n2 c2] w (ManyPost w n2 (permsOf ws (script ws 0 ns)) (goneOf (script ws 0 ns))) := by
  have hread' : Reads ((w.alloc (.cells #[] 23)).alloc (.cells #[] 3)) a b (ws.map u64) := hread.kept (((Turned.refl (fun _ => False) w).alloc _).alloc _) (fun h => h)
  have hwl2 : ws.length ≤ 140737488355328 := by simp only [List.length_map] at hn; omega
  have hwl : ws.length ≤ 2305843009213693952 := by omega
  go_enter Try.func16, Try.ntmps16
  go_wp2_with fail
  refine (over_any a b n c ws _ hn hf hread' hnil hlen).mono ?_
  rintro e w1 ⟨r, s, g, cap, rfl, hsrc, hge, hT⟩
  have h0 : Two w w1 r s g cap ws 0 23 w.heap.size 0 0 [] 3 (w.heap.size + 1) 0 0 [] := Two.start hsrc hge hT
  clear hsrc hge hT hread hread'
  have HN := Lib.hid hn2
  clear hn2 hn
  go_wp2_with fail
  go_loopg [6, 7, 21] n2 (fun k o u i wr => ∃ (j g1 c1 g2 c2 : Nat) (L : List Inn), k = n2 - j ∧ j ≤ n2 ∧ o = .slice (some ⟨g1, 0, none⟩) j c1 ∧ u = .slice (some ⟨g2, 0, none⟩) j c2 ∧ i = .int .i64 (j : Int) ∧ Hid (L.map Inn.xs = permsOf ws (script ws 0 (ns.take j))) ∧ Two w wr r s g cap ws (scriptEnd ws 0 (ns.take j)) 23 g1 j c1 (L.map Inn.val) 3 g2 j c2 ((goneOf (script ws 0 (ns.take j))).map n64) ∧ Inns w wr s g1 g2 L)
  case atStart => exact ⟨0, _, _, _, _, [], rfl, Nat.zero_le _, rfl, rfl, rfl, rfl, h0, fun p hp => by cases hp⟩
  case round =>
    obtain ⟨j, g1, c1, g2, c2, L, hk, hj, rfl, rfl, rfl, HL, h1, hL⟩ := hrel
    have Hk := Lib.hid hk
    clear hk h0
    by_cases hlt : j < n2
    · have hjn : j < ns.length := by rw [HN.out]; exact hlt
      obtain ⟨off, rfl, hc⟩ := hread2.at (i := j) (by simpa using hjn)
      have hd : wr.cell? ⟨b2, off + j, none⟩ = some (.int .i64 (ns[j] : Nat)) := h1.still.cell (by simpa [n64] using hc) (fun h => h)
      have hb1 := hb ns[j] (List.getElem_mem hjn)
      have hde := scriptEnd_le ws 0 (ns.take j) 140737488355328 (by omega) hwl2 (fun x hx => hb x (List.mem_of_mem_take hx))
      rw [List.length_take] at hde
      obtain ⟨hsn1, hsn2⟩ := script_take ws 0 ns j hjn
      have Hs1 := Lib.hid hsn1
      have Hs2 := Lib.hid hsn2
      have hdl : scriptEnd ws 0 (ns.take j) ≤ 2305843009213693952 := by omega
      clear hc hsn1 hsn2 hde
      generalize ns[j] = m at *
      generalize hq : scriptEnd ws 0 (ns.take j) = q at *
      clear hq
      go_wp2_with fail
      refine (perm_any r s g cap q m ws _ h1.src hdl hwl (by omega)).mono ?_
      rintro e w2 ⟨G, rfl, hr2, hG, hs2, hT2⟩
      have h2 := h1.draw hs2 hT2
      have hz2 := hT2.size
      have hap := h1.apart
      have hge1 := h1.still.size
      have hl2 := h1.row2.lt
      have hl1 := h1.row1.lt
      have hls := h1.src.lt
      have hL2 : Inns w w2 s g1 g2 L := hL.turn hT2 (fun k e => .inl e) (.inl rfl) (.inl rfl)
      have hL2' := hL2.snoc (p := ⟨G, m, permOf ws m q⟩) ⟨by simpa [permOf_length] using hr2, by simp only; omega, by simp only; omega, by simp only; omega, by simp only; omega⟩
      have hv : (Inn.mk G m (permOf ws m q)).val = .slice (some ⟨G, 0, none⟩) m m := by simp [Inn.val, permOf_length]
      have Hv := Lib.hid hv
      clear h1 hs2 hT2 hv hr2 hL hL2
      go_wp2_with (at_builtin; refine wpList_push rfl _ _ 34 rfl 23 (.slice none 0 0) 24 Try.underlying34 Try.infoInts rfl g1 j c1 _ rfl h2.row1 (.slice (some ⟨G, 0, none⟩) m m) rfl rfl (by omega) (by omega) ?_)
      intro g1' c1' w3 hr3 hat3 hT3
      have h3 := h2.push1 hr3 hat3 hT3
      have hL3 := hL2'.turn hT3 (fun k e => .inr (.inl e)) hat3 (.inl rfl)
      have hu := h3.src.used
      clear h2 hr3 hat3 hT3 hL2'
      go_wp2_with (at_builtin; refine wpList_push rfl _ _ 23 rfl 3 (.int .i64 0) 8 Try.underlying23 Try.infoInt rfl g2 j c2 _ rfl h3.row2 (.int .i64 (pend ws (m - 1) q : Nat)) rfl rfl (by omega) (by omega) ?_)
      intro g2' c2' w4 hr4 hat4 hT4
      have h4 := h3.push2 hr4 hat4 hT4
      have hL4 := hL3.turn hT4 (fun k e => .inr (.inr (.inl e))) (.inl rfl) hat4
      clear h3 hr4 hat4 hT4 hu hL3
      go_wp2
      go_roundg (n2 - (j + 1))
      case measure => rw [Hk.out]; omega
      case rel =>
        refine ⟨j + 1, g1', c1', g2', c2', L ++ [⟨G, m, permOf ws m q⟩], rfl, by omega, rfl, rfl, by go_num, ?_, ?_, hL4⟩
        · refine Lib.hid ?_
          rw [Hs1.out, List.map_append, HL.out]
          simp [permsOf]
        · rw [Hs1.out, Hs2.out]
          rw [← Hv.out] at h4
          simpa [goneOf, n64] using h4
    · obtain rfl : n2 = j := by omega
      go_wp2
      go_ret2
      rw [List.take_of_length_le (by rw [HN.out]; exact Nat.le_refl _)] at h1 HL
      have hge := h1.ge
      have hap := h1.apart
      refine ⟨L, g1, c1, g2, c2, rfl, HL.out, h1.row1, h1.row2, ?_, by omega, h1.still⟩
      intro p hp
      obtain ⟨x1, x2, x3, x4, x5⟩ := hL p hp
      exact ⟨x1, x2, x4, x4, x5⟩
end Go.Proofs.Ytlbhfjmcjbjjgaa
