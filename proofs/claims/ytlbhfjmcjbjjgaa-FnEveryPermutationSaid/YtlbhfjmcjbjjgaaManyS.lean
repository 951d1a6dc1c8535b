/-
  Shuffles: the swaps of several sizes, drawn one after another.
-/
import Derived.Test.YtlbhfjmcjbjjgaaMany
namespace Go.Proofs.Ytlbhfjmcjbjjgaa
open Go.RowKit
set_option linter.unusedVariables false

set_option maxHeartbeats 1000000 in
theorem shuffles_any (a : Option Addr) (b n c : Nat) (ws : List Nat) (a2 : Option Addr) (b2 n2 c2 : Nat) (ns : List Nat) (w : World) (hn : (ws.map u64).length = n) (hf : ∀ x ∈ ws, x < 18446744073709551616) (hread : Reads w a b (ws.map u64)) (hnil : a = none → c = 0) (hlen : n * 8 ≤ 140737488355328)
    (hn2 : ns.length = n2) (hb : ∀ x ∈ ns, x ≤ 256) (hread2 : Reads w a2 b2 (ns.map n64)) (hlen2 : n2 * 24 ≤ 140737488355328) :
    Calls Try.prog 18 #[.slice a n c, .slice a2 n2 c2] w (ManyPost w n2 (pairsOf ws (script ws 0 ns)) (goneOf (script ws 0 ns))) := by
  have hread' : Reads ((w.alloc (.cells #[] 23)).alloc (.cells #[] 3)) a b (ws.map u64) := hread.kept (((Turned.refl (fun _ => False) w).alloc _).alloc _) (fun h => h)
  have hwl2 : ws.length ≤ 140737488355328 := by simp only [List.length_map] at hn; omega
  have hwl : ws.length ≤ 2305843009213693952 := by omega
  go_enter Try.func18, Try.ntmps18
  go_wp2_with fail
  refine (over_any a b n c ws _ hn hf hread' hnil hlen).mono ?_
  rintro e w1 ⟨r, s, g, cap, rfl, hsrc, hge, hT⟩
  have h0 : Two w w1 r s g cap ws 0 23 w.heap.size 0 0 [] 3 (w.heap.size + 1) 0 0 [] := Two.start hsrc hge hT
  clear hsrc hge hT hread hread'
  have HN := Lib.hid hn2
  clear hn2 hn
  go_wp2_with fail
  go_loopg [6, 7, 22] n2 (fun k o u i wr => ∃ (j g1 c1 g2 c2 : Nat) (L : List Inn), k = n2 - j ∧ j ≤ n2 ∧ o = .slice (some ⟨g1, 0, none⟩) j c1 ∧ u = .slice (some ⟨g2, 0, none⟩) j c2 ∧ i = .int .i64 (j : Int) ∧ Hid (L.map Inn.xs = pairsOf ws (script ws 0 (ns.take j))) ∧ Two w wr r s g cap ws (scriptEnd ws 0 (ns.take j)) 23 g1 j c1 (L.map Inn.val) 3 g2 j c2 ((goneOf (script ws 0 (ns.take j))).map n64) ∧ Inns w wr s g1 g2 L)
  case atStart => exact ⟨0, _, _, _, _, [], rfl, Nat.zero_le _, rfl, rfl, rfl, rfl, h0, fun p hp => by cases hp⟩
  case round =>
    obtain ⟨j, g1, c1, g2, c2, L, hk, hj, rfl, rfl, rfl, HL, h1, hL⟩ := hrel
    have Hk := Lib.hid hk
    clear hk h0
    by_cases hlt : j < n2
    · have hjn : j < ns.length := by rw [HN.out]; exact hlt
      obtain ⟨off, rfl, hc⟩ := hread2.at (i := j) (by simpa using hjn)
      have hd : wr.cell? ⟨b2, off + j, none⟩ = some (.int .i64 (ns[j] : Nat)) := h1.still.cell (by simpa [n64] using hc) (fun h => h)
      have hb1 := hb ns[j] (List.getElem_mem hjn)
      have hde := scriptEnd_le ws 0 (ns.take j) 140737488355328 (by omega) hwl2 (fun x hx => hb x (List.mem_of_mem_take hx))
      rw [List.length_take] at hde
      obtain ⟨hsn1, hsn2⟩ := script_take ws 0 ns j hjn
      have Hs1 := Lib.hid hsn1
      have Hs2 := Lib.hid hsn2
      have hdl : scriptEnd ws 0 (ns.take j) ≤ 2305843009213693952 := by omega
      clear hc hsn1 hsn2 hde
      generalize ns[j] = m at *
      generalize hq : scriptEnd ws 0 (ns.take j) = q at *
      clear hq
      have hap := h1.apart
      have hge1 := h1.still.size
      have hl2 := h1.row2.lt
      have hl1 := h1.row1.lt
      have hls := h1.src.lt
      have hst1 : Still wr ((wr.alloc (.cells #[] 3)).alloc (.cells #[.slice (some ⟨wr.heap.size, 0, none⟩) 0 0] 23)) := ((Turned.refl _ _).alloc _).alloc _
      have hH0 : PairsI wr.heap.size (wr.heap.size + 1) [] ((wr.alloc (.cells #[] 3)).alloc (.cells #[.slice (some ⟨wr.heap.size, 0, none⟩) 0 0] 23)) := by
        refine ⟨wr.heap.size, 0, ?_, ?_, by omega⟩
        · have := heap_alloc_new (wr.alloc (.cells #[] 3)) (.cells #[.slice (some ⟨wr.heap.size, 0, none⟩) 0 0] 23)
          simpa using this
        · exact (Row.empty wr 3).kept ((Turned.refl (fun _ => False) _).alloc _) (fun h => h)
      have hmf : ∀ (fn : Fn) (first cap : Array Value) (w : World), (Instr.makeFunc fn first cap).run Try.prog w = .ok (.func fn first cap) w := fun _ _ _ _ => rfl
      have hS0 := h1.src.kept hst1 (fun h => h) (fun h => h) (fun h => h)
      have hsh := shuffle_pairs (PairsI wr.heap.size (wr.heap.size + 1)) wr.heap.size ⟨wr.heap.size + 1, 0, none⟩ r s g cap q m ws _ hS0 hdl hwl (by omega) hls.1 hls.2.1 hls.2.2 hH0 (fun d a b hI hT => by obtain ⟨G, c, hI⟩ := hI; exact ⟨G, c, Held.kept hI hT (fun k hk e => by subst e; omega)⟩) (Lib.hid fun d x y a hx hy hd hI => pairs_step wr.heap.size (wr.heap.size + 1) m (by omega) d x y a hx hy hd hI)
      have HS := Lib.hid hsh
      clear hsh hS0 hH0
      go_wp2_with fail
      refine HS.out.mono ?_
      rintro e w2 ⟨rfl, ⟨G, cG, hH⟩, hs2, hT2⟩
      have hge2 := hH.ge
      have hT3 : Turns s wr w2 := (hst1.mono (fun _ _ h => h.elim)).then hT2 (fun k hk hS => by omega)
      have h2 := h1.draw hs2 hT3
      have hz2 := hT2.size
      have hL2 : Inns w w2 s g1 g2 L := hL.turn hT3 (fun k e => .inl e) (.inl rfl) (.inl rfl)
      have hL2' := hL2.snoc (p := ⟨G, cG, flat (prs ws (m - 1) q)⟩) ⟨by simpa [flat_length] using hH.row, by simp only; omega, by simp only; omega, by simp only; omega, by simp only; omega⟩
      have hv : (Inn.mk G cG (flat (prs ws (m - 1) q))).val = .slice (some ⟨G, 0, none⟩) (2 * (prs ws (m - 1) q).length) cG := by simp [Inn.val, flat_length]
      have Hv := Lib.hid hv
      have hcv := cell_of_one hH.var
      clear h1 hs2 hT2 hT3 hv hH hL hL2 HS
      generalize 2 * (prs ws (m - 1) q).length = mm at *
      go_wp2_with (at_builtin; refine wpList_push rfl _ _ 34 rfl 23 (.slice none 0 0) 24 Try.underlying34 Try.infoInts rfl g1 j c1 _ rfl h2.row1 (.slice (some ⟨G, 0, none⟩) mm cG) rfl rfl (by omega) (by omega) ?_)
      intro g1' c1' w3 hr3 hat3 hT3
      have h3 := h2.push1 hr3 hat3 hT3
      have hL3 := hL2'.turn hT3 (fun k e => .inr (.inl e)) hat3 (.inl rfl)
      have hu := h3.src.used
      clear h2 hr3 hat3 hT3 hL2'
      go_wp2_with (at_builtin; refine wpList_push rfl _ _ 23 rfl 3 (.int .i64 0) 8 Try.underlying23 Try.infoInt rfl g2 j c2 _ rfl h3.row2 (.int .i64 (pend ws (m - 1) q : Nat)) rfl rfl (by omega) (by omega) ?_)
      intro g2' c2' w4 hr4 hat4 hT4
      have h4 := h3.push2 hr4 hat4 hT4
      have hL4 := hL3.turn hT4 (fun k e => .inr (.inr (.inl e))) (.inl rfl) hat4
      clear h3 hr4 hat4 hT4 hu hL3
      go_wp2
      go_roundg (n2 - (j + 1))
      case measure => rw [Hk.out]; omega
      case rel =>
        refine ⟨j + 1, g1', c1', g2', c2', L ++ [⟨G, cG, flat (prs ws (m - 1) q)⟩], rfl, by omega, rfl, rfl, by go_num, ?_, ?_, hL4⟩
        · refine Lib.hid ?_
          rw [Hs1.out, List.map_append, HL.out]
          simp [pairsOf]
        · rw [Hs1.out, Hs2.out]
          rw [← Hv.out] at h4
          simpa [goneOf, n64] using h4
    · obtain rfl : n2 = j := by omega
      go_wp2
      go_ret2
      rw [List.take_of_length_le (by rw [HN.out]; exact Nat.le_refl _)] at h1 HL
      have hge := h1.ge
      have hap := h1.apart
      refine ⟨L, g1, c1, g2, c2, rfl, HL.out, h1.row1, h1.row2, ?_, by omega, h1.still⟩
      intro p hp
      obtain ⟨x1, x2, x3, x4, x5⟩ := hL p hp
      exact ⟨x1, x2, x4, x4, x5⟩
end Go.Proofs.Ytlbhfjmcjbjjgaa
