/-
  The walk of FnSwapsTellApart.
-/
import Derived.Test.YtlbhfjmcjbjjgaaHelpC
import Derived.Test.YtlbhfjmcjbjjgaaSwaps
namespace Go.Proofs.Ytlbhfjmcjbjjgaa
open Go.RowKit
set_option linter.unusedVariables false

theorem tell_apart (ws us : List Nat) (n : Nat) (hf : ∀ x ∈ ws, x < 18446744073709551616) (hg : ∀ x ∈ us, x < 18446744073709551616) :
    (decide (permOf ws n 0 = permOf us n 0) == decide (flat (prs ws (n - 1) 0) = flat (prs us (n - 1) 0))) = true := by
  have h : permOf ws n 0 = permOf us n 0 ↔ flat (prs ws (n - 1) 0) = flat (prs us (n - 1) 0) := by
    constructor
    · intro e
      rw [swps_inj (List.range n) (n - 1) _ _ (prs_fall ws _ 0 hf) (prs_fall us _ 0 hg) (once_range n) (by rw [List.length_range]; omega) e]
    · intro e
      unfold permOf
      rw [flat_inj e]
  simp [h]

set_option maxHeartbeats 1000000 in
theorem fnSwapsTellApart_walk (a0 : Option Addr) (len0 cap0 b0 : Nat) (ws0 : List Nat) (a1 : Option Addr) (len1 cap1 b1 : Nat) (ws1 : List Nat) (n2 : Nat) (w : World) (A0 : Arg u64 18446744073709551616 8 w a0 len0 cap0 b0 ws0) (A1 : Arg u64 18446744073709551616 8 w a1 len1 cap1 b1 ws1) (l2 : n2 < 256) :
    Calls Try.prog 9 #[.slice a0 len0 cap0, .slice a1 len1 cap1, .int .u8 (n2 : Int)] w fun e w' => e = .returned (.bool true) ∧ Below w.heap.size w w' := by
  have hs0 := A0.small
  have hs1 := A1.small
  have hand := and31_nat n2
  have hm : n2 % 32 < 32 := Nat.mod_lt _ (by omega)
  have htell := Lib.hid (tell_apart ws0 ws1 (n2 % 32) A0.fit A1.fit)
  have hc1 := Lib.hid (one_any a0 b0 len0 cap0 ws0 (n2 % 32) w A0.size A0.fit A0.reads A0.nil (by omega) (by omega))
  generalize n2 % 32 = m at *
  go_enter Try.func9, Try.ntmps9
  go_wp2_with fail
  refine hc1.out.mono ?_
  rintro e w1 ⟨g1, d1, g2, d2, rfl, hr1, hr2, hge1, hst1⟩
  have hc2 := Lib.hid (one_any a1 b1 len1 cap1 ws1 m w1 A1.size A1.fit (A1.reads.kept hst1 (fun h => h)) A1.nil (by omega) (by omega))
  clear hc1
  go_wp2_with fail
  refine hc2.out.mono ?_
  rintro e w2 ⟨g3, d3, g4, d4, rfl, hr3, hr4, hge2, hst2⟩
  clear hc2
  have hl := prs_length ws0 (m - 1) 0
  have hl1 := prs_length ws1 (m - 1) 0
  have hcA := Lib.hid (sameNats_any (some ⟨g1, 0, none⟩) (some ⟨g3, 0, none⟩) m d1 m d3 g1 g3 _ _ w2 (permOf_length ..) (permOf_length ..) (hr1.kept hst2 (fun h => h)).reads hr3.reads (by omega))
  have hq : ∀ q, Hid (Calls Try.prog 12 #[.slice (some ⟨g2, 0, none⟩) (2 * (m - 1)) d2, .slice (some ⟨g4, 0, none⟩) (2 * (m - 1)) d4] (w2.drewN q) fun e w' => e = .returned (.bool (decide (flat (prs ws0 (m - 1) 0) = flat (prs ws1 (m - 1) 0)))) ∧ ∃ k, w' = (w2.drewN q).drewN k) := fun q =>
    sameNats_any (some ⟨g2, 0, none⟩) (some ⟨g4, 0, none⟩) (2 * (m - 1)) d2 (2 * (m - 1)) d4 g2 g4 _ _ (w2.drewN q) (by rw [flat_length, hl]) (by rw [flat_length, hl1]) ((hr2.kept hst2 (fun h => h)).kept ((Turned.refl (fun _ => False) _).drewN q) (fun h => h)).reads (hr4.kept ((Turned.refl (fun _ => False) _).drewN q) (fun h => h)).reads (by omega)
  clear hl hl1 hr1 hr2 hr3 hr4
  generalize decide (permOf ws0 m 0 = permOf ws1 m 0) = x at *
  generalize decide (flat (prs ws0 (m - 1) 0) = flat (prs ws1 (m - 1) 0)) = y at *
  generalize pend ws0 (m - 1) 0 = used0 at *
  generalize pend ws1 (m - 1) 0 = used1 at *
  generalize 2 * (m - 1) = mm at *
  go_wp2_with fail
  refine hcA.out.mono ?_
  rintro e w3 ⟨rfl, q, rfl⟩
  have hcB := hq q
  have hst3 : Still w2 (w2.drewN q) := (Turned.refl _ _).drewN q
  clear hq hcA
  generalize w2.drewN q = w3 at *
  go_wp2_with fail
  refine hcB.out.mono ?_
  rintro e w4 ⟨rfl, q2, rfl⟩
  have hxy := htell.out
  go_wp2
  go_ret
  refine ⟨?_, (((hst1.trans hst2).trans hst3).drewN q2).below (Nat.le_refl _) (fun k h => h.elim)⟩
  first | rw [hxy] | simp_all
end Go.Proofs.Ytlbhfjmcjbjjgaa
