/-
  The reference's Uint64Ns.
-/
import Derived.Test.YtpffccojlkkfkaaSpecB
import Derived.Test.YtpffccojlkkfkaaDuo
import Derived.Test.YtpffccojlkkfkaaFin
namespace Go.Proofs.Ytpffccojlkkfkaa
open Go.RowKit
set_option linter.unusedVariables false

theorem word_val (x : Nat) : u64 x = .int .u64 (x : Int) := rfl

set_option maxRecDepth 100000 in
set_option maxHeartbeats 2000000 in
theorem specUint64Ns_any (a : Option Addr) (b n c : Nat) (ws : List Nat) (a2 : Option Addr) (b2 n2 c2 : Nat) (ns : List Nat) (w : World) (hn : ws.length = n) (hf : ∀ x ∈ ws, x < 18446744073709551616) (hread : Reads w a b (ws.map u64)) (hlen : n ≤ 17592186043904)
    (hn2 : ns.length = n2) (hb : ∀ x ∈ ns, 1 ≤ x ∧ x < 18446744073709551616) (hread2 : Reads w a2 b2 (ns.map u64)) (hlen2 : n2 ≤ 17592186043904) :
    Calls Try.prog 24 #[.slice a n c, .slice a2 n2 c2] w (TwoPost w 26 3 n2 (vals .u64 (draws ws 0 ns)) (uses (draws ws 0 ns))) := by
  have h0 := Duo.start w 26 3
  have HN := Lib.hid hn
  have HN2 := Lib.hid hn2
  clear hn hn2
  go_enter Try.func24, Try.ntmps24
  go_wp2_with fail
  go_loopg [6, 7, 8, 15] n2 (fun k o u q i wr => ∃ j g1 c1 g2 c2 : Nat, k = n2 - j ∧ j ≤ n2 ∧ o = .slice (some ⟨g1, 0, none⟩) j c1 ∧ u = .slice (some ⟨g2, 0, none⟩) j c2 ∧ q = .int .i64 (drawsEnd ws 0 (ns.take j) : Nat) ∧ i = .int .i64 (j : Int) ∧ Duo w wr 26 g1 j c1 (vals .u64 (draws ws 0 (ns.take j))) 3 g2 j c2 (uses (draws ws 0 (ns.take j))))
  case atStart => exact ⟨0, _, _, _, _, rfl, Nat.zero_le _, rfl, rfl, rfl, rfl, h0⟩
  case round =>
    obtain ⟨j, g1, c1, g2, c2, hk, hj, rfl, rfl, rfl, rfl, h1⟩ := hrel
    have Hk := Lib.hid hk
    clear hk h0
    by_cases hlt : j < n2
    · have hjn : j < ns.length := by rw [HN2.out]; exact hlt
      obtain ⟨off, rfl, hc⟩ := hread2.at (i := j) (by simpa using hjn)
      have hd : wr.cell? ⟨b2, off + j, none⟩ = some (.int .u64 (ns[j] : Nat)) := h1.still.cell (by rw [hc]; simp [word_val]) (fun h => h)
      obtain ⟨hb1, hb2⟩ := hb ns[j] (List.getElem_mem hjn)
      obtain ⟨f1, f2, f3, f4⟩ := fin_spec ws ns[j] (drawsEnd ws 0 (ns.take j)) hb1 hb2
      obtain ⟨u1, u2⟩ := used_small ws ns j (by rw [HN.out]; omega) (by rw [HN2.out]; omega)
      have u3 := u2 ns[j]
      obtain ⟨hsn1, hsn2⟩ := draws_take ws ns j hjn
      have Hs1 := Lib.hid hsn1
      have Hs2 := Lib.hid hsn2
      clear hsn1 hsn2 u2 hc
      generalize ns[j] = m at *
      generalize drawsEnd ws 0 (ns.take j) = q at *
      generalize fin ws m q = p at *
      obtain ⟨v, u⟩ := p
      simp only at f1 f2 f3 f4 u3
      have F2 := Lib.hid f2
      have F3 := Lib.hid f3
      have F4 := Lib.hid f4
      clear f2 f3 f4
      have hreadw := hread.kept h1.still (fun h => h)
      have HR := Lib.hid hreadw
      clear hreadw
      go_wp2_with fail
      clear hd
      obtain ⟨wo, rfl⟩ : ∃ wo : World, wo = wr := ⟨_, rfl⟩
      go_loopg [8] (u - q) (fun k at' wr => ∃ t : Nat, k = u - t ∧ q ≤ t ∧ t ≤ u - 1 ∧ at' = .int .i64 (t : Int) ∧ wr = wo)
      case atStart => exact ⟨q, rfl, Nat.le_refl _, by omega, rfl, rfl⟩
      case round =>
        obtain ⟨t, hk, ht1, ht2, rfl, rfl⟩ := hrel
        have Hk2 := Lib.hid hk
        clear hk
        have hx := wordAt_lt ws t hf
        by_cases hin : t < u - 1
        · have hth := F2.out t ht1 hin
          have Hth := Lib.hid hth
          clear hth
          go_wp2_with fail
          refine (specWordAt_any a b n c ws t _ HN.out HR.out).mono ?_
          rintro e w' ⟨rfl, rfl⟩
          go_wp2_with fail
          refine (specThrown_any _ m _ hx hb1 hb2).mono ?_
          rintro e w' ⟨rfl, rfl⟩
          rw [Hth.out]
          go_wp2_with fail
          go_roundg (u - (t + 1))
          case measure => rw [Hk2.out]; omega
          case rel => exact ⟨t + 1, rfl, by omega, by omega, by go_num, rfl⟩
        · obtain rfl : u - 1 = t := by omega
          go_wp2_with fail
          refine (specWordAt_any a b n c ws (u - 1) _ HN.out HR.out).mono ?_
          rintro e w' ⟨rfl, rfl⟩
          go_wp2_with fail
          refine (specThrown_any _ m _ hx hb1 hb2).mono ?_
          rintro e w' ⟨rfl, rfl⟩
          rw [F3.out]
          go_wp2_with fail
          refine (specWordAt_any a b n c ws (u - 1) _ HN.out HR.out).mono ?_
          rintro e w' ⟨rfl, rfl⟩
          go_wp2_with fail
          refine (specDrawn_any _ m _ hx hb1 hb2).mono ?_
          rintro e w' ⟨rfl, rfl⟩
          rw [← F4.out]
          have hu1 : ((u - 1 : Nat) : Int) + 1 = (u : Int) := by omega
          go_wp2_with (at_builtin; refine wpList_push rfl _ _ 22 rfl 26 (.int .u64 0) 8 Try.underlying22 Try.infoU64 rfl g1 j c1 _ rfl h1.row1 (.int .u64 (v : Nat)) rfl rfl (by omega) (by omega) ?_)
          intro g1' c1' w3 hr3 hat3 hT3
          have h3 := h1.push1 hr3 hat3 hT3
          clear h1 hr3 hat3 hT3
          go_wp2_with (at_builtin; refine wpList_push rfl _ _ 24 rfl 3 (.int .i64 0) 8 Try.underlying24 Try.infoInt rfl g2 j c2 _ rfl h3.row2 (.int .i64 (u : Nat)) rfl rfl (by omega) (by omega) ?_)
          intro g2' c2' w4 hr4 hat4 hT4
          have h4 := h3.push2 hr4 hat4 hT4
          clear h3 hr4 hat4 hT4
          go_wp2
          go_roundg (n2 - (j + 1))
          case measure => rw [Hk.out]; omega
          case rel =>
            refine ⟨j + 1, g1', c1', g2', c2', rfl, by omega, rfl, rfl, by rw [Hs2.out], by go_num, ?_⟩
            rw [Hs1.out]
            simpa [vals, uses] using h4
    · obtain rfl : n2 = j := by omega
      go_wp2
      go_ret2
      have := h1.post
      rw [List.take_of_length_le (by rw [HN2.out]; exact Nat.le_refl _)] at this
      exact this
end Go.Proofs.Ytpffccojlkkfkaa
