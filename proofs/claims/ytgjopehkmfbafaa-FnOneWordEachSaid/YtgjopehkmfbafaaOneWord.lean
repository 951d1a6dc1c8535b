/-
  The walk of FnOneWordEach.
-/
import Derived.Test.YtgjopehkmfbafaaFloatBits
namespace Go.Proofs.Ytgjopehkmfbafaa
open Go.RowKit
set_option linter.unusedVariables false

theorem one_counted : firsts counted 1 = [(1 : Int)].map i64 := rfl
theorem one_word (x : Nat) : wordAt [x] 0 = x := rfl
theorem one_row (w : World) (x : Nat) : Row (w.alloc (.cells #[.int .u64 (x : Int)] 36)) 36 w.heap.size 1 1 ([x].map u64) := Row.new w 36 #[.int .u64 (x : Int)] (show 1 ≤ maxLen by decide)
theorem one_int (w : World) : Row (w.alloc (.cells #[.int .i64 1] 3)) 3 w.heap.size 1 1 ([(1 : Int)].map i64) := Row.new w 3 #[.int .i64 1] (show 1 ≤ maxLen by decide)

theorem float64s_one (x : Nat) (w : World) (hx : x < 18446744073709551616) :
    Calls Try.prog 12 #[.slice (some ⟨w.heap.size, 0, none⟩) 1 1, .int .u16 1] (w.alloc (.cells #[.int .u64 (x : Int)] 36)) (TwoPost (w.alloc (.cells #[.int .u64 (x : Int)] 36)) 38 3 1 (firsts (f64At [x]) 1) (firsts counted 1)) :=
  float64s_any _ w.heap.size 1 1 [x] 1 _ rfl (by simpa using hx) (one_row w x).reads (fun h => by cases h) (by omega) (by omega)
theorem float32s_one (x : Nat) (w : World) (hx : x < 18446744073709551616) :
    Calls Try.prog 22 #[.slice (some ⟨w.heap.size, 0, none⟩) 1 1, .int .u16 1] (w.alloc (.cells #[.int .u64 (x : Int)] 36)) (TwoPost (w.alloc (.cells #[.int .u64 (x : Int)] 36)) 42 3 1 (firsts (f32At [x]) 1) (firsts counted 1)) :=
  float32s_any _ w.heap.size 1 1 [x] 1 _ rfl (by simpa using hx) (one_row w x).reads (fun h => by cases h) (by omega) (by omega)
theorem int64s_one (x : Nat) (w : World) (hx : x < 18446744073709551616) :
    Calls Try.prog 23 #[.slice (some ⟨w.heap.size, 0, none⟩) 1 1, .int .u16 1] (w.alloc (.cells #[.int .u64 (x : Int)] 36)) (TwoPost (w.alloc (.cells #[.int .u64 (x : Int)] 36)) 2 3 1 (firsts (i64At [x]) 1) (firsts counted 1)) :=
  int64s_any _ w.heap.size 1 1 [x] 1 _ rfl (by simpa using hx) (one_row w x).reads (fun h => by cases h) (by omega) (by omega)

theorem sameOne (g c : Nat) (w : World) (h : Row w 3 g 1 c ([(1 : Int)].map i64)) :
    Calls Try.prog 21 #[.slice (some ⟨g, 0, none⟩) 1 c, .slice (some ⟨w.heap.size, 0, none⟩) 1 1] (w.alloc (.cells #[.int .i64 1] 3)) fun e w' => e = .returned (.bool true) ∧ Still (w.alloc (.cells #[.int .i64 1] 3)) w' := by
  have h' := h.kept ((Turned.refl (fun _ => False) w).alloc (.cells #[.int .i64 1] 3)) (fun h => h)
  refine (sameCounts_any _ _ 1 c 1 1 g w.heap.size [1] [1] _ h'.len (one_int w).len h'.reads (one_int w).reads (by omega)).mono ?_
  rintro e w' ⟨rfl, hT⟩
  exact ⟨by simp, hT⟩

set_option maxRecDepth 100000 in
set_option maxHeartbeats 4000000 in
theorem fnOneWordEach_walk (a0 : Option Addr) (len0 cap0 b0 : Nat) (ws0 : List Nat) (w : World) (A0 : Arg u64 18446744073709551616 8 w a0 len0 cap0 b0 ws0) :
    Calls Try.prog 6 #[.slice a0 len0 cap0] w fun e w' => e = .returned (.bool true) ∧ Below w.heap.size w w' := by
  have hs0 := A0.small
  have hle := A0.le
  have htop := A0.top
  unfold maxLen at htop
  obtain ⟨cnt, hcnt1, hcnt2, _, hmin⟩ := min40 len0 20 (by omega)
  go_enter Try.func6, Try.ntmps6
  go_wp2_with fail
  refine (float64s_any a0 b0 len0 cap0 ws0 cnt _ A0.size A0.fit A0.reads A0.nil (by omega) (by omega)).mono ?_
  rintro e w1 ⟨ga, ca, gp, cp, rfl, ra, rp, hga, hT1⟩
  go_wp2_with fail
  refine (float32s_any a0 b0 len0 cap0 ws0 cnt _ A0.size A0.fit (A0.reads.kept hT1 (fun h => h)) A0.nil (by omega) (by omega)).mono ?_
  rintro e w2 ⟨gb, cb, gq, cq, rfl, rb, rq, hgb, hT2⟩
  have hst2 := hT1.trans hT2
  go_wp2_with fail
  refine (int64s_any a0 b0 len0 cap0 ws0 cnt _ A0.size A0.fit (A0.reads.kept hst2 (fun h => h)) A0.nil (by omega) (by omega)).mono ?_
  rintro e w3 ⟨gc, cc, gr, cr, rfl, rc, rr, hgc, hT3⟩
  have hst3 := hst2.trans hT3
  have ra3 := (ra.kept hT2 (fun h => h)).kept hT3 (fun h => h)
  have rb3 := rb.kept hT3 (fun h => h)
  clear ra rp rb rq rr hT1 hT2 hT3 hst2
  go_wp2_with fail
  go_loopg [62] cnt (fun k i wr => ∃ j : Nat, k = cnt - j ∧ j ≤ cnt ∧ i = .int .i64 (j : Int) ∧ Still w3 wr)
  case atStart => exact ⟨0, rfl, Nat.zero_le _, rfl, Turned.refl _ _⟩
  case round =>
    obtain ⟨j, hk, hj, rfl, hst⟩ := hrel
    have Hk := Lib.hid hk
    clear hk
    by_cases hlt : j < cnt
    · have hx := A0.word j
      obtain ⟨off0, rfl, hc0⟩ := A0.at (j := j) (by omega)
      have hd0 := (hst3.trans hst).cell hc0 (fun h => h)
      have ra4 := ra3.kept hst (fun h => h)
      have rb4 := rb3.kept hst (fun h => h)
      have rc4 := rc.kept hst (fun h => h)
      clear hc0
      go_wp2_with fail
      refine (float64s_one (wordAt ws0 j) _ hx).mono ?_
      rintro e w5 ⟨g1, c1, g2, c2, rfl, r1, r2, hg5, hT5⟩
      have hst5 := ((Turned.refl (fun _ => False) wr).alloc (.cells #[.int .u64 (wordAt ws0 j : Int)] 36)).trans hT5
      go_wp2_with fail
      refine (float32s_one (wordAt ws0 j) _ hx).mono ?_
      rintro e w6 ⟨g3, c3, g4, c4, rfl, r3, r4, hg6, hT6⟩
      have hst6 := ((Turned.refl (fun _ => False) w5).alloc (.cells #[.int .u64 (wordAt ws0 j : Int)] 36)).trans hT6
      go_wp2_with fail
      refine (int64s_one (wordAt ws0 j) _ hx).mono ?_
      rintro e w7 ⟨g5, c5, g6, c6, rfl, r5, r6, hg7, hT7⟩
      have hst7 := ((Turned.refl (fun _ => False) w6).alloc (.cells #[.int .u64 (wordAt ws0 j : Int)] 36)).trans hT7
      have hall := (hst5.trans hst6).trans hst7
      have k1 : w7.cell? ⟨g1, 0, none⟩ = some (.float .f64 (d53 (wordAt ws0 j % 9007199254740992))) := ((r1.kept hst6 (fun h => h)).kept hst7 (fun h => h)).cell rfl
      have k2 : w7.cell? ⟨ga, j, none⟩ = some (.float .f64 (d53 (wordAt ws0 j % 9007199254740992))) := (ra4.kept hall (fun h => h)).cell (firsts_get _ _ _ hlt)
      have k3 : w7.cell? ⟨g3, 0, none⟩ = some (.float .f32 (s24 (wordAt ws0 j / 4294967296 % 16777216))) := (r3.kept hst7 (fun h => h)).cell rfl
      have k4 : w7.cell? ⟨gb, j, none⟩ = some (.float .f32 (s24 (wordAt ws0 j / 4294967296 % 16777216))) := (rb4.kept hall (fun h => h)).cell (firsts_get _ _ _ hlt)
      have k5 : w7.cell? ⟨g5, 0, none⟩ = some (.int .i64 (wordAt ws0 j % 9223372036854775808 : Nat)) := r5.cell rfl
      have k6 : w7.cell? ⟨gc, j, none⟩ = some (.int .i64 (wordAt ws0 j % 9223372036854775808 : Nat)) := (rc4.kept hall (fun h => h)).cell (firsts_get _ _ _ hlt)
      have q1 : (FloatKind.f64.format.order (d53 (wordAt ws0 j % 9007199254740992)) (d53 (wordAt ws0 j % 9007199254740992)) != some .eq) = false := by rw [order_f64 _ _ (Nat.mod_lt _ (by omega)) (Nat.mod_lt _ (by omega))]; simp
      have q2 : (FloatKind.f32.format.order (s24 (wordAt ws0 j / 4294967296 % 16777216)) (s24 (wordAt ws0 j / 4294967296 % 16777216)) != some .eq) = false := by rw [order_f32 _ _ (Nat.mod_lt _ (by omega)) (Nat.mod_lt _ (by omega))]; simp
      have s2 := (r2.kept hst6 (fun h => h)).kept hst7 (fun h => h)
      have s4 := r4.kept hst7 (fun h => h)
      rw [one_counted] at s2 s4 r6
      have hstw := hst.trans hall
      clear r1 r2 r3 r4 r5 hT5 hT6 hT7 hst5 hst6 hst7 hall hd0 ra4 rb4 rc4 hst
      generalize wordAt ws0 j % 9007199254740992 = m1 at *
      generalize wordAt ws0 j / 4294967296 % 16777216 = m2 at *
      generalize wordAt ws0 j % 9223372036854775808 = m3 at *
      go_wp2_with fail
      go_quiet (fail)
      have hst8 := (Turned.refl (fun _ => False) w7).drewN nq
      generalize w7.drewN nq = w8 at *
      have s2' := s2.kept hst8 (fun h => h)
      have s4' := s4.kept hst8 (fun h => h)
      have s6' := r6.kept hst8 (fun h => h)
      have hstw8 := hstw.trans hst8
      clear k1 k2 k3 k4 k5 k6 q1 q2 s2 s4 r6 hst8 hstw
      go_wp2_with fail
      refine (sameOne g2 c2 _ s2').mono ?_
      rintro e w9 ⟨rfl, hT9⟩
      have hst9 := ((Turned.refl (fun _ => False) w8).alloc (.cells #[.int .i64 1] 3)).trans hT9
      go_wp2_with fail
      refine (sameOne g4 c4 _ (s4'.kept hst9 (fun h => h))).mono ?_
      rintro e w10 ⟨rfl, hT10⟩
      have hst10 := ((Turned.refl (fun _ => False) w9).alloc (.cells #[.int .i64 1] 3)).trans hT10
      go_wp2_with fail
      refine (sameOne g6 c6 _ ((s6'.kept hst9 (fun h => h)).kept hst10 (fun h => h))).mono ?_
      rintro e w11 ⟨rfl, hT11⟩
      have hst11 := ((Turned.refl (fun _ => False) w10).alloc (.cells #[.int .i64 1] 3)).trans hT11
      go_wp2_with fail
      go_roundg (cnt - (j + 1))
      case measure => rw [Hk.out]; omega
      case rel => exact ⟨j + 1, rfl, by omega, by go_num, ((hstw8.trans hst9).trans hst10).trans hst11⟩
    · go_wp2_with fail
      go_ret
      exact ⟨rfl, (hst3.trans hst).below (Nat.le_refl _) (fun k h => h.elim)⟩
end Go.Proofs.Ytgjopehkmfbafaa
