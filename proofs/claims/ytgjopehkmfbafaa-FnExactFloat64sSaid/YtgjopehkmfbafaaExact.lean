/-
  The walk of FnExactFloat64s.
-/
import Derived.Test.YtgjopehkmfbafaaExactC
namespace Go.Proofs.Ytgjopehkmfbafaa
open Go.RowKit
set_option linter.unusedVariables false

theorem Arg.kept {f : Nat → Value} {M bytes : Nat} {w w' : World} {a : Option Addr} {len cap b : Nat} {ws : List Nat} (A : Arg f M bytes w a len cap b ws) (h : Still w w') : Arg f M bytes w' a len cap b ws :=
  ⟨A.size, A.reads.kept h (fun h => h), A.nil, A.le, A.top, A.fit, A.reach, by have := A.lt; have := h.size; omega⟩
theorem Row.toArg {w : World} {g n c : Nat} {ws : List Nat} (r : Row w 36 g n c (ws.map u64)) (hf : ∀ x ∈ ws, x < 18446744073709551616) (hr : n * 8 ≤ 140737488351232) : Arg u64 18446744073709551616 8 w (some ⟨g, 0, Option.none⟩) n c g ws :=
  ⟨r.len, r.reads, (fun h => by cases h), r.le, r.max, hf, hr, .inl r.lt⟩
theorem map_firsts (ws : List Nat) (n : Nat) (h : ws.length = n) : ws.map u64 = firsts (fun i => .int .u64 ((wordAt ws i : Nat) : Int)) n := by
  subst h
  apply List.ext_getElem
  · simp [firsts]
  · intro i h1 h2
    simp only [List.length_map] at h1
    simp [firsts, wordAt, u64, List.getElem?_eq_getElem h1]
theorem Turned.turns {w a b : World} {g : Nat} (h : Still w a) (hT : Turns g a b) (hg : w.heap.size ≤ g) : Still w b := h.then hT (fun k hk e => by subst e; omega)

/-- eqFloat64S of a row of results with another one. -/
theorem eqF (g1 g2 n c1 c2 : Nat) (ws : List Nat) (w : World) (r1 : Row w 38 g1 n c1 (firsts (f64At ws) n)) (r2 : Row w 38 g2 n c2 (firsts (f64At ws) n)) (hm : n < 65536) :
    Calls Try.prog 13 #[.slice (some ⟨g1, 0, none⟩) n c1, .slice (some ⟨g2, 0, none⟩) n c2] w fun e w' => e = .returned (.bool true) ∧ Still w w' :=
  eqFloat64S_any _ _ n c1 c2 g1 g2 (fun i => wordAt ws i % 9007199254740992) w (fun i => Nat.mod_lt _ (by omega)) r1.reads r2.reads (by omega)
theorem eqI (g1 g2 n c1 c2 : Nat) (w : World) (r1 : Row w 3 g1 n c1 (firsts counted n)) (r2 : Row w 3 g2 n c2 (firsts counted n)) (hm : n < 65536) :
    Calls Try.prog 14 #[.slice (some ⟨g1, 0, none⟩) n c1, .slice (some ⟨g2, 0, none⟩) n c2] w fun e w' => e = .returned (.bool true) ∧ Still w w' :=
  eqIntS_any _ _ n c1 c2 g1 g2 (fun i => (i : Int) + 1) w r1.reads r2.reads (by omega)

theorem shape_f (ws : List Nat) (n : Nat) : ∀ v ∈ firsts (f64At ws) n, ∃ q, v = .float .f64 q := by
  intro v hv
  obtain ⟨i, _, rfl⟩ := List.mem_map.1 hv
  exact ⟨_, rfl⟩
theorem shape_i (n : Nat) : ∀ v ∈ firsts counted n, ∃ q, v = .int .i64 q := by
  intro v hv
  obtain ⟨i, _, rfl⟩ := List.mem_map.1 hv
  exact ⟨_, rfl⟩
theorem shape_u (ws : List Nat) : ∀ v ∈ ws.map u64, ∃ q, v = .int .u64 q := by
  intro v hv
  obtain ⟨i, _, rfl⟩ := List.mem_map.1 hv
  exact ⟨_, rfl⟩

set_option maxRecDepth 100000 in
set_option maxHeartbeats 4000000 in
theorem fnExactFloat64s_walk (a0 : Option Addr) (len0 cap0 b0 : Nat) (ws0 : List Nat) (n1 : Nat) (w : World) (A0 : Arg u64 18446744073709551616 8 w a0 len0 cap0 b0 ws0) (l1 : n1 < 65536) :
    Calls Try.prog 3 #[.slice a0 len0 cap0, .int .u16 (n1 : Int)] w fun e w' => e = .returned (.bool true) ∧ Below w.heap.size w w' := by
  have hs0 := A0.small
  by_cases hbig : 1048576 < len0
  · go_enter Try.func3, Try.ntmps3
    go_wp2_with fail
    go_ret
    exact ⟨rfl, Below.refl _ _⟩
  · go_enter Try.func3, Try.ntmps3
    go_wp2_with fail
    refine (toUint64S_any a0 b0 len0 cap0 ws0 _ A0).mono ?_
    rintro e w1 ⟨gA, cA, rfl, rA, hgA, s1⟩
    go_wp2_with fail
    refine (specFloat64s_any _ gA len0 cA ws0 n1 _ (rA.toArg A0.fit A0.reach) l1).mono ?_
    rintro e w2 ⟨gW0, cW0, gW1, cW1, rfl, rW0, rW1, hgW, s2⟩
    have st2 := s1.trans s2
    clear rA
    go_wp2_with fail
    refine (toUint64S_any a0 b0 len0 cap0 ws0 _ (A0.kept st2)).mono ?_
    rintro e w3 ⟨gX, cX, rfl, rX, hgX, s3⟩
    have st3 := st2.trans s3
    have rW03 := rW0.kept s3 (fun h => h)
    have rW13 := rW1.kept s3 (fun h => h)
    have z2 := rW0.lt
    have z2' := rW1.lt
    clear rW0 rW1
    go_wp2_with fail
    refine (float64s_any _ gX len0 cX ws0 n1 _ rX.len A0.fit rX.reads (fun h => by cases h) (by omega) l1).mono ?_
    rintro e w4 ⟨gG0, cG0, gG1, cG1, rfl, rG0, rG1, hgG, s4⟩
    have st4 := st3.trans s4
    have rW04 := rW03.kept s4 (fun h => h)
    have rW14 := rW13.kept s4 (fun h => h)
    have rX4 := rX.kept s4 (fun h => h)
    have z3 := rX.lt
    clear rW03 rW13 rX
    go_wp2_with fail
    refine (eqF gG0 gW0 n1 cG0 cW0 ws0 _ rG0 rW04 l1).mono ?_
    rintro e w5 ⟨rfl, s5⟩
    have st5 := st4.trans s5
    have rW05 := rW04.kept s5 (fun h => h)
    have rW15 := rW14.kept s5 (fun h => h)
    have rX5 := rX4.kept s5 (fun h => h)
    have rG05 := rG0.kept s5 (fun h => h)
    have rG15 := rG1.kept s5 (fun h => h)
    have z4 := rG0.lt
    have z4' := rG1.lt
    clear rW04 rW14 rX4 rG0 rG1
    go_wp2_with fail
    refine (eqI gG1 gW1 n1 cG1 cW1 _ rG15 rW15 l1).mono ?_
    rintro e w6 ⟨rfl, s6⟩
    have st6 := st5.trans s6
    have rW06 := rW05.kept s6 (fun h => h)
    have rW16 := rW15.kept s6 (fun h => h)
    have rX6 := rX5.kept s6 (fun h => h)
    have rG06 := rG05.kept s6 (fun h => h)
    have rG16 := rG15.kept s6 (fun h => h)
    clear rW05 rW15 rX5 rG05 rG15
    go_wp2_with fail
    refine (toUint64S_any a0 b0 len0 cap0 ws0 _ (A0.kept st6)).mono ?_
    rintro e w7 ⟨gY, cY, rfl, rY, hgY, s7⟩
    have st7 := st6.trans s7
    have rW07 := rW06.kept s7 (fun h => h)
    have rW17 := rW16.kept s7 (fun h => h)
    have rX7 := rX6.kept s7 (fun h => h)
    have rG07 := rG06.kept s7 (fun h => h)
    have rG17 := rG16.kept s7 (fun h => h)
    clear rW06 rW16 rX6 rG06 rG16
    have rXf := rX7
    have rYf := rY
    rw [map_firsts ws0 len0 A0.length] at rXf rYf
    go_wp2_with fail
    refine (eqUint64S_any _ _ len0 cX cY gX gY _ _ rXf.reads rYf.reads (by omega)).mono ?_
    rintro e w8 ⟨rfl, s8⟩
    have st8 := st7.trans s8
    have rW08 := rW07.kept s8 (fun h => h)
    have rW18 := rW17.kept s8 (fun h => h)
    have rX8 := rX7.kept s8 (fun h => h)
    have rG08 := rG07.kept s8 (fun h => h)
    have rG18 := rG17.kept s8 (fun h => h)
    clear rW07 rW17 rX7 rG07 rG17 rXf rYf rY
    go_wp2_with fail
    refine (markUint64S_any gX len0 cX 1 _ _ 1 rfl rX8 (shape_u ws0) (by omega) (by omega)).mono ?_
    rintro e w9 ⟨rfl, rX9, s9⟩
    have st9 := st8.turns s9 (by have := st2.size; omega)
    have rW09 := rW08.kept s9 (by omega)
    have rW19 := rW18.kept s9 (by omega)
    have rG09 := rG08.kept s9 (by omega)
    have rG19 := rG18.kept s9 (by omega)
    clear rW08 rW18 rX8 rG08 rG18 rX9
    go_wp2_with fail
    refine (eqF gG0 gW0 n1 cG0 cW0 ws0 _ rG09 rW09 l1).mono ?_
    rintro e w10 ⟨rfl, s10⟩
    have st10 := st9.trans s10
    have rW0x := rW09.kept s10 (fun h => h)
    have rW1x := rW19.kept s10 (fun h => h)
    have rG0x := rG09.kept s10 (fun h => h)
    have rG1x := rG19.kept s10 (fun h => h)
    clear rW09 rW19 rG09 rG19
    go_wp2_with fail
    refine (eqI gG1 gW1 n1 cG1 cW1 _ rG1x rW1x l1).mono ?_
    rintro e w11 ⟨rfl, s11⟩
    have st11 := st10.trans s11
    have rW0y := rW0x.kept s11 (fun h => h)
    have rW1y := rW1x.kept s11 (fun h => h)
    have rG0y := rG0x.kept s11 (fun h => h)
    have rG1y := rG1x.kept s11 (fun h => h)
    clear rW0x rW1x rG0x rG1x
    go_wp2_with fail
    refine (markFloat64S_any gG0 n1 cG0 1 _ _ 1 rfl rG0y (shape_f ws0 n1) (by omega) (by omega)).mono ?_
    rintro e w12 ⟨rfl, rG0z, s12⟩
    have st12 := st11.turns s12 (by have := st3.size; omega)
    have rW0z := rW0y.kept s12 (by omega)
    have rW1z := rW1y.kept s12 (by omega)
    have rG1z := rG1y.kept s12 (by omega)
    clear rW0y rW1y rG0y rG1y
    go_wp2_with fail
    refine (markIntS_any gG1 n1 cG1 (1 + n1) _ _ _ (by omega) rG1z (shape_i n1) (by omega) (by omega)).mono ?_
    rintro e w13 ⟨rfl, rG1a, s13⟩
    have st13 := st12.turns s13 (by have := st3.size; omega)
    have rW0a := rW0z.kept s13 (by omega)
    have rW1a := rW1z.kept s13 (by omega)
    have rG0a := rG0z.kept s13 (by omega)
    clear rW0z rW1z rG0z rG1z
    go_wp2_with fail
    refine (heldFloat64S_any gG0 n1 cG0 1 _ 1 rfl rG0a (by omega) (by omega)).mono ?_
    rintro e w14 ⟨rfl, s14⟩
    go_wp2_with fail
    refine (heldIntS_any gG1 n1 cG1 (1 + n1) _ _ (by omega) (rG1a.kept s14 (fun h => h)) (by omega) (by omega)).mono ?_
    rintro e w15 ⟨rfl, s15⟩
    have s1415 := s14.trans s15
    have st15 := st13.trans s1415
    have rW0b := rW0a.kept s1415 (fun h => h)
    have rW1b := rW1a.kept s1415 (fun h => h)
    have rG0b := rG0a.kept s1415 (fun h => h)
    have rG1b := rG1a.kept s1415 (fun h => h)
    clear rW0a rW1a rG0a rG1a
    go_wp2_with fail
    refine (toUint64S_any a0 b0 len0 cap0 ws0 _ (A0.kept st15)).mono ?_
    rintro e w16 ⟨gZ, cZ, rfl, rZ, hgZ, s16⟩
    have st16 := st15.trans s16
    go_wp2_with fail
    refine (float64s_any _ gZ len0 cZ ws0 n1 _ rZ.len A0.fit rZ.reads (fun h => by cases h) (by omega) l1).mono ?_
    rintro e w17 ⟨gH0, cH0, gH1, cH1, rfl, rH0, rH1, hgH, s17⟩
    have s1617 := s16.trans s17
    have st17 := st15.trans s1617
    have rW0c := rW0b.kept s1617 (fun h => h)
    have rW1c := rW1b.kept s1617 (fun h => h)
    have rG0c := rG0b.kept s1617 (fun h => h)
    have rG1c := rG1b.kept s1617 (fun h => h)
    clear rW0b rW1b rG0b rG1b rZ
    go_wp2_with fail
    refine (eqF gH0 gW0 n1 cH0 cW0 ws0 _ rH0 rW0c l1).mono ?_
    rintro e w18 ⟨rfl, s18⟩
    go_wp2_with fail
    refine (eqI gH1 gW1 n1 cH1 cW1 _ (rH1.kept s18 (fun h => h)) (rW1c.kept s18 (fun h => h)) l1).mono ?_
    rintro e w19 ⟨rfl, s19⟩
    have s1819 := s18.trans s19
    have st19 := st17.trans s1819
    have rG0d := rG0c.kept s1819 (fun h => h)
    have rG1d := rG1c.kept s1819 (fun h => h)
    clear rW0c rW1c rH0 rH1 rG0c rG1c
    go_wp2_with fail
    refine (heldFloat64S_any gG0 n1 cG0 1 _ 1 rfl rG0d (by omega) (by omega)).mono ?_
    rintro e w20 ⟨rfl, s20⟩
    go_wp2_with fail
    refine (heldIntS_any gG1 n1 cG1 (1 + n1) _ _ (by omega) (rG1d.kept s20 (fun h => h)) (by omega) (by omega)).mono ?_
    rintro e w21 ⟨rfl, s21⟩
    have st21 := (st19.trans s20).trans s21
    go_wp2_with fail
    go_ret
    exact ⟨rfl, st21.below (Nat.le_refl _) (fun k h => h.elim)⟩
end Go.Proofs.Ytgjopehkmfbafaa
