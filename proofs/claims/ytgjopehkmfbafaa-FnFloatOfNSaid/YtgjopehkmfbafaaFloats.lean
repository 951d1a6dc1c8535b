/-
  impl.Float64s and its kin: one word for each call.
-/
import Derived.Test.YtgjopehkmfbafaaTwo
import Derived.Test.YtgjopehkmfbafaaOnes
import Derived.Deep.LoopGhost
namespace Go.Proofs.Ytgjopehkmfbafaa
open Go.RowKit
set_option linter.unusedVariables false

/-- The first n of something that each index gives. -/
def firsts (f : Nat → Value) (n : Nat) : List Value := (List.range n).map f
theorem firsts_succ (f : Nat → Value) (n : Nat) : firsts f (n + 1) = firsts f n ++ [f n] := by simp [firsts, List.range_succ]
theorem firsts_length (f : Nat → Value) (n : Nat) : (firsts f n).length = n := by simp [firsts]
/-- So many words are used behind a call. -/
def counted (i : Nat) : Value := .int .i64 ((i : Int) + 1)

theorem Try.infoF64 : (Try.prog.info? 38).map (fun i => (i.zero, i.size, i.bytes)) = some (some (.float .f64 0), 1, 8) := by kernel_rfl
/-- What Float64s gives of the word with an index. -/
def f64At (ws : List Nat) (i : Nat) : Value := .float .f64 (d53 (wordAt ws i % 9007199254740992))

set_option maxHeartbeats 1000000 in
theorem float64s_any (a : Option Addr) (b n c : Nat) (ws : List Nat) (cnt : Nat) (w : World) (hn : (ws.map u64).length = n) (hf : ∀ x ∈ ws, x < 18446744073709551616) (hread : Reads w a b (ws.map u64)) (hnil : a = none → c = 0) (hlen : n * 8 ≤ 140737488355328) (hcnt : cnt < 65536) :
    Calls Try.prog 12 #[.slice a n c, .int .u16 (cnt : Int)] w (TwoPost w 38 3 cnt (firsts (f64At ws) cnt) (firsts counted cnt)) := by
  have hread' : Reads ((w.alloc (.cells #[] 38)).alloc (.cells #[] 3)) a b (ws.map u64) := hread.kept (((Turned.refl (fun _ => False) w).alloc _).alloc _) (fun h => h)
  go_enter Try.func12, Try.ntmps12
  go_wp2_with fail
  refine (over_any a b n c ws _ hn hf hread' hnil hlen).mono ?_
  rintro e w1 ⟨r, s, g, cap, rfl, hsrc, hge, hT⟩
  have h0 : Two w w1 r s g cap ws 0 38 w.heap.size 0 0 [] 3 (w.heap.size + 1) 0 0 [] := Two.start hsrc hge hT
  clear hsrc hge hT hread hread'
  go_wp2_with fail
  go_loopg [6, 7, 18] cnt (fun k o u i wr => ∃ j g1 c1 g2 c2 : Nat, k = cnt - j ∧ j ≤ cnt ∧ o = .slice (some ⟨g1, 0, none⟩) j c1 ∧ u = .slice (some ⟨g2, 0, none⟩) j c2 ∧ i = .int .u16 (j : Int) ∧ Two w wr r s g cap ws j 38 g1 j c1 (firsts (f64At ws) j) 3 g2 j c2 (firsts counted j))
  case atStart => exact ⟨0, _, _, _, _, rfl, Nat.zero_le _, rfl, rfl, rfl, h0⟩
  case round =>
    obtain ⟨j, g1, c1, g2, c2, hk, hj, rfl, rfl, rfl, h1⟩ := hrel
    have Hk := Lib.hid hk
    clear hk h0
    by_cases hlt : j < cnt
    · go_wp2_with fail
      refine (float64_any r s g cap j ws _ h1.src (by omega)).mono ?_
      rintro e w2 ⟨rfl, hs2, hT2⟩
      have h2 := h1.draw hs2 hT2
      clear h1 hs2 hT2
      go_wp2_with (at_builtin; refine wpList_push rfl _ _ 24 rfl 38 (.float .f64 0) 8 Try.underlying24 Try.infoF64 rfl g1 j c1 _ rfl h2.row1 (f64At ws j) rfl rfl (by omega) (by omega) ?_)
      intro g1' c1' w3 hr3 hat3 hT3
      have h3 := h2.push1 hr3 hat3 hT3
      rw [← firsts_succ] at h3
      have hu := h3.src.used
      clear h2 hr3 hat3 hT3
      go_wp2_with (at_builtin; refine wpList_push rfl _ _ 25 rfl 3 (.int .i64 0) 8 Try.underlying25 Try.infoInt rfl g2 j c2 _ rfl h3.row2 (counted j) rfl rfl (by omega) (by omega) ?_)
      intro g2' c2' w4 hr4 hat4 hT4
      have h4 := h3.push2 hr4 hat4 hT4
      rw [← firsts_succ] at h4
      clear h3 hr4 hat4 hT4 hu
      go_wp2
      go_roundg (cnt - (j + 1))
      case measure => rw [Hk.out]; omega
      case rel => exact ⟨j + 1, g1', c1', g2', c2', rfl, by omega, rfl, rfl, by go_num, h4⟩
    · obtain rfl : j = cnt := by omega
      go_wp2
      go_ret2
      exact h1.post

theorem Try.infoF32 : (Try.prog.info? 42).map (fun i => (i.zero, i.size, i.bytes)) = some (some (.float .f32 0), 1, 4) := by kernel_rfl
/-- What Float32s gives of the word with an index. -/
def f32At (ws : List Nat) (i : Nat) : Value := .float .f32 (s24 (wordAt ws i / 4294967296 % 16777216))

set_option maxHeartbeats 1000000 in
theorem float32s_any (a : Option Addr) (b n c : Nat) (ws : List Nat) (cnt : Nat) (w : World) (hn : (ws.map u64).length = n) (hf : ∀ x ∈ ws, x < 18446744073709551616) (hread : Reads w a b (ws.map u64)) (hnil : a = none → c = 0) (hlen : n * 8 ≤ 140737488355328) (hcnt : cnt < 65536) :
    Calls Try.prog 22 #[.slice a n c, .int .u16 (cnt : Int)] w (TwoPost w 42 3 cnt (firsts (f32At ws) cnt) (firsts counted cnt)) := by
  have hread' : Reads ((w.alloc (.cells #[] 42)).alloc (.cells #[] 3)) a b (ws.map u64) := hread.kept (((Turned.refl (fun _ => False) w).alloc _).alloc _) (fun h => h)
  go_enter Try.func22, Try.ntmps22
  go_wp2_with fail
  refine (over_any a b n c ws _ hn hf hread' hnil hlen).mono ?_
  rintro e w1 ⟨r, s, g, cap, rfl, hsrc, hge, hT⟩
  have h0 : Two w w1 r s g cap ws 0 42 w.heap.size 0 0 [] 3 (w.heap.size + 1) 0 0 [] := Two.start hsrc hge hT
  clear hsrc hge hT hread hread'
  go_wp2_with fail
  go_loopg [6, 7, 18] cnt (fun k o u i wr => ∃ j g1 c1 g2 c2 : Nat, k = cnt - j ∧ j ≤ cnt ∧ o = .slice (some ⟨g1, 0, none⟩) j c1 ∧ u = .slice (some ⟨g2, 0, none⟩) j c2 ∧ i = .int .u16 (j : Int) ∧ Two w wr r s g cap ws j 42 g1 j c1 (firsts (f32At ws) j) 3 g2 j c2 (firsts counted j))
  case atStart => exact ⟨0, _, _, _, _, rfl, Nat.zero_le _, rfl, rfl, rfl, h0⟩
  case round =>
    obtain ⟨j, g1, c1, g2, c2, hk, hj, rfl, rfl, rfl, h1⟩ := hrel
    have Hk := Lib.hid hk
    clear hk h0
    by_cases hlt : j < cnt
    · go_wp2_with fail
      refine (float32_any r s g cap j ws _ h1.src (by omega)).mono ?_
      rintro e w2 ⟨rfl, hs2, hT2⟩
      have h2 := h1.draw hs2 hT2
      clear h1 hs2 hT2
      go_wp2_with (at_builtin; refine wpList_push rfl _ _ 39 rfl 42 (.float .f32 0) 4 Try.underlying39 Try.infoF32 rfl g1 j c1 _ rfl h2.row1 (f32At ws j) rfl rfl (by omega) (by omega) ?_)
      intro g1' c1' w3 hr3 hat3 hT3
      have h3 := h2.push1 hr3 hat3 hT3
      rw [← firsts_succ] at h3
      have hu := h3.src.used
      clear h2 hr3 hat3 hT3
      go_wp2_with (at_builtin; refine wpList_push rfl _ _ 25 rfl 3 (.int .i64 0) 8 Try.underlying25 Try.infoInt rfl g2 j c2 _ rfl h3.row2 (counted j) rfl rfl (by omega) (by omega) ?_)
      intro g2' c2' w4 hr4 hat4 hT4
      have h4 := h3.push2 hr4 hat4 hT4
      rw [← firsts_succ] at h4
      clear h3 hr4 hat4 hT4 hu
      go_wp2
      go_roundg (cnt - (j + 1))
      case measure => rw [Hk.out]; omega
      case rel => exact ⟨j + 1, g1', c1', g2', c2', rfl, by omega, rfl, rfl, by go_num, h4⟩
    · obtain rfl : j = cnt := by omega
      go_wp2
      go_ret2
      exact h1.post

theorem Try.infoU32 : (Try.prog.info? 55).map (fun i => (i.zero, i.size, i.bytes)) = some (some (.int .u32 0), 1, 4) := by kernel_rfl
/-- What Uint32s gives of the word with an index. -/
def u32At (ws : List Nat) (i : Nat) : Value := .int .u32 (wordAt ws i / 4294967296 : Nat)

set_option maxHeartbeats 1000000 in
theorem uint32s_any (a : Option Addr) (b n c : Nat) (ws : List Nat) (cnt : Nat) (w : World) (hn : (ws.map u64).length = n) (hf : ∀ x ∈ ws, x < 18446744073709551616) (hread : Reads w a b (ws.map u64)) (hnil : a = none → c = 0) (hlen : n * 8 ≤ 140737488355328) (hcnt : cnt < 65536) :
    Calls Try.prog 24 #[.slice a n c, .int .u16 (cnt : Int)] w (TwoPost w 55 3 cnt (firsts (u32At ws) cnt) (firsts counted cnt)) := by
  have hread' : Reads ((w.alloc (.cells #[] 55)).alloc (.cells #[] 3)) a b (ws.map u64) := hread.kept (((Turned.refl (fun _ => False) w).alloc _).alloc _) (fun h => h)
  go_enter Try.func24, Try.ntmps24
  go_wp2_with fail
  refine (over_any a b n c ws _ hn hf hread' hnil hlen).mono ?_
  rintro e w1 ⟨r, s, g, cap, rfl, hsrc, hge, hT⟩
  have h0 : Two w w1 r s g cap ws 0 55 w.heap.size 0 0 [] 3 (w.heap.size + 1) 0 0 [] := Two.start hsrc hge hT
  clear hsrc hge hT hread hread'
  go_wp2_with fail
  go_loopg [6, 7, 18] cnt (fun k o u i wr => ∃ j g1 c1 g2 c2 : Nat, k = cnt - j ∧ j ≤ cnt ∧ o = .slice (some ⟨g1, 0, none⟩) j c1 ∧ u = .slice (some ⟨g2, 0, none⟩) j c2 ∧ i = .int .u16 (j : Int) ∧ Two w wr r s g cap ws j 55 g1 j c1 (firsts (u32At ws) j) 3 g2 j c2 (firsts counted j))
  case atStart => exact ⟨0, _, _, _, _, rfl, Nat.zero_le _, rfl, rfl, rfl, h0⟩
  case round =>
    obtain ⟨j, g1, c1, g2, c2, hk, hj, rfl, rfl, rfl, h1⟩ := hrel
    have Hk := Lib.hid hk
    clear hk h0
    by_cases hlt : j < cnt
    · go_wp2_with fail
      refine (uint32_any r s g cap j ws _ h1.src (by omega)).mono ?_
      rintro e w2 ⟨rfl, hs2, hT2⟩
      have h2 := h1.draw hs2 hT2
      clear h1 hs2 hT2
      go_wp2_with (at_builtin; refine wpList_push rfl _ _ 47 rfl 55 (.int .u32 0) 4 Try.underlying47 Try.infoU32 rfl g1 j c1 _ rfl h2.row1 (u32At ws j) rfl rfl (by omega) (by omega) ?_)
      intro g1' c1' w3 hr3 hat3 hT3
      have h3 := h2.push1 hr3 hat3 hT3
      rw [← firsts_succ] at h3
      have hu := h3.src.used
      clear h2 hr3 hat3 hT3
      go_wp2_with (at_builtin; refine wpList_push rfl _ _ 25 rfl 3 (.int .i64 0) 8 Try.underlying25 Try.infoInt rfl g2 j c2 _ rfl h3.row2 (counted j) rfl rfl (by omega) (by omega) ?_)
      intro g2' c2' w4 hr4 hat4 hT4
      have h4 := h3.push2 hr4 hat4 hT4
      rw [← firsts_succ] at h4
      clear h3 hr4 hat4 hT4 hu
      go_wp2
      go_roundg (cnt - (j + 1))
      case measure => rw [Hk.out]; omega
      case rel => exact ⟨j + 1, g1', c1', g2', c2', rfl, by omega, rfl, rfl, by go_num, h4⟩
    · obtain rfl : j = cnt := by omega
      go_wp2
      go_ret2
      exact h1.post

theorem Try.infoI32 : (Try.prog.info? 21).map (fun i => (i.zero, i.size, i.bytes)) = some (some (.int .i32 0), 1, 4) := by kernel_rfl
/-- What Int32s gives of the word with an index. -/
def i32At (ws : List Nat) (i : Nat) : Value := .int .i32 (wordAt ws i / 8589934592 : Nat)

set_option maxHeartbeats 1000000 in
theorem int32s_any (a : Option Addr) (b n c : Nat) (ws : List Nat) (cnt : Nat) (w : World) (hn : (ws.map u64).length = n) (hf : ∀ x ∈ ws, x < 18446744073709551616) (hread : Reads w a b (ws.map u64)) (hnil : a = none → c = 0) (hlen : n * 8 ≤ 140737488355328) (hcnt : cnt < 65536) :
    Calls Try.prog 25 #[.slice a n c, .int .u16 (cnt : Int)] w (TwoPost w 21 3 cnt (firsts (i32At ws) cnt) (firsts counted cnt)) := by
  have hread' : Reads ((w.alloc (.cells #[] 21)).alloc (.cells #[] 3)) a b (ws.map u64) := hread.kept (((Turned.refl (fun _ => False) w).alloc _).alloc _) (fun h => h)
  go_enter Try.func25, Try.ntmps25
  go_wp2_with fail
  refine (over_any a b n c ws _ hn hf hread' hnil hlen).mono ?_
  rintro e w1 ⟨r, s, g, cap, rfl, hsrc, hge, hT⟩
  have h0 : Two w w1 r s g cap ws 0 21 w.heap.size 0 0 [] 3 (w.heap.size + 1) 0 0 [] := Two.start hsrc hge hT
  clear hsrc hge hT hread hread'
  go_wp2_with fail
  go_loopg [6, 7, 18] cnt (fun k o u i wr => ∃ j g1 c1 g2 c2 : Nat, k = cnt - j ∧ j ≤ cnt ∧ o = .slice (some ⟨g1, 0, none⟩) j c1 ∧ u = .slice (some ⟨g2, 0, none⟩) j c2 ∧ i = .int .u16 (j : Int) ∧ Two w wr r s g cap ws j 21 g1 j c1 (firsts (i32At ws) j) 3 g2 j c2 (firsts counted j))
  case atStart => exact ⟨0, _, _, _, _, rfl, Nat.zero_le _, rfl, rfl, rfl, h0⟩
  case round =>
    obtain ⟨j, g1, c1, g2, c2, hk, hj, rfl, rfl, rfl, h1⟩ := hrel
    have Hk := Lib.hid hk
    clear hk h0
    by_cases hlt : j < cnt
    · go_wp2_with fail
      refine (int32_any r s g cap j ws _ h1.src (by omega)).mono ?_
      rintro e w2 ⟨rfl, hs2, hT2⟩
      have h2 := h1.draw hs2 hT2
      clear h1 hs2 hT2
      go_wp2_with (at_builtin; refine wpList_push rfl _ _ 50 rfl 21 (.int .i32 0) 4 Try.underlying50 Try.infoI32 rfl g1 j c1 _ rfl h2.row1 (i32At ws j) rfl rfl (by omega) (by omega) ?_)
      intro g1' c1' w3 hr3 hat3 hT3
      have h3 := h2.push1 hr3 hat3 hT3
      rw [← firsts_succ] at h3
      have hu := h3.src.used
      clear h2 hr3 hat3 hT3
      go_wp2_with (at_builtin; refine wpList_push rfl _ _ 25 rfl 3 (.int .i64 0) 8 Try.underlying25 Try.infoInt rfl g2 j c2 _ rfl h3.row2 (counted j) rfl rfl (by omega) (by omega) ?_)
      intro g2' c2' w4 hr4 hat4 hT4
      have h4 := h3.push2 hr4 hat4 hT4
      rw [← firsts_succ] at h4
      clear h3 hr4 hat4 hT4 hu
      go_wp2
      go_roundg (cnt - (j + 1))
      case measure => rw [Hk.out]; omega
      case rel => exact ⟨j + 1, g1', c1', g2', c2', rfl, by omega, rfl, rfl, by go_num, h4⟩
    · obtain rfl : j = cnt := by omega
      go_wp2
      go_ret2
      exact h1.post

theorem Try.infoI64 : (Try.prog.info? 2).map (fun i => (i.zero, i.size, i.bytes)) = some (some (.int .i64 0), 1, 8) := by kernel_rfl
/-- What Int64s gives of the word with an index. -/
def i64At (ws : List Nat) (i : Nat) : Value := .int .i64 (wordAt ws i % 9223372036854775808 : Nat)

set_option maxHeartbeats 1000000 in
theorem int64s_any (a : Option Addr) (b n c : Nat) (ws : List Nat) (cnt : Nat) (w : World) (hn : (ws.map u64).length = n) (hf : ∀ x ∈ ws, x < 18446744073709551616) (hread : Reads w a b (ws.map u64)) (hnil : a = none → c = 0) (hlen : n * 8 ≤ 140737488355328) (hcnt : cnt < 65536) :
    Calls Try.prog 23 #[.slice a n c, .int .u16 (cnt : Int)] w (TwoPost w 2 3 cnt (firsts (i64At ws) cnt) (firsts counted cnt)) := by
  have hread' : Reads ((w.alloc (.cells #[] 2)).alloc (.cells #[] 3)) a b (ws.map u64) := hread.kept (((Turned.refl (fun _ => False) w).alloc _).alloc _) (fun h => h)
  go_enter Try.func23, Try.ntmps23
  go_wp2_with fail
  refine (over_any a b n c ws _ hn hf hread' hnil hlen).mono ?_
  rintro e w1 ⟨r, s, g, cap, rfl, hsrc, hge, hT⟩
  have h0 : Two w w1 r s g cap ws 0 2 w.heap.size 0 0 [] 3 (w.heap.size + 1) 0 0 [] := Two.start hsrc hge hT
  clear hsrc hge hT hread hread'
  go_wp2_with fail
  go_loopg [6, 7, 18] cnt (fun k o u i wr => ∃ j g1 c1 g2 c2 : Nat, k = cnt - j ∧ j ≤ cnt ∧ o = .slice (some ⟨g1, 0, none⟩) j c1 ∧ u = .slice (some ⟨g2, 0, none⟩) j c2 ∧ i = .int .u16 (j : Int) ∧ Two w wr r s g cap ws j 2 g1 j c1 (firsts (i64At ws) j) 3 g2 j c2 (firsts counted j))
  case atStart => exact ⟨0, _, _, _, _, rfl, Nat.zero_le _, rfl, rfl, rfl, h0⟩
  case round =>
    obtain ⟨j, g1, c1, g2, c2, hk, hj, rfl, rfl, rfl, h1⟩ := hrel
    have Hk := Lib.hid hk
    clear hk h0
    by_cases hlt : j < cnt
    · go_wp2_with fail
      refine (int64_any r s g cap j ws _ h1.src (by omega)).mono ?_
      rintro e w2 ⟨rfl, hs2, hT2⟩
      have h2 := h1.draw hs2 hT2
      clear h1 hs2 hT2
      go_wp2_with (at_builtin; refine wpList_push rfl _ _ 43 rfl 2 (.int .i64 0) 8 Try.underlying43 Try.infoI64 rfl g1 j c1 _ rfl h2.row1 (i64At ws j) rfl rfl (by omega) (by omega) ?_)
      intro g1' c1' w3 hr3 hat3 hT3
      have h3 := h2.push1 hr3 hat3 hT3
      rw [← firsts_succ] at h3
      have hu := h3.src.used
      clear h2 hr3 hat3 hT3
      go_wp2_with (at_builtin; refine wpList_push rfl _ _ 25 rfl 3 (.int .i64 0) 8 Try.underlying25 Try.infoInt rfl g2 j c2 _ rfl h3.row2 (counted j) rfl rfl (by omega) (by omega) ?_)
      intro g2' c2' w4 hr4 hat4 hT4
      have h4 := h3.push2 hr4 hat4 hT4
      rw [← firsts_succ] at h4
      clear h3 hr4 hat4 hT4 hu
      go_wp2
      go_roundg (cnt - (j + 1))
      case measure => rw [Hk.out]; omega
      case rel => exact ⟨j + 1, g1', c1', g2', c2', rfl, by omega, rfl, rfl, by go_num, h4⟩
    · obtain rfl : j = cnt := by omega
      go_wp2
      go_ret2
      exact h1.post

set_option maxHeartbeats 1000000 in
theorem ints_any (a : Option Addr) (b n c : Nat) (ws : List Nat) (cnt : Nat) (w : World) (hn : (ws.map u64).length = n) (hf : ∀ x ∈ ws, x < 18446744073709551616) (hread : Reads w a b (ws.map u64)) (hnil : a = none → c = 0) (hlen : n * 8 ≤ 140737488355328) (hcnt : cnt < 65536) :
    Calls Try.prog 26 #[.slice a n c, .int .u16 (cnt : Int)] w (TwoPost w 3 3 cnt (firsts (i64At ws) cnt) (firsts counted cnt)) := by
  have hread' : Reads ((w.alloc (.cells #[] 3)).alloc (.cells #[] 3)) a b (ws.map u64) := hread.kept (((Turned.refl (fun _ => False) w).alloc _).alloc _) (fun h => h)
  go_enter Try.func26, Try.ntmps26
  go_wp2_with fail
  refine (over_any a b n c ws _ hn hf hread' hnil hlen).mono ?_
  rintro e w1 ⟨r, s, g, cap, rfl, hsrc, hge, hT⟩
  have h0 : Two w w1 r s g cap ws 0 3 w.heap.size 0 0 [] 3 (w.heap.size + 1) 0 0 [] := Two.start hsrc hge hT
  clear hsrc hge hT hread hread'
  go_wp2_with fail
  go_loopg [6, 7, 18] cnt (fun k o u i wr => ∃ j g1 c1 g2 c2 : Nat, k = cnt - j ∧ j ≤ cnt ∧ o = .slice (some ⟨g1, 0, none⟩) j c1 ∧ u = .slice (some ⟨g2, 0, none⟩) j c2 ∧ i = .int .u16 (j : Int) ∧ Two w wr r s g cap ws j 3 g1 j c1 (firsts (i64At ws) j) 3 g2 j c2 (firsts counted j))
  case atStart => exact ⟨0, _, _, _, _, rfl, Nat.zero_le _, rfl, rfl, rfl, h0⟩
  case round =>
    obtain ⟨j, g1, c1, g2, c2, hk, hj, rfl, rfl, rfl, h1⟩ := hrel
    have Hk := Lib.hid hk
    clear hk h0
    by_cases hlt : j < cnt
    · go_wp2_with fail
      refine (int_any r s g cap j ws _ h1.src (by omega)).mono ?_
      rintro e w2 ⟨rfl, hs2, hT2⟩
      have h2 := h1.draw hs2 hT2
      clear h1 hs2 hT2
      go_wp2_with (at_builtin; refine wpList_push rfl _ _ 25 rfl 3 (.int .i64 0) 8 Try.underlying25 Try.infoInt rfl g1 j c1 _ rfl h2.row1 (i64At ws j) rfl rfl (by omega) (by omega) ?_)
      intro g1' c1' w3 hr3 hat3 hT3
      have h3 := h2.push1 hr3 hat3 hT3
      rw [← firsts_succ] at h3
      have hu := h3.src.used
      clear h2 hr3 hat3 hT3
      go_wp2_with (at_builtin; refine wpList_push rfl _ _ 25 rfl 3 (.int .i64 0) 8 Try.underlying25 Try.infoInt rfl g2 j c2 _ rfl h3.row2 (counted j) rfl rfl (by omega) (by omega) ?_)
      intro g2' c2' w4 hr4 hat4 hT4
      have h4 := h3.push2 hr4 hat4 hT4
      rw [← firsts_succ] at h4
      clear h3 hr4 hat4 hT4 hu
      go_wp2
      go_roundg (cnt - (j + 1))
      case measure => rw [Hk.out]; omega
      case rel => exact ⟨j + 1, g1', c1', g2', c2', rfl, by omega, rfl, rfl, by go_num, h4⟩
    · obtain rfl : j = cnt := by omega
      go_wp2
      go_ret2
      exact h1.post
end Go.Proofs.Ytgjopehkmfbafaa
