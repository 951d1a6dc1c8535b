/-
  The bounds that are not 0, and what is drawn of a single word.
-/
import Derived.Test.YtpffccojlkkfkaaHelp
namespace Go.Proofs.Ytpffccojlkkfkaa
open Go.RowKit
set_option linter.unusedVariables false

/-- What a new row holds: it lies behind all that was there. -/
def NewRow (w : World) (e : TypeId) (n : Nat) (xs : List Value) (r : Ending) (w' : World) : Prop := ∃ g c, r = .returned (.slice (some ⟨g, 0, none⟩) n c) ∧ Row w' e g n c xs ∧ w.heap.size ≤ g ∧ Still w w'
/-- The bounds of a list that are not 0. -/
def pos (ns : List Nat) : List Nat := ns.filter (fun n => n != 0)
theorem pos_take (ns : List Nat) (j : Nat) (h : j < ns.length) : pos (ns.take (j + 1)) = pos (ns.take j) ++ (if ns[j] = 0 then [] else [ns[j]]) := by
  rw [List.take_succ_eq_append_getElem h, pos, List.filter_append]
  by_cases hz : ns[j] = 0 <;> simp [pos, hz]
theorem pos_le (ns : List Nat) (j : Nat) : (pos (ns.take j)).length ≤ j := Nat.le_trans (List.length_filter_le _ _) (List.length_take_le _ _)
theorem pos_bounds (ns : List Nat) (M : Nat) (hf : ∀ x ∈ ns, x < M) : ∀ x ∈ pos ns, 1 ≤ x ∧ x < M := by
  intro x hx
  obtain ⟨h1, h2⟩ := List.mem_filter.1 hx
  simp at h2
  exact ⟨by omega, hf x h1⟩

set_option maxHeartbeats 1000000 in
theorem positive_any (a : Option Addr) (b n c : Nat) (ns : List Nat) (w : World) (A : Arg u64 18446744073709551616 8 w a n c b ns) :
    Calls Try.prog 23 #[.slice a n c] w (NewRow w 26 (pos ns).length ((pos ns).map u64)) := by
  have hs := A.small
  have HL := Lib.hid A.length
  have h0 := Row.empty w 26
  go_enter Try.func23, Try.ntmps23
  go_wp2_with fail
  go_loopg [3, 9] n (fun k o i wr => ∃ j g1 c1 : Nat, k = n - j ∧ j ≤ n ∧ o = .slice (some ⟨g1, 0, none⟩) (pos (ns.take j)).length c1 ∧ i = .int .i64 (j : Int) ∧ Row wr 26 g1 (pos (ns.take j)).length c1 ((pos (ns.take j)).map u64) ∧ w.heap.size ≤ g1 ∧ Still w wr)
  case atStart => exact ⟨0, w.heap.size, 0, rfl, Nat.zero_le _, rfl, rfl, h0, Nat.le_refl _, (Turned.refl _ _).alloc _⟩
  case round =>
    obtain ⟨j, g1, c1, hk, hj, rfl, rfl, hrow, hg1, hst⟩ := hrel
    have Hk := Lib.hid hk
    clear hk h0
    by_cases hlt : j < n
    · have hjn : j < ns.length := by rw [HL.out]; exact hlt
      obtain ⟨off, rfl, hc⟩ := A.at hlt
      have hd := hst.cell hc (fun h => h)
      have hw : wordAt ns j = ns[j] := by simp [wordAt, List.getElem?_eq_getElem hjn]
      have hp := pos_take ns j hjn
      have hpl := pos_le ns j
      rw [hw] at hd
      clear hc hw
      by_cases hz : ns[j] = 0
      · rw [hz] at hd
        rw [if_pos hz, List.append_nil] at hp
        have Hp := Lib.hid hp
        clear hp hz
        have hd' : wr.cell? ⟨b, off + j, none⟩ = some (.int .u64 0) := hd
        clear hd
        go_wp2_with fail
        go_roundg (n - (j + 1))
        case measure => rw [Hk.out]; omega
        case rel => exact ⟨j + 1, g1, c1, rfl, by omega, by rw [Hp.out], by go_num, by rw [Hp.out]; exact hrow, hg1, hst⟩
      · have hne : (((ns[j] : Nat) : Int) != 0) = true := by simp; omega
        rw [if_neg hz] at hp
        have Hp := Lib.hid hp
        clear hp hz
        generalize ns[j] = m at *
        go_wp2_with (at_builtin; refine wpList_push rfl _ _ 22 rfl 26 (.int .u64 0) 8 Try.underlying22 Try.infoU64 rfl g1 _ c1 _ rfl hrow (u64 m) rfl rfl (by omega) (by omega) ?_)
        intro g1' c1' w3 hr3 hat3 hT3
        have hst3 := hst.then hT3 (fun k hk e => by subst e; omega)
        have hz := hst.size
        clear hd
        go_wp2
        go_roundg (n - (j + 1))
        case measure => rw [Hk.out]; omega
        case rel => exact ⟨j + 1, g1', c1', rfl, by omega, by rw [Hp.out]; simp, by go_num, by rw [Hp.out]; simpa using hr3, by omega, hst3⟩
    · obtain rfl : n = j := by omega
      go_wp2_with fail
      go_ret
      rw [List.take_of_length_le (by rw [HL.out]; exact Nat.le_refl _)] at *
      exact ⟨g1, c1, rfl, hrow, hg1, hst⟩

theorem one_row (w : World) (x : Nat) : Row (w.alloc (.cells #[.int .u64 (x : Int)] 26)) 26 w.heap.size 1 1 ([x].map u64) := Row.new w 26 #[.int .u64 (x : Int)] (show 1 ≤ maxLen by decide)

/-- What is drawn of a single word. -/
def one (x n : Nat) : Nat × Nat := fin [x] n 0

set_option maxHeartbeats 1000000 in
theorem drawnBy_any (x n : Nat) (w : World) (hx : x < 18446744073709551616) (h1 : 1 ≤ n) (h2 : n < 18446744073709551616) :
    Calls Try.prog 22 #[.int .u64 (x : Int), .int .u64 (n : Int)] w fun e w' => e = .returned (.tuple #[.int .u64 ((one x n).1 : Nat), .int .i64 ((one x n).2 : Nat)]) ∧ Still w w' := by
  have r1 := one_row w x
  have r2 := one_row (w.alloc (.cells #[.int .u64 (x : Int)] 26)) n
  have r1' := r1.kept ((Turned.refl (fun _ => False) _).alloc (.cells #[.int .u64 (n : Int)] 26)) (fun h => h)
  simp only [World.size_alloc] at r2
  have hst0 : Still w ((w.alloc (.cells #[.int .u64 (x : Int)] 26)).alloc (.cells #[.int .u64 (n : Int)] 26)) := ((Turned.refl _ _).alloc _).alloc _
  clear r1
  generalize hp : one x n = p
  have Hp := Lib.hid hp
  clear hp
  go_enter Try.func22, Try.ntmps22
  go_wp2_with fail
  refine (uint64Ns_any _ w.heap.size 1 1 [x] _ (w.heap.size + 1) 1 1 [n] _ rfl (by simpa using hx) r1'.reads (fun h => by cases h) (by omega) rfl (by simpa using ⟨h1, h2⟩) r2.reads (by omega)).mono ?_
  rintro e w1 ⟨g1, c1, g2, c2, rfl, q1, q2, hg, hT⟩
  have k1 : w1.cell? ⟨g1, 0, none⟩ = some (.int .u64 (p.1 : Nat)) := by rw [← Hp.out]; exact q1.cell rfl
  have k2 : w1.cell? ⟨g2, 0, none⟩ = some (.int .i64 (p.2 : Nat)) := by rw [← Hp.out]; exact q2.cell rfl
  have hst := hst0.trans hT
  clear r1' r2 q1 q2 hst0 hT
  go_wp2_with fail
  go_quiet (fail)
  go_wp2_with fail
  go_ret2
  exact ⟨rfl, hst.drewN _⟩
end Go.Proofs.Ytpffccojlkkfkaa
