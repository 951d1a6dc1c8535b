/-
  From the form of the given statements to the walks: an argument that is a slice of numbers, opened once.
-/
import Derived.Test.YtlbhfjmcjbjjgaaSrc
import Derived.ProofKit
import Derived.OpenShut
import Derived.ShutString
import Derived.ChangeOld
import Derived.SizedLaws
import Derived.JoinedCond
namespace Go.Proofs.Ytlbhfjmcjbjjgaa
open Go.ChangeShapes Go.WideShapes Go.ChangeAt Go.RowKit
set_option linter.unusedVariables false

theorem own : ownKnob Try.prog.godebug = none := by kernel_rfl
theorem laidOut : laidOutB Try.prog = true := by kernel_rfl

/-- A slice of numbers that came in: its elements are ws (f makes a number a value, each is less than M and takes so many bytes); they lie in block b. -/
structure Arg (f : Nat → Value) (M bytes : Nat) (w : World) (a : Option Addr) (len cap b : Nat) (ws : List Nat) : Prop where
  size : (ws.map f).length = len
  reads : Reads w a b (ws.map f)
  nil : a = none → cap = 0
  le : len ≤ cap
  top : cap ≤ maxLen
  fit : ∀ x ∈ ws, x < M
  reach : len * bytes ≤ 140737488351232
  lt : b < w.heap.size ∨ len = 0

theorem Arg.none (f : Nat → Value) (M bytes : Nat) (w : World) : Arg f M bytes w .none 0 0 0 [] :=
  ⟨rfl, Reads.nil _ _ _, fun _ => rfl, Nat.le_refl _, Nat.zero_le _, (fun x hx => by cases hx), by omega, .inr rfl⟩

theorem arg_open {k : IntKind} {M bytes : Nat} (hk : ∀ n : Int, (Lit.int k n).wf = true → ∃ m : Nat, n = m ∧ m < M) {W : World} {x : Addr} {len cap : Nat} {zs : List Int} (hl : len ≤ cap) (hm : cap ≤ maxLen) (hz : zs.length = cap)
    (hcell : ∀ i, i < zs.length → W.cell? (x.add i) = some (.int k (zs.getD i 0))) (hwz : ∀ n ∈ zs, (Lit.int k n).wf = true) (hr : len * bytes ≤ 140737488351232) :
    ∃ b ws, Arg (fun n => .int k (n : Int)) M bytes W (some x) len cap b ws := by
  have hnat : ∀ n ∈ zs, ((n.toNat : Nat) : Int) = n ∧ n.toNat < M := by
    intro n hn
    obtain ⟨m, rfl, hm⟩ := hk n (hwz n hn)
    simpa using hm
  have hlen : (((zs.take len).map Int.toNat).map (fun n : Nat => Value.int k (n : Int))).length = len := by simp; omega
  refine ⟨x.block, (zs.take len).map Int.toNat, hlen, ?_, (fun h => by cases h), hl, hm, ?_, hr, ?_⟩
  · intro hne
    have hl0 : 0 < zs.length := by
      rcases Nat.eq_zero_or_pos zs.length with h | h
      · have : zs = [] := List.eq_nil_of_length_eq_zero h
        subst this
        simp at hne
      · exact h
    obtain ⟨b, off, spot⟩ := x
    have hspot : spot = Option.none := by simpa [Addr.add] using World.cell?_spot (hcell 0 hl0)
    subst hspot
    refine ⟨off, rfl, ?_⟩
    intro i u hu
    have hi : i < len := by
      have := (List.getElem?_eq_some_iff.1 hu).1
      omega
    have hc := hcell i (by omega)
    have hadd : (⟨b, off, Option.none⟩ : Addr).add i = ⟨b, off + i, Option.none⟩ := by unfold Addr.add; split <;> simp_all
    rw [hadd] at hc
    rw [hc, ← hu]
    have hzi : i < zs.length := by omega
    have hmem : zs[i] ∈ zs := List.getElem_mem hzi
    simp only [List.getElem?_map, List.getElem?_take, if_pos hi, List.getElem?_eq_getElem hzi, Option.map_some, List.getD_eq_getElem?_getD, Option.getD_some]
    rw [(hnat _ hmem).1]
  · intro y hy
    obtain ⟨z, hz', rfl⟩ := List.mem_map.1 hy
    exact (hnat z (List.mem_of_mem_take hz')).2
  · rcases Nat.eq_zero_or_pos len with h | h
    · exact .inr h
    · left
      have := World.block_lt_of_cell? W _ (hcell 0 (by omega))
      simpa [Addr.add] using this

theorem wf_u64 (n : Int) (h : (Lit.int .u64 n).wf = true) : ∃ m : Nat, n = m ∧ m < 18446744073709551616 := by
  have hx : 0 ≤ n ∧ n ≤ 18446744073709551615 := by simpa [Lit.wf, IntKind.min, IntKind.max, IntKind.signed, IntKind.bits] using h
  exact ⟨n.toNat, by omega, by omega⟩
theorem wf_u16 (n : Int) (h : (Lit.int .u16 n).wf = true) : ∃ m : Nat, n = m ∧ m < 65536 := by
  have hx : 0 ≤ n ∧ n ≤ 65535 := by simpa [Lit.wf, IntKind.min, IntKind.max, IntKind.signed, IntKind.bits] using h
  exact ⟨n.toNat, by omega, by omega⟩
theorem wf_u8 (n : Int) (h : (Lit.int .u8 n).wf = true) : ∃ m : Nat, n = m ∧ m < 256 := by
  have hx : 0 ≤ n ∧ n ≤ 255 := by simpa [Lit.wf, IntKind.min, IntKind.max, IntKind.signed, IntKind.bits] using h
  exact ⟨n.toNat, by omega, by omega⟩
theorem wf_i64 (n : Int) (h : (Lit.int .i64 n).wf = true) : -9223372036854775808 ≤ n ∧ n ≤ 9223372036854775807 := by
  simpa [Lit.wf, IntKind.min, IntKind.max, IntKind.signed, IntKind.bits] using h
/-- A byte as a value. -/
def u8 (n : Nat) : Value := .int .u8 (n : Int)

theorem Arg.at {M bytes : Nat} {w : World} {a : Option Addr} {len cap b : Nat} {ws : List Nat} (A : Arg u64 M bytes w a len cap b ws) {j : Nat} (hj : j < len) : ∃ off, a = some ⟨b, off, Option.none⟩ ∧ w.cell? ⟨b, off + j, Option.none⟩ = some (.int .u64 (wordAt ws j : Nat)) := by
  have hs := A.size
  have hl : j < (ws.map u64).length := by omega
  obtain ⟨off, ha, hc⟩ := A.reads.at hl
  refine ⟨off, ha, ?_⟩
  rw [hc]
  simp only [List.length_map] at hl
  simp [wordAt, List.getElem?_eq_getElem hl, u64]
theorem Arg.word {bytes : Nat} {w : World} {a : Option Addr} {len cap b : Nat} {ws : List Nat} (A : Arg u64 18446744073709551616 bytes w a len cap b ws) (j : Nat) : wordAt ws j < 18446744073709551616 := wordAt_lt ws j A.fit
theorem Arg.length {f : Nat → Value} {M bytes : Nat} {w : World} {a : Option Addr} {len cap b : Nat} {ws : List Nat} (A : Arg f M bytes w a len cap b ws) : ws.length = len := by simpa using A.size
theorem Arg.small {f : Nat → Value} {M : Nat} {w : World} {a : Option Addr} {len cap b : Nat} {ws : List Nat} (A : Arg f M 8 w a len cap b ws) : len ≤ 17592186043904 := by have := A.reach; omega
/-- The lesser of a length and forty. -/
theorem min40 (len : Nat) (q : Int) (hq : 0 ≤ q) : ∃ cnt : Nat, cnt ≤ len ∧ (cnt : Int) ≤ q ∧ ((cnt : Int) = q ∨ cnt = len) ∧ (if q < (len : Int) then q else (len : Int)) = (cnt : Int) := by
  by_cases h : q < len
  · exact ⟨q.toNat, by omega, by omega, by omega, by rw [if_pos h]; omega⟩
  · exact ⟨len, by omega, by omega, by omega, by rw [if_neg h]⟩
/-- A row of numbers that the call owns, as an argument. -/
theorem Row.arg {w : World} {e g n cap : Nat} {ws : List Nat} (h : Row w e g n cap (ws.map u64)) : (ws.map u64).length = n ∧ Reads w (some ⟨g, 0, Option.none⟩) g (ws.map u64) := ⟨h.len, h.reads⟩
end Go.Proofs.Ytlbhfjmcjbjjgaa
