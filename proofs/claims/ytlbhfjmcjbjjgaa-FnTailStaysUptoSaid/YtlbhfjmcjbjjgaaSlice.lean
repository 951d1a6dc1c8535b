/-
  The slice expression x[k:], in the words of Mem: whether or not the cut lies at the capacity's end.
-/
import Derived.Test.YtlbhfjmcjbjjgaaMem
namespace Go.Proofs.Ytlbhfjmcjbjjgaa
open Go.RowKit

/-- The address behind a cut. -/
structure CutAt (ad ad' : Option Addr) (n c k : Nat) : Prop where
  reads : ∀ (w : World) (b : Nat) (xs : List Value), xs.length = n → Reads w ad b xs → Reads w ad' b (xs.drop k)
  nil : ad' = none → ad = none

theorem cutAt_mk (ad : Option Addr) (n c k : Nat) (hnc : n ≤ c) : CutAt ad (if c = k then ad else ad.map (·.add (k * 1))) n c k := by
  refine ⟨?_, ?_⟩
  · intro w b xs hx hr hne
    have hk : k < xs.length := by
      rcases Nat.lt_or_ge k xs.length with h | h
      · exact h
      · exact absurd (List.drop_of_length_le h) hne
    obtain ⟨off, rfl, hc⟩ := hr (by rintro rfl; simp at hk)
    rw [if_neg (by omega)]
    refine ⟨off + k, ?_, ?_⟩
    · simp only [Option.map_some, Nat.mul_one]
      congr 1
      unfold Addr.add
      split <;> simp_all
    · intro i u hu
      rw [List.getElem?_drop] at hu
      have := hc (k + i) u hu
      rw [← this, Nat.add_assoc]
  · split
    · exact fun h => h
    · cases ad <;> simp

theorem wpList_from {P : Program} {W : World} {ops : Array Oper} {rest : List Oper} {o : Oper} {a : Act} {Q : Exit → Act → World → Prop} (hgd : o.guard = none) (x l : Operand) (t : TypeId) (ho : o.op = Op.slice t x (some l) none none)
    (e : TypeId) (he : P.elem t = e) (ht : P.underlying t = some (.slice (P.elem t))) (hsz : ∀ w, (sizeOf e).run P w = .ok 1 w)
    (ad : Option Addr) (n c k : Nat) (L : Int) (hx : a.eval x = .slice ad n c) (hl : a.eval l = .int .i64 L) (hL : L = (k : Int)) (hk : k ≤ n) (hnc : n ≤ c)
    (h : ∀ ad', CutAt ad ad' n c k → wpList P ops Q rest (a.put o.dst (.slice ad' (n - k) (c - k))) W) : wpList P ops Q (o :: rest) a W := by
  refine wpList_plain hgd fun K hK => ?_
  subst hL
  have hrun := run_slice_l (P := P) W t ad n c ht .i64 (k : Int) (by omega) (by omega)
  rw [he, hsz] at hrun
  unfold Oper.wp
  simp only [execOp, ho, Option.map_some, Option.map_none, hx, hl, Sem.run_bind, run_sliceAt_slice _ _ _ _ _ _ ht, hrun, Result.andThen_ok, Int.toNat_natCast, sliced]
  exact hK _ _ (h _ (cutAt_mk ad n c k hnc))
end Go.Proofs.Ytlbhfjmcjbjjgaa
