/-
  The built-in make with a length, in the words of Mem.
-/
import Derived.Test.YtlbhfjmcjbjjgaaMem
namespace Go.Proofs.Ytlbhfjmcjbjjgaa
open Go.RowKit

theorem wpList_makes {P : Program} {W : World} {ops : Array Oper} {rest : List Oper} {o : Oper} {a : Act} {Q : Exit → Act → World → Prop} (hgd : o.guard = none) (l c : Operand) (t : TypeId) (ho : o.op = Op.makeSlice t l c)
    (e : TypeId) (z : Value) (bytes : Nat) (ht : P.underlying t = some (.slice e)) (hi : (P.info? e).map (fun i => (i.zero, i.size, i.bytes)) = some (some z, 1, bytes)) (hzs : z.cells = #[z])
    (n : Nat) (hl : a.eval l = .int .i64 (n : Int)) (hc : a.eval c = .int .i64 (n : Int)) (hb : bytes * n ≤ 281474976710656) (hn : n ≤ 281474976710656)
    (h : ∀ w', Row w' e W.heap.size n n (List.replicate n z) → Still W w' → wpList P ops Q rest (a.put o.dst (.slice (some ⟨W.heap.size, 0, none⟩) n n)) w') :
    wpList P ops Q (o :: rest) a W := by
  obtain ⟨i0, hi0, hz, hsz, hby⟩ := info_parts hi
  refine wpList_make_full W hgd l c t ho 0 e i0 z 1 ht hi0 hz hsz .i64 .i64 (n : Int) (n : Int) n hl hc rfl rfl (by rw [hby]; exact hb) (by unfold maxLen; omega) (Nat.zero_le _) ?_
  intro w' hown hgrow
  rw [hzs, Nat.mul_one, toList_madeCells_one] at hown
  exact h w' (Row.of_owns hown) (Turned.of_grown hgrow (fun k hk => by cases hk))
end Go.Proofs.Ytlbhfjmcjbjjgaa
