/-
  Lists of what is drawn, as lists of words and of counts.
-/
import Derived.Test.YtlbhfjmcjbjjgaaBounds
import Derived.Test.YtlbhfjmcjbjjgaaSame
namespace Go.Proofs.Ytlbhfjmcjbjjgaa

theorem vals_words (l : List (Nat × Nat)) : vals .u64 l = (l.map Prod.fst).map u64 := by simp [vals, u64, Function.comp_def]
theorem uses_counts (l : List (Nat × Nat)) : uses l = (l.map fun p => (p.2 : Int)).map i64 := by simp [uses, i64, Function.comp_def]
end Go.Proofs.Ytlbhfjmcjbjjgaa
