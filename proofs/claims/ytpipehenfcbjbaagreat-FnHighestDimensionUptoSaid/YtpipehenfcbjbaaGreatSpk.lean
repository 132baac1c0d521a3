/-
  The type that all have in common, as the program reckons it.
-/
import Derived.Test.YtpipehenfcbjbaaGreatSpj
set_option linter.unusedVariables false
namespace Go.Proofs.YtpipehenfcbjbaaGreat
open Go.ChangeShapes Go.WideShapes Go.ChangeAt Go.RowKit
theorem i64_and_small (a b : Nat) (ha : a ≤ 3) (hb : b ≤ 3) : bits .and .i64 (a : Int) (b : Int) = ((a &&& b : Nat) : Int) := by
  have h1 : a = 0 ∨ a = 1 ∨ a = 2 ∨ a = 3 := by omega
  have h2 : b = 0 ∨ b = 1 ∨ b = 2 ∨ b = 3 := by omega
  rcases h1 with rfl | rfl | rfl | rfl <;> rcases h2 with rfl | rfl | rfl | rfl <;> decide
theorem and_small (a b : Nat) (ha : a ≤ 3) : a &&& b ≤ 3 := Nat.le_trans Nat.and_le_left ha
theorem newOf_dim (g : Gm) : ∃ c : Nat, c ≤ 3 ∧ (newOf g).dim = c := by
  cases g with
  | mk k d ns ks =>
    rw [newOf]
    split
    · exact ⟨ct d, ct_le d, rfl⟩
    · split
      · exact ⟨ct d, ct_le d, rfl⟩
      · refine ⟨_, ?_, rfl⟩
        unfold common
        have key : ∀ (l : List Gm) (a : Nat), a ≤ 3 → l.foldl (fun a g => a &&& g.dim.toNat) a ≤ 3 := fun l => by
          induction l with
          | nil => exact fun a h => h
          | cons x r ih => exact fun a h => ih _ (and_small _ _ h)
        exact key _ 3 (by decide)
theorem common_snoc (l : List Gm) (g : Gm) : common (l ++ [g]) = common l &&& g.dim.toNat := by
  unfold common
  rw [List.foldl_append]
  rfl
end Go.Proofs.YtpipehenfcbjbaaGreat
