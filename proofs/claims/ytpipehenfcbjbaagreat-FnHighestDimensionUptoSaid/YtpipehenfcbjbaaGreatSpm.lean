/-
  What spec.New makes is no greater than what it is made of. Plain.
-/
import Derived.Test.YtpipehenfcbjbaaGreatSpl
set_option linter.unusedVariables false
namespace Go.Proofs.YtpipehenfcbjbaaGreat
open Go.ChangeShapes Go.WideShapes Go.ChangeAt Go.RowKit
theorem forceAll_size' {c' : Nat} : ∀ l : List Gm, (∀ g ∈ l, ∃ c, c ≤ 3 ∧ Uni c g ∧ wd c' ≤ wd c) → Gm.sizes (forceAll c' l) ≤ Gm.sizes l
  | [], _ => by rw [forceAll]; exact Nat.le_refl _
  | g :: r, hu => by
    obtain ⟨c, hc, h1, h2⟩ := hu g (by simp)
    have h3 := force_size hc h2 g h1
    have h4 := forceAll_size' r fun k hk => hu k (by simp [hk])
    rw [forceAll, Gm.sizes, Gm.sizes]
    omega
theorem wd_and (a b : Nat) (ha : a ≤ 3) (hb : b ≤ 3) : wd (a &&& b) ≤ wd b ∧ wd (a &&& b) ≤ wd a := by
  have h1 : a = 0 ∨ a = 1 ∨ a = 2 ∨ a = 3 := by omega
  have h2 : b = 0 ∨ b = 1 ∨ b = 2 ∨ b = 3 := by omega
  rcases h1 with rfl | rfl | rfl | rfl <;> rcases h2 with rfl | rfl | rfl | rfl <;> decide
theorem wd_common : ∀ (l : List Gm) (a : Nat), a ≤ 3 → (∀ g ∈ l, g.dim.toNat ≤ 3) → wd (l.foldl (fun a g => a &&& g.dim.toNat) a) ≤ wd a ∧ ∀ g ∈ l, wd (l.foldl (fun a g => a &&& g.dim.toNat) a) ≤ wd g.dim.toNat
  | [], a, h, _ => ⟨Nat.le_refl _, fun g hg => by simp at hg⟩
  | x :: r, a, h, hd => by
    have hx := hd x (by simp)
    have h1 := wd_and a x.dim.toNat h hx
    have h2 := wd_common r (a &&& x.dim.toNat) (and_small _ _ h) fun g hg => hd g (by simp [hg])
    simp only [List.foldl_cons]
    refine ⟨Nat.le_trans h2.1 h1.2, fun g hg => ?_⟩
    rcases List.mem_cons.1 hg with rfl | hg
    · exact Nat.le_trans h2.1 h1.1
    · exact h2.2 g hg
end Go.Proofs.YtpipehenfcbjbaaGreat
