/-
  What spec.New makes is no greater than what it is made of. Plain.
-/
import Derived.Test.YtpipehenfcbjbaaGreatSpm
set_option linter.unusedVariables false
namespace Go.Proofs.YtpipehenfcbjbaaGreat
open Go.ChangeShapes Go.WideShapes Go.ChangeAt Go.RowKit
theorem newOf_uni (g : Gm) : ∃ c : Nat, c ≤ 3 ∧ (newOf g).dim = c ∧ Uni c (newOf g) := by
  cases g with
  | mk k d ns ks =>
    rw [newOf]
    split
    · exact ⟨ct d, ct_le d, rfl, by rw [Uni]; exact ⟨rfl, by rw [UniAll]; trivial⟩⟩
    · split
      · exact ⟨ct d, ct_le d, rfl, by rw [Uni]; exact ⟨rfl, by rw [UniAll]; trivial⟩⟩
      · exact ⟨_, common_le _ 3 (by decide), (force_kind _ _).2, force_uni _ _⟩
theorem newAll_mem {want : Int} : ∀ {l : List Gm} {x : Gm}, x ∈ newAll want l → ∃ g ∈ l, x = newOf g
  | [], x, h => by rw [newAll] at h; simp at h
  | a :: r, x, h => by
    rw [newAll] at h
    split at h
    · rcases List.mem_cons.1 h with rfl | h
      · exact ⟨a, by simp, rfl⟩
      · obtain ⟨g, h1, h2⟩ := newAll_mem h
        exact ⟨g, by simp [h1], h2⟩
    · obtain ⟨g, h1, h2⟩ := newAll_mem h
      exact ⟨g, by simp [h1], h2⟩
theorem newAll_sizes {want : Int} : ∀ (l : List Gm), (∀ g ∈ l, (newOf g).size ≤ g.size) → Gm.sizes (newAll want l) ≤ Gm.sizes l
  | [], _ => by rw [newAll]; exact Nat.le_refl _
  | a :: r, h => by
    have h1 := h a (by simp)
    have h2 := newAll_sizes (want := want) r fun g hg => h g (by simp [hg])
    rw [newAll]
    split
    · rw [Gm.sizes, Gm.sizes]; omega
    · rw [Gm.sizes]; omega
theorem newOf_size : ∀ (n : Nat) (g : Gm), g.size ≤ n → (newOf g).size ≤ g.size
  | 0, g, h => absurd h (by have := g.size_pos; omega)
  | n + 1, .mk k d ns ks, h => by
    have hk : ∀ g ∈ ks, (newOf g).size ≤ g.size := fun g hg => newOf_size n g (by
      have h2 := Gm.size_mem hg
      simp only [Gm.size] at h
      omega)
    have hs := newAll_sizes (want := kidOf (kindOf k)) ks hk
    rw [newOf]
    split
    · rw [Gm.size, Gm.size]
      have : Gm.sizes [] = 0 := rfl
      rw [this, List.length_take]
      omega
    · split
      · rw [Gm.size, Gm.size]
        have : Gm.sizes [] = 0 := rfl
        rw [this, List.length_nil]
        omega
      · rw [force, Gm.size, Gm.size, forceN_len]
        have hu : ∀ g ∈ newAll (kidOf (kindOf k)) ks, ∃ c, c ≤ 3 ∧ Uni c g ∧ wd (common (newAll (kidOf (kindOf k)) ks)) ≤ wd c := fun x hx => by
          obtain ⟨g, h1, rfl⟩ := newAll_mem hx
          obtain ⟨c, hc, hd, hu⟩ := newOf_uni g
          refine ⟨c, hc, hu, ?_⟩
          have := (wd_common (newAll (kidOf (kindOf k)) ks) 3 (by decide) fun y hy => by
            obtain ⟨g', h1', rfl⟩ := newAll_mem hy
            obtain ⟨c', hc', hd', -⟩ := newOf_uni g'
            rw [hd']
            simpa using hc').2 _ hx
          rw [hd] at this
          simpa [common] using this
        have h3 := forceAll_size' _ hu
        simp only [List.length_nil, Nat.zero_div, Nat.zero_mul]
        omega
end Go.Proofs.YtpipehenfcbjbaaGreat
