/-
  What spec.New makes is no greater than what it is made of. Plain.
-/
import Derived.Test.YtpipehenfcbjbaaGreatSpk
set_option linter.unusedVariables false
namespace Go.Proofs.YtpipehenfcbjbaaGreat
open Go.ChangeShapes Go.WideShapes Go.ChangeAt Go.RowKit
mutual
/-- All types of a geometry are c. -/
def Uni (c : Nat) : Gm → Prop
  | .mk _ d _ ks => d = c ∧ UniAll c ks
def UniAll (c : Nat) : List Gm → Prop
  | [] => True
  | g :: r => Uni c g ∧ UniAll c r
end
mutual
theorem force_uni (c : Nat) : ∀ g : Gm, Uni c (force c g)
  | .mk k d ns ks => by
    rw [force, Uni]
    exact ⟨rfl, forceAll_uni c ks⟩
theorem forceAll_uni (c : Nat) : ∀ l : List Gm, UniAll c (forceAll c l)
  | [] => by rw [forceAll, UniAll]; trivial
  | g :: r => by
    rw [forceAll, UniAll]
    exact ⟨force_uni c g, forceAll_uni c r⟩
end
mutual
theorem force_size {c c' : Nat} (hc : c ≤ 3) (h : wd c' ≤ wd c) : ∀ g : Gm, Uni c g → (force c' g).size ≤ g.size
  | .mk k d ns ks, hu => by
    rw [Uni] at hu
    have h2 := forceAll_size hc h ks hu.2
    have hd : ct d = c := by rw [hu.1]; exact ct_nat hc
    rw [force, Gm.size, Gm.size, forceN_len, hd]
    have h3 : ns.length / wd c * wd c' ≤ ns.length / wd c * wd c := Nat.mul_le_mul_left _ h
    have h4 := Nat.div_mul_le_self ns.length (wd c)
    omega
theorem forceAll_size {c c' : Nat} (hc : c ≤ 3) (h : wd c' ≤ wd c) : ∀ l : List Gm, UniAll c l → Gm.sizes (forceAll c' l) ≤ Gm.sizes l
  | [], _ => by rw [forceAll]; exact Nat.le_refl _
  | g :: r, hu => by
    rw [UniAll] at hu
    have h1 := force_size hc h g hu.1
    have h2 := forceAll_size hc h r hu.2
    rw [forceAll, Gm.sizes, Gm.sizes]
    omega
end
end Go.Proofs.YtpipehenfcbjbaaGreat
