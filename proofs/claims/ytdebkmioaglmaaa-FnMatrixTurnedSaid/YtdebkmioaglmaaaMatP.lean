/-
  The plain law of the matrix of nine signs: turned, it is the one set at rows and columns that have changed places.
-/
import Derived.Test.YtdebkmioaglmaaaMat5
namespace Go.Proofs.Ytdebkmioaglmaaa
open Go.ChangeShapes Go.WideShapes Go.ChangeAt Go.RowKit
theorem matN_length (zs ys ss : List Int) : ∀ n, (matN zs ys ss n).length = 9
  | 0 => rfl
  | n + 1 => by
    show ((matN zs ys ss n).set _ _).length = 9
    rw [List.length_set]
    exact matN_length zs ys ss n
theorem part_set (m : List Int) (h : m.length = 9) (a c e : Int) (ha : 0 ≤ a ∧ a ≤ 2) (hc : 0 ≤ c ∧ c ≤ 2) : part (m.set (3 * a + c).toNat e) 9 = (part m 9).set (3 * c + a).toNat e := by
  obtain ⟨m0, m1, m2, m3, m4, m5, m6, m7, m8, rfl⟩ := nine h
  rcases (by omega : a = 0 ∨ a = 1 ∨ a = 2) with rfl | rfl | rfl <;> rcases (by omega : c = 0 ∨ c = 1 ∨ c = 2) with rfl | rfl | rfl <;> rfl
theorem part_matN (zs ys ss : List Int) : ∀ n, (∀ i, i < n → (0 ≤ zs.getD i 0 ∧ zs.getD i 0 ≤ 2) ∧ (0 ≤ ys.getD i 0 ∧ ys.getD i 0 ≤ 2)) → part (matN zs ys ss n) 9 = matN ys zs ss n
  | 0, _ => rfl
  | n + 1, h => by
    show part ((matN zs ys ss n).set _ _) 9 = (matN ys zs ss n).set _ _
    rw [part_set _ (matN_length _ _ _ _) _ _ _ (h n (by omega)).1 (h n (by omega)).2, part_matN zs ys ss n (fun i hi => h i (by omega))]
/-- The place of the i-th sign. -/
def plc (zs ys : List Int) (i : Nat) : Nat := (3 * zs.getD i 0 + ys.getD i 0).toNat
theorem matN_at (zs ys ss : List Int) : ∀ n, (∀ i, i < n → plc zs ys i < 9) → (∀ i j, i < n → j < n → plc zs ys i = plc zs ys j → i = j) → ∀ i, i < n → (matN zs ys ss n)[plc zs ys i]? = some (ss.getD i 0)
  | 0, _, _, i, hi => absurd hi (by omega)
  | n + 1, h9, hj, i, hi => by
    show ((matN zs ys ss n).set (plc zs ys n) _)[plc zs ys i]? = _
    by_cases e : i = n
    · subst e
      rw [List.getElem?_set_self (by rw [matN_length]; exact h9 i hi)]
    · rw [List.getElem?_set_ne (fun k => e (hj i n hi (by omega) k.symm))]
      exact matN_at zs ys ss n (fun i hi => h9 i (by omega)) (fun i j hi hj' => hj i j (by omega) (by omega)) i (by omega)
theorem matN_off (zs ys ss : List Int) : ∀ n (p : Nat), (∀ i, i < n → plc zs ys i ≠ p) → (matN zs ys ss n)[p]? = (List.replicate 9 (70 : Int))[p]?
  | 0, p, _ => rfl
  | n + 1, p, h => by
    show ((matN zs ys ss n).set (plc zs ys n) _)[p]? = _
    rw [List.getElem?_set_ne (h n (by omega))]
    exact matN_off zs ys ss n p (fun i hi => h i (by omega))
/-- Signs that are set at other places than one another do so in any order. -/
theorem matN_rev (zs ys ss zr yr sr : List Int) (n : Nat) (h9 : ∀ i, i < n → plc zs ys i < 9) (hj : ∀ i j, i < n → j < n → plc zs ys i = plc zs ys j → i = j)
    (hz : ∀ i, i < n → zr.getD i 0 = zs.getD (n - 1 - i) 0) (hy : ∀ i, i < n → yr.getD i 0 = ys.getD (n - 1 - i) 0) (hs : ∀ i, i < n → sr.getD i 0 = ss.getD (n - 1 - i) 0) : matN zr yr sr n = matN zs ys ss n := by
  have hp : ∀ i, i < n → plc zr yr i = plc zs ys (n - 1 - i) := fun i hi => by unfold plc; rw [hz i hi, hy i hi]
  apply List.ext_getElem?
  intro p
  by_cases hh : ∃ i, i < n ∧ plc zs ys i = p
  · obtain ⟨i, hi, rfl⟩ := hh
    rw [matN_at zs ys ss n h9 hj i hi]
    have e := hp (n - 1 - i) (by omega)
    rw [show n - 1 - (n - 1 - i) = i by omega] at e
    rw [← e, matN_at zr yr sr n (fun i hi => by rw [hp i hi]; exact h9 _ (by omega)) (fun i j hi hj' k => by
      rw [hp i hi, hp j hj'] at k
      have := hj _ _ (by omega) (by omega) k
      omega) (n - 1 - i) (by omega), hs _ (by omega), show n - 1 - (n - 1 - i) = i by omega]
  · have h1 : ∀ i, i < n → plc zs ys i ≠ p := fun i hi k => hh ⟨i, hi, k⟩
    rw [matN_off zs ys ss n p h1, matN_off zr yr sr n p (fun i hi => by rw [hp i hi]; exact h1 _ (by omega))]
end Go.Proofs.Ytdebkmioaglmaaa
