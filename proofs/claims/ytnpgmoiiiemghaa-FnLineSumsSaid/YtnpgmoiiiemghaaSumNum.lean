/-
  The sums of a line string of whole places: the program's runs and the law's. No walk.
-/
import Derived.Test.YtnpgmoiiiemghaaSumTh
import Derived.Test.YtnpgmoiiiemghaaSums3
namespace Go.Proofs.Ytnpgmoiiiemghaa
open Ieee
def pt (ps : List (Int × Int)) (i : Nat) : Int × Int := ps.getD i (0, 0)
theorem order_fl (a b : Int) (ha : a.natAbs < 2 ^ 53) (hb : b.natAbs < 2 ^ 53) : (FloatKind.f64.format.order (fl a) (fl b) == some .eq) = decide (a = b) := by
  show (FloatKind.f64.format.order (fl' a) (fl' b) == some .eq) = decide (a = b)
  rw [Is.dorder (Is.dint a ha) (Is.dint b hb)]
  unfold cmpZ
  by_cases h : a < b
  · rw [if_pos h]
    have : a ≠ b := by omega
    simp [this]
  · rw [if_neg h]
    by_cases h2 : a = b
    · rw [if_pos h2]
      simp [h2]
    · rw [if_neg h2]
      simp [h2]
set_option maxRecDepth 100000 in
theorem seg_full (p q : Int × Int) (hp : smallB 1000 p = true) (hq : smallB 1000 q = true) : ∃ m1 m2 s r, floatBits .mul .f64 (fl (q.1 - p.1)) (fl (q.1 - p.1)) = some m1 ∧ floatBits .mul .f64 (fl (q.2 - p.2)) (fl (q.2 - p.2)) = some m2 ∧
    floatBits .add .f64 m1 m2 = some s ∧ FloatKind.f64.format.sqrt s = some (segB p q) ∧ Is (segB p q) r ∧ r < (2 : Rat) ^ (14 : Int) ∧ (r = 0 ∨ (2 : Rat) ^ (-83 : Int) ≤ r) ∧ (p = q → r = 0) := by
  obtain ⟨m1', m2', s', r', E1, E2, E3, E4, I4, -, l2⟩ := segB_ok p q hp hq
  unfold smallB at hp hq
  have hp := of_decide_eq_true hp
  have hq := of_decide_eq_true hq
  obtain ⟨m1, e1, i1⟩ := sq_fl (q.1 - p.1) (by omega)
  obtain ⟨m2, e2, i2⟩ := sq_fl (q.2 - p.2) (by omega)
  have hb1 : (q.1 - p.1) * (q.1 - p.1) ≤ 4000000 := by
    have h1 : (q.1 - p.1).natAbs ≤ 2000 := by omega
    have h2 := Nat.mul_le_mul h1 h1
    rw [← Int.natAbs_mul] at h2
    omega
  have hb2 : (q.2 - p.2) * (q.2 - p.2) ≤ 4000000 := by
    have h1 : (q.2 - p.2).natAbs ≤ 2000 := by omega
    have h2 := Nat.mul_le_mul h1 h1
    rw [← Int.natAbs_mul] at h2
    omega
  have n1 := sq_nonneg (q.1 - p.1)
  have n2 := sq_nonneg (q.2 - p.2)
  have hzero : p = q → (q.1 - p.1) * (q.1 - p.1) + (q.2 - p.2) * (q.2 - p.2) = 0 := by
    intro h
    subst h
    simp
  generalize hA : (q.1 - p.1) * (q.1 - p.1) = A at *
  generalize hB : (q.2 - p.2) * (q.2 - p.2) = B at *
  obtain ⟨s, e3, i3⟩ := add_whole A B i1 i2 (by omega)
  have hm1 : m1' = m1 := by
    have a : floatBits .mul .f64 (fl (q.1 - p.1)) (fl (q.1 - p.1)) = some m1 := e1
    rw [E1] at a
    injection a
  have hm2 : m2' = m2 := by
    have a : floatBits .mul .f64 (fl (q.2 - p.2)) (fl (q.2 - p.2)) = some m2 := e2
    rw [E2] at a
    injection a
  subst hm1 hm2
  have hs : s' = s := by
    rw [E3] at e3
    injection e3
  subst hs
  refine ⟨m1', m2', s', r', E1, E2, E3, E4, I4, l2, ?_, ?_⟩
  · by_cases h0 : A + B = 0
    · left
      rw [h0] at i3
      have e0 : ((0 : Int) : Rat) = 0 := rfl
      rw [e0] at i3
      obtain ⟨r, g1, g2⟩ := i3.sqrt_zero
      rw [E4] at g1
      injection g1 with g1
      subst g1
      exact I4.fun g2
    · right
      have c24 : (2 : Rat) ^ (24 : Int) = 16777216 := by rfl
      obtain ⟨r, q', g1, g2, -, -, g3⟩ := i3.sqrt_full (by exact_mod_cast (by omega : (0 : Int) ≤ A + B)) (by
        have h1 : ((A + B : Int) : Rat) < ((16777216 : Int) : Rat) := Rat.intCast_lt_intCast.2 (by omega)
        have h2 : ((16777216 : Int) : Rat) = 16777216 := by rfl
        rw [c24, ← h2]
        exact h1)
      rw [E4] at g1
      injection g1 with g1
      subst g1
      rw [I4.fun g2]
      exact g3 (by
        have h1 : ((1 : Int) : Rat) ≤ ((A + B : Int) : Rat) := Rat.intCast_le_intCast.2 (by omega)
        exact h1)
  · intro h
    have h0 := hzero h
    rw [h0] at i3
    have e0 : ((0 : Int) : Rat) = 0 := rfl
    rw [e0] at i3
    obtain ⟨r, g1, g2⟩ := i3.sqrt_zero
    rw [E4] at g1
    injection g1 with g1
    subst g1
    exact I4.fun g2

def sameN (ps : List (Int × Int)) (i : Nat) : Bool := sameXY (fl (pt ps i).1) (fl (pt ps i).2) (fl (pt ps (i + 1)).1) (fl (pt ps (i + 1)).2)
def tLx (ps : List (Int × Int)) (i : Nat) : Nat := termL (sgB ps i) (fl ((pt ps (i + 1)).1 + (pt ps i).1))
def tLy (ps : List (Int × Int)) (i : Nat) : Nat := termL (sgB ps i) (fl ((pt ps (i + 1)).2 + (pt ps i).2))
def tPx (ps : List (Int × Int)) (i : Nat) : Nat := termP (sgB ps i) (fB .add (fl (pt ps i).1) (fl (pt ps (i + 1)).1))
def tPy (ps : List (Int × Int)) (i : Nat) : Nat := termP (sgB ps i) (fB .add (fl (pt ps i).2) (fl (pt ps (i + 1)).2))
theorem add_ok (a b : Int) (ha : a.natAbs ≤ 1000) (hb : b.natAbs ≤ 1000) : floatBits .add .f64 (fl a) (fl b) = some (fB .add (fl a) (fl b)) ∧ Is (fB .add (fl a) (fl b)) (dy (b + a) 0) ∧ Is (fl (b + a)) (dy (b + a) 0) := by
  obtain ⟨r, h1, h2⟩ := add_whole a b (Is.ofInt a (by omega)) (Is.ofInt b (by omega)) (by omega)
  have h1' : floatBits .add .f64 (fl a) (fl b) = some r := h1
  rw [fB_some h1']
  refine ⟨h1', ?_, Is.dint _ (by omega)⟩
  have : dy (b + a) 0 = ((a + b : Int) : Rat) := by unfold dy; rw [Rat.zpow_zero, Rat.mul_one, Int.add_comm]
  rw [this]
  exact h2
theorem small_pt {ps : List (Int × Int)} (h : ps.all (smallB 1000) = true) {i : Nat} (hi : i < ps.length) : smallB 1000 (pt ps i) = true := small_at h hi
theorem small_le {p : Int × Int} (h : smallB 1000 p = true) : p.1.natAbs ≤ 1000 ∧ p.2.natAbs ≤ 1000 := by
  unfold smallB at h
  have := of_decide_eq_true h
  omega
theorem same_eq {ps : List (Int × Int)} (h : ps.all (smallB 1000) = true) {i : Nat} (hi : i + 1 < ps.length) : sameN ps i = true → pt ps i = pt ps (i + 1) := by
  have a := small_le (small_pt h (i := i) (by omega))
  have b := small_le (small_pt h (i := i + 1) hi)
  unfold sameN sameXY
  rw [order_fl _ _ (by omega) (by omega), order_fl _ _ (by omega) (by omega)]
  intro k
  have ⟨k1, k2⟩ := Bool.and_eq_true_iff.1 k
  exact Prod.ext (of_decide_eq_true k1) (of_decide_eq_true k2)
/-- The words of one segment, and what is between them. -/
theorem terms (ps : List (Int × Int)) (h : ps.all (smallB 1000) = true) (i : Nat) (hi : i + 1 < ps.length) :
    (∃ t, floatBits .mul .f64 (sgB ps i) (fl ((pt ps (i + 1)).1 + (pt ps i).1)) = some (fB .mul (sgB ps i) (fl ((pt ps (i + 1)).1 + (pt ps i).1))) ∧ floatBits .quo .f64 (fB .mul (sgB ps i) (fl ((pt ps (i + 1)).1 + (pt ps i).1))) twoB = some (tLx ps i) ∧ floatBits .mul .f64 halfB (fB .add (fl (pt ps i).1) (fl (pt ps (i + 1)).1)) = some (fB .mul halfB (fB .add (fl (pt ps i).1) (fl (pt ps (i + 1)).1))) ∧ floatBits .mul .f64 (fB .mul halfB (fB .add (fl (pt ps i).1) (fl (pt ps (i + 1)).1))) (sgB ps i) = some (tPx ps i) ∧ Is (tLx ps i) t ∧ Is (tPx ps i) t ∧ -16384001 ≤ t ∧ t ≤ 16384001 ∧ (sameN ps i = true → t = 0)) ∧
    (∃ t, floatBits .mul .f64 (sgB ps i) (fl ((pt ps (i + 1)).2 + (pt ps i).2)) = some (fB .mul (sgB ps i) (fl ((pt ps (i + 1)).2 + (pt ps i).2))) ∧ floatBits .quo .f64 (fB .mul (sgB ps i) (fl ((pt ps (i + 1)).2 + (pt ps i).2))) twoB = some (tLy ps i) ∧ floatBits .mul .f64 halfB (fB .add (fl (pt ps i).2) (fl (pt ps (i + 1)).2)) = some (fB .mul halfB (fB .add (fl (pt ps i).2) (fl (pt ps (i + 1)).2))) ∧ floatBits .mul .f64 (fB .mul halfB (fB .add (fl (pt ps i).2) (fl (pt ps (i + 1)).2))) (sgB ps i) = some (tPy ps i) ∧ Is (tLy ps i) t ∧ Is (tPy ps i) t ∧ -16384001 ≤ t ∧ t ≤ 16384001 ∧ (sameN ps i = true → t = 0)) ∧
    (∃ t, Is (sgB ps i) t ∧ Is (sgB ps i) t ∧ -16384001 ≤ t ∧ t ≤ 16384001 ∧ (sameN ps i = true → t = 0)) := by
  have a := small_le (small_pt h (i := i) (by omega))
  have b := small_le (small_pt h (i := i + 1) hi)
  have hsame := same_eq h hi
  obtain ⟨_, _, _, r, _, _, _, _, i4, g1, g2, g3⟩ := seg_full (pt ps i) (pt ps (i + 1)) (small_pt h (i := i) (by omega)) (small_pt h hi)
  have i4' : Is (sgB ps i) r := i4
  obtain ⟨_, x2, x3⟩ := add_ok (pt ps i).1 (pt ps (i + 1)).1 a.1 b.1
  obtain ⟨_, y2, y3⟩ := add_ok (pt ps i).2 (pt ps (i + 1)).2 a.2 b.2
  refine ⟨?_, ?_, r, i4', i4', ?_, ?_, fun k => g3 (hsame k)⟩
  · obtain ⟨t, k1, k2, k3, k4, k5, k6, k7, k8, k9⟩ := term_ok i4' g2 g1 x3 x2 (by omega)
    exact ⟨t, k1, k2, k3, k4, k5, k6, k7, k8, fun k => k9 (g3 (hsame k))⟩
  · obtain ⟨t, k1, k2, k3, k4, k5, k6, k7, k8, k9⟩ := term_ok i4' g2 g1 y3 y2 (by omega)
    exact ⟨t, k1, k2, k3, k4, k5, k6, k7, k8, fun k => k9 (g3 (hsame k))⟩
  · have := zpow_pos2 (-83)
    rcases g2 with g2 | g2
    · rw [g2]; decide
    · grind
  · have c14 : (2 : Rat) ^ (14 : Int) = 16384 := by rfl
    rw [c14] at g1
    grind
theorem okX (ps : List (Int × Int)) (h : ps.all (smallB 1000) = true) : TermOk (sameN ps) (tPx ps) (tLx ps) (ps.length - 1) := fun i hi => by
  obtain ⟨⟨t, _, _, _, _, k5, k6, k7, k8, k9⟩, _, _⟩ := terms ps h i (by omega)
  exact ⟨t, k6, k5, k7, k8, k9⟩
theorem okY (ps : List (Int × Int)) (h : ps.all (smallB 1000) = true) : TermOk (sameN ps) (tPy ps) (tLy ps) (ps.length - 1) := fun i hi => by
  obtain ⟨_, ⟨t, _, _, _, _, k5, k6, k7, k8, k9⟩, _⟩ := terms ps h i (by omega)
  exact ⟨t, k6, k5, k7, k8, k9⟩
theorem okL (ps : List (Int × Int)) (h : ps.all (smallB 1000) = true) : TermOk (sameN ps) (sgB ps) (sgB ps) (ps.length - 1) := fun i hi => by
  obtain ⟨_, _, t, k5, k6, k7, k8, k9⟩ := terms ps h i (by omega)
  exact ⟨t, k6, k5, k7, k8, k9⟩
def lx (ps : List (Int × Int)) (i : Nat) : Nat := trackL (tLx ps) i
def ly (ps : List (Int × Int)) (i : Nat) : Nat := trackL (tLy ps) i
def ln (ps : List (Int × Int)) (i : Nat) : Nat := trackL (sgB ps) i
def stN (ps : List (Int × Int)) (i : Nat) : Tri := ⟨trackP (sameN ps) (tPx ps) i, trackP (sameN ps) (tPy ps) i, trackP (sameN ps) (sgB ps) i⟩
theorem step_num (ps : List (Int × Int)) (h : ps.all (smallB 1000) = true) (h200 : ps.length ≤ 200) (i : Nat) (hi : i + 1 < ps.length) : StepS (numsOf ps) i (stN ps i) (stN ps (i + 1)) := by
  have s1 := small_pt h (i := i) (by omega)
  have s2 := small_pt h (i := i + 1) hi
  have g1 : ps[i]? = some (pt ps i) := by unfold pt; rw [List.getD, List.getElem?_eq_getElem (by omega)]; rfl
  have g2 : ps[i + 1]? = some (pt ps (i + 1)) := by unfold pt; rw [List.getD, List.getElem?_eq_getElem (by omega)]; rfl
  obtain ⟨x1, x2⟩ := numsOf_get ps i _ g1
  obtain ⟨x3, x4⟩ := numsOf_get ps (i + 1) _ g2
  obtain ⟨-, a2, a3⟩ := track_add (by omega) (okX ps h) i (by omega)
  obtain ⟨-, b2, b3⟩ := track_add (by omega) (okY ps h) i (by omega)
  obtain ⟨-, c2, c3⟩ := track_add (by omega) (okL ps h) i (by omega)
  obtain ⟨⟨_, _, _, u3, u4, _⟩, ⟨_, _, _, v3, v4, _⟩, _⟩ := terms ps h i hi
  obtain ⟨m1, m2, s, _, e1, e2, e3, e4, _⟩ := seg_full (pt ps i) (pt ps (i + 1)) s1 s2
  have s1 := small_le s1
  have s2 := small_le s2
  refine ⟨_, _, _, _, x1, x2, x3, x4, ?_⟩
  cases hsm : sameN ps i
  · right
    refine ⟨hsm, _, _, m1, m2, s, sgB ps i, _, _, _, _, _, _, ⟨sub_fl (pt ps (i + 1)).1 (pt ps i).1 (by omega) (by omega), sub_fl (pt ps (i + 1)).2 (pt ps i).2 (by omega) (by omega), e1, e2, e3, e4⟩,
      ⟨(add_ok (pt ps i).1 (pt ps (i + 1)).1 s1.1 s2.1).1, (add_ok (pt ps i).2 (pt ps (i + 1)).2 s1.2 s2.2).1, u3, v3⟩, ⟨u4, v4⟩, ⟨a3 hsm, b3 hsm⟩, c3 hsm⟩
  · left
    refine ⟨hsm, ?_⟩
    unfold stN
    rw [a2 hsm, b2 hsm, c2 hsm]
end Go.Proofs.Ytnpgmoiiiemghaa
