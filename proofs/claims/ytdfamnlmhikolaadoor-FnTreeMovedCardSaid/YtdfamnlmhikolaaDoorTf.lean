/-
  Floats that stand for whole numbers: their order as integers, the lesser and the greater one, a number between two others, cut to a whole one. No condition.
-/
import Derived.Test.YtdfamnlmhikolaaDoorFs
import Derived.Test.YtdfamnlmhikolaaDoorRat
import Derived.Test.YtdfamnlmhikolaaDoorFth
import Derived.Test.YtdfamnlmhikolaaDoorTm
namespace Go.Proofs.YtdfamnlmhikolaaDoor
open Go.ChangeShapes Go.WideShapes Go.ChangeAt Go.RowKit Ieee
def oI (p q : Int) : Ordering := if p < q then .lt else if p = q then .eq else .gt
theorem Is.ord {x y : Nat} {p q : Int} (hx : Is x (p : Rat)) (hy : Is y (q : Rat)) : FloatKind.f64.format.order x y = some (oI p q) := by
  have h := hx.order hy
  have e : cmpQ (p : Rat) (q : Rat) = oI p q := by
    unfold cmpQ oI
    simp only [Rat.intCast_lt_intCast, Rat.intCast_inj]
  rw [e] at h
  exact h
def ltB (x y : Nat) : Bool := FloatKind.f64.format.order x y == some .lt
def gtB (x y : Nat) : Bool := FloatKind.f64.format.order x y == some .gt
def leB (x y : Nat) : Bool := FloatKind.f64.format.order x y == some .lt || FloatKind.f64.format.order x y == some .eq
def geB (x y : Nat) : Bool := FloatKind.f64.format.order x y == some .gt || FloatKind.f64.format.order x y == some .eq
def eqB (x y : Nat) : Bool := FloatKind.f64.format.order x y == some .eq
theorem oI_lt (p q : Int) : (some (oI p q) == some Ordering.lt) = decide (p < q) := by
  unfold oI
  split
  · simp [*]
  · split <;> (simp; omega)
theorem oI_gt (p q : Int) : (some (oI p q) == some Ordering.gt) = decide (q < p) := by
  unfold oI
  split
  · simp; omega
  · split <;> (simp; omega)
theorem oI_eq (p q : Int) : (some (oI p q) == some Ordering.eq) = decide (p = q) := by
  unfold oI
  split
  · simp; omega
  · split <;> simp [*]
theorem Is.ltB {x y : Nat} {p q : Int} (hx : Is x (p : Rat)) (hy : Is y (q : Rat)) : ltB x y = decide (p < q) := by
  unfold Go.Proofs.YtdfamnlmhikolaaDoor.ltB
  rw [hx.ord hy, oI_lt]
theorem Is.gtB {x y : Nat} {p q : Int} (hx : Is x (p : Rat)) (hy : Is y (q : Rat)) : gtB x y = decide (q < p) := by
  unfold Go.Proofs.YtdfamnlmhikolaaDoor.gtB
  rw [hx.ord hy, oI_gt]
theorem Is.eqB {x y : Nat} {p q : Int} (hx : Is x (p : Rat)) (hy : Is y (q : Rat)) : eqB x y = decide (p = q) := by
  unfold Go.Proofs.YtdfamnlmhikolaaDoor.eqB
  rw [hx.ord hy, oI_eq]
theorem Is.leB {x y : Nat} {p q : Int} (hx : Is x (p : Rat)) (hy : Is y (q : Rat)) : leB x y = decide (p ≤ q) := by
  unfold Go.Proofs.YtdfamnlmhikolaaDoor.leB
  rw [hx.ord hy, oI_lt, oI_eq, ← Bool.decide_or]
  simp only [decide_eq_decide]
  omega
theorem Is.geB {x y : Nat} {p q : Int} (hx : Is x (p : Rat)) (hy : Is y (q : Rat)) : geB x y = decide (q ≤ p) := by
  unfold Go.Proofs.YtdfamnlmhikolaaDoor.geB
  rw [hx.ord hy, oI_gt, oI_eq, ← Bool.decide_or]
  simp only [decide_eq_decide]
  omega
def mnB (x y : Nat) : Nat := if ltB x y = true then x else y
def mxB (x y : Nat) : Nat := if gtB x y = true then x else y
theorem Is.mn {x y : Nat} {p q : Int} (hx : Is x (p : Rat)) (hy : Is y (q : Rat)) : Is (mnB x y) ((min p q : Int) : Rat) := by
  unfold mnB
  rw [hx.ltB hy]
  by_cases h : p < q
  · rw [if_pos (by simpa using h), Int.min_eq_left (by omega)]
    exact hx
  · rw [if_neg (by simpa using h), Int.min_eq_right (by omega)]
    exact hy
theorem Is.mx {x y : Nat} {p q : Int} (hx : Is x (p : Rat)) (hy : Is y (q : Rat)) : Is (mxB x y) ((max p q : Int) : Rat) := by
  unfold mxB
  rw [hx.gtB hy]
  by_cases h : q < p
  · rw [if_pos (by simpa using h), Int.max_eq_left (by omega)]
    exact hx
  · rw [if_neg (by simpa using h), Int.max_eq_right (by omega)]
    exact hy
theorem Is.zero : Is 0 ((0 : Int) : Rat) := by
  have h := Is.ofInt 0 (by decide)
  have e : FloatKind.f64.nearest 0 = 0 := by decide
  rw [e] at h
  exact h

/-- A box of floats stands for one of whole numbers. -/
structure BxB (a b c d : Nat) (q : Bx) : Prop where
  x0 : Is a (q.x0 : Rat)
  y0 : Is b (q.y0 : Rat)
  x1 : Is c (q.x1 : Rat)
  y1 : Is d (q.y1 : Rat)
theorem BxB.join {a b c d a' b' c' d' : Nat} {q q' : Bx} (h : BxB a b c d q) (k : BxB a' b' c' d' q') : BxB (mnB a a') (mnB b b') (mxB c c') (mxB d d') (q.join q') :=
  ⟨h.x0.mn k.x0, h.y0.mn k.y0, h.x1.mx k.x1, h.y1.mx k.y1⟩

/-! ### A number between two others, cut to a whole one -/
theorem cut_zero_le (neg : Bool) (n d : Nat) : Toward.zero.cut neg n d * 2 ^ d ≤ n := by
  unfold Toward.cut
  simp only [Bool.toNat_false, Nat.add_zero, Nat.shiftLeft_eq, Nat.one_mul]
  rcases Nat.le_total d (n.log2 + 2) with h | h
  · rw [Nat.min_eq_left h]
    exact Nat.div_mul_le_self _ _
  · rw [Nat.min_eq_right h]
    have : n / 2 ^ (n.log2 + 2) = 0 := by
      rw [Nat.div_eq_zero_iff]
      right
      rcases Nat.eq_zero_or_pos n with h0 | h0
      · subst h0
        exact Nat.two_pow_pos _
      · exact Nat.lt_trans (Nat.lt_log2_self) (Nat.pow_lt_pow_right (by decide) (by omega))
    rw [this]
    omega
/-- The whole number that a small number is cut to is small. -/
theorem trunc_small {x : Nat} {q : Rat} (hx : Is x q) (m : Nat) (h1 : -(m : Rat) ≤ q) (h2 : q ≤ (m : Rat)) : ∃ n : Int, (FloatKind.f64.decode x).toInt .zero = some n ∧ n.natAbs ≤ m := by
  obtain ⟨s, g, i, hr, hq⟩ := hx
  have hd : FloatKind.f64.decode x = .number s g i := hr
  refine ⟨_, by rw [hd]; rfl, ?_⟩
  have hs : ∀ k : Nat, (signed s k 0).natAbs = k := by
    intro k
    rw [signed_eq, mant]
    cases s <;> simp
  rw [hs]
  have hc := cut_zero_le s (g <<< i.toNat) (-i).toNat
  rw [Nat.shiftLeft_eq] at hc
  rw [Nat.shiftLeft_eq]
  have hg : (g : Rat) * (2 : Rat) ^ i ≤ (m : Rat) := by
    rw [mant_val] at hq
    cases s
    · simp only [Bool.false_eq_true, if_false] at hq
      rw [hq]
      exact h2
    · simp only [if_true] at hq
      grind
  have hN : g * 2 ^ i.toNat ≤ m * 2 ^ (-i).toNat := by
    rcases Int.le_total 0 i with k | k
    · have e : (-i).toNat = 0 := by omega
      rw [e, Nat.pow_zero, Nat.mul_one]
      have e2 : (2 : Rat) ^ i = ((2 ^ i.toNat : Nat) : Rat) := by
        rw [← zpow_nat2]
        congr 1
        omega
      rw [e2] at hg
      exact_mod_cast hg
    · have e : i.toNat = 0 := by omega
      rw [e, Nat.pow_zero, Nat.mul_one]
      have e2 : (2 : Rat) ^ i * ((2 ^ (-i).toNat : Nat) : Rat) = 1 := by
        rw [← zpow_nat2, ← zpow_add2]
        have : i + ((-i).toNat : Int) = 0 := by omega
        rw [this]
        rfl
      have hp : (0 : Rat) ≤ ((2 ^ (-i).toNat : Nat) : Rat) := by
        exact_mod_cast Nat.zero_le _
      have h3 := Rat.mul_le_mul_of_nonneg_right hg hp
      rw [Rat.mul_assoc, e2, Rat.mul_one] at h3
      exact_mod_cast h3
  have hpos : 0 < 2 ^ (-i).toNat := Nat.two_pow_pos _
  exact Nat.le_of_mul_le_mul_right (Nat.le_trans hc hN) hpos
theorem is_of_fin {x : Nat} (h : finB x = true) : ∃ q, Is x q := by
  unfold finB at h
  split at h
  · rename_i s m i e
    exact ⟨_, s, m, i, e, rfl⟩
  · cases h
theorem cmpQ_le {p q : Rat} (h : (some (cmpQ p q) == some Ordering.lt || some (cmpQ p q) == some Ordering.eq) = true) : p ≤ q := by
  unfold cmpQ at h
  split at h
  · rename_i k
    exact Rat.le_of_lt k
  · split at h
    · rename_i k
      rw [k]
      exact Rat.le_refl
    · simp at h
theorem cmpQ_ge {p q : Rat} (h : (some (cmpQ p q) == some Ordering.gt || some (cmpQ p q) == some Ordering.eq) = true) : q ≤ p := by
  unfold cmpQ at h
  split at h
  · simp at h
  · rename_i k
    exact Rat.not_lt.1 k
/-- What is between two numbers is a number. -/
theorem fin_between {x a b : Nat} {p q : Rat} (ha : Is a p) (hb : Is b q) (h1 : geB x a = true) (h2 : leB x b = true) : ∃ r, Is x r ∧ p ≤ r ∧ r ≤ q := by
  have hf : finB x = true := by
    obtain ⟨s, m, i, hr, _⟩ := ha
    obtain ⟨t, n, j, hs, _⟩ := hb
    unfold geB at h1
    unfold leB at h2
    unfold finB
    have e1 : FloatKind.f64.format.order x a = (double.read x).order (double.read a) := rfl
    have e2 : FloatKind.f64.format.order x b = (double.read x).order (double.read b) := rfl
    rw [e1, hr] at h1
    rw [e2, hs] at h2
    cases hx : double.read x with
    | nan u v =>
      rw [hx] at h1
      simp [Datum.order] at h1
    | infinity u =>
      rw [hx] at h1 h2
      cases u <;> simp [Datum.order] at h1 h2
    | number u v w => rfl
  obtain ⟨r, hr⟩ := is_of_fin hf
  have o1 : FloatKind.f64.format.order x a = some (cmpQ r p) := hr.order ha
  have o2 : FloatKind.f64.format.order x b = some (cmpQ r q) := hr.order hb
  unfold geB at h1
  unfold leB at h2
  rw [o1] at h1
  rw [o2] at h2
  exact ⟨r, hr, cmpQ_ge h1, cmpQ_le h2⟩
end Go.Proofs.YtdfamnlmhikolaaDoor
