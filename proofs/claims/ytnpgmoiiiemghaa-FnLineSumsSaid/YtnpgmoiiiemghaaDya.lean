/-
  The model's floats on dyadic numbers: sums, differences, products, quotients by a power of two, order, floor, greatest and least, exact where they fit. No condition, no program.
-/
import Derived.Test.YtnpgmoiiiemghaaFth
import GoSem.Extern.MathDim
import GoSem.Extern.MathFloor
namespace Go.Proofs.Ytnpgmoiiiemghaa
open Ieee
set_option exponentiation.threshold 3000
/-- z * 2^e. -/
def dy (z e : Int) : Rat := (z : Rat) * (2 : Rat) ^ e
theorem Is.dadd {x y : Nat} {a b e : Int} (hx : Is x (dy a e)) (hy : Is y (dy b e)) (h : (a + b).natAbs < 2 ^ 53) (h1 : -1074 ≤ e) (h2 : e ≤ 970) : ∃ r, floatBits .add .f64 x y = some r ∧ Is r (dy (a + b) e) := by
  obtain ⟨r, hr, hn⟩ := hx.sum hy
  have hq : dy a e + dy b e = ((a + b : Int) : Rat) * (2 : Rat) ^ e := by unfold dy; rw [Rat.intCast_add]; grind
  have := hn.exact (a + b) e h h1 h2 hq
  rw [hq] at this
  exact ⟨r, hr, this⟩
theorem Is.dsub {x y : Nat} {a b e : Int} (hx : Is x (dy a e)) (hy : Is y (dy b e)) (h : (a - b).natAbs < 2 ^ 53) (h1 : -1074 ≤ e) (h2 : e ≤ 970) : ∃ r, floatBits .sub .f64 x y = some r ∧ Is r (dy (a - b) e) := by
  obtain ⟨r, hr, hn⟩ := hx.diff hy
  have hq : dy a e - dy b e = ((a - b : Int) : Rat) * (2 : Rat) ^ e := by unfold dy; rw [Rat.intCast_sub]; grind
  have := hn.exact (a - b) e h h1 h2 hq
  rw [hq] at this
  exact ⟨r, hr, this⟩
theorem Is.dmul {x y : Nat} {a b e f : Int} (hx : Is x (dy a e)) (hy : Is y (dy b f)) (h : (a * b).natAbs < 2 ^ 53) (h1 : -1074 ≤ e + f) (h2 : e + f ≤ 970) : ∃ r, floatBits .mul .f64 x y = some r ∧ Is r (dy (a * b) (e + f)) := by
  obtain ⟨r, hr, hn⟩ := hx.prod hy
  have hq : dy a e * dy b f = ((a * b : Int) : Rat) * (2 : Rat) ^ (e + f) := by unfold dy; rw [Rat.intCast_mul, zpow_add2]; grind
  have := hn.exact (a * b) (e + f) h h1 h2 hq
  rw [hq] at this
  exact ⟨r, hr, this⟩
theorem dy_shift (z e : Int) (k : Nat) : dy z e = dy (z * 2 ^ k) (e - k) := by
  unfold dy
  have h1 : (2 : Rat) ^ e = ((2 ^ k : Nat) : Rat) * (2 : Rat) ^ (e - (k : Int)) := by
    rw [← zpow_nat2, ← zpow_add2]
    congr 1
    omega
  rw [h1, Rat.intCast_mul]
  have h2 : (((2 : Int) ^ k : Int) : Rat) = ((2 ^ k : Nat) : Rat) := by
    have : ((2 : Int) ^ k : Int) = ((2 ^ k : Nat) : Int) := by simp
    rw [this]
    rfl
  rw [h2]
  grind
/-- How two whole numbers stand to each other. -/
def cmpZ (a b : Int) : Ordering := if a < b then .lt else if a = b then .eq else .gt
theorem dy_lt {a b e : Int} : dy a e < dy b e ↔ a < b := by
  unfold dy
  have p := zpow_pos2 e
  constructor
  · intro h
    have h1 : (a : Rat) < (b : Rat) := by
      rcases Int.lt_or_le a b with k | k
      · exact_mod_cast k
      · exfalso
        have : (b : Rat) * (2 : Rat) ^ e ≤ (a : Rat) * (2 : Rat) ^ e := Rat.mul_le_mul_of_nonneg_right (by exact_mod_cast k) (Rat.le_of_lt p)
        grind
    exact_mod_cast h1
  · intro h
    exact Rat.mul_lt_mul_of_pos_right (by exact_mod_cast h) p
theorem dy_eq {a b e : Int} : dy a e = dy b e ↔ a = b := by
  constructor
  · intro h
    rcases Int.lt_trichotomy a b with k | k | k
    · have := dy_lt (e := e).2 k
      rw [h] at this
      grind
    · exact k
    · have := dy_lt (e := e).2 k
      rw [h] at this
      grind
  · rintro rfl
    rfl
theorem Is.dorder {x y : Nat} {a b e : Int} (hx : Is x (dy a e)) (hy : Is y (dy b e)) : FloatKind.f64.format.order x y = some (cmpZ a b) := by
  have h : FloatKind.f64.format.order x y = some (cmpQ (dy a e) (dy b e)) := hx.order hy
  rw [h]
  unfold cmpQ cmpZ
  simp only [dy_lt, dy_eq]
theorem Is.dint (n : Int) (h : n.natAbs < 2 ^ 53) : Is (fl' n) (dy n 0) := by
  have := Is.ofInt n h
  unfold dy
  rw [Rat.zpow_zero]
  have e : (n : Rat) * 1 = (n : Rat) := by grind
  rw [e]
  exact this
/-- A literal: its bits are read. -/
theorem Is.lit {x m : Nat} {i z e : Int} (k : Nat) (h : double.read x = .number false m i) (hm : (m : Int) = z * 2 ^ k) (hi : i = e - k) : Is x (dy z e) := by
  refine ⟨false, m, i, h, ?_⟩
  rw [dy_shift z e k, ← hm, ← hi]
  rfl
theorem Is.quoPow {x y : Nat} {p : Rat} {k : Int} (hx : Is x p) (hy : double.read y = .number false (2 ^ 52) k) : ∃ r, floatBits .quo .f64 x y = some r ∧ Rn (p * (2 : Rat) ^ (-(k + 52))) r := by
  obtain ⟨s, m, i, h1, rfl⟩ := hx
  show ∃ r, double.div x y = some r ∧ _
  unfold Format.div
  rw [h1, hy]
  have hm : m < 2 ^ 53 := by
    have e1 : double.signWeight = 2 ^ 63 := by decide
    have e2 : double.infRung = 2047 * 2 ^ 52 := by decide
    have e3 : double.binade = 2 ^ 52 := by decide
    unfold Format.read at h1
    simp only [e1, e2, e3] at h1
    split at h1
    · cases h1; omega
    · split at h1
      · cases h1
        have := Nat.mod_lt (x % 2 ^ 63) (show 0 < 2 ^ 52 by decide)
        omega
      · split at h1 <;> cases h1
  have hlog : m.log2 ≤ 53 := by
    by_cases h0 : m = 0
    · subst h0; decide
    · have := (log2_bounds h0).1
      rcases Nat.lt_or_ge 53 m.log2 with c | c
      · have : 2 ^ 54 ≤ 2 ^ m.log2 := Nat.pow_le_pow_right (by decide) c
        omega
      · exact c
  have h52 : (2 ^ 52 : Nat).log2 = 52 := by decide
  simp only [Datum.quotient, h52, Option.map_some, show (2 ^ 52 : Nat) ≠ 0 by decide, if_false]
  have hmore : double.fractionBits + 2 + 52 - m.log2 = 52 + (54 - m.log2) := by
    show 52 + 2 + 52 - m.log2 = _
    omega
  rw [hmore]
  generalize 54 - m.log2 = u at *
  have hd : m <<< (52 + u) = (m * 2 ^ u) * 2 ^ 52 := by rw [Nat.shiftLeft_eq, Nat.pow_add]; grind
  have hdiv : m <<< (52 + u) / 2 ^ 52 = m * 2 ^ u := by rw [hd, Nat.mul_div_cancel _ (by decide)]
  have hmod : m <<< (52 + u) % 2 ^ 52 = 0 := by rw [hd, Nat.mul_mod_left]
  rw [hdiv, hmod]
  refine ⟨_, rfl, ?_⟩
  refine ⟨s ^^ false, 2 * (m * 2 ^ u), _, rfl, ?_⟩
  have hx : (s ^^ false) = s := by cases s <;> rfl
  rw [hx, mant_val, mant_val]
  have e1 : ((2 * (m * 2 ^ u) : Nat) : Rat) * (2 : Rat) ^ (i - k - ((52 + u : Nat) : Int) - 1) = (m : Rat) * (2 : Rat) ^ i * (2 : Rat) ^ (-(k + 52)) := by
    have e2 : ((2 * (m * 2 ^ u) : Nat) : Rat) = (m : Rat) * (2 : Rat) ^ ((u + 1 : Nat) : Int) := by
      rw [zpow_nat2, ← Rat.natCast_mul]
      congr 1
      rw [Nat.pow_succ]
      grind
    rw [e2, Rat.mul_assoc, Rat.mul_assoc, ← zpow_add2, ← zpow_add2]
    congr 2
    omega
  have e3 : (0 != 0) = false := rfl
  cases s
  · simp only [Bool.false_eq_true, if_false]
    exact e1
  · simp only [if_true]
    have : -((2 * (m * 2 ^ u) : Nat) : Rat) * (2 : Rat) ^ (i - k - ((52 + u : Nat) : Int) - 1) = -((m : Rat) * (2 : Rat) ^ i * (2 : Rat) ^ (-(k + 52))) := by rw [← e1]; grind
    grind

theorem read64 : double.read 4634204016564240384 = .number false (2 ^ 52) (-46) := by decide
theorem quo64 (j : Int) (h : j.natAbs < 2 ^ 53) : ∃ r, floatBits .quo .f64 (fl' j) 4634204016564240384 = some r ∧ Is r (dy j (-6)) := by
  obtain ⟨r, hr, hn⟩ := (Is.dint j h).quoPow read64
  have hq : dy j 0 * (2 : Rat) ^ (-((-46 : Int) + 52)) = (j : Rat) * (2 : Rat) ^ (-6 : Int) := by
    unfold dy
    rw [Rat.zpow_zero]
    have : (-((-46 : Int) + 52)) = -6 := by decide
    rw [this]
    grind
  have := hn.exact j (-6) h (by decide) (by decide) hq
  rw [hq] at this
  exact ⟨r, hr, this⟩
theorem is_one : Is 4607182418800017408 (dy 1 0) := Is.lit 52 (by decide : double.read 4607182418800017408 = .number false (2 ^ 52) (-52)) (by decide) (by decide)
theorem is_half : Is 4602678819172646912 (dy 1 (-1)) := Is.lit 52 (by decide : double.read 4602678819172646912 = .number false (2 ^ 52) (-53)) (by decide) (by decide)
theorem is_quarter : Is 4598175219545276416 (dy 1 (-2)) := Is.lit 52 (by decide : double.read 4598175219545276416 = .number false (2 ^ 52) (-54)) (by decide) (by decide)
theorem is_three : Is 4604930618986332160 (dy 3 (-2)) := Is.lit 51 (by decide : double.read 4604930618986332160 = .number false (6755399441055744) (-53)) (by decide) (by decide)
theorem dy_zero (e : Int) : dy 0 e = 0 := by unfold dy; grind
theorem is_nought : Is 0 (dy 0 0) := by
  rw [dy_zero]
  exact is_zero false 0

/-- What math.Max and math.Min give on amd64. -/
def pickB (neg : Bool) (win : Ordering) (x y : Nat) : Nat :=
  if FloatKind.f64.decode x == .infinity neg || FloatKind.f64.decode y == .infinity neg then FloatKind.f64.encode (.infinity neg)
  else if (FloatKind.f64.decode x).isNaN || (FloatKind.f64.decode y).isNaN then 0x7FF8000000000001
  else if (FloatKind.f64.decode x).isZero && (FloatKind.f64.decode y).isZero then (if (FloatKind.f64.decode x).neg == neg then x else y)
  else if (FloatKind.f64.decode x).order (FloatKind.f64.decode y) == some win then x else y
theorem isZero_q {x : Nat} {q : Rat} (hx : Is x q) (h : (FloatKind.f64.decode x).isZero = true) : q = 0 := by
  obtain ⟨s, m, i, h1, rfl⟩ := hx
  have h2 : FloatKind.f64.decode x = .number s m i := h1
  rw [h2] at h
  have : m = 0 := by
    unfold Datum.isZero at h
    split at h
    · rename_i heq
      injection heq
    · cases h
  subst this
  rw [mant_zero]
  grind
theorem pickB_is {x y : Nat} {a b e : Int} (neg : Bool) (win : Ordering) (hx : Is x (dy a e)) (hy : Is y (dy b e)) : Is (pickB neg win x y) (dy (if cmpZ a b = win then a else b) e) := by
  have h3 : (FloatKind.f64.decode x).order (FloatKind.f64.decode y) = some (cmpZ a b) := hx.dorder hy
  have i1 : (FloatKind.f64.decode x == .infinity neg) = false := by
    obtain ⟨s, m, i, h1, _⟩ := hx
    have h2 : FloatKind.f64.decode x = .number s m i := h1
    rw [h2]
    rfl
  have i2 : (FloatKind.f64.decode y == .infinity neg) = false := by
    obtain ⟨s, m, i, h1, _⟩ := hy
    have h2 : FloatKind.f64.decode y = .number s m i := h1
    rw [h2]
    rfl
  have n1 : (FloatKind.f64.decode x).isNaN = false := by
    obtain ⟨s, m, i, h1, _⟩ := hx
    have h2 : FloatKind.f64.decode x = .number s m i := h1
    rw [h2]
    rfl
  have n2 : (FloatKind.f64.decode y).isNaN = false := by
    obtain ⟨s, m, i, h1, _⟩ := hy
    have h2 : FloatKind.f64.decode y = .number s m i := h1
    rw [h2]
    rfl
  unfold pickB
  rw [i1, i2, n1, n2]
  simp only [Bool.or_self, Bool.false_eq_true, if_false]
  by_cases z : ((FloatKind.f64.decode x).isZero && (FloatKind.f64.decode y).isZero) = true
  · rw [if_pos z]
    obtain ⟨z1, z2⟩ := Bool.and_eq_true_iff.1 z
    have q1 := isZero_q hx z1
    have q2 := isZero_q hy z2
    have e1 : a = 0 := dy_eq.1 (q1.trans (dy_zero e).symm)
    have e2 : b = 0 := dy_eq.1 (q2.trans (dy_zero e).symm)
    subst e1 e2
    have : (if cmpZ 0 0 = win then (0 : Int) else 0) = 0 := by split <;> rfl
    rw [this]
    split
    · exact hx
    · exact hy
  · rw [if_neg z, h3]
    by_cases c : cmpZ a b = win
    · rw [if_pos c, c]
      simp
      exact hx
    · rw [if_neg c]
      have : (some (cmpZ a b) == some win) = false := by
        simp
        exact c
      rw [this]
      exact hy
/-- What math.Floor gives of a number. -/
def floorB (x : Nat) : Nat := FloatKind.f64.encode ((FloatKind.f64.decode x).integral .down)
theorem down_le (s : Bool) (n d : Nat) : Toward.down.cut s n d * 2 ^ d ≤ n + 2 ^ d ∨ Toward.down.cut s n d ≤ 1 := by
  unfold Toward.cut
  simp only
  by_cases h : d ≤ n.log2 + 2
  · left
    rw [Nat.min_eq_left h, Nat.one_shiftLeft]
    have h1 := Nat.div_mul_le_self n (2 ^ d)
    have h2 : (s && n % 2 ^ d != 0).toNat ≤ 1 := by cases (s && n % 2 ^ d != 0) <;> simp
    rw [Nat.add_mul]
    have h3 : (s && n % 2 ^ d != 0).toNat * 2 ^ d ≤ 1 * 2 ^ d := Nat.mul_le_mul_right _ h2
    omega
  · right
    rw [Nat.min_eq_right (by omega), Nat.one_shiftLeft]
    have h1 : n < 2 ^ (n.log2 + 2) := by
      have := Nat.lt_log2_self (n := n)
      have h2 : 2 ^ (n.log2 + 1) ≤ 2 ^ (n.log2 + 2) := Nat.pow_le_pow_right (by decide) (by omega)
      omega
    rw [Nat.div_eq_of_lt h1]
    cases (s && n % 2 ^ (n.log2 + 2) != 0) <;> simp
/-- A number of no great size that is its own floor is a whole number. -/
theorem whole_of_floor {x : Nat} {q : Rat} (hx : Is x q) (h1 : -(2 : Rat) ^ (20 : Int) ≤ q) (h2 : q ≤ (2 : Rat) ^ (20 : Int)) (hf : FloatKind.f64.format.order (floorB x) x = some .eq) : ∃ z : Int, q = dy z 0 ∧ z.natAbs ≤ 2 ^ 20 := by
  have hx0 := hx
  obtain ⟨s, m, i, h, hq⟩ := hx
  have hd : FloatKind.f64.decode x = .number s m i := h
  have hfl : floorB x = double.nearest s (Toward.down.cut s (m <<< i.toNat) (-i).toNat) 0 := by
    unfold floorB
    rw [hd]
    rfl
  have c20 : (2 : Rat) ^ (20 : Int) = 1048576 := by rfl
  rw [c20] at h1 h2
  have hmag : (m : Rat) * (2 : Rat) ^ i ≤ 1048576 := by
    rw [mant_val] at hq
    cases s
    · simp only [Bool.false_eq_true, if_false] at hq
      grind
    · simp only [if_true] at hq
      grind
  have hc : Toward.down.cut s (m <<< i.toNat) (-i).toNat ≤ 1048577 := by
    rcases down_le s (m <<< i.toNat) (-i).toNat with k | k
    · have hn : m <<< i.toNat ≤ 1048576 * 2 ^ (-i).toNat := by
        have e0 : (m : Rat) * (2 : Rat) ^ i * ((2 ^ (-i).toNat : Nat) : Rat) = ((m <<< i.toNat : Nat) : Rat) := by
          rw [Nat.shiftLeft_eq, Rat.natCast_mul, ← zpow_nat2, ← zpow_nat2, Rat.mul_assoc, ← zpow_add2]
          congr 2
          omega
        have p : (0 : Rat) ≤ ((2 ^ (-i).toNat : Nat) : Rat) := by exact_mod_cast Nat.zero_le _
        have e1 := Rat.mul_le_mul_of_nonneg_right hmag p
        rw [e0] at e1
        have e2 : ((m <<< i.toNat : Nat) : Rat) ≤ ((1048576 * 2 ^ (-i).toNat : Nat) : Rat) := by rw [Rat.natCast_mul]; exact e1
        exact_mod_cast e2
      have hp : 0 < 2 ^ (-i).toNat := Nat.two_pow_pos _
      generalize Toward.down.cut s (m <<< i.toNat) (-i).toNat = c at *
      generalize 2 ^ (-i).toNat = g at *
      have : c * g ≤ 1048577 * g := by omega
      exact Nat.le_of_mul_le_mul_right this hp
    · omega
  generalize Toward.down.cut s (m <<< i.toNat) (-i).toNat = c at *
  have hRn : Rn ((mant s c : Rat) * (2 : Rat) ^ (0 : Int)) (floorB x) := ⟨s, c, 0, hfl, rfl⟩
  have hI := hRn.exact (mant s c) 0 (by rw [mant_abs]; omega) (by decide) (by decide) rfl
  have ho : FloatKind.f64.format.order (floorB x) x = some (cmpQ (dy (mant s c) 0) q) := Is.order hI hx0
  rw [ho] at hf
  have he : dy (mant s c) 0 = q := by
    unfold cmpQ at hf
    by_cases a1 : dy (mant s c) 0 < q
    · rw [if_pos a1] at hf
      cases hf
    · rw [if_neg a1] at hf
      by_cases a2 : dy (mant s c) 0 = q
      · exact a2
      · rw [if_neg a2] at hf
        cases hf
  refine ⟨mant s c, he.symm, ?_⟩
  rw [← he] at h1 h2
  unfold dy at h1 h2
  rw [Rat.zpow_zero] at h1 h2
  have g1 : ((-1048576 : Int) : Rat) ≤ ((mant s c : Int) : Rat) := by
    have : ((-1048576 : Int) : Rat) = -1048576 := by rfl
    rw [this]
    grind
  have g2 : ((mant s c : Int) : Rat) ≤ ((1048576 : Int) : Rat) := by
    have : ((1048576 : Int) : Rat) = 1048576 := by rfl
    rw [this]
    grind
  have g3 := Rat.intCast_le_intCast.1 g1
  have g4 := Rat.intCast_le_intCast.1 g2
  omega

theorem read_p20 : double.read 4697254411347427328 = .number false (2 ^ 52) (-32) := by decide
theorem read_m20 : double.read 13920626448202203136 = .number true (2 ^ 52) (-32) := by decide
theorem p20 : ((2 ^ 52 : Nat) : Rat) * (2 : Rat) ^ (-32 : Int) = (2 : Rat) ^ (20 : Int) := by
  rw [← zpow_nat2, ← zpow_add2]
  rfl
/-- A number between -2^20 and 2^20, by the orders that tell so. -/
theorem between20 {x : Nat} (h1 : FloatKind.f64.format.order x 13920626448202203136 = some .gt ∨ FloatKind.f64.format.order x 13920626448202203136 = some .eq)
    (h2 : FloatKind.f64.format.order x 4697254411347427328 = some .lt ∨ FloatKind.f64.format.order x 4697254411347427328 = some .eq) :
    ∃ s m i q, FloatKind.f64.decode x = .number s m i ∧ Is x q ∧ -(2 : Rat) ^ (20 : Int) ≤ q ∧ q ≤ (2 : Rat) ^ (20 : Int) := by
  have o1 : FloatKind.f64.format.order x 13920626448202203136 = (FloatKind.f64.decode x).order (.number true (2 ^ 52) (-32)) := by
    show (double.read x).order (double.read 13920626448202203136) = (double.read x).order _
    rw [read_m20]
  have o2 : FloatKind.f64.format.order x 4697254411347427328 = (FloatKind.f64.decode x).order (.number false (2 ^ 52) (-32)) := by
    show (double.read x).order (double.read 4697254411347427328) = (double.read x).order _
    rw [read_p20]
  cases hd : FloatKind.f64.decode x with
  | nan s m =>
    rw [o1, hd] at h1
    rcases h1 with h1 | h1 <;> cases h1
  | infinity s =>
    rw [o1, hd] at h1
    rw [o2, hd] at h2
    cases s
    · rcases h2 with h2 | h2 <;> cases h2
    · rcases h1 with h1 | h1 <;> cases h1
  | number s m i =>
    have hx : Is x ((mant s m : Rat) * (2 : Rat) ^ i) := ⟨s, m, i, hd, rfl⟩
    have i1 : Is 13920626448202203136 (-(2 : Rat) ^ (20 : Int)) := ⟨true, 2 ^ 52, -32, read_m20, by rw [mant_val, if_pos rfl, p20]⟩
    have i2 : Is 4697254411347427328 ((2 : Rat) ^ (20 : Int)) := ⟨false, 2 ^ 52, -32, read_p20, by rw [mant_val, if_neg (by decide), p20]⟩
    have c1 : FloatKind.f64.format.order x 13920626448202203136 = some (cmpQ _ _) := hx.order i1
    have c2 : FloatKind.f64.format.order x 4697254411347427328 = some (cmpQ _ _) := hx.order i2
    refine ⟨s, m, i, _, rfl, hx, ?_, ?_⟩
    · rw [c1] at h1
      unfold cmpQ at h1
      by_cases k : (mant s m : Rat) * (2 : Rat) ^ i < -(2 : Rat) ^ (20 : Int)
      · rw [if_pos k] at h1
        rcases h1 with h1 | h1 <;> cases h1
      · exact Rat.not_lt.1 k
    · rw [c2] at h2
      unfold cmpQ at h2
      by_cases k : (mant s m : Rat) * (2 : Rat) ^ i < (2 : Rat) ^ (20 : Int)
      · exact Rat.le_of_lt k
      · rw [if_neg k] at h2
        by_cases k2 : (mant s m : Rat) * (2 : Rat) ^ i = (2 : Rat) ^ (20 : Int)
        · rw [k2]
          exact Rat.le_refl
        · rw [if_neg k2] at h2
          rcases h2 with h2 | h2 <;> cases h2
end Go.Proofs.Ytnpgmoiiiemghaa
