import Derived.Laws.FloatArith
import Derived.Laws.Cover3
namespace Go.Proofs.YtdfamnlmhikolaaDoor
open Ieee

/-- A significand with its sign. -/
def mant (s : Bool) (m : Nat) : Int := if s then -(m : Int) else m

/-- The bits x stand for the number q. -/
def Is (x : Nat) (q : Rat) : Prop := ∃ s m i, double.read x = .number s m i ∧ (mant s m : Rat) * (2 : Rat) ^ i = q

theorem two_ne : (2 : Rat) ≠ 0 := by decide

theorem zpow_succ2 (i : Int) : (2 : Rat) ^ (i + 1) = (2 : Rat) ^ i * 2 := Rat.zpow_add_one two_ne i

set_option exponentiation.threshold 3000

theorem read_word (s : Bool) (R : Nat) (hR : R < 2047 * 2 ^ 52) :
    double.read (double.word s R) = if R < 2 ^ 52 then .number s R (-1074) else .number s (2 ^ 52 + R % 2 ^ 52) (-1074 + (R / 2 ^ 52 - 1 : Nat)) := by
  have e1 : double.signWeight = 2 ^ 63 := by decide
  have e2 : double.infRung = 2047 * 2 ^ 52 := by decide
  have e3 : double.binade = 2 ^ 52 := by decide
  have e4 : double.leastPlace = -1074 := by decide
  have h1 : (double.word s R) / 2 ^ 63 % 2 = (if s then 1 else 0) := by
    unfold Format.word
    rw [e1]
    cases s <;> simp <;> omega
  have h2 : (double.word s R) % 2 ^ 63 = R := by
    unfold Format.word
    rw [e1]
    cases s <;> simp <;> omega
  simp only [Format.read, e1, e2, e3, e4, h1, h2]
  have h3 : ((if s = true then 1 else 0 : Nat) == 1) = s := by cases s <;> rfl
  rw [h3]
  by_cases h : R < 2 ^ 52
  · rw [if_pos h, if_pos h]
  · rw [if_neg h, if_neg h, if_pos hR]

theorem mant_double (s : Bool) (m : Nat) : mant s (2 * m) = 2 * mant s m := by
  unfold mant
  cases s <;> simp <;> omega

theorem is_rung (s : Bool) (e k : Nat) (hk : k ≤ 2 ^ 53) (he : e = 0 ∨ 2 ^ 52 ≤ k) (hR : e * 2 ^ 52 + k < 2047 * 2 ^ 52) :
    Is (double.word s (e * 2 ^ 52 + k)) ((mant s k : Rat) * (2 : Rat) ^ ((e : Int) - 1074)) := by
  have h := read_word s _ hR
  by_cases h0 : k < 2 ^ 52
  · have he0 : e = 0 := by omega
    subst he0
    rw [if_pos (by omega)] at h
    exact ⟨s, _, _, h, by simp⟩
  · rw [if_neg (by omega)] at h
    by_cases h1 : k < 2 ^ 53
    · have hd : (e * 2 ^ 52 + k) / 2 ^ 52 = e + 1 := by omega
      have hm : (e * 2 ^ 52 + k) % 2 ^ 52 = k - 2 ^ 52 := by omega
      rw [hd, hm] at h
      refine ⟨s, _, _, h, ?_⟩
      have hk' : 2 ^ 52 + (k - 2 ^ 52) = k := by omega
      have hi : (-1074 + ((e + 1 - 1 : Nat) : Int)) = (e : Int) - 1074 := by omega
      rw [hk', hi]
    · have hk2 : k = 2 ^ 53 := by omega
      subst hk2
      have hd : (e * 2 ^ 52 + 2 ^ 53) / 2 ^ 52 = e + 2 := by omega
      have hm : (e * 2 ^ 52 + 2 ^ 53) % 2 ^ 52 = 0 := by omega
      rw [hd, hm] at h
      refine ⟨s, _, _, h, ?_⟩
      have hi : (-1074 + ((e + 2 - 1 : Nat) : Int)) = ((e : Int) - 1074) + 1 := by omega
      have hk' : (2 : Nat) ^ 53 = 2 * (2 ^ 52 + 0) := by decide
      rw [hi, zpow_succ2, hk', mant_double]
      rw [Rat.intCast_mul]
      grind

/-! ### To the nearest whole number, ties to even -/
theorem cut_bounds (neg : Bool) (n d : Nat) :
    2 * (Toward.even.cut neg n d * 2 ^ d) ≤ 2 * n + 2 ^ d ∧ 2 * n ≤ 2 * (Toward.even.cut neg n d * 2 ^ d) + 2 ^ d := by
  unfold Toward.cut
  by_cases h : d ≤ n.log2 + 2
  · have hg : (1 <<< min d (n.log2 + 2) : Nat) = 2 ^ d := by
      rw [Nat.min_eq_left h, Nat.shiftLeft_eq, Nat.one_mul]
    simp only [hg]
    have hpos : 0 < 2 ^ d := Nat.two_pow_pos d
    have hdm := Nat.div_add_mod n (2 ^ d)
    have hlt := Nat.mod_lt n hpos
    generalize hq : n / 2 ^ d = q at *
    generalize hr : n % 2 ^ d = r at *
    generalize 2 ^ d = g at *
    have hn : n = q * g + r := by rw [Nat.mul_comm q g]; omega
    by_cases hb : (decide (g < 2 * r) || (g == 2 * r && q % 2 == 1)) = true
    · rw [hb]
      simp only [Bool.toNat_true, Nat.add_mul, Nat.one_mul]
      simp at hb
      generalize q * g = t at *
      omega
    · simp only [Bool.not_eq_true] at hb
      rw [hb]
      simp only [Bool.toNat_false, Nat.add_zero]
      simp at hb
      generalize q * g = t at *
      omega
  · have h' : n.log2 + 2 ≤ d := by omega
    have hg : (1 <<< min d (n.log2 + 2) : Nat) = 2 ^ (n.log2 + 2) := by
      rw [Nat.min_eq_right h', Nat.shiftLeft_eq, Nat.one_mul]
    simp only [hg]
    have hlt : n < 2 ^ (n.log2 + 1) := Nat.lt_log2_self
    have h2 : 2 ^ (n.log2 + 2) = 2 * 2 ^ (n.log2 + 1) := by rw [Nat.pow_succ]; omega
    have hle : 2 ^ (n.log2 + 2) ≤ 2 ^ d := Nat.pow_le_pow_right (by omega) h'
    have hdiv : n / 2 ^ (n.log2 + 2) = 0 := Nat.div_eq_of_lt (by omega)
    have hmod : n % 2 ^ (n.log2 + 2) = n := Nat.mod_eq_of_lt (by omega)
    rw [hdiv, hmod]
    have hb : (decide (2 ^ (n.log2 + 2) < 2 * n) || (2 ^ (n.log2 + 2) == 2 * n && 0 % 2 == 1)) = false := by
      simp
      omega
    rw [hb]
    simp
    omega

/-- What is whole is kept as it is. -/
theorem cut_exact (neg : Bool) (z d : Nat) : Toward.even.cut neg (z * 2 ^ d) d = z := by
  have h := cut_bounds neg (z * 2 ^ d) d
  have hpos : 0 < 2 ^ d := Nat.two_pow_pos d
  generalize Toward.even.cut neg (z * 2 ^ d) d = k at *
  generalize 2 ^ d = g at *
  rcases Nat.lt_trichotomy k z with c | c | c
  · have : (k + 1) * g ≤ z * g := Nat.mul_le_mul_right g c
    rw [Nat.add_mul] at this
    omega
  · exact c
  · have : (z + 1) * g ≤ k * g := Nat.mul_le_mul_right g c
    rw [Nat.add_mul] at this
    omega

/-! ### The nearest word -/
/-- The place of the last digit that is kept. -/
def lastOf (mag : Nat) (place : Int) : Int := max (place + mag.log2 - 52) (-1074)
/-- What is kept. -/
def keptOf (s : Bool) (mag : Nat) (place : Int) : Nat :=
  Toward.even.cut s (mag <<< (place - lastOf mag place).toNat) (lastOf mag place - place).toNat

theorem nearest_eq (s : Bool) (mag : Nat) (place : Int) (hm : mag ≠ 0) :
    double.nearest s mag place = double.word s (min ((lastOf mag place + 1074).toNat * 2 ^ 52 + keptOf s mag place) (2047 * 2 ^ 52)) := by
  have e2 : double.infRung = 2047 * 2 ^ 52 := by decide
  have e3 : double.binade = 2 ^ 52 := by decide
  have e4 : double.leastPlace = -1074 := by decide
  have e5 : (double.fractionBits : Int) = 52 := by decide
  unfold Format.nearest
  rw [if_neg hm]
  simp only [e2, e3, e4, e5]
  have h : (-1074 : Int) = -1074 := rfl
  unfold keptOf lastOf
  rw [Int.sub_neg]

theorem log2_bounds {mag : Nat} (hm : mag ≠ 0) : 2 ^ mag.log2 ≤ mag ∧ mag < 2 ^ (mag.log2 + 1) :=
  ⟨Nat.log2_self_le hm, Nat.lt_log2_self⟩

/-- What is kept has 53 digits at most, and 53 where the last digit's place is not the least. -/
theorem kept_range (s : Bool) (mag : Nat) (place : Int) (hm : mag ≠ 0) :
    keptOf s mag place ≤ 2 ^ 53 ∧ ((lastOf mag place + 1074).toNat = 0 ∨ 2 ^ 52 ≤ keptOf s mag place) := by
  obtain ⟨h1, h2⟩ := log2_bounds hm
  have hb := cut_bounds s (mag <<< (place - lastOf mag place).toNat) (lastOf mag place - place).toNat
  unfold keptOf
  rcases Int.le_total (lastOf mag place) place with hle | hle
  · have hd : (lastOf mag place - place).toNat = 0 := by omega
    rw [hd] at hb ⊢
    have hc : Toward.even.cut s (mag <<< (place - lastOf mag place).toNat) 0 = mag <<< (place - lastOf mag place).toNat := by
      have := cut_exact s (mag <<< (place - lastOf mag place).toNat) 0
      simpa using this
    rw [hc, Nat.shiftLeft_eq]
    have hl : mag.log2 + (place - lastOf mag place).toNat ≤ 52 := by unfold lastOf at hle ⊢; omega
    have hu : mag * 2 ^ (place - lastOf mag place).toNat < 2 ^ (mag.log2 + 1 + (place - lastOf mag place).toNat) := by
      rw [Nat.pow_add]
      exact Nat.mul_lt_mul_of_pos_right h2 (Nat.two_pow_pos _)
    have hu2 : 2 ^ (mag.log2 + 1 + (place - lastOf mag place).toNat) ≤ 2 ^ 53 := Nat.pow_le_pow_right (by omega) (by omega)
    refine ⟨by omega, ?_⟩
    by_cases hL : lastOf mag place = -1074
    · left
      omega
    · right
      have hl2 : mag.log2 + (place - lastOf mag place).toNat = 52 := by unfold lastOf at *; omega
      have : 2 ^ (mag.log2 + (place - lastOf mag place).toNat) ≤ mag * 2 ^ (place - lastOf mag place).toNat := by
        rw [Nat.pow_add]
        exact Nat.mul_le_mul_right _ h1
      rw [hl2] at this
      exact this
  · have hz : (place - lastOf mag place).toNat = 0 := by omega
    rw [hz] at hb ⊢
    rw [Nat.shiftLeft_zero] at hb ⊢
    generalize hk : Toward.even.cut s mag (lastOf mag place - place).toNat = k at *
    have hpos : 0 < 2 ^ (lastOf mag place - place).toNat := Nat.two_pow_pos _
    have hl : mag.log2 + 1 ≤ 53 + (lastOf mag place - place).toNat := by unfold lastOf at *; omega
    have hu : 2 ^ (mag.log2 + 1) ≤ 2 ^ (53 + (lastOf mag place - place).toNat) := Nat.pow_le_pow_right (by omega) hl
    rw [Nat.pow_add 2 53] at hu
    constructor
    · rcases Nat.lt_or_ge (2 ^ 53) k with c | c
      · have : (2 ^ 53 + 1) * 2 ^ (lastOf mag place - place).toNat ≤ k * 2 ^ (lastOf mag place - place).toNat := Nat.mul_le_mul_right _ c
        generalize 2 ^ (lastOf mag place - place).toNat = g at *
        rw [Nat.add_mul] at this
        omega
      · exact c
    · by_cases hL : lastOf mag place = -1074
      · left
        omega
      · right
        have hl2 : mag.log2 = 52 + (lastOf mag place - place).toNat := by unfold lastOf at *; omega
        rw [hl2, Nat.pow_add] at h1
        rcases Nat.lt_or_ge k (2 ^ 52) with c | c
        · have : (k + 1) * 2 ^ (lastOf mag place - place).toNat ≤ 2 ^ 52 * 2 ^ (lastOf mag place - place).toNat := Nat.mul_le_mul_right _ c
          generalize 2 ^ (lastOf mag place - place).toNat = g at *
          rw [Nat.add_mul] at this
          omega
        · exact c

/-! ### Values -/
theorem zpow_add2 (a b : Int) : (2 : Rat) ^ (a + b) = (2 : Rat) ^ a * (2 : Rat) ^ b := Rat.zpow_add two_ne a b
theorem zpow_pos2 (a : Int) : (0 : Rat) < (2 : Rat) ^ a := Rat.zpow_pos (by decide)
theorem zpow_nat2 (n : Nat) : (2 : Rat) ^ (n : Int) = ((2 ^ n : Nat) : Rat) := by
  rw [Rat.zpow_natCast, Rat.natCast_pow]
  rfl

/-- What is kept is at most half a unit from the number. -/
theorem kept_near (s : Bool) (mag : Nat) (place : Int) :
    (keptOf s mag place : Rat) * (2 : Rat) ^ lastOf mag place ≤ (mag : Rat) * (2 : Rat) ^ place + (2 : Rat) ^ lastOf mag place / 2 ∧
    (mag : Rat) * (2 : Rat) ^ place ≤ (keptOf s mag place : Rat) * (2 : Rat) ^ lastOf mag place + (2 : Rat) ^ lastOf mag place / 2 := by
  have hb := cut_bounds s (mag <<< (place - lastOf mag place).toNat) (lastOf mag place - place).toNat
  have hLpos := zpow_pos2 (lastOf mag place)
  unfold keptOf
  rcases Int.le_total (lastOf mag place) place with hle | hle
  · have hd : (lastOf mag place - place).toNat = 0 := by omega
    rw [hd]
    have hc : Toward.even.cut s (mag <<< (place - lastOf mag place).toNat) 0 = mag <<< (place - lastOf mag place).toNat := by
      have := cut_exact s (mag <<< (place - lastOf mag place).toNat) 0
      simpa using this
    rw [hc, Nat.shiftLeft_eq]
    have e : (2 : Rat) ^ place = (2 : Rat) ^ lastOf mag place * ((2 ^ (place - lastOf mag place).toNat : Nat) : Rat) := by
      rw [← zpow_nat2, ← zpow_add2]
      congr 1
      omega
    rw [e, Rat.natCast_mul]
    generalize (2 : Rat) ^ lastOf mag place = L at *
    generalize ((2 ^ (place - lastOf mag place).toNat : Nat) : Rat) = D at *
    constructor <;> grind
  · have hz : (place - lastOf mag place).toNat = 0 := by omega
    rw [hz] at hb ⊢
    rw [Nat.shiftLeft_zero] at hb ⊢
    generalize hk : Toward.even.cut s mag (lastOf mag place - place).toNat = k at *
    have e : (2 : Rat) ^ lastOf mag place = (2 : Rat) ^ place * ((2 ^ (lastOf mag place - place).toNat : Nat) : Rat) := by
      rw [← zpow_nat2, ← zpow_add2]
      congr 1
      omega
    have hp := zpow_pos2 place
    rw [e]
    obtain ⟨h1, h2⟩ := hb
    have h1' : (((2 * (k * 2 ^ (lastOf mag place - place).toNat) : Nat)) : Rat) ≤ ((2 * mag + 2 ^ (lastOf mag place - place).toNat : Nat) : Rat) := by exact_mod_cast h1
    have h2' : ((2 * mag : Nat) : Rat) ≤ ((2 * (k * 2 ^ (lastOf mag place - place).toNat) + 2 ^ (lastOf mag place - place).toNat : Nat) : Rat) := by exact_mod_cast h2
    rw [Rat.natCast_mul, Rat.natCast_mul, Rat.natCast_add, Rat.natCast_mul] at h1'
    rw [Rat.natCast_mul, Rat.natCast_add, Rat.natCast_mul, Rat.natCast_mul] at h2'
    generalize ((2 ^ (lastOf mag place - place).toNat : Nat) : Rat) = D at *
    generalize (2 : Rat) ^ place = p at *
    have k1 := Rat.mul_le_mul_of_nonneg_left h1' (Rat.le_of_lt hp)
    have k2 := Rat.mul_le_mul_of_nonneg_left h2' (Rat.le_of_lt hp)
    constructor <;> grind

/-- The word nearest to a number stands for what is kept of it, unless that is too great. -/
theorem is_nearest (s : Bool) (mag : Nat) (place : Int) (hm : mag ≠ 0) (hfit : (lastOf mag place + 1074).toNat * 2 ^ 52 + keptOf s mag place < 2047 * 2 ^ 52) :
    Is (double.nearest s mag place) ((mant s (keptOf s mag place) : Rat) * (2 : Rat) ^ lastOf mag place) := by
  rw [nearest_eq s mag place hm, Nat.min_eq_left (Nat.le_of_lt hfit)]
  obtain ⟨h1, h2⟩ := kept_range s mag place hm
  have h := is_rung s (lastOf mag place + 1074).toNat (keptOf s mag place) h1 h2 hfit
  have e : (((lastOf mag place + 1074).toNat : Int) - 1074) = lastOf mag place := by
    have : -1074 ≤ lastOf mag place := by unfold lastOf; omega
    omega
  rw [e] at h
  exact h

theorem is_zero (s : Bool) (place : Int) : Is (double.nearest s 0 place) 0 := by
  have h := is_rung s 0 0 (by decide) (Or.inl rfl) (by decide)
  have e : double.nearest s 0 place = double.word s 0 := by unfold Format.nearest; rfl
  rw [e]
  simpa [mant] using h

theorem mant_zero (s : Bool) : mant s 0 = 0 := by cases s <;> rfl
theorem mant_abs (s : Bool) (m : Nat) : (mant s m).natAbs = m := by unfold mant; cases s <;> simp

/-- r is the word nearest to the number q. -/
def Rn (q : Rat) (r : Nat) : Prop := ∃ s mag place, r = double.nearest s mag place ∧ (mant s mag : Rat) * (2 : Rat) ^ place = q

theorem mant_rat (s : Bool) (m : Nat) : (mant s m : Rat) = (if s then -(m : Rat) else (m : Rat)) := by
  unfold mant
  cases s
  · simp only [Bool.false_eq_true, if_false]
    rfl
  · simp only [if_true]
    rw [Rat.intCast_neg]
    rfl

theorem pow_lt_of {a b : Int} (h : (2 : Rat) ^ a < (2 : Rat) ^ b) : a < b := by
  rcases Int.lt_or_le a b with c | c
  · exact c
  · exfalso
    have e : (2 : Rat) ^ a = (2 : Rat) ^ b * ((2 ^ (a - b).toNat : Nat) : Rat) := by
      rw [← zpow_nat2, ← zpow_add2]
      congr 1
      omega
    have h1 : (1 : Rat) ≤ ((2 ^ (a - b).toNat : Nat) : Rat) := by
      have : 1 ≤ 2 ^ (a - b).toNat := Nat.one_le_two_pow
      exact_mod_cast this
    have hb := zpow_pos2 b
    have := Rat.mul_le_mul_of_nonneg_left h1 (Rat.le_of_lt hb)
    grind

theorem pow_le_of {a b : Int} (h : a ≤ b) : (2 : Rat) ^ a ≤ (2 : Rat) ^ b := by
  have e : (2 : Rat) ^ b = (2 : Rat) ^ a * ((2 ^ (b - a).toNat : Nat) : Rat) := by
    rw [← zpow_nat2, ← zpow_add2]
    congr 1
    omega
  have h1 : (1 : Rat) ≤ ((2 ^ (b - a).toNat : Nat) : Rat) := by
    have : 1 ≤ 2 ^ (b - a).toNat := Nat.one_le_two_pow
    exact_mod_cast this
  have ha := zpow_pos2 a
  have := Rat.mul_le_mul_of_nonneg_left h1 (Rat.le_of_lt ha)
  grind

/-- A number below 2^b has its first digit below place b. -/
theorem log_lt {mag : Nat} (hm : mag ≠ 0) {place b : Int} (h : (mag : Rat) * (2 : Rat) ^ place < (2 : Rat) ^ b) : place + mag.log2 < b := by
  apply pow_lt_of
  obtain ⟨h1, _⟩ := log2_bounds hm
  have h1' : ((2 ^ mag.log2 : Nat) : Rat) ≤ (mag : Rat) := by exact_mod_cast h1
  have hp := zpow_pos2 place
  have := Rat.mul_le_mul_of_nonneg_left h1' (Rat.le_of_lt hp)
  rw [zpow_add2, zpow_nat2]
  grind

theorem fit_of {mag : Nat} (hm : mag ≠ 0) {place : Int} (s : Bool) (h : (mag : Rat) * (2 : Rat) ^ place < (2 : Rat) ^ (1023 : Int)) :
    (lastOf mag place + 1074).toNat * 2 ^ 52 + keptOf s mag place < 2047 * 2 ^ 52 := by
  have h1 := log_lt hm h
  obtain ⟨h2, _⟩ := kept_range s mag place hm
  have h3 : lastOf mag place ≤ 970 := by unfold lastOf; omega
  have h4 : (lastOf mag place + 1074).toNat ≤ 2044 := by omega
  omega

/-- A number that the format has is kept as it is. -/
theorem kept_exact (s : Bool) (mag : Nat) (place : Int) (hm : mag ≠ 0) (z : Nat) (e : Int) (hz : z < 2 ^ 53) (he : -1074 ≤ e)
    (hv : (mag : Rat) * (2 : Rat) ^ place = (z : Rat) * (2 : Rat) ^ e) :
    (keptOf s mag place : Rat) * (2 : Rat) ^ lastOf mag place = (mag : Rat) * (2 : Rat) ^ place := by
  have hle : lastOf mag place ≤ e := by
    have hlt : (mag : Rat) * (2 : Rat) ^ place < (2 : Rat) ^ (53 + e) := by
      rw [hv, zpow_add2]
      have h1 : (z : Rat) < ((2 ^ 53 : Nat) : Rat) := by exact_mod_cast hz
      have h2 : (2 : Rat) ^ (53 : Int) = ((2 ^ 53 : Nat) : Rat) := zpow_nat2 53
      rw [h2]
      exact Rat.mul_lt_mul_of_pos_right h1 (zpow_pos2 e)
    have := log_lt hm hlt
    unfold lastOf
    omega
  have hE : (2 : Rat) ^ e = (2 : Rat) ^ lastOf mag place * ((2 ^ (e - lastOf mag place).toNat : Nat) : Rat) := by
    rw [← zpow_nat2, ← zpow_add2]
    congr 1
    omega
  obtain ⟨n1, n2⟩ := kept_near s mag place
  have hL := zpow_pos2 (lastOf mag place)
  rw [hv, hE] at n1 n2 ⊢
  have hZ : (z : Rat) * ((2 : Rat) ^ lastOf mag place * ((2 ^ (e - lastOf mag place).toNat : Nat) : Rat)) = ((z * 2 ^ (e - lastOf mag place).toNat : Nat) : Rat) * (2 : Rat) ^ lastOf mag place := by
    rw [Rat.natCast_mul]
    grind
  rw [hZ] at n1 n2 ⊢
  generalize z * 2 ^ (e - lastOf mag place).toNat = y at *
  generalize keptOf s mag place = k at *
  generalize (2 : Rat) ^ lastOf mag place = L at *
  have hky : k = y := by
    rcases Nat.lt_trichotomy k y with c | c | c
    · exfalso
      have h1 : ((k + 1 : Nat) : Rat) ≤ (y : Rat) := by exact_mod_cast c
      have h2 := Rat.mul_le_mul_of_nonneg_right h1 (Rat.le_of_lt hL)
      rw [Rat.natCast_add] at h2
      grind
    · exact c
    · exfalso
      have h1 : ((y + 1 : Nat) : Rat) ≤ (k : Rat) := by exact_mod_cast c
      have h2 := Rat.mul_le_mul_of_nonneg_right h1 (Rat.le_of_lt hL)
      rw [Rat.natCast_add] at h2
      grind
  rw [hky]

theorem mant_val (s : Bool) (m : Nat) (x : Rat) : (mant s m : Rat) * x = if s then -((m : Rat) * x) else (m : Rat) * x := by
  rw [mant_rat]
  cases s
  · simp
  · simp only [if_true]
    grind

theorem Rn.mag_lt {s : Bool} {mag : Nat} {place : Int} {q B : Rat} (hq : (mant s mag : Rat) * (2 : Rat) ^ place = q) (h1 : -B < q) (h2 : q < B) : (mag : Rat) * (2 : Rat) ^ place < B := by
  rw [mant_val] at hq
  cases s
  · simp only [Bool.false_eq_true, if_false] at hq
    grind
  · simp only [if_true] at hq
    grind

/-- A number that the format has is its own nearest. -/
theorem Rn.exact {q : Rat} {r : Nat} (h : Rn q r) (z e : Int) (hz : z.natAbs < 2 ^ 53) (he : -1074 ≤ e) (he2 : e ≤ 970) (hq : q = (z : Rat) * (2 : Rat) ^ e) : Is r q := by
  obtain ⟨s, mag, place, rfl, hv⟩ := h
  by_cases hm : mag = 0
  · subst hm
    rw [mant_zero] at hv
    have : q = 0 := by
      rw [← hv]
      simp
    rw [this]
    exact is_zero s place
  · have hP := zpow_pos2 place
    have hE := zpow_pos2 e
    have hmagv : (mag : Rat) * (2 : Rat) ^ place = ((z.natAbs : Nat) : Rat) * (2 : Rat) ^ e := by
      have h1 : (mag : Rat) * (2 : Rat) ^ place = q ∨ (mag : Rat) * (2 : Rat) ^ place = -q := by
        rw [mant_val] at hv
        cases s
        · left
          simpa using hv
        · right
          simp only [if_true] at hv
          grind
      have h0 : 0 ≤ (mag : Rat) * (2 : Rat) ^ place := Rat.mul_nonneg (by exact_mod_cast Nat.zero_le mag) (Rat.le_of_lt hP)
      have hza : ((z.natAbs : Nat) : Rat) = (z : Rat) ∨ ((z.natAbs : Nat) : Rat) = -(z : Rat) := by
        rcases Int.natAbs_eq z with c | c
        · left
          rw [← Rat.intCast_natCast, ← c]
        · right
          have : (z : Rat) = -((z.natAbs : Int) : Rat) := by
            rw [← Rat.intCast_neg, ← c]
          rw [this, Rat.intCast_natCast]
          grind
      have hn0 : 0 ≤ ((z.natAbs : Nat) : Rat) * (2 : Rat) ^ e := Rat.mul_nonneg (by exact_mod_cast Nat.zero_le _) (Rat.le_of_lt hE)
      rcases h1 with h1 | h1 <;> rcases hza with h2 | h2 <;> rw [h2] at hn0 ⊢ <;> grind
    have hk := kept_exact s mag place hm z.natAbs e hz he hmagv
    have hfit := fit_of hm s (place := place) (by
      rw [hmagv]
      have h1 : ((z.natAbs : Nat) : Rat) < ((2 ^ 53 : Nat) : Rat) := by exact_mod_cast hz
      have h2 : (2 : Rat) ^ (53 : Int) = ((2 ^ 53 : Nat) : Rat) := zpow_nat2 53
      have h3 := Rat.mul_lt_mul_of_pos_right h1 hE
      rw [← h2, ← zpow_add2] at h3
      have h4 : (2 : Rat) ^ (53 + e) ≤ (2 : Rat) ^ (1023 : Int) := pow_le_of (by omega)
      grind)
    have hI := is_nearest s mag place hm hfit
    rw [mant_val, hk, ← mant_val, hv] at hI
    exact hI

/-- The nearest word's number is near: below 2^b by at most 2^(b-54). -/
theorem Rn.near {q : Rat} {r : Nat} (h : Rn q r) (b : Int) (hb : -1021 ≤ b) (hb2 : b ≤ 1023) (h1 : -(2 : Rat) ^ b < q) (h2 : q < (2 : Rat) ^ b) :
    ∃ q', Is r q' ∧ q - (2 : Rat) ^ (b - 54) ≤ q' ∧ q' ≤ q + (2 : Rat) ^ (b - 54) := by
  obtain ⟨s, mag, place, rfl, hv⟩ := h
  have hB := zpow_pos2 (b - 54)
  by_cases hm : mag = 0
  · subst hm
    rw [mant_zero] at hv
    have h0 : q = 0 := by
      rw [← hv]
      simp
    refine ⟨0, is_zero s place, ?_, ?_⟩ <;> rw [h0] <;> grind
  · have hlt := Rn.mag_lt hv h1 h2
    have hlog := log_lt hm hlt
    have hfit := fit_of hm s (place := place) (by
      have : (2 : Rat) ^ b ≤ (2 : Rat) ^ (1023 : Int) := pow_le_of hb2
      grind)
    have hI := is_nearest s mag place hm hfit
    obtain ⟨n1, n2⟩ := kept_near s mag place
    have hL : lastOf mag place ≤ b - 53 := by unfold lastOf; omega
    have hLe := pow_le_of hL
    have hH : (2 : Rat) ^ (b - 53) = (2 : Rat) ^ (b - 54) * 2 := by
      rw [← zpow_succ2]
      congr 1
      omega
    refine ⟨_, hI, ?_, ?_⟩
    all_goals
      rw [mant_val]
      rw [mant_val] at hv
      cases s
      · simp only [Bool.false_eq_true, if_false] at hv ⊢
        grind
      · simp only [if_true] at hv ⊢
        grind

/-! ### The operations -/
theorem signed_eq (s : Bool) (m up : Nat) : signed s m up = mant s m * ((2 ^ up : Nat) : Int) := by
  unfold signed mant
  cases s
  · simp [Nat.shiftLeft_eq]
  · simp [Nat.shiftLeft_eq]
    grind

theorem scale (s : Bool) (m : Nat) (i base : Int) (h : base ≤ i) : (mant s m : Rat) * (2 : Rat) ^ i = ((signed s m (i - base).toNat : Int) : Rat) * (2 : Rat) ^ base := by
  have e : (2 : Rat) ^ i = (2 : Rat) ^ base * ((2 ^ (i - base).toNat : Nat) : Rat) := by
    rw [← zpow_nat2, ← zpow_add2]
    congr 1
    omega
  rw [signed_eq, Rat.intCast_mul, e, Rat.intCast_natCast]
  grind

/-- How two numbers stand to each other. -/
def cmpQ (p q : Rat) : Ordering := if p < q then .lt else if p = q then .eq else .gt

theorem Is.order {x y : Nat} {p q : Rat} (hx : Is x p) (hy : Is y q) : double.order x y = some (cmpQ p q) := by
  obtain ⟨s, m, i, h1, rfl⟩ := hx
  obtain ⟨t, n, j, h2, rfl⟩ := hy
  unfold Format.order
  rw [h1, h2]
  simp only [Datum.order]
  rw [scale s m i (min i j) (Int.min_le_left i j), scale t n j (min i j) (Int.min_le_right i j)]
  have hB := zpow_pos2 (min i j)
  generalize (2 : Rat) ^ (min i j) = B at *
  generalize signed s m (i - min i j).toNat = a at *
  generalize signed t n (j - min i j).toNat = b at *
  congr 1
  unfold cmpQ
  rcases Int.lt_trichotomy a b with c | c | c
  · have h : (a : Rat) < (b : Rat) := by exact_mod_cast c
    have h' := Rat.mul_lt_mul_of_pos_right h hB
    rw [if_pos h']
    exact Int.compare_eq_lt.2 c
  · subst c
    rw [if_neg (by grind), if_pos rfl]
    exact Int.compare_eq_eq.2 rfl
  · have h : (b : Rat) < (a : Rat) := by exact_mod_cast c
    have h' := Rat.mul_lt_mul_of_pos_right h hB
    rw [if_neg (by grind), if_neg (by grind)]
    exact Int.compare_eq_gt.2 c

theorem mant_sign (t : Int) (s : Bool) : mant (if t = 0 then s else decide (t < 0)) t.natAbs = t := by
  unfold mant
  by_cases h0 : t = 0
  · subst h0
    simp
  · rw [if_neg h0]
    by_cases h : t < 0
    · simp [h]
      omega
    · simp [h]
      omega

theorem Is.sum {x y : Nat} {p q : Rat} (hx : Is x p) (hy : Is y q) : ∃ r, double.add x y = some r ∧ Rn (p + q) r := by
  obtain ⟨s, m, i, h1, rfl⟩ := hx
  obtain ⟨t, n, j, h2, rfl⟩ := hy
  unfold Format.add
  rw [h1, h2]
  simp only [Datum.sum, Option.map_some]
  refine ⟨_, rfl, _, _, _, rfl, ?_⟩
  have h := mant_sign (signed s m (i - min i j).toNat + signed t n (j - min i j).toNat) (s && t)
  rw [h, scale s m i (min i j) (Int.min_le_left i j), scale t n j (min i j) (Int.min_le_right i j), Rat.intCast_add]
  grind

theorem mant_not (s : Bool) (m : Nat) : mant (!s) m = -mant s m := by
  unfold mant
  cases s <;> simp

theorem Is.diff {x y : Nat} {p q : Rat} (hx : Is x p) (hy : Is y q) : ∃ r, double.sub x y = some r ∧ Rn (p - q) r := by
  obtain ⟨s, m, i, h1, rfl⟩ := hx
  obtain ⟨t, n, j, h2, rfl⟩ := hy
  unfold Format.sub
  rw [h1, h2]
  simp only [Datum.opposite, Datum.sum, Option.map_some]
  refine ⟨_, rfl, _, _, _, rfl, ?_⟩
  have h := mant_sign (signed s m (i - min i j).toNat + signed (!t) n (j - min i j).toNat) (s && !t)
  have e : signed (!t) n (j - min i j).toNat = -signed t n (j - min i j).toNat := by
    rw [signed_eq, signed_eq, mant_not]
    grind
  rw [h, scale s m i (min i j) (Int.min_le_left i j), scale t n j (min i j) (Int.min_le_right i j), Rat.intCast_add, e, Rat.intCast_neg]
  grind

theorem mant_mul (s t : Bool) (m n : Nat) : mant (s ^^ t) (m * n) = mant s m * mant t n := by
  unfold mant
  cases s <;> cases t <;> simp <;> grind

theorem Is.prod {x y : Nat} {p q : Rat} (hx : Is x p) (hy : Is y q) : ∃ r, double.mul x y = some r ∧ Rn (p * q) r := by
  obtain ⟨s, m, i, h1, rfl⟩ := hx
  obtain ⟨t, n, j, h2, rfl⟩ := hy
  unfold Format.mul
  rw [h1, h2]
  simp only [Datum.product, Option.map_some]
  refine ⟨_, rfl, _, _, _, rfl, ?_⟩
  rw [mant_mul, Rat.intCast_mul, zpow_add2]
  grind

/-- float64(n). -/
theorem Rn.ofInt (n : Int) : Rn (n : Rat) (FloatKind.f64.nearest n) := by
  refine ⟨decide (n < 0), n.natAbs, 0, rfl, ?_⟩
  have h : mant (decide (n < 0)) n.natAbs = n := by
    unfold mant
    by_cases h : n < 0
    · simp [h]
      omega
    · simp [h]
      omega
  rw [h, Rat.zpow_zero]
  grind

theorem Is.ofInt (n : Int) (h : n.natAbs < 2 ^ 53) : Is (FloatKind.f64.nearest n) (n : Rat) :=
  (Rn.ofInt n).exact n 0 h (by decide) (by decide) (by rw [Rat.zpow_zero]; grind)
end Go.Proofs.YtdfamnlmhikolaaDoor
