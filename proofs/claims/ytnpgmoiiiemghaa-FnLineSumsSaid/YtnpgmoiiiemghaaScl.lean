/-
  Rounding in the model's floats: it goes by the number alone, and with the halves as with the wholes.
-/
import Derived.Test.YtnpgmoiiiemghaaFth
import Derived.Test.YtnpgmoiiiemghaaDya
namespace Go.Proofs.Ytnpgmoiiiemghaa
open Ieee
theorem cut_plain (s : Bool) (n d : Nat) : Toward.even.cut s n d = n / 2 ^ d + (decide (2 ^ d < 2 * (n % 2 ^ d)) || (2 ^ d == 2 * (n % 2 ^ d) && n / 2 ^ d % 2 == 1)).toNat := by
  unfold Toward.cut
  by_cases h : d ≤ n.log2 + 2
  · have hg : (1 <<< min d (n.log2 + 2) : Nat) = 2 ^ d := by
      rw [Nat.min_eq_left h, Nat.shiftLeft_eq, Nat.one_mul]
    simp only [hg]
  · have h' : n.log2 + 2 ≤ d := by omega
    have hg : (1 <<< min d (n.log2 + 2) : Nat) = 2 ^ (n.log2 + 2) := by
      rw [Nat.min_eq_right h', Nat.shiftLeft_eq, Nat.one_mul]
    simp only [hg]
    have hlt : n < 2 ^ (n.log2 + 1) := Nat.lt_log2_self
    have h2 : 2 ^ (n.log2 + 2) = 2 * 2 ^ (n.log2 + 1) := by rw [Nat.pow_succ]; omega
    have hle : 2 ^ (n.log2 + 2) ≤ 2 ^ d := Nat.pow_le_pow_right (by omega) h'
    rw [Nat.div_eq_of_lt (by omega : n < 2 ^ (n.log2 + 2)), Nat.mod_eq_of_lt (by omega : n < 2 ^ (n.log2 + 2)), Nat.div_eq_of_lt (by omega : n < 2 ^ d), Nat.mod_eq_of_lt (by omega : n < 2 ^ d)]
    have a1 : (decide (2 ^ (n.log2 + 2) < 2 * n) || (2 ^ (n.log2 + 2) == 2 * n && 0 % 2 == 1)) = false := by
      simp
      omega
    have a2 : (decide (2 ^ d < 2 * n) || (2 ^ d == 2 * n && 0 % 2 == 1)) = false := by
      simp
      omega
    rw [a1, a2]
theorem cut_up (s : Bool) (a d k : Nat) : Toward.even.cut s (a * 2 ^ k) (d + k) = Toward.even.cut s a d := by
  rw [cut_plain, cut_plain, Nat.pow_add, Nat.mul_div_mul_right _ _ (Nat.two_pow_pos k), Nat.mul_mod_mul_right]
  have h1 : 0 < 2 ^ k := Nat.two_pow_pos k
  generalize 2 ^ k = g at *
  generalize 2 ^ d = D at *
  have e1 : (D * g < 2 * (a % D * g)) ↔ (D < 2 * (a % D)) := by
    rw [← Nat.mul_assoc]
    exact Nat.mul_lt_mul_right h1
  have e2 : (D * g = 2 * (a % D * g)) ↔ (D = 2 * (a % D)) := by
    rw [← Nat.mul_assoc]
    exact ⟨fun h => Nat.eq_of_mul_eq_mul_right h1 h, fun h => by rw [← h]⟩
  congr 2
  · rw [decide_eq_decide.2 e1]
    congr 2
    rw [Bool.eq_iff_iff]
    simp only [beq_iff_eq]
    exact e2
theorem cut_same (s : Bool) {a d b e : Nat} (h : a * 2 ^ e = b * 2 ^ d) : Toward.even.cut s a d = Toward.even.cut s b e := by
  rcases Nat.le_total d e with hle | hle
  · obtain ⟨k, rfl⟩ := Nat.exists_eq_add_of_le hle
    have hb : b = a * 2 ^ k := by
      apply Nat.eq_of_mul_eq_mul_right (Nat.two_pow_pos d)
      rw [← h, Nat.pow_add]
      grind
    rw [hb, cut_up]
  · obtain ⟨k, rfl⟩ := Nat.exists_eq_add_of_le hle
    have hb : a = b * 2 ^ k := by
      apply Nat.eq_of_mul_eq_mul_right (Nat.two_pow_pos e)
      rw [h, Nat.pow_add]
      grind
    rw [hb, cut_up]
theorem log2_up {m : Nat} (hm : m ≠ 0) (a : Nat) : (m * 2 ^ a).log2 = m.log2 + a := by
  obtain ⟨h1, h2⟩ := log2_bounds hm
  have hp := Nat.two_pow_pos a
  rw [Nat.log2_eq_iff (Nat.mul_ne_zero hm (by omega))]
  refine ⟨?_, ?_⟩
  · rw [Nat.pow_add]
    exact Nat.mul_le_mul_right _ h1
  · have e : 2 ^ (m.log2 + a + 1) = 2 ^ (m.log2 + 1) * 2 ^ a := by rw [← Nat.pow_add]; congr 1; omega
    rw [e]
    exact Nat.mul_lt_mul_of_pos_right h2 hp
theorem kept_same (s : Bool) {mag mag' : Nat} {place place' : Int} (j : Int) (hm : mag ≠ 0) (hm' : mag' ≠ 0) (a b : Nat) (h : mag * 2 ^ a = mag' * 2 ^ b) (hp : place' = place + j + b - a)
    (hn : j = 0 ∨ (-1000 ≤ place + mag.log2 ∧ -1000 ≤ place + j + mag.log2)) : lastOf mag' place' = lastOf mag place + j ∧ keptOf s mag' place' = keptOf s mag place := by
  have hl : mag.log2 + a = mag'.log2 + b := by rw [← log2_up hm a, ← log2_up hm' b, h]
  have hL : lastOf mag' place' = lastOf mag place + j := by unfold lastOf; omega
  refine ⟨hL, ?_⟩
  unfold keptOf
  rw [hL, Nat.shiftLeft_eq, Nat.shiftLeft_eq]
  generalize lastOf mag place = L at *
  apply cut_same
  have e1 : (place' - (L + j)).toNat + (L - place).toNat + a = (place - L).toNat + (L + j - place').toNat + b := by omega
  apply Nat.eq_of_mul_eq_mul_right (Nat.two_pow_pos b)
  have e2 : mag' * 2 ^ (place' - (L + j)).toNat * 2 ^ (L - place).toNat * 2 ^ b = mag * 2 ^ ((place' - (L + j)).toNat + (L - place).toNat + a) := by
    rw [Nat.pow_add, Nat.pow_add]
    calc mag' * 2 ^ (place' - (L + j)).toNat * 2 ^ (L - place).toNat * 2 ^ b = (mag' * 2 ^ b) * (2 ^ (place' - (L + j)).toNat * 2 ^ (L - place).toNat) := by grind
      _ = (mag * 2 ^ a) * (2 ^ (place' - (L + j)).toNat * 2 ^ (L - place).toNat) := by rw [h]
      _ = _ := by grind
  rw [e2, e1, Nat.pow_add, Nat.pow_add]
  grind

theorem nat_of_scaled {m n : Nat} {i j : Int} (h : (m : Rat) * (2 : Rat) ^ i = (n : Rat) * (2 : Rat) ^ j) : m * 2 ^ (i - min i j).toNat = n * 2 ^ (j - min i j).toNat := by
  have p := zpow_pos2 (min i j)
  have e1 : (2 : Rat) ^ i = ((2 ^ (i - min i j).toNat : Nat) : Rat) * (2 : Rat) ^ (min i j) := by
    rw [← zpow_nat2, ← zpow_add2]
    congr 1
    omega
  have e2 : (2 : Rat) ^ j = ((2 ^ (j - min i j).toNat : Nat) : Rat) * (2 : Rat) ^ (min i j) := by
    rw [← zpow_nat2, ← zpow_add2]
    congr 1
    omega
  rw [e1, e2] at h
  have h3 : ((m * 2 ^ (i - min i j).toNat : Nat) : Rat) = ((n * 2 ^ (j - min i j).toNat : Nat) : Rat) := by
    rw [Rat.natCast_mul, Rat.natCast_mul]
    have hne := Rat.ne_of_gt p
    generalize (2 : Rat) ^ (min i j) = c at *
    grind
  exact_mod_cast h3
theorem abs_split {s : Bool} {m : Nat} {i : Int} {q : Rat} (h : (mant s m : Rat) * (2 : Rat) ^ i = q) {B : Rat} (hB : 0 < B) (h1 : B ≤ q ∨ q ≤ -B) : B ≤ (m : Rat) * (2 : Rat) ^ i := by
  have p := zpow_pos2 i
  have m1 : (0 : Rat) ≤ (m : Rat) * (2 : Rat) ^ i := Rat.mul_nonneg (by exact_mod_cast Nat.zero_le m) (Rat.le_of_lt p)
  rw [mant_val] at h
  cases s
  · simp only [Bool.false_eq_true, if_false] at h
    rcases h1 with h1 | h1 <;> grind
  · simp only [if_true] at h
    rcases h1 with h1 | h1 <;> grind
theorem log_ge {mag : Nat} {place b : Int} (h : (2 : Rat) ^ b ≤ (mag : Rat) * (2 : Rat) ^ place) (hm : mag ≠ 0) : b ≤ place + mag.log2 := by
  obtain ⟨-, h2⟩ := log2_bounds hm
  have h3 : (mag : Rat) < ((2 ^ (mag.log2 + 1) : Nat) : Rat) := by exact_mod_cast h2
  have p := zpow_pos2 place
  have h4 : (2 : Rat) ^ b < (2 : Rat) ^ (place + ((mag.log2 + 1 : Nat) : Int)) := by
    rw [zpow_add2, zpow_nat2]
    have := Rat.mul_lt_mul_of_pos_left h3 p
    grind
  have := pow_lt_of h4
  omega
/-- Rounding goes by the number, and by 2^j of it likewise. -/
theorem Rn.scale {q : Rat} {r r' : Nat} (j : Int) (h : Rn q r) (h' : Rn (q * (2 : Rat) ^ j) r') (hj : -2 ≤ j) (hj0 : j ≤ 0) (b1 : -(2 : Rat) ^ (1000 : Int) < q) (b2 : q < (2 : Rat) ^ (1000 : Int))
    (hn : j = 0 ∨ q = 0 ∨ (2 : Rat) ^ (-900 : Int) ≤ q ∨ q ≤ -(2 : Rat) ^ (-900 : Int)) : ∃ v, Is r v ∧ Is r' (v * (2 : Rat) ^ j) := by
  obtain ⟨s, mag, place, rfl, hv⟩ := h
  obtain ⟨t, mag', place', rfl, hv'⟩ := h'
  have pj := zpow_pos2 j
  by_cases hm : mag = 0
  · subst hm
    have hq : q = 0 := by rw [← hv, mant_zero]; simp
    have hm' : mag' = 0 := by
      apply Decidable.byContradiction
      intro hne
      have pp := zpow_pos2 place'
      have p1 : (0 : Rat) < (mag' : Rat) := by exact_mod_cast Nat.pos_of_ne_zero hne
      have p2 := Rat.mul_pos p1 pp
      rw [mant_val, hq] at hv'
      cases t
      · simp only [Bool.false_eq_true, if_false] at hv'
        grind
      · simp only [if_true] at hv'
        grind
    subst hm'
    refine ⟨0, is_zero s place, ?_⟩
    rw [Rat.zero_mul]
    exact is_zero t place'
  · have hq0 : q ≠ 0 := by
      intro hq
      have pp := zpow_pos2 place
      have p1 : (0 : Rat) < (mag : Rat) := by exact_mod_cast Nat.pos_of_ne_zero hm
      have p2 := Rat.mul_pos p1 pp
      rw [mant_val, hq] at hv
      cases s
      · simp only [Bool.false_eq_true, if_false] at hv
        grind
      · simp only [if_true] at hv
        grind
    have hv2 : (mant s mag : Rat) * (2 : Rat) ^ (place + j) = (mant t mag' : Rat) * (2 : Rat) ^ place' := by
      rw [hv', zpow_add2, ← hv]
      grind
    obtain ⟨rfl, hv3⟩ := mant_inj_sign hv2 (by
      rw [hv2, hv']
      intro k
      rcases Rat.mul_eq_zero.1 k with k | k
      · exact hq0 k
      · grind)
    have hnat := nat_of_scaled hv3
    have hm' : mag' ≠ 0 := by
      intro k
      subst k
      rw [Nat.zero_mul] at hnat
      have := Nat.two_pow_pos (place + j - min (place + j) place').toNat
      rcases Nat.mul_eq_zero.1 hnat with k | k
      · exact hm k
      · omega
    have hB : j = 0 ∨ (-1000 ≤ place + mag.log2 ∧ -1000 ≤ place + j + mag.log2) := by
      rcases hn with k | k | k
      · exact Or.inl k
      · exact absurd k hq0
      · have := log_ge (abs_split hv (zpow_pos2 (-900)) k) hm
        exact Or.inr ⟨by omega, by omega⟩
    obtain ⟨k1, k2⟩ := kept_same s (place := place) (place' := place') j hm hm' _ _ hnat (by omega) hB
    have m1 := Rn.mag_lt hv b1 b2
    have c1 : (2 : Rat) ^ (1000 : Int) ≤ (2 : Rat) ^ (1023 : Int) := pow_le_of (by decide)
    have f1 := fit_of (place := place) hm s (by grind)
    have f2 := fit_of (place := place') hm' s (by
      rw [← hv3, zpow_add2]
      have hj1 : (2 : Rat) ^ j ≤ 1 := by
        have := pow_le_of hj0
        rw [Rat.zpow_zero] at this
        exact this
      have pp := zpow_pos2 place
      have p1 : (0 : Rat) < (mag : Rat) := by exact_mod_cast Nat.pos_of_ne_zero hm
      have p2 := Rat.mul_pos p1 pp
      have := Rat.mul_le_mul_of_nonneg_left hj1 (Rat.le_of_lt p2)
      grind)
    have i1 := is_nearest s mag place hm f1
    have i2 := is_nearest s mag' place' hm' f2
    rw [k1, k2, zpow_add2] at i2
    refine ⟨_, i1, ?_⟩
    have e : (mant s (keptOf s mag place) : Rat) * (2 : Rat) ^ lastOf mag place * (2 : Rat) ^ j = (mant s (keptOf s mag place) : Rat) * ((2 : Rat) ^ lastOf mag place * (2 : Rat) ^ j) := by grind
    rw [e]
    exact i2
theorem Rn.same {q : Rat} {r r' : Nat} (h : Rn q r) (h' : Rn q r') (b1 : -(2 : Rat) ^ (1000 : Int) < q) (b2 : q < (2 : Rat) ^ (1000 : Int)) : ∃ v, Is r v ∧ Is r' v := by
  obtain ⟨v, h1, h2⟩ := Rn.scale 0 h (by rw [Rat.zpow_zero, Rat.mul_one]; exact h') (by decide) (by decide) b1 b2 (Or.inl rfl)
  rw [Rat.zpow_zero, Rat.mul_one] at h2
  exact ⟨v, h1, h2⟩
theorem Is.fun {x : Nat} {p q : Rat} (h1 : Is x p) (h2 : Is x q) : p = q := by
  obtain ⟨s, m, i, e1, rfl⟩ := h1
  obtain ⟨t, n, j, e2, rfl⟩ := h2
  rw [e1] at e2
  injection e2 with a b c
  subst a b c
  rfl
/-- A number that is not small stays so. -/
theorem Rn.ge {q : Rat} {r : Nat} (h : Rn q r) (b : Int) (hb : -1000 ≤ b) (h1 : (2 : Rat) ^ b ≤ q) (h2 : q < (2 : Rat) ^ (1000 : Int)) : ∃ v, Is r v ∧ (2 : Rat) ^ b ≤ v := by
  obtain ⟨s, mag, place, rfl, hv⟩ := h
  have pb := zpow_pos2 b
  have hs : s = false := by
    cases s
    · rfl
    · exfalso
      have p := zpow_pos2 place
      have m1 : (0 : Rat) ≤ (mag : Rat) * (2 : Rat) ^ place := Rat.mul_nonneg (by exact_mod_cast Nat.zero_le mag) (Rat.le_of_lt p)
      rw [mant_val] at hv
      simp only [if_true] at hv
      grind
  subst hs
  rw [mant_val] at hv
  simp only [Bool.false_eq_true, if_false] at hv
  have hm : mag ≠ 0 := by
    intro k
    subst k
    have : ((0 : Nat) : Rat) = 0 := rfl
    rw [this, Rat.zero_mul] at hv
    grind
  have hl := log_ge (by rw [hv]; exact h1) hm
  have c1 : (2 : Rat) ^ (1000 : Int) ≤ (2 : Rat) ^ (1023 : Int) := pow_le_of (by decide)
  have f1 := fit_of (place := place) hm false (by grind)
  have i1 := is_nearest false mag place hm f1
  obtain ⟨-, k2⟩ := kept_range false mag place hm
  have hL : lastOf mag place = place + mag.log2 - 52 := by unfold lastOf; omega
  have k3 : 2 ^ 52 ≤ keptOf false mag place := by
    rcases k2 with k2 | k2
    · exfalso
      omega
    · exact k2
  refine ⟨_, i1, ?_⟩
  rw [mant_val]
  simp only [Bool.false_eq_true, if_false]
  have k4 : ((2 ^ 52 : Nat) : Rat) ≤ (keptOf false mag place : Rat) := by exact_mod_cast k3
  have pL := zpow_pos2 (lastOf mag place)
  have k5 := Rat.mul_le_mul_of_nonneg_right k4 (Rat.le_of_lt pL)
  rw [← zpow_nat2, ← zpow_add2] at k5
  have k6 := pow_le_of (a := b) (b := ((52 : Nat) : Int) + lastOf mag place) (by omega)
  grind
end Go.Proofs.Ytnpgmoiiiemghaa
