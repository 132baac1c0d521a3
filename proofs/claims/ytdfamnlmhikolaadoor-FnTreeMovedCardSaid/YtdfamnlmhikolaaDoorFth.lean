/-
  The model's floats on whole numbers: a difference is exact to the bit; a square root is a number of no great size. No condition, no program.
-/
import Derived.Test.YtdfamnlmhikolaaDoorRat
import Derived.Test.YtdfamnlmhikolaaDoorFlo
import Derived.Laws.FloatArith
namespace Go.Proofs.YtdfamnlmhikolaaDoor
open Ieee
set_option exponentiation.threshold 3000

/-- The magnitude that a rung stands for, in units of the least one. -/
def rungN (R : Nat) : Nat := if R < 2 ^ 52 then R else (2 ^ 52 + R % 2 ^ 52) * 2 ^ (R / 2 ^ 52 - 1)

theorem rungN_lt {R R' : Nat} (h : R < R') : rungN R < rungN R' := by
  have hp : ∀ k : Nat, 0 < 2 ^ k := fun k => Nat.two_pow_pos k
  have key : ∀ {a b f g : Nat}, a < b → f < 2 ^ 52 → (2 ^ 52 + f) * 2 ^ a < (2 ^ 52 + g) * 2 ^ b := by
    intro a b f g hab hf
    have h1 : (2 ^ 52 + f) * 2 ^ a < 2 ^ 53 * 2 ^ a := Nat.mul_lt_mul_of_pos_right (by omega) (hp a)
    have h2 : 2 ^ 53 * 2 ^ a ≤ 2 ^ 52 * 2 ^ b := by
      rw [← Nat.pow_add, ← Nat.pow_add]
      exact Nat.pow_le_pow_right (by decide) (by omega)
    have h3 : 2 ^ 52 * 2 ^ b ≤ (2 ^ 52 + g) * 2 ^ b := Nat.mul_le_mul_right _ (by omega)
    omega
  unfold rungN
  by_cases h1 : R' < 2 ^ 52
  · rw [if_pos h1, if_pos (by omega)]
    exact h
  · rw [if_neg h1]
    have g1 : 2 ^ 52 + R' % 2 ^ 52 ≤ (2 ^ 52 + R' % 2 ^ 52) * 2 ^ (R' / 2 ^ 52 - 1) := Nat.le_mul_of_pos_right _ (hp _)
    by_cases h2 : R < 2 ^ 52
    · rw [if_pos h2]
      omega
    · rw [if_neg h2]
      rcases Nat.lt_or_ge (R / 2 ^ 52) (R' / 2 ^ 52) with h3 | h3
      · exact key (by omega) (by omega)
      · have h4 : R / 2 ^ 52 = R' / 2 ^ 52 := by omega
        rw [h4]
        exact Nat.mul_lt_mul_of_pos_right (by omega) (hp _)

theorem rungN_inj {R R' : Nat} (h : rungN R = rungN R') : R = R' := by
  rcases Nat.lt_trichotomy R R' with h1 | h1 | h1
  · have := rungN_lt h1
    omega
  · exact h1
  · have := rungN_lt h1
    omega

/-- A finite word: its sign, its rung and what it stands for. -/
theorem read_rung {x : Nat} (hx : x < 2 ^ 64) {s : Bool} {m : Nat} {i : Int} (h : double.read x = .number s m i) :
    ∃ R, x = double.word s R ∧ (m : Rat) * (2 : Rat) ^ i = (rungN R : Rat) * (2 : Rat) ^ (-1074 : Int) := by
  have e1 : double.signWeight = 2 ^ 63 := by decide
  have e2 : double.infRung = 2047 * 2 ^ 52 := by decide
  have e3 : double.binade = 2 ^ 52 := by decide
  have e4 : double.leastPlace = -1074 := by decide
  unfold Format.read at h
  simp only [e1, e2, e3, e4] at h
  have hw : x = double.word (x / 2 ^ 63 % 2 == 1) (x % 2 ^ 63) := by
    unfold Format.word
    rw [e1]
    have hd : x / 2 ^ 63 < 2 := by omega
    rcases (by omega : x / 2 ^ 63 = 0 ∨ x / 2 ^ 63 = 1) with k | k
    · rw [k]
      simp
      omega
    · rw [k]
      simp
      omega
  by_cases c1 : x % 2 ^ 63 < 2 ^ 52
  · rw [if_pos c1] at h
    cases h
    refine ⟨_, hw, ?_⟩
    unfold rungN
    rw [if_pos c1]
  · rw [if_neg c1] at h
    by_cases c2 : x % 2 ^ 63 < 2047 * 2 ^ 52
    · rw [if_pos c2] at h
      cases h
      refine ⟨_, hw, ?_⟩
      unfold rungN
      rw [if_neg c1]
      generalize x % 2 ^ 63 = R at *
      have e5 : (2 : Rat) ^ ((-1074 : Int) + ((R / 2 ^ 52 - 1 : Nat) : Int)) = (2 : Rat) ^ (-1074 : Int) * ((2 ^ (R / 2 ^ 52 - 1) : Nat) : Rat) := by rw [zpow_add2, zpow_nat2]
      rw [e5, Rat.natCast_mul]
      grind
    · rw [if_neg c2] at h
      split at h <;> cases h

theorem mant_inj_sign {s t : Bool} {m n : Nat} {i j : Int} (hq : (mant s m : Rat) * (2 : Rat) ^ i = (mant t n : Rat) * (2 : Rat) ^ j) (h0 : (mant s m : Rat) * (2 : Rat) ^ i ≠ 0) :
    s = t ∧ (m : Rat) * (2 : Rat) ^ i = (n : Rat) * (2 : Rat) ^ j := by
  have p1 := zpow_pos2 i
  have p2 := zpow_pos2 j
  have m1 : (0 : Rat) ≤ (m : Rat) * (2 : Rat) ^ i := Rat.mul_nonneg (by exact_mod_cast Nat.zero_le m) (Rat.le_of_lt p1)
  have m2 : (0 : Rat) ≤ (n : Rat) * (2 : Rat) ^ j := Rat.mul_nonneg (by exact_mod_cast Nat.zero_le n) (Rat.le_of_lt p2)
  rw [mant_val] at hq h0
  rw [mant_val] at hq
  cases s <;> cases t <;> simp only [Bool.false_eq_true, if_false, if_true] at hq h0 ⊢
  · exact ⟨trivial, hq⟩
  · exfalso; grind
  · exfalso; grind
  · exact ⟨trivial, by grind⟩

/-- A number other than 0 has one word alone. -/
theorem Is.uniq {x y : Nat} {q : Rat} (hx : Is x q) (hy : Is y q) (hq : q ≠ 0) (bx : x < 2 ^ 64) (hby : y < 2 ^ 64) : x = y := by
  obtain ⟨s, m, i, h1, e1⟩ := hx
  obtain ⟨t, n, j, h2, e2⟩ := hy
  obtain ⟨rfl, hv⟩ := mant_inj_sign (e1.trans e2.symm) (by rw [e1]; exact hq)
  obtain ⟨R, r1, r2⟩ := read_rung bx h1
  obtain ⟨R', r3, r4⟩ := read_rung hby h2
  have : (rungN R : Rat) = (rungN R' : Rat) := by
    have p := zpow_pos2 (-1074)
    have e : (rungN R : Rat) * (2 : Rat) ^ (-1074 : Int) = (rungN R' : Rat) * (2 : Rat) ^ (-1074 : Int) := by rw [← r2, ← r4, hv]
    have hne : (2 : Rat) ^ (-1074 : Int) ≠ 0 := Rat.ne_of_gt p
    generalize (2 : Rat) ^ (-1074 : Int) = c at *
    grind
  have h3 : R = R' := rungN_inj (by exact_mod_cast this)
  rw [r1, r3, h3]

def fl' (n : Int) : Nat := FloatKind.f64.nearest n
theorem lt_of_wf {x : Nat} (h : (Lit.float .f64 x).wf = true) : x < 2 ^ 64 := by
  simpa [Lit.wf] using h
theorem fl'_lt (n : Int) : fl' n < 2 ^ 64 := lt_of_wf (floatOfInt_wf .f64 n)
theorem Is.finB {x : Nat} {q : Rat} (h : Is x q) : finB x = true := by
  obtain ⟨s, m, i, h1, _⟩ := h
  unfold Go.Proofs.YtdfamnlmhikolaaDoor.finB
  rw [h1]
theorem sub_fl (a b : Int) (ha : a.natAbs ≤ 2 ^ 30) (hb : b.natAbs ≤ 2 ^ 30) : floatBits .sub .f64 (fl' a) (fl' b) = some (fl' (a - b)) := by
  have h1 := Is.ofInt a (by omega)
  have h2 := Is.ofInt b (by omega)
  by_cases e : a = b
  · subst e
    have h3 : fl' (a - a) = 0 := by
      rw [Int.sub_self]
      decide
    rw [h3]
    exact sub_self_fin h1.finB
  · obtain ⟨r, hr, hn⟩ := h1.diff h2
    have hi : Is r ((a - b : Int) : Rat) := by
      have := hn.exact (a - b) 0 (by omega) (by decide) (by decide) (by rw [Rat.zpow_zero, Rat.intCast_sub]; grind)
      rw [Rat.intCast_sub]
      exact this
    have hu := hi.uniq (Is.ofInt (a - b) (by omega)) (by
      intro h0
      have : a - b = 0 := by exact_mod_cast h0
      omega) (double.sub_lt hr) (fl'_lt _)
    show double.sub (FloatKind.f64.nearest a) (FloatKind.f64.nearest b) = some (FloatKind.f64.nearest (a - b))
    rw [← hu]
    exact hr
/-- The square of a whole number, exact. -/
theorem sq_fl (d : Int) (hd : d.natAbs ≤ 2 ^ 20) : ∃ m, floatBits .mul .f64 (fl' d) (fl' d) = some m ∧ Is m ((d * d : Int) : Rat) := by
  have h1 := Is.ofInt d (by omega)
  obtain ⟨r, hr, hn⟩ := h1.prod h1
  have hb : (d * d).natAbs < 2 ^ 53 := by
    rw [Int.natAbs_mul]
    have := Nat.mul_le_mul hd hd
    omega
  have := hn.exact (d * d) 0 hb (by decide) (by decide) (by rw [Rat.zpow_zero, Rat.intCast_mul]; grind)
  rw [Rat.intCast_mul]
  exact ⟨r, hr, this⟩
theorem add_whole {x y : Nat} (a b : Int) (hx : Is x (a : Rat)) (hy : Is y (b : Rat)) (h : (a + b).natAbs < 2 ^ 53) : ∃ r, floatBits .add .f64 x y = some r ∧ Is r ((a + b : Int) : Rat) := by
  obtain ⟨r, hr, hn⟩ := hx.sum hy
  have := hn.exact (a + b) 0 h (by decide) (by decide) (by rw [Rat.zpow_zero, Rat.intCast_add]; grind)
  rw [Rat.intCast_add]
  exact ⟨r, hr, this⟩
theorem rootFrom_sq (n : Nat) : ∀ (todo r : Nat), r * r ≤ n → Datum.rootFrom n todo r * Datum.rootFrom n todo r ≤ n
  | 0, r, h => h
  | todo + 1, r, h => by
    unfold Datum.rootFrom
    simp only
    by_cases c : (r + 1 <<< todo) * (r + 1 <<< todo) ≤ n
    · rw [if_pos c]
      exact rootFrom_sq n todo _ c
    · rw [if_neg c]
      exact rootFrom_sq n todo r h
/-- The square root of a number from 0 to 2^24. -/
theorem Is.sqrt {x : Nat} {q : Rat} (hx : Is x q) (h0 : 0 ≤ q) (h24 : q < (2 : Rat) ^ (24 : Int)) : ∃ r q', FloatKind.f64.format.sqrt x = some r ∧ Is r q' ∧ -(2 : Rat) ^ (14 : Int) < q' ∧ q' < (2 : Rat) ^ (14 : Int) := by
  obtain ⟨s, m, i, h1, rfl⟩ := hx
  show ∃ r q', double.sqrt x = some r ∧ _
  unfold Format.sqrt
  rw [h1]
  have p14 := zpow_pos2 14
  by_cases hm : m = 0
  · subst hm
    refine ⟨double.nearest s 0 i, 0, rfl, is_zero s i, by grind, by grind⟩
  · have hs : s = false := by
      cases s
      · rfl
      · exfalso
        rw [mant_val, if_pos rfl] at h0
        have p1 := zpow_pos2 i
        have p2 : (0 : Rat) < (m : Rat) := by exact_mod_cast Nat.pos_of_ne_zero hm
        have := Rat.mul_pos p2 p1
        grind
    subst hs
    rw [mant_val] at h24
    simp only [Bool.false_eq_true, if_false] at h24
    simp only [Datum.root, if_neg hm, Bool.false_eq_true, if_false, Option.map_some]
    generalize hmore : 2 * (double.fractionBits + 2) - m.log2 + ((i - ((2 * (double.fractionBits + 2) - m.log2 : Nat) : Int)) % 2).toNat = more
    have heven : (i - (more : Int)) % 2 = 0 := by omega
    generalize hn : m <<< more = n
    have hnv : n = m * 2 ^ more := by rw [← hn, Nat.shiftLeft_eq]
    have hn1 : 1 ≤ n := by
      rw [hnv]
      exact Nat.mul_pos (Nat.pos_of_ne_zero hm) (Nat.two_pow_pos _)
    have hW := rootFrom_sq n (n.log2 / 2 + 1) 0 (by omega)
    generalize Datum.rootFrom n (n.log2 / 2 + 1) 0 = W at *
    generalize hst : (W * W != n).toNat = st
    have hst1 : st ≤ 1 := by rw [← hst]; cases (W * W != n) <;> simp
    obtain ⟨h, hh⟩ : ∃ h : Int, i - (more : Int) = h + h := ⟨(i - more) / 2, by omega⟩
    have hh2 : (i - (more : Int)) / 2 = h := by omega
    rw [hh2]
    have hnat : (2 * W + st) * (2 * W + st) ≤ 9 * n := by
      have h1 : (2 * W + st) * (2 * W + st) ≤ (2 * W + 1) * (2 * W + 1) := Nat.mul_le_mul (by omega) (by omega)
      have h2 : (2 * W + 1) * (2 * W + 1) = 4 * (W * W) + 4 * W + 1 := by grind
      have h3 : W ≤ W * W := by
        rcases Nat.eq_zero_or_pos W with k | k
        · subst k; omega
        · exact Nat.le_mul_of_pos_right _ k
      omega
    generalize hV : 2 * W + st = V at *
    have hq : (n : Rat) * ((2 : Rat) ^ h * (2 : Rat) ^ h) < (2 : Rat) ^ (24 : Int) := by
      have e1 : (n : Rat) * ((2 : Rat) ^ h * (2 : Rat) ^ h) = (m : Rat) * (2 : Rat) ^ i := by
        rw [hnv, Rat.natCast_mul, ← zpow_add2, ← hh, ← zpow_nat2, Rat.mul_assoc, ← zpow_add2]
        congr 2
        omega
      rw [e1]
      exact h24
    have hVr : (V : Rat) * (V : Rat) ≤ 9 * (n : Rat) := by
      have : ((V * V : Nat) : Rat) ≤ ((9 * n : Nat) : Rat) := by exact_mod_cast hnat
      rw [Rat.natCast_mul, Rat.natCast_mul] at this
      exact this
    have e2 : (2 : Rat) ^ (h - 1) * 2 = (2 : Rat) ^ h := by
      rw [← zpow_succ2]
      congr 1
      omega
    have c24 : (2 : Rat) ^ (24 : Int) = 16777216 := by rfl
    have c13 : (2 : Rat) ^ (13 : Int) = 8192 := by rfl
    have c14 : (2 : Rat) ^ (14 : Int) = 16384 := by rfl
    have c0 : (2 : Rat) ^ ((13 : Int) - 54) ≤ 1 := by
      have := pow_le_of (a := (13 : Int) - 54) (b := 0) (by decide)
      rw [Rat.zpow_zero] at this
      exact this
    have hRn : Rn ((V : Rat) * (2 : Rat) ^ (h - 1)) (double.write (.number false V (h - 1))) := ⟨false, V, h - 1, rfl, by rw [mant_val]; rfl⟩
    have pc := zpow_pos2 (h - 1)
    have pV : (0 : Rat) ≤ (V : Rat) := by exact_mod_cast Nat.zero_le V
    generalize hc : (2 : Rat) ^ (h - 1) = c at *
    rw [← e2, c24] at hq
    have hv0 : (0 : Rat) ≤ (V : Rat) * c := Rat.mul_nonneg pV (Rat.le_of_lt pc)
    have hv1 : (V : Rat) * c < 8192 := by
      by_cases k0 : (V : Rat) * c < 8192
      · exact k0
      · exfalso
        have k := Rat.not_lt.1 k0
        have k2 : (8192 : Rat) * 8192 ≤ ((V : Rat) * c) * ((V : Rat) * c) := Rat.le_trans (Rat.mul_le_mul_of_nonneg_right k (by decide)) (Rat.mul_le_mul_of_nonneg_left k hv0)
        have k3 : ((V : Rat) * c) * ((V : Rat) * c) = ((V : Rat) * (V : Rat)) * (c * c) := by grind
        have pcc : (0 : Rat) ≤ c * c := Rat.mul_nonneg (Rat.le_of_lt pc) (Rat.le_of_lt pc)
        have k4 : ((V : Rat) * (V : Rat)) * (c * c) ≤ (9 * (n : Rat)) * (c * c) := Rat.mul_le_mul_of_nonneg_right hVr pcc
        grind
    obtain ⟨q', hi, l1, l2⟩ := hRn.near 13 (by decide) (by decide) (by rw [c13]; grind) (by rw [c13]; exact hv1)
    rw [c14]
    exact ⟨_, q', rfl, hi, by grind, by grind⟩
end Go.Proofs.YtdfamnlmhikolaaDoor
