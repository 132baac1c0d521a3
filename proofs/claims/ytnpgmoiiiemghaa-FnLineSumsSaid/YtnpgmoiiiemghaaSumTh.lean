/-
  The sums of a line string in the model's floats: the law's own and the program's stand for the same numbers. No program.
-/
import Derived.Test.YtnpgmoiiiemghaaScl
import Derived.Test.YtnpgmoiiiemghaaRunLaw
namespace Go.Proofs.Ytnpgmoiiiemghaa
open Ieee
theorem read_range {x : Nat} {s : Bool} {m : Nat} {i : Int} (h1 : double.read x = .number s m i) : m < 2 ^ 53 ∧ -1074 ≤ i ∧ (i = -1074 ∨ 2 ^ 52 ≤ m) := by
  have e1 : double.signWeight = 2 ^ 63 := by decide
  have e2 : double.infRung = 2047 * 2 ^ 52 := by decide
  have e3 : double.binade = 2 ^ 52 := by decide
  have e4 : double.leastPlace = -1074 := by decide
  unfold Format.read at h1
  simp only [e1, e2, e3, e4] at h1
  split at h1
  · cases h1
    exact ⟨by omega, by omega, Or.inl rfl⟩
  · split at h1
    · cases h1
      have := Nat.mod_lt (x % 2 ^ 63) (show 0 < 2 ^ 52 by decide)
      exact ⟨by omega, by omega, Or.inr (by omega)⟩
    · split at h1 <;> cases h1
/-- What a word stands for is its own nearest. -/
theorem Is.rn_self {x r : Nat} {q : Rat} (h : Is x q) (hr : Rn q r) (b1 : -(2 : Rat) ^ (100 : Int) < q) (b2 : q < (2 : Rat) ^ (100 : Int)) : Is r q := by
  obtain ⟨s, m, i, h1, hv⟩ := h
  obtain ⟨k1, k2, k3⟩ := read_range h1
  have hi : i ≤ 970 := by
    rcases k3 with k3 | k3
    · omega
    · have hm := Rn.mag_lt hv b1 b2
      have h2 : ((2 ^ 52 : Nat) : Rat) ≤ (m : Rat) := by exact_mod_cast k3
      have p := zpow_pos2 i
      have h3 := Rat.mul_le_mul_of_nonneg_right h2 (Rat.le_of_lt p)
      rw [← zpow_nat2, ← zpow_add2] at h3
      have h4 : (2 : Rat) ^ (((52 : Nat) : Int) + i) < (2 : Rat) ^ (100 : Int) := by grind
      have := pow_lt_of h4
      omega
  exact hr.exact (mant s m) i (by rw [mant_abs]; exact k1) k2 hi hv.symm
/-- The square root of a number from 0 to 2^24. -/
theorem Is.sqrt_full {x : Nat} {q : Rat} (hx : Is x q) (h0 : 0 ≤ q) (h24 : q < (2 : Rat) ^ (24 : Int)) : ∃ r q', FloatKind.f64.format.sqrt x = some r ∧ Is r q' ∧ -(2 : Rat) ^ (14 : Int) < q' ∧ q' < (2 : Rat) ^ (14 : Int) ∧ (1 ≤ q → (2 : Rat) ^ (-83 : Int) ≤ q') := by
  obtain ⟨s, m, i, h1, rfl⟩ := hx
  obtain ⟨kr1, kr2, kr3⟩ := read_range h1
  show ∃ r q', double.sqrt x = some r ∧ _
  unfold Format.sqrt
  rw [h1]
  have p14 := zpow_pos2 14
  by_cases hm : m = 0
  · subst hm
    refine ⟨double.nearest s 0 i, 0, rfl, is_zero s i, by grind, by grind, fun h => ?_⟩
    exfalso
    rw [mant_zero] at h
    have e : (((0 : Int) : Rat)) * (2 : Rat) ^ i = 0 := by
      have e : ((0 : Int) : Rat) = 0 := rfl
      rw [e, Rat.zero_mul]
    rw [e] at h
    exact absurd h (by decide)
  · have hs : s = false := by
      cases s
      · rfl
      · exfalso
        rw [mant_val, if_pos rfl] at h0
        have p1 := zpow_pos2 i
        have p2 : (0 : Rat) < (m : Rat) := by exact_mod_cast Nat.pos_of_ne_zero hm
        have := Rat.mul_pos p2 p1
        grind
    subst hs
    rw [mant_val]
    rw [mant_val] at h24
    simp only [Bool.false_eq_true, if_false] at h24
    simp only [Bool.false_eq_true, if_false]
    simp only [Datum.root, if_neg hm, Bool.false_eq_true, if_false, Option.map_some]
    generalize hmore : 2 * (double.fractionBits + 2) - m.log2 + ((i - ((2 * (double.fractionBits + 2) - m.log2 : Nat) : Int)) % 2).toNat = more
    have heven : (i - (more : Int)) % 2 = 0 := by omega
    generalize hn : m <<< more = n
    have hnv : n = m * 2 ^ more := by rw [← hn, Nat.shiftLeft_eq]
    have hn1 : 1 ≤ n := by
      rw [hnv]
      exact Nat.mul_pos (Nat.pos_of_ne_zero hm) (Nat.two_pow_pos _)
    have hW := rootFrom_sq n (n.log2 / 2 + 1) 0 (by omega)
    generalize Datum.rootFrom n (n.log2 / 2 + 1) 0 = W at *
    generalize hst : (W * W != n).toNat = st
    have hst1 : st ≤ 1 := by rw [← hst]; cases (W * W != n) <;> simp
    obtain ⟨h, hh⟩ : ∃ h : Int, i - (more : Int) = h + h := ⟨(i - more) / 2, by omega⟩
    have hh2 : (i - (more : Int)) / 2 = h := by omega
    rw [hh2]
    have hnat : (2 * W + st) * (2 * W + st) ≤ 9 * n := by
      have h1 : (2 * W + st) * (2 * W + st) ≤ (2 * W + 1) * (2 * W + 1) := Nat.mul_le_mul (by omega) (by omega)
      have h2 : (2 * W + 1) * (2 * W + 1) = 4 * (W * W) + 4 * W + 1 := by grind
      have h3 : W ≤ W * W := by
        rcases Nat.eq_zero_or_pos W with k | k
        · subst k; omega
        · exact Nat.le_mul_of_pos_right _ k
      omega
    have hV1 : 1 ≤ 2 * W + st := by
      rcases Nat.eq_zero_or_pos W with k | k
      · subst k
        have e : (0 * 0 != n) = true := by simp; omega
        rw [e] at hst
        rw [← hst]
        decide
      · omega
    generalize hV : 2 * W + st = V at *
    have hlog : m.log2 < 53 := by
      have := (log2_bounds hm).1
      rcases Nat.lt_or_ge m.log2 53 with c | c
      · exact c
      · have : 2 ^ 53 ≤ 2 ^ m.log2 := Nat.pow_le_pow_right (by decide) c
        omega
    have hfr : double.fractionBits = 52 := by decide
    have hlo : 1 ≤ (m : Rat) * (2 : Rat) ^ i → (2 : Rat) ^ (-83 : Int) ≤ (V : Rat) * (2 : Rat) ^ (h - 1) := by
      intro hone
      have hi : -53 < i := by
        have g2 : (m : Rat) < ((2 ^ 53 : Nat) : Rat) := by exact_mod_cast kr1
        have p := zpow_pos2 i
        have g3 := Rat.mul_lt_mul_of_pos_right g2 p
        rw [← zpow_nat2, ← zpow_add2] at g3
        have g4 : (2 : Rat) ^ (0 : Int) < (2 : Rat) ^ (((53 : Nat) : Int) + i) := by rw [Rat.zpow_zero]; grind
        have := pow_lt_of g4
        omega
      rw [hfr] at hmore
      have hV2 : (1 : Rat) ≤ (V : Rat) := by exact_mod_cast hV1
      have pc := zpow_pos2 (h - 1)
      have h5 := Rat.mul_le_mul_of_nonneg_right hV2 (Rat.le_of_lt pc)
      have h6 := pow_le_of (a := -83) (b := h - 1) (by omega)
      grind
    have hq : (n : Rat) * ((2 : Rat) ^ h * (2 : Rat) ^ h) < (2 : Rat) ^ (24 : Int) := by
      have e1 : (n : Rat) * ((2 : Rat) ^ h * (2 : Rat) ^ h) = (m : Rat) * (2 : Rat) ^ i := by
        rw [hnv, Rat.natCast_mul, ← zpow_add2, ← hh, ← zpow_nat2, Rat.mul_assoc, ← zpow_add2]
        congr 2
        omega
      rw [e1]
      exact h24
    have hVr : (V : Rat) * (V : Rat) ≤ 9 * (n : Rat) := by
      have : ((V * V : Nat) : Rat) ≤ ((9 * n : Nat) : Rat) := by exact_mod_cast hnat
      rw [Rat.natCast_mul, Rat.natCast_mul] at this
      exact this
    have e2 : (2 : Rat) ^ (h - 1) * 2 = (2 : Rat) ^ h := by
      rw [← zpow_succ2]
      congr 1
      omega
    have c24 : (2 : Rat) ^ (24 : Int) = 16777216 := by rfl
    have c13 : (2 : Rat) ^ (13 : Int) = 8192 := by rfl
    have c14 : (2 : Rat) ^ (14 : Int) = 16384 := by rfl
    have c0 : (2 : Rat) ^ ((13 : Int) - 54) ≤ 1 := by
      have := pow_le_of (a := (13 : Int) - 54) (b := 0) (by decide)
      rw [Rat.zpow_zero] at this
      exact this
    have hRn : Rn ((V : Rat) * (2 : Rat) ^ (h - 1)) (double.write (.number false V (h - 1))) := ⟨false, V, h - 1, rfl, by rw [mant_val]; rfl⟩
    have pc := zpow_pos2 (h - 1)
    have pV : (0 : Rat) ≤ (V : Rat) := by exact_mod_cast Nat.zero_le V
    generalize hc : (2 : Rat) ^ (h - 1) = c at *
    rw [← e2, c24] at hq
    have hv0 : (0 : Rat) ≤ (V : Rat) * c := Rat.mul_nonneg pV (Rat.le_of_lt pc)
    have hv1 : (V : Rat) * c < 8192 := by
      by_cases k0 : (V : Rat) * c < 8192
      · exact k0
      · exfalso
        have k := Rat.not_lt.1 k0
        have k2 : (8192 : Rat) * 8192 ≤ ((V : Rat) * c) * ((V : Rat) * c) := Rat.le_trans (Rat.mul_le_mul_of_nonneg_right k (by decide)) (Rat.mul_le_mul_of_nonneg_left k hv0)
        have k3 : ((V : Rat) * c) * ((V : Rat) * c) = ((V : Rat) * (V : Rat)) * (c * c) := by grind
        have pcc : (0 : Rat) ≤ c * c := Rat.mul_nonneg (Rat.le_of_lt pc) (Rat.le_of_lt pc)
        have k4 : ((V : Rat) * (V : Rat)) * (c * c) ≤ (9 * (n : Rat)) * (c * c) := Rat.mul_le_mul_of_nonneg_right hVr pcc
        grind
    obtain ⟨q', hi, l1, l2⟩ := hRn.near 13 (by decide) (by decide) (by rw [c13]; grind) (by rw [c13]; exact hv1)
    rw [c14]
    refine ⟨_, q', rfl, hi, by grind, by grind, fun hone => ?_⟩
    have c1000 : (2 : Rat) ^ (13 : Int) ≤ (2 : Rat) ^ (1000 : Int) := pow_le_of (by decide)
    obtain ⟨v, g1, g2⟩ := hRn.ge (-83) (by decide) (hlo hone) (by rw [c13] at c1000; grind)
    rw [hi.fun g1]
    exact g2
theorem Is.sqrt_zero {x : Nat} (hx : Is x 0) : ∃ r, FloatKind.f64.format.sqrt x = some r ∧ Is r 0 := by
  obtain ⟨s, m, i, h1, h0⟩ := hx
  have hm : m = 0 := by
    apply Decidable.byContradiction
    intro hne
    have pp := zpow_pos2 i
    have p1 : (0 : Rat) < (m : Rat) := by exact_mod_cast Nat.pos_of_ne_zero hne
    have p2 := Rat.mul_pos p1 pp
    rw [mant_val] at h0
    cases s
    · simp only [Bool.false_eq_true, if_false] at h0
      grind
    · simp only [if_true] at h0
      grind
  subst hm
  refine ⟨double.nearest s 0 i, ?_, is_zero s i⟩
  show double.sqrt x = _
  unfold Format.sqrt
  rw [h1]
  rfl
def fB (op : BinOp) (x y : Nat) : Nat := (floatBits op .f64 x y).getD 0
theorem fB_some {op : BinOp} {x y r : Nat} (h : floatBits op .f64 x y = some r) : fB op x y = r := by unfold fB; rw [h]; rfl
/-- What a word that is 0 less itself is. -/
theorem diff_same {x y : Nat} {q : Rat} (hx : Is x q) (hy : Is y q) : ∃ r, floatBits .sub .f64 x y = some r ∧ (r = 0 ∨ r = 9223372036854775808) := by
  obtain ⟨s, m, i, h1, hv⟩ := hx
  obtain ⟨t, n, j, h2, hv2⟩ := hy
  show ∃ r, double.sub x y = some r ∧ _
  unfold Format.sub
  rw [h1, h2]
  simp only [Datum.opposite, Datum.sum, Option.map_some]
  refine ⟨_, rfl, ?_⟩
  have e : signed (!t) n (j - min i j).toNat = -signed t n (j - min i j).toNat := by
    rw [signed_eq, signed_eq, mant_not]
    grind
  have hz : signed s m (i - min i j).toNat + signed (!t) n (j - min i j).toNat = 0 := by
    rw [e]
    have a1 := scale s m i (min i j) (Int.min_le_left i j)
    have a2 := scale t n j (min i j) (Int.min_le_right i j)
    rw [hv] at a1
    rw [hv2] at a2
    have p := Rat.ne_of_gt (zpow_pos2 (min i j))
    have a3 : ((signed s m (i - min i j).toNat : Int) : Rat) = ((signed t n (j - min i j).toNat : Int) : Rat) := by
      generalize (2 : Rat) ^ (min i j) = c at *
      grind
    have a4 : signed s m (i - min i j).toNat = signed t n (j - min i j).toNat := by exact_mod_cast a3
    omega
  rw [hz]
  generalize (s && !t) = b
  have e0 : (if (0 : Int) = 0 then b else decide ((0 : Int) < 0)) = b := by simp
  show double.write (.number (if (0 : Int) = 0 then b else decide ((0 : Int) < 0)) (Int.natAbs 0) (min i j)) = 0 ∨ _
  rw [e0]
  cases b
  · exact Or.inl rfl
  · exact Or.inr rfl

/-! ### One segment's terms -/
abbrev halfB : Nat := 4602678819172646912
abbrev twoB : Nat := 4611686018427387904
theorem read2 : double.read twoB = .number false (2 ^ 52) (-51) := by decide
def termL (w S : Nat) : Nat := fB .quo (fB .mul w S) twoB
def termP (w S : Nat) : Nat := fB .mul (fB .mul halfB S) w
/-- The law's and the program's term stand for one number, of no great size; for 0 where the length is 0. -/
theorem term_ok {w S S' : Nat} {r : Rat} {z : Int} (hw : Is w r) (hr : r = 0 ∨ (2 : Rat) ^ (-83 : Int) ≤ r) (hr2 : r < (2 : Rat) ^ (14 : Int)) (hS : Is S (dy z 0)) (hS' : Is S' (dy z 0)) (hz : z.natAbs ≤ 2000) :
    ∃ t, floatBits .mul .f64 w S = some (fB .mul w S) ∧ floatBits .quo .f64 (fB .mul w S) twoB = some (termL w S) ∧ floatBits .mul .f64 halfB S' = some (fB .mul halfB S') ∧ floatBits .mul .f64 (fB .mul halfB S') w = some (termP w S') ∧
      Is (termL w S) t ∧ Is (termP w S') t ∧ -16384001 ≤ t ∧ t ≤ 16384001 ∧ (r = 0 → t = 0) := by
  have c14 : (2 : Rat) ^ (14 : Int) = 16384 := by rfl
  have c25 : (2 : Rat) ^ (25 : Int) = 33554432 := by rfl
  have dyz : dy z 0 = (z : Rat) := by unfold dy; rw [Rat.zpow_zero, Rat.mul_one]
  have hr0 : 0 ≤ r := by
    rcases hr with k | k
    · rw [k]; exact Rat.le_refl
    · have := zpow_pos2 (-83)
      grind
  rw [c14] at hr2
  have z1 : (-2000 : Rat) ≤ (z : Rat) := by
    have h : ((-2000 : Int) : Rat) ≤ (z : Rat) := Rat.intCast_le_intCast.2 (by omega)
    have e : ((-2000 : Int) : Rat) = -2000 := rfl
    rw [← e]; exact h
  have z2 : (z : Rat) ≤ (2000 : Rat) := by
    have h : (z : Rat) ≤ ((2000 : Int) : Rat) := Rat.intCast_le_intCast.2 (by omega)
    have e : ((2000 : Int) : Rat) = 2000 := rfl
    rw [← e]; exact h
  have hb1 : r * (z : Rat) ≤ 32768000 := by
    have a := Rat.mul_le_mul_of_nonneg_left z2 hr0
    grind
  have hb2 : -32768000 ≤ r * (z : Rat) := by
    have a := Rat.mul_le_mul_of_nonneg_left z1 hr0
    grind
  -- the product
  obtain ⟨a1, e1, n1⟩ := hw.prod hS
  rw [dyz] at n1
  -- the half
  obtain ⟨h1, e2, i2⟩ := is_half.dmul hS' (by omega) (by decide) (by decide)
  have i2' : Is h1 ((z : Rat) * (2 : Rat) ^ (-1 : Int)) := by
    have : dy (1 * z) (-1 + 0) = (z : Rat) * (2 : Rat) ^ (-1 : Int) := by unfold dy; rw [Int.one_mul]; rfl
    rw [← this]
    exact i2
  obtain ⟨k1, e3, n3⟩ := i2'.prod hw
  have n3' : Rn (r * (z : Rat) * (2 : Rat) ^ (-1 : Int)) k1 := by
    have : (z : Rat) * (2 : Rat) ^ (-1 : Int) * r = r * (z : Rat) * (2 : Rat) ^ (-1 : Int) := by grind
    rw [← this]
    exact n3
  have c1000 : (2 : Rat) ^ (25 : Int) ≤ (2 : Rat) ^ (1000 : Int) := pow_le_of (by decide)
  have c100 : (2 : Rat) ^ (25 : Int) ≤ (2 : Rat) ^ (100 : Int) := pow_le_of (by decide)
  rw [c25] at c1000 c100
  have hnorm : (-1 : Int) = 0 ∨ r * (z : Rat) = 0 ∨ (2 : Rat) ^ (-900 : Int) ≤ r * (z : Rat) ∨ r * (z : Rat) ≤ -(2 : Rat) ^ (-900 : Int) := by
    right
    rcases hr with k | k
    · left
      rw [k, Rat.zero_mul]
    · have c83 : (2 : Rat) ^ (-900 : Int) ≤ (2 : Rat) ^ (-83 : Int) := pow_le_of (by decide)
      rcases (by omega : z = 0 ∨ 1 ≤ z ∨ z ≤ -1) with q | q | q
      · left
        subst q
        have : ((0 : Int) : Rat) = 0 := rfl
        rw [this, Rat.mul_zero]
      · right; left
        have h1 : ((1 : Int) : Rat) ≤ (z : Rat) := Rat.intCast_le_intCast.2 q
        have e1 : ((1 : Int) : Rat) = 1 := rfl
        rw [e1] at h1
        have := Rat.mul_le_mul_of_nonneg_left h1 hr0
        grind
      · right; right
        have h1 : (z : Rat) ≤ ((-1 : Int) : Rat) := Rat.intCast_le_intCast.2 q
        have e1 : ((-1 : Int) : Rat) = -1 := rfl
        rw [e1] at h1
        have := Rat.mul_le_mul_of_nonneg_left h1 hr0
        grind
  obtain ⟨v, v1, v2⟩ := Rn.scale (-1) n1 n3' (by decide) (by decide) (by grind) (by grind) hnorm
  have e1' : floatBits .mul .f64 w S = some a1 := e1
  have e2' : floatBits .mul .f64 halfB S' = some h1 := e2
  have e3' : floatBits .mul .f64 h1 w = some k1 := e3
  have d1 : fB .mul w S = a1 := fB_some e1'
  have d2 : fB .mul halfB S' = h1 := fB_some e2'
  have d3 : termP w S' = k1 := by unfold termP; rw [d2]; exact fB_some e3'
  obtain ⟨a2, e4, n4⟩ := v1.quoPow read2
  have d4 : termL w S = a2 := by unfold termL; rw [d1]; exact fB_some e4
  -- how great the number is
  obtain ⟨v', w1, w2, w3⟩ := n1.near 25 (by decide) (by decide) (by rw [c25]; grind) (by rw [c25]; grind)
  have hvv := v1.fun w1
  have cs : (2 : Rat) ^ ((25 : Int) - 54) ≤ 1 := by
    have := pow_le_of (a := (25 : Int) - 54) (b := 0) (by decide)
    rw [Rat.zpow_zero] at this
    exact this
  have c2 : (2 : Rat) ^ (-1 : Int) = 1 / 2 := by
    have h := zpow_succ2 (-1)
    rw [show (-1 : Int) + 1 = 0 by decide, Rat.zpow_zero] at h
    grind
  have n4' : Rn (v * (2 : Rat) ^ (-1 : Int)) a2 := n4
  have i4 : Is a2 (v * (2 : Rat) ^ (-1 : Int)) := v2.rn_self n4' (by rw [c2]; grind) (by rw [c2]; grind)
  rw [d1, d2, d3, d4]
  refine ⟨_, e1', e4, e2', e3', i4, v2, by rw [c2]; grind, by rw [c2]; grind, fun h => ?_⟩
  have hz0 : r * (z : Rat) = 0 := by rw [h, Rat.zero_mul]
  rw [hz0] at n1
  have hI : Is a1 0 := n1.exact 0 0 (by decide) (by decide) (by decide) (by
    have : ((0 : Int) : Rat) = 0 := rfl
    rw [this, Rat.zero_mul])
  rw [v1.fun hI, Rat.zero_mul]
/-! ### Two runs of sums: the program's leaves out what is 0 -/
def trackP (same : Nat → Bool) (tP : Nat → Nat) : Nat → Nat
  | 0 => 0
  | i + 1 => if same i then trackP same tP i else fB .add (trackP same tP i) (tP i)
def trackL (tL : Nat → Nat) : Nat → Nat
  | 0 => 0
  | i + 1 => fB .add (trackL tL i) (tL i)
def TermOk (same : Nat → Bool) (tP tL : Nat → Nat) (n : Nat) : Prop := ∀ i, i < n → ∃ t : Rat, Is (tP i) t ∧ Is (tL i) t ∧ -16384001 ≤ t ∧ t ≤ 16384001 ∧ (same i = true → t = 0)
theorem near_sum {x t : Nat} {q u : Rat} (hx : Is x q) (ht : Is t u) (h1 : -4294967296 ≤ q) (h2 : q ≤ 4294967296) (h3 : -16384001 ≤ u) (h4 : u ≤ 16384001) :
    ∃ r v, floatBits .add .f64 x t = some r ∧ Rn (q + u) r ∧ Is r v ∧ q + u - 1 ≤ v ∧ v ≤ q + u + 1 := by
  obtain ⟨r, hr, hn⟩ := hx.sum ht
  have c33 : (2 : Rat) ^ (33 : Int) = 8589934592 := by rfl
  have cs : (2 : Rat) ^ ((33 : Int) - 54) ≤ 1 := by
    have := pow_le_of (a := (33 : Int) - 54) (b := 0) (by decide)
    rw [Rat.zpow_zero] at this
    exact this
  obtain ⟨v, w1, w2, w3⟩ := hn.near 33 (by decide) (by decide) (by rw [c33]; grind) (by rw [c33]; grind)
  exact ⟨r, v, hr, hn, w1, by grind, by grind⟩
theorem track_step {same : Nat → Bool} {tP tL : Nat → Nat} {n : Nat} (hn : n ≤ 200) (h : TermOk same tP tL n) (i : Nat) (hi : i < n) (q : Rat) (hp : Is (trackP same tP i) q) (hl : Is (trackL tL i) q) (b1 : -((i : Rat) * 16777216) ≤ q) (b2 : q ≤ (i : Rat) * 16777216) :
    floatBits .add .f64 (trackL tL i) (tL i) = some (trackL tL (i + 1)) ∧ (same i = true → trackP same tP (i + 1) = trackP same tP i) ∧ (same i = false → floatBits .add .f64 (trackP same tP i) (tP i) = some (trackP same tP (i + 1))) ∧
      ∃ q', Is (trackP same tP (i + 1)) q' ∧ Is (trackL tL (i + 1)) q' ∧ -(((i + 1 : Nat) : Rat) * 16777216) ≤ q' ∧ q' ≤ ((i + 1 : Nat) : Rat) * 16777216 := by
  obtain ⟨t, t1, t2, t3, t4, t5⟩ := h i hi
  have hi2 : (i : Rat) ≤ 200 := by exact_mod_cast (by omega : i ≤ 200)
  have hi0 : (0 : Rat) ≤ (i : Rat) := by exact_mod_cast Nat.zero_le i
  obtain ⟨r1, v1, e1, n1, i1, l1, u1⟩ := near_sum hl t2 (by grind) (by grind) t3 t4
  obtain ⟨r2, v2, e2, n2, i2, l2, u2⟩ := near_sum hp t1 (by grind) (by grind) t3 t4
  have hL : trackL tL (i + 1) = r1 := by
    show fB .add _ _ = r1
    exact fB_some e1
  have c1000 : (2 : Rat) ^ (33 : Int) ≤ (2 : Rat) ^ (1000 : Int) := pow_le_of (by decide)
  have c100 : (2 : Rat) ^ (33 : Int) ≤ (2 : Rat) ^ (100 : Int) := pow_le_of (by decide)
  have c33 : (2 : Rat) ^ (33 : Int) = 8589934592 := by rfl
  rw [c33] at c1000 c100
  cases hsm : same i
  · have hP : trackP same tP (i + 1) = r2 := by
      show (if same i then _ else _) = r2
      rw [hsm]
      exact fB_some e2
    obtain ⟨v, g1, g2⟩ := n2.same n1 (by grind) (by grind)
    have hv := g1.fun i2
    rw [hL, hP]
    refine ⟨e1, fun k => absurd k (by decide), fun _ => e2, v, g1, g2, ?_, ?_⟩ <;> rw [Rat.natCast_add] <;> grind
  · have hP : trackP same tP (i + 1) = trackP same tP i := by
      show (if same i then _ else _) = _
      rw [hsm]
      rfl
    have ht := t5 hsm
    rw [ht, Rat.add_zero] at n1
    have g2 := hl.rn_self n1 (by grind) (by grind)
    rw [hL, hP]
    refine ⟨e1, fun _ => rfl, fun k => absurd k (by decide), q, hp, g2, ?_, ?_⟩ <;> rw [Rat.natCast_add] <;> grind
theorem track_ok {same : Nat → Bool} {tP tL : Nat → Nat} {n : Nat} (hn : n ≤ 200) (h : TermOk same tP tL n) : ∀ i, i ≤ n → ∃ q, Is (trackP same tP i) q ∧ Is (trackL tL i) q ∧ -((i : Rat) * 16777216) ≤ q ∧ q ≤ (i : Rat) * 16777216
  | 0, _ => ⟨0, is_zero false 0, is_zero false 0, by simp, by simp⟩
  | i + 1, hi => by
    obtain ⟨q, a, b, c, d⟩ := track_ok hn h i (by omega)
    exact (track_step hn h i (by omega) q a b c d).2.2.2
theorem track_add {same : Nat → Bool} {tP tL : Nat → Nat} {n : Nat} (hn : n ≤ 200) (h : TermOk same tP tL n) (i : Nat) (hi : i < n) :
    floatBits .add .f64 (trackL tL i) (tL i) = some (trackL tL (i + 1)) ∧ (same i = true → trackP same tP (i + 1) = trackP same tP i) ∧ (same i = false → floatBits .add .f64 (trackP same tP i) (tP i) = some (trackP same tP (i + 1))) := by
  obtain ⟨q, a, b, c, d⟩ := track_ok hn h i (by omega)
  obtain ⟨g1, g2, g3, _⟩ := track_step hn h i hi q a b c d
  exact ⟨g1, g2, g3⟩
end Go.Proofs.Ytnpgmoiiiemghaa
