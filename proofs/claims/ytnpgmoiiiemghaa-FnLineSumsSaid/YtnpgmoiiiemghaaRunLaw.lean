/-
  FnRunLengths: the law answers true and changes nothing that stood in memory. Proved for every input.
-/
import Derived.Test.YtnpgmoiiiemghaaRun
import Derived.Test.YtnpgmoiiiemghaaGeomOf
import Derived.Test.YtnpgmoiiiemghaaFth
import Derived.Test.YtnpgmoiiiemghaaOpen
namespace Go.Proofs.Ytnpgmoiiiemghaa
open Go.ChangeShapes Go.WideShapes Go.ChangeAt Go.RowKit
def faddB (x y : Nat) : Nat := (floatBits .add .f64 x y).getD 0
def fsqB (x : Nat) : Nat := (floatBits .mul .f64 x x).getD 0
/-- The bits of a segment's length. -/
def segB (p q : Int × Int) : Nat := (FloatKind.f64.format.sqrt (faddB (fsqB (fl (q.1 - p.1))) (fsqB (fl (q.2 - p.2))))).getD 0
def sgB (ps : List (Int × Int)) (i : Nat) : Nat := segB (ps.getD i (0, 0)) (ps.getD (i + 1) (0, 0))
def totB (ps : List (Int × Int)) : Nat → Nat
  | 0 => 0
  | i + 1 => faddB (totB ps i) (sgB ps i)

theorem sq_nonneg (d : Int) : 0 ≤ d * d := by
  have := Int.natAbs_mul_self' d
  rw [← this]
  exact Int.mul_nonneg (by omega) (by omega)
set_option maxRecDepth 100000 in
theorem segB_ok (p q : Int × Int) (hp : smallB 1000 p = true) (hq : smallB 1000 q = true) : ∃ m1 m2 s r, floatBits .mul .f64 (fl (q.1 - p.1)) (fl (q.1 - p.1)) = some m1 ∧ floatBits .mul .f64 (fl (q.2 - p.2)) (fl (q.2 - p.2)) = some m2 ∧
    floatBits .add .f64 m1 m2 = some s ∧ FloatKind.f64.format.sqrt s = some (segB p q) ∧ Is (segB p q) r ∧ -(2 : Rat) ^ (14 : Int) < r ∧ r < (2 : Rat) ^ (14 : Int) := by
  unfold smallB at hp hq
  have hp := of_decide_eq_true hp
  have hq := of_decide_eq_true hq
  obtain ⟨m1, e1, i1⟩ := sq_fl (q.1 - p.1) (by omega)
  obtain ⟨m2, e2, i2⟩ := sq_fl (q.2 - p.2) (by omega)
  have hb1 : (q.1 - p.1) * (q.1 - p.1) ≤ 4000000 := by
    have h1 : (q.1 - p.1).natAbs ≤ 2000 := by omega
    have h2 := Nat.mul_le_mul h1 h1
    rw [← Int.natAbs_mul] at h2
    omega
  have hb2 : (q.2 - p.2) * (q.2 - p.2) ≤ 4000000 := by
    have h1 : (q.2 - p.2).natAbs ≤ 2000 := by omega
    have h2 := Nat.mul_le_mul h1 h1
    rw [← Int.natAbs_mul] at h2
    omega
  have n1 := sq_nonneg (q.1 - p.1)
  have n2 := sq_nonneg (q.2 - p.2)
  generalize hA : (q.1 - p.1) * (q.1 - p.1) = A at *
  generalize hB : (q.2 - p.2) * (q.2 - p.2) = B at *
  obtain ⟨s, e3, i3⟩ := add_whole A B i1 i2 (by omega)
  have c24 : (2 : Rat) ^ (24 : Int) = 16777216 := by rfl
  obtain ⟨r, q', e4, i4, l1, l2⟩ := i3.sqrt (by exact_mod_cast (by omega : (0 : Int) ≤ A + B)) (by
    have h1 : ((A + B : Int) : Rat) < ((16777216 : Int) : Rat) := Rat.intCast_lt_intCast.2 (by omega)
    have h2 : ((16777216 : Int) : Rat) = 16777216 := by rfl
    rw [c24, ← h2]
    exact h1)
  have hr : segB p q = r := by
    unfold segB fsqB faddB
    have e1' : floatBits .mul .f64 (fl (q.1 - p.1)) (fl (q.1 - p.1)) = some m1 := e1
    have e2' : floatBits .mul .f64 (fl (q.2 - p.2)) (fl (q.2 - p.2)) = some m2 := e2
    rw [e1', e2', Option.getD_some, Option.getD_some, e3, Option.getD_some, e4, Option.getD_some]
  rw [hr]
  exact ⟨m1, m2, s, q', e1, e2, e3, e4, i4, l1, l2⟩

theorem small_at {ps : List (Int × Int)} (h : ps.all (smallB 1000) = true) {i : Nat} (hi : i < ps.length) : smallB 1000 (ps.getD i (0, 0)) = true := by
  rw [List.getD, List.getElem?_eq_getElem hi]
  exact List.all_eq_true.1 h _ (List.getElem_mem hi)

theorem totB_step (ps : List (Int × Int)) (h : ps.all (smallB 1000) = true) (h200 : ps.length ≤ 200) (i : Nat) (hi : i + 1 < ps.length) (q : Rat) (hq : Is (totB ps i) q) (h1 : -((i : Rat) * 32768) ≤ q) (h2 : q ≤ (i : Rat) * 32768) :
    floatBits .add .f64 (totB ps i) (sgB ps i) = some (totB ps (i + 1)) ∧ ∃ q', Is (totB ps (i + 1)) q' ∧ -(((i + 1 : Nat) : Rat) * 32768) ≤ q' ∧ q' ≤ ((i + 1 : Nat) : Rat) * 32768 := by
  obtain ⟨_, _, _, r, _, _, _, _, hr, r1, r2⟩ := segB_ok _ _ (small_at h (i := i) (by omega)) (small_at h hi)
  have hr' : Is (sgB ps i) r := hr
  obtain ⟨x, hx, hn⟩ := hq.sum hr'
  have c14 : (2 : Rat) ^ (14 : Int) = 16384 := by rfl
  have c23 : (2 : Rat) ^ (23 : Int) = 8388608 := by rfl
  have c0 : (2 : Rat) ^ ((23 : Int) - 54) ≤ 1 := by
    have := pow_le_of (a := (23 : Int) - 54) (b := 0) (by decide)
    rw [Rat.zpow_zero] at this
    exact this
  rw [c14] at r1 r2
  have hi2 : (i : Rat) ≤ 198 := by exact_mod_cast (by omega : i ≤ 198)
  obtain ⟨q', hi', l1, l2⟩ := hn.near 23 (by decide) (by decide) (by rw [c23]; grind) (by rw [c23]; grind)
  have ha : floatBits .add .f64 (totB ps i) (sgB ps i) = some x := hx
  have ht : totB ps (i + 1) = x := by
    show faddB (totB ps i) (sgB ps i) = x
    unfold faddB
    rw [ha]
    rfl
  rw [ht]
  refine ⟨ha, q', hi', ?_, ?_⟩
  · rw [Rat.natCast_add]
    grind
  · rw [Rat.natCast_add]
    grind
theorem totB_ok (ps : List (Int × Int)) (h : ps.all (smallB 1000) = true) (h200 : ps.length ≤ 200) : ∀ i, i < ps.length → ∃ q, Is (totB ps i) q ∧ -((i : Rat) * 32768) ≤ q ∧ q ≤ (i : Rat) * 32768
  | 0, _ => ⟨0, is_zero false 0, by simp, by simp⟩
  | i + 1, hi => by
    obtain ⟨q, a, b, c⟩ := totB_ok ps h h200 i (by omega)
    exact (totB_step ps h h200 i hi q a b c).2
theorem totB_add (ps : List (Int × Int)) (h : ps.all (smallB 1000) = true) (h200 : ps.length ≤ 200) (i : Nat) (hi : i + 1 < ps.length) : floatBits .add .f64 (totB ps i) (sgB ps i) = some (totB ps (i + 1)) := by
  obtain ⟨q, a, b, c⟩ := totB_ok ps h h200 i (by omega)
  exact (totB_step ps h h200 i hi q a b c).1
theorem totB_fin (ps : List (Int × Int)) (h : ps.all (smallB 1000) = true) (h200 : ps.length ≤ 200) (i : Nat) (hi : i < ps.length) : finB (totB ps i) = true := by
  obtain ⟨q, a, _⟩ := totB_ok ps h h200 i hi
  exact a.finB
/-- The program's segment: its differences are exact. -/
theorem seg_num (ps : List (Int × Int)) (h : ps.all (smallB 1000) = true) (i : Nat) (hi : i + 1 < ps.length) : Seg (numsOf ps) i (sgB ps i) := by
  have s1 := small_at h (i := i) (by omega)
  have s2 := small_at h hi
  have g1 : ps[i]? = some (ps.getD i (0, 0)) := by rw [List.getD, List.getElem?_eq_getElem (by omega)]; rfl
  have g2 : ps[i + 1]? = some (ps.getD (i + 1) (0, 0)) := by rw [List.getD, List.getElem?_eq_getElem (by omega)]; rfl
  obtain ⟨m1, m2, s, _, e1, e2, e3, e4, _⟩ := segB_ok _ _ s1 s2
  unfold sgB
  generalize ps.getD i (0, 0) = p at *
  generalize ps.getD (i + 1) (0, 0) = q at *
  obtain ⟨x1, x2⟩ := numsOf_get ps i p g1
  obtain ⟨x3, x4⟩ := numsOf_get ps (i + 1) q g2
  unfold smallB at s1 s2
  have s1 := of_decide_eq_true s1
  have s2 := of_decide_eq_true s2
  exact ⟨_, _, _, _, _, _, m1, m2, s, x1, x2, x3, x4, sub_fl q.1 p.1 (by omega) (by omega), sub_fl q.2 p.2 (by omega) (by omega), e1, e2, e3, e4⟩

set_option maxRecDepth 100000 in
set_option maxHeartbeats 4000000 in
theorem law_main (ps : List (Int × Int)) (v : Value) (w : World) (h : PtSl w v ps) (hpos : ps ≠ []) (h200 : ps.length ≤ 200) (hs : ps.all (smallB 1000) = true) :
    Calls Try.prog 3 #[v] w fun e w' => e = .returned (.bool true) ∧ Bel w w' := by
  have HP := Lib.hid h
  have HS := Lib.hid hs
  obtain ⟨m, hm⟩ : ∃ m, ps.length = m + 1 := ⟨ps.length - 1, by have := List.length_pos_iff.2 hpos; omega⟩
  have hseg : Hid (∀ i, i < m → Seg (numsOf ps) i (sgB ps i)) := Lib.hid (fun i hi => seg_num ps hs i (by omega))
  have hadd : Hid (∀ i, i < m → floatBits .add .f64 (totB ps i) (sgB ps i) = some (totB ps (i + 1))) := Lib.hid (fun i hi => totB_add ps hs h200 i (by omega))
  have hfin : Hid (∀ i, i < m + 1 → finB (totB ps i) = true) := Lib.hid (fun i hi => totB_fin ps hs h200 i (by omega))
  obtain ⟨p, cap, rfl, hl, hc, -⟩ := h
  have hlin : (decide (ps.length ≤ 200) && ps.all (smallB 1000)) = true := by rw [hs]; simp [h200]
  have HLIN := Lib.hid hlin
  have HNL := Lib.hid (numsOf_len ps)
  clear hs hlin hpos
  generalize hn : ps.length = n at *
  have HN := Lib.hid hn
  have HNM := Lib.hid hm
  have hne : ((n : Int) == 0) = false := by simp; omega
  have hnm : (n : Int) - 1 = (m : Int) := by omega
  have hne3 : ((m : Int) != (m : Int)) = false := by simp
  have hmn : m < n := by omega
  generalize hT : totB ps m = T
  have HT := Lib.hid hT
  have hfT : Go.FloatKind.f64.format.order T T = some .eq := order_self (hT ▸ hfin.out m (by omega))
  clear hT hn hm
  go_enter Try.func3, Try.ntmps3
  go_wp2_with (first
    | (go_at_call 7; refine (lined_any ps _ 1000 (by decide) (by decide) _ HP.out).mono ?_; rw [HN.out, HLIN.out]; rintro e w1 ⟨rfl, hb1⟩; have HB1 := Lib.hid hb1; clear hb1)
    | (go_at_call 9; refine (lineOf_any (fun _ => True) ps _ _ (New.any _) (HP.out.bel HB1.out) (by have := HN.out; omega)).mono ?_; rintro e w2 ⟨p2, n2, c2, rfl, hf2, hb2⟩; have e9 : n2 = n * 2 := (by have h1 := hf2.len.1; have h2 := HNL.out; have h3 := HN.out; omega); subst e9; have HF2 := Lib.hid hf2; have HB2 := Lib.hid hb2; clear hf2 hb2)
    | (go_at_call 8; refine (runLengths_m (fun _ => True) p2 n m c2 HNM.out (numsOf ps) (sgB ps) (totB ps) none 0 0 _ (New.any _) HF2.out (by omega) rfl hseg.out hadd.out).mono ?_; rw [HT.out]; rintro e w3 ⟨p3, n3, c3, rfl, hf3, hb3⟩; have e9 : m = n3 := (by have h1 := hf3.len.1; have h2 := cumOf_len (totB ps) m; omega); subst e9; have HF3 := Lib.hid hf3; have HB3 := Lib.hid hb3; clear hf3 hb3))
  have HW3 : Hid (Bel w w3) := Lib.hid ((HB1.out.trans HB2.out).trans HB3.out)
  clear HF2 HB1 HB2 HB3 hseg
  go_loopw [6, 7, 8, 42] (fun s l e i wr => ∃ (k : Nat) (b : Bool), k ≤ m ∧ i = .int .i64 k ∧ s = .float .f64 (totB ps k) ∧ l = .float .f64 (totB ps k) ∧ e = .bool b ∧ Bel w3 wr) (fun _ _ _ i _ => m - (intOf i).toNat)
  case atStart => exact ⟨0, true, Nat.zero_le _, rfl, rfl, rfl, rfl, Bel.refl _⟩
  case round =>
    obtain ⟨k, b, hk, rfl, rfl, rfl, rfl, hbel⟩ := hrel
    have HBEL := Lib.hid hbel
    by_cases hkm : k < m
    · have hlen := HN.out
      obtain ⟨_, _, hv, _, _, hrg, hcl⟩ := HP.out
      simp only [Value.slice.injEq] at hv
      obtain ⟨rfl, -, rfl⟩ := hv
      obtain ⟨bp, op, rfl, hltp, hcell⟩ := hcl (by intro e; rw [e] at hlen; simp at hlen; omega)
      obtain ⟨P, hP⟩ : ∃ P, ps[k]? = some P := ⟨_, List.getElem?_eq_getElem (by omega)⟩
      obtain ⟨Q, hQ⟩ : ∃ Q, ps[k + 1]? = some Q := ⟨_, List.getElem?_eq_getElem (by omega)⟩
      have hbw := HW3.out.trans hbel
      have d1 := (hbw.cell (p := ⟨bp, op + k * 2, none⟩) hltp).trans (hcell k P hP).1
      have d2 := (hbw.cell (p := ⟨bp, op + k * 2 + 1, none⟩) hltp).trans (hcell k P hP).2
      have d3 := (hbw.cell (p := ⟨bp, op + (k + 1) * 2, none⟩) hltp).trans (hcell (k + 1) Q hQ).1
      have d4 := (hbw.cell (p := ⟨bp, op + (k + 1) * 2 + 1, none⟩) hltp).trans (hcell (k + 1) Q hQ).2
      obtain ⟨b3, o3, rfl, hlt3, -, hc3⟩ := HF3.out.cells (by omega)
      have d5 := (hbel.cell (p := ⟨b3, o3 + k, none⟩) hlt3).trans (hc3 k _ (cumOf_get (totB ps) hkm))
      have sP := small_at HS.out (i := k) (by omega)
      have sQ := small_at HS.out (i := k + 1) (by omega)
      have hsg : sgB ps k = segB P Q := by unfold sgB; rw [List.getD, List.getD, hP, hQ]; rfl
      rw [List.getD, hP] at sP
      rw [List.getD, hQ] at sQ
      obtain ⟨m1, m2, s, _, e1, e2, e3, e4, _⟩ := segB_ok P Q sP sQ
      rw [← hsg] at e4
      have f5 := ra .add (totB ps k) (sgB ps k) (totB ps (k + 1)) (hadd.out k hkm)
      have hf1 := hfin.out (k + 1) (by omega)
      have hself := Lib.hid (sub_self_fin hf1)
      have hord : Go.FloatKind.f64.format.order (totB ps (k + 1)) (totB ps (k + 1)) = some .eq := order_self hf1
      have E4 := Lib.hid e4
      unfold smallB at sP sQ
      have sP := of_decide_eq_true sP
      have sQ := of_decide_eq_true sQ
      obtain ⟨x0, y0⟩ := P
      obtain ⟨x1, y1⟩ := Q
      simp only [Option.getD_some] at d1 d2 d3 d4 e1 e2 sP sQ
      obtain ⟨s1, s2, s3, s4⟩ := sP
      obtain ⟨t1, t2, t3, t4⟩ := sQ
      have wx : IntKind.i64.wrap (x1 - x0) = x1 - x0 := IntWalk.i64_in _ (by omega)
      have wy : IntKind.i64.wrap (y1 - y0) = y1 - y0 := IntWalk.i64_in _ (by omega)
      have wk1 : IntKind.i64.wrap ((k : Int) + 1) = (k : Int) + 1 := IntWalk.i64_in _ (by omega)
      have k1 : (0 : Int) ≤ (k : Int) + 1 := by omega
      have k2 : (k : Int) + 1 < (n : Int) := by omega
      have k3 : ((k : Int) + 1).toNat = k + 1 := by omega
      have k4 : (k : Int) < (n : Int) := by omega
      have k5 : (0 : Int) ≤ (k : Int) := by omega
      generalize hX : x1 - x0 = dx at *
      generalize hY : y1 - y0 = dy at *
      have f1 := ra .mul (floatOfInt .f64 dx) (floatOfInt .f64 dx) m1 e1
      have f2 := ra .mul (floatOfInt .f64 dy) (floatOfInt .f64 dy) m2 e2
      have f3 := ra .add m1 m2 s e3
      obtain ⟨b1, hb1⟩ : ∃ b1, (Go.FloatKind.f64.format.order (floatOfInt .f64 dx) 0 == some .eq) = b1 := ⟨_, rfl⟩
      obtain ⟨b2, hb2⟩ : ∃ b2, (Go.FloatKind.f64.format.order (floatOfInt .f64 dy) 0 == some .eq) = b2 := ⟨_, rfl⟩
      clear hbel hlen hrg hcl hcell hP hQ hbw hc3 hsg e1 e2 e3 e4 hf1
      go_wp2
      go_quiet (fail)
      cases b <;> cases b1
      all_goals
        go_wp2_with (first
          | (go_at_call 10; refine (sqrt_any s (sgB ps k) E4.out _).mono ?_; rintro e w4 ⟨rfl, rfl⟩)
          | (go_at_call 11; refine (close20_same (totB ps (k + 1)) hself.out _).mono ?_; rintro e w4 ⟨rfl, rfl⟩))
      all_goals
        go_roundw
        case rel => exact ⟨k + 1, _, by omega, by go_num, rfl, rfl, rfl, HBEL.out.drewN _⟩
        case measure => simp [intOf]; omega
    · have hk' : k = m := by omega
      subst hk'
      rw [HT.out]
      clear hbel
      go_wp2
      go_ret
      exact ⟨rfl, HW3.out.trans HBEL.out⟩

set_option maxRecDepth 100000 in
theorem law_edge (p : Option Addr) (n cap : Nat) (w : World) (h : n = 0 ∨ 2147483647 < n) : Calls Try.prog 3 #[.slice p n cap] w fun e w' => e = .returned (.bool true) ∧ Bel w w' := by
  rcases h with rfl | h
  · go_enter Try.func3, Try.ntmps3
    go_wp2
    go_ret
    exact ⟨rfl, Bel.refl _⟩
  · go_enter Try.func3, Try.ntmps3
    go_wp2
    go_ret
    exact ⟨rfl, Bel.refl _⟩
set_option maxRecDepth 100000 in
theorem law_wide (ps : List (Int × Int)) (v : Value) (w : World) (h : PtSl w v ps) (hpos : 0 < ps.length) (h31 : ps.length ≤ 2147483647) (hs : Hid ((decide (ps.length ≤ 200) && ps.all (smallB 1000)) = false)) :
    Calls Try.prog 3 #[v] w fun e w' => e = .returned (.bool true) ∧ Bel w w' := by
  have HP := Lib.hid h
  obtain ⟨p, cap, rfl, hl, hc, -⟩ := h
  have hne : ((ps.length : Int) == 0) = false := by simp; intro e; subst e; simp at hpos
  go_enter Try.func3, Try.ntmps3
  go_wp2_with (go_at_call 7; refine (lined_any ps _ 1000 (by decide) (by decide) _ HP.out).mono ?_; rw [hs.out]; rintro e w1 ⟨rfl, hb1⟩)
  go_ret
  exact ⟨rfl, hb1⟩
theorem law_any (ps : List (Int × Int)) (v : Value) (w : World) (h : PtSl w v ps) : Calls Try.prog 3 #[v] w fun e w' => e = .returned (.bool true) ∧ Bel w w' := by
  by_cases h0 : ps.length = 0 ∨ 2147483647 < ps.length
  · obtain ⟨p, cap, rfl, -⟩ := h
    exact law_edge p _ cap w h0
  · by_cases hs : (decide (ps.length ≤ 200) && ps.all (smallB 1000)) = true
    · obtain ⟨h3, h4⟩ := Bool.and_eq_true_iff.1 hs
      exact law_main ps v w h (by intro e; subst e; simp at h0) (of_decide_eq_true h3) h4
    · exact law_wide ps v w h (by omega) (by omega) (Lib.hid (by simpa using hs))
/-! ### The row's step -/
set_option maxRecDepth 100000 in
set_option maxHeartbeats 2000000 in
theorem fnRunLengths_lifted (os : Os) (started : os.Started) (H : Type) (enc : TypeId × Value → H) :
    ReturnsInHanded {} Try.checked os 3 .any (Rows.fnRunLengthsSpec.pre6 enc Try.prog Try.f3 Rows.fnRunLengthsRow.domain false) (Rows.fnRunLengthsSpec.post enc Try.prog Try.f3 false true false false) := by
  refine returnsInHanded_of_change (C := Try.checked) own started (by kernel_rfl) Try.func3
    (ChangeSpec.witness6 (enc := enc) (C := Try.checked) false ⟨#[], #[.slice none 0 0], []⟩ 8 (by kernel_rfl) (by kernel_rfl) (by kernel_rfl) (by kernel_rfl)) ?_
  intro W base args ds gs before hval0 hW hcnd _
  have hval : ∀ (j : Nat) t v, Try.f3.params[j]? = some t → args[j]? = some v → Value.okWide Try.prog W .any base t v := hval0
  have hW' := hW
  obtain ⟨p, q, hA0, hV, rfl, hfz, hnd⟩ := hW
  have hA : DataW.TrodAll enc Try.prog W 0 (fun _ => true) true Try.f3.params.toList args.toList ds p := hA0
  rw [Try.params3] at hA hval
  obtain ⟨rfl, rfl⟩ := trodVars_none hV
  obtain ⟨v0, vs0, d0, ds0, p0, q0, hargs, rfl, rfl, h0, r0⟩ := trodAll_cons hA
  obtain ⟨rfl, rfl, rfl⟩ := trodAll_nil r0
  obtain rfl : args = #[v0] := by cases args; simp_all
  obtain ⟨fuel, hf⟩ := h0
  obtain ⟨ps, hps⟩ : ∃ ps, PtSl W v0 ps := by
    obtain ⟨a0, l0, c0, rfl⟩ := okWide_slice Try.underlying22 (hval 0 22 v0 rfl rfl)
    exact open_pts hf
  refine (law_any ps _ W hps).mono fun e W' ⟨he, hg⟩ => ?_
  subst he
  exact ⟨_, rfl, law_post (tb := 4) laidOut hW' rfl rfl rfl Try.underlying4 (by rw [Try.params3]; intro t ht; simp at ht; first | (subst ht; exact ⟨by kernel_rfl, of_decide_eq_true (by kernel_rfl)⟩) | (rcases ht with rfl <;> exact ⟨by kernel_rfl, of_decide_eq_true (by kernel_rfl)⟩)) hg⟩

theorem fnRunLengths_over : Rows.fnRunLengthsRow.holds Try.pinned (OpenSpec.ofChange Rows.fnRunLengthsSpec) :=
  OpenClaim.holds_of_wide 3 Try.f3 rfl rfl rfl rfl rfl rfl rfl ⟨rfl, rfl, rfl, rfl, rfl⟩ rfl rfl rfl rfl rfl (by kernel_rfl) Try.func3 (by kernel_rfl)
    (of_decide_eq_true (by kernel_rfl)) (by unfold Func.isWrapper; first | (rw [if_pos (by decide +kernel)]; kernel_rfl) | (rw [if_neg (by decide +kernel)]; exact ⟨rfl, rfl⟩))
    (fun os started H enc _ => fnRunLengths_lifted os started H enc)

/-- The statement. -/
theorem fnRunLengths_holds : Rows.FnRunLengthsSaid :=
  fnRunLengths_over
#print axioms fnRunLengths_holds
end Go.Proofs.Ytnpgmoiiiemghaa
