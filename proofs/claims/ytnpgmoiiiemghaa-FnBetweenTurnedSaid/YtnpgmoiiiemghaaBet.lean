/-
  lerp and what it stands on: Max, Min, Floor, whole. No panic; what stood in memory has not turned.
-/
import Derived.Test.YtnpgmoiiiemghaaFar
import Derived.Test.YtnpgmoiiiemghaaSeq
import Derived.Test.YtnpgmoiiiemghaaDya
namespace Go.Proofs.Ytnpgmoiiiemghaa
open Go.ChangeShapes Go.WideShapes Go.ChangeAt Go.RowKit
theorem archMax_run (x y : Nat) (w : World) : (callFunc 93 #[.float .f64 x, .float .f64 y]).run Try.prog w = .ok (.value (.float .f64 (pickB false .gt x y))) w := by
  rw [run_callFunc_extern Try.func93 (by kernel_rfl) (by kernel_rfl) (by kernel_rfl) (e := Extern.MathDim.pick "math.archMax" false .gt) (by kernel_rfl) _ w]
  rfl
theorem archMin_run (x y : Nat) (w : World) : (callFunc 95 #[.float .f64 x, .float .f64 y]).run Try.prog w = .ok (.value (.float .f64 (pickB true .lt x y))) w := by
  rw [run_callFunc_extern Try.func95 (by kernel_rfl) (by kernel_rfl) (by kernel_rfl) (e := Extern.MathDim.pick "math.archMin" true .lt) (by kernel_rfl) _ w]
  rfl
theorem archFloor_run (x : Nat) {s : Bool} {m : Nat} {i : Int} (h : FloatKind.f64.decode x = .number s m i) (w : World) : (callFunc 58 #[.float .f64 x]).run Try.prog w = .ok (.value (.float .f64 (floorB x))) w := by
  rw [run_callFunc_extern Try.func58 (by kernel_rfl) (by kernel_rfl) (by kernel_rfl) (e := Extern.MathFloor.toIntegral "math.archFloor" .down) (by kernel_rfl) _ w]
  have e : (Extern.MathFloor.toIntegral "math.archFloor" .down #[.float .f64 x]).run Try.prog w = (match FloatKind.f64.decode x with
    | .nan s t =>
      if FloatKind.f64.format.quiet t = t then (pure (.float .f64 x) : Sem Value) else do
      let kept ← choose (.extern "math.Floor,Ceil,Trunc,RoundToEven.signallingNaN kept" 2)
      pure (.float .f64 (if kept == 1 then x else FloatKind.f64.encode (.nan s (FloatKind.f64.format.quiet t))))
    | d => pure (.float .f64 (FloatKind.f64.encode (d.integral .down)))).run Try.prog w := rfl
  rw [e]
  unfold floorB
  rw [h]
  rfl
theorem max_any (x y : Nat) (w : World) : Calls Try.prog 81 #[.float .f64 x, .float .f64 y] w fun e w' => e = .returned (.float .f64 (pickB false .gt x y)) ∧ w = w' := by
  have h := archMax_run x y
  go_enter Try.func81, Try.ntmps81
  go_wp2
  go_ret
  exact ⟨rfl, rfl⟩
theorem min_any (x y : Nat) (w : World) : Calls Try.prog 82 #[.float .f64 x, .float .f64 y] w fun e w' => e = .returned (.float .f64 (pickB true .lt x y)) ∧ w = w' := by
  have h := archMin_run x y
  go_enter Try.func82, Try.ntmps82
  go_wp2
  go_ret
  exact ⟨rfl, rfl⟩
theorem floor_any (x : Nat) {s : Bool} {m : Nat} {i : Int} (hd : FloatKind.f64.decode x = .number s m i) (w : World) : Calls Try.prog 45 #[.float .f64 x] w fun e w' => e = .returned (.float .f64 (floorB x)) ∧ w = w' := by
  have h := archFloor_run x hd
  clear hd
  go_enter Try.func45, Try.ntmps45
  go_wp2
  go_ret
  exact ⟨rfl, rfl⟩
/-- Whether a number is whole, at most 2^20 on both sides of 0. -/
def IsWhole (x : Nat) (w : World) (e : Ending) (w' : World) : Prop := ∃ b, e = .returned (.bool b) ∧ w = w' ∧ (b = true → ∃ z : Int, Is x (dy z 0) ∧ z.natAbs ≤ 2 ^ 20)
theorem whole_any (x : Nat) (w : World) : Calls Try.prog 27 #[.float .f64 x, .int .i64 1048576] w (IsWhole x w) := by
  have c1 : floatOfInt .f64 1048576 = 4697254411347427328 := by decide
  have c2 : ∀ w, (Op.unary .neg (.float .f64 4697254411347427328)).run Try.prog w = .ok (.float .f64 13920626448202203136) w := fun _ => by kernel_rfl
  obtain ⟨o1, ho1⟩ : ∃ o1, FloatKind.f64.format.order x 13920626448202203136 = o1 := ⟨_, rfl⟩
  obtain ⟨o2, ho2⟩ : ∃ o2, FloatKind.f64.format.order x 4697254411347427328 = o2 := ⟨_, rfl⟩
  by_cases g1 : o1 = some .gt ∨ o1 = some .eq
  · by_cases g2 : o2 = some .lt ∨ o2 = some .eq
    · obtain ⟨s, m, i, q, hd, hq, q1, q2⟩ := between20 (x := x) (by rw [ho1]; exact g1) (by rw [ho2]; exact g2)
      have HD := Lib.hid hd
      obtain ⟨b, hb⟩ : ∃ b, (FloatKind.f64.format.order (floorB x) x == some .eq) = b := ⟨_, rfl⟩
      have HW : Hid (b = true → ∃ z : Int, Is x (dy z 0) ∧ z.natAbs ≤ 2 ^ 20) := Lib.hid (fun hbt => by
        rw [hbt] at hb
        obtain ⟨z, hz, hz2⟩ := whole_of_floor hq q1 q2 (by simpa using hb)
        exact ⟨z, hz ▸ hq, hz2⟩)
      clear hd hq q1 q2
      rcases g1 with rfl | rfl <;> rcases g2 with rfl | rfl
      all_goals
        go_enter Try.func27, Try.ntmps27
        go_wp2_with (go_at_call 45; refine (floor_any x HD.out _).mono ?_; rintro e w' ⟨rfl, rfl⟩)
        refine post_ret (results_one rfl (resIs_tmp (by rfl))) ⟨b, rfl, rfl, HW.out⟩
    · have g3 : o2 = none ∨ o2 = some .gt := by
        cases o2 with
        | none => exact Or.inl rfl
        | some o => cases o <;> simp_all
      clear g2
      rcases g1 with rfl | rfl <;> rcases g3 with rfl | rfl
      all_goals
        go_enter Try.func27, Try.ntmps27
        go_wp2
        refine post_ret (results_one rfl (resIs_tmp (by rfl))) ⟨false, rfl, rfl, fun h => (Bool.false_ne_true h).elim⟩
  · have g3 : o1 = none ∨ o1 = some .lt := by
      cases o1 with
      | none => exact Or.inl rfl
      | some o => cases o <;> simp_all
    clear g1 ho2
    rcases g3 with rfl | rfl
    all_goals
      go_enter Try.func27, Try.ntmps27
      go_wp2
      refine post_ret (results_one rfl (resIs_tmp (by rfl))) ⟨false, rfl, rfl, fun h => (Bool.false_ne_true h).elim⟩

def Whole (x : Nat) : Prop := ∃ z : Int, Is x (dy z 0) ∧ z.natAbs ≤ 2 ^ 20
/-- Whether two places are of one type, with whole numbers of no great size. -/
def IsBet (a b c d a' b' c' d' : Nat) (t t' : Int) (w : World) (e : Ending) (w' : World) : Prop :=
  ∃ r, e = .returned (.bool r) ∧ Bel w w' ∧ (r = true → (Whole a ∧ Whole b ∧ Whole c ∧ Whole d) ∧ (Whole a' ∧ Whole b' ∧ Whole c' ∧ Whole d') ∧ t = t' ∧ 0 ≤ t ∧ t ≤ 3)
set_option maxHeartbeats 2000000 in
set_option maxRecDepth 100000 in
theorem between_any (a b c d a' b' c' d' : Nat) (t t' : Int) (w : World) :
    Calls Try.prog 12 #[.agg #[.float .f64 a, .float .f64 b, .float .f64 c, .float .f64 d, .int .i64 t], .agg #[.float .f64 a', .float .f64 b', .float .f64 c', .float .f64 d', .int .i64 t']] w (IsBet a b c d a' b' c' d' t t' w) := by
  go_enter Try.func12, Try.ntmps12
  go_wp2
  refine wp_loop_rounds 9 ?_
  rw [rounds_succ]
  go_wp2_with fail
  refine (whole_any a _).mono ?_
  rintro e w' ⟨r0, rfl, rfl, h0⟩
  cases r0
  · go_wp2
    refine post_ret (results_one rfl (resIs_tmp (by rfl))) ⟨false, rfl, by (repeat (first | with_reducible assumption | with_reducible exact Bel.refl _ | with_reducible apply Bel.alloc | with_reducible apply Bel.drew | with_reducible apply Bel.drewN | ((with_reducible apply Bel.setCellR); (simp <;> omega)) | with_reducible refine Bel.behind (by with_reducible assumption) ?_)), fun h => (Bool.false_ne_true h).elim⟩
  have H0 : Hid (Whole a) := Lib.hid (h0 rfl)
  clear h0
  go_wp2_with fail
  rw [rounds_succ]
  go_wp2_with fail
  refine (whole_any b _).mono ?_
  rintro e w' ⟨r1, rfl, rfl, h1⟩
  cases r1
  · go_wp2
    refine post_ret (results_one rfl (resIs_tmp (by rfl))) ⟨false, rfl, by (repeat (first | with_reducible assumption | with_reducible exact Bel.refl _ | with_reducible apply Bel.alloc | with_reducible apply Bel.drew | with_reducible apply Bel.drewN | ((with_reducible apply Bel.setCellR); (simp <;> omega)) | with_reducible refine Bel.behind (by with_reducible assumption) ?_)), fun h => (Bool.false_ne_true h).elim⟩
  have H1 : Hid (Whole b) := Lib.hid (h1 rfl)
  clear h1
  go_wp2_with fail
  rw [rounds_succ]
  go_wp2_with fail
  refine (whole_any c _).mono ?_
  rintro e w' ⟨r2, rfl, rfl, h2⟩
  cases r2
  · go_wp2
    refine post_ret (results_one rfl (resIs_tmp (by rfl))) ⟨false, rfl, by (repeat (first | with_reducible assumption | with_reducible exact Bel.refl _ | with_reducible apply Bel.alloc | with_reducible apply Bel.drew | with_reducible apply Bel.drewN | ((with_reducible apply Bel.setCellR); (simp <;> omega)) | with_reducible refine Bel.behind (by with_reducible assumption) ?_)), fun h => (Bool.false_ne_true h).elim⟩
  have H2 : Hid (Whole c) := Lib.hid (h2 rfl)
  clear h2
  go_wp2_with fail
  rw [rounds_succ]
  go_wp2_with fail
  refine (whole_any d _).mono ?_
  rintro e w' ⟨r3, rfl, rfl, h3⟩
  cases r3
  · go_wp2
    refine post_ret (results_one rfl (resIs_tmp (by rfl))) ⟨false, rfl, by (repeat (first | with_reducible assumption | with_reducible exact Bel.refl _ | with_reducible apply Bel.alloc | with_reducible apply Bel.drew | with_reducible apply Bel.drewN | ((with_reducible apply Bel.setCellR); (simp <;> omega)) | with_reducible refine Bel.behind (by with_reducible assumption) ?_)), fun h => (Bool.false_ne_true h).elim⟩
  have H3 : Hid (Whole d) := Lib.hid (h3 rfl)
  clear h3
  go_wp2_with fail
  rw [rounds_succ]
  go_wp2_with fail
  refine (whole_any a' _).mono ?_
  rintro e w' ⟨r4, rfl, rfl, h4⟩
  cases r4
  · go_wp2
    refine post_ret (results_one rfl (resIs_tmp (by rfl))) ⟨false, rfl, by (repeat (first | with_reducible assumption | with_reducible exact Bel.refl _ | with_reducible apply Bel.alloc | with_reducible apply Bel.drew | with_reducible apply Bel.drewN | ((with_reducible apply Bel.setCellR); (simp <;> omega)) | with_reducible refine Bel.behind (by with_reducible assumption) ?_)), fun h => (Bool.false_ne_true h).elim⟩
  have H4 : Hid (Whole a') := Lib.hid (h4 rfl)
  clear h4
  go_wp2_with fail
  rw [rounds_succ]
  go_wp2_with fail
  refine (whole_any b' _).mono ?_
  rintro e w' ⟨r5, rfl, rfl, h5⟩
  cases r5
  · go_wp2
    refine post_ret (results_one rfl (resIs_tmp (by rfl))) ⟨false, rfl, by (repeat (first | with_reducible assumption | with_reducible exact Bel.refl _ | with_reducible apply Bel.alloc | with_reducible apply Bel.drew | with_reducible apply Bel.drewN | ((with_reducible apply Bel.setCellR); (simp <;> omega)) | with_reducible refine Bel.behind (by with_reducible assumption) ?_)), fun h => (Bool.false_ne_true h).elim⟩
  have H5 : Hid (Whole b') := Lib.hid (h5 rfl)
  clear h5
  go_wp2_with fail
  rw [rounds_succ]
  go_wp2_with fail
  refine (whole_any c' _).mono ?_
  rintro e w' ⟨r6, rfl, rfl, h6⟩
  cases r6
  · go_wp2
    refine post_ret (results_one rfl (resIs_tmp (by rfl))) ⟨false, rfl, by (repeat (first | with_reducible assumption | with_reducible exact Bel.refl _ | with_reducible apply Bel.alloc | with_reducible apply Bel.drew | with_reducible apply Bel.drewN | ((with_reducible apply Bel.setCellR); (simp <;> omega)) | with_reducible refine Bel.behind (by with_reducible assumption) ?_)), fun h => (Bool.false_ne_true h).elim⟩
  have H6 : Hid (Whole c') := Lib.hid (h6 rfl)
  clear h6
  go_wp2_with fail
  rw [rounds_succ]
  go_wp2_with fail
  refine (whole_any d' _).mono ?_
  rintro e w' ⟨r7, rfl, rfl, h7⟩
  cases r7
  · go_wp2
    refine post_ret (results_one rfl (resIs_tmp (by rfl))) ⟨false, rfl, by (repeat (first | with_reducible assumption | with_reducible exact Bel.refl _ | with_reducible apply Bel.alloc | with_reducible apply Bel.drew | with_reducible apply Bel.drewN | ((with_reducible apply Bel.setCellR); (simp <;> omega)) | with_reducible refine Bel.behind (by with_reducible assumption) ?_)), fun h => (Bool.false_ne_true h).elim⟩
  have H7 : Hid (Whole d') := Lib.hid (h7 rfl)
  clear h7
  go_wp2_with fail
  rw [rounds_succ]
  by_cases ht : t = t'
  · subst ht
    by_cases h0 : 0 ≤ t
    · by_cases h3 : t ≤ 3
      · have e1 : (t == t) = true := by simp
        go_wp2
        refine post_ret (results_one rfl (resIs_tmp (by rfl))) ⟨true, rfl, by (repeat (first | with_reducible assumption | with_reducible exact Bel.refl _ | with_reducible apply Bel.alloc | with_reducible apply Bel.drew | with_reducible apply Bel.drewN | ((with_reducible apply Bel.setCellR); (simp <;> omega)) | with_reducible refine Bel.behind (by with_reducible assumption) ?_)), fun _ => ⟨⟨H0.out, H1.out, H2.out, H3.out⟩, ⟨H4.out, H5.out, H6.out, H7.out⟩, rfl, h0, h3⟩⟩
      · have e1 : (t == t) = true := by simp
        go_wp2
        refine post_ret (results_one rfl (resIs_tmp (by rfl))) ⟨false, rfl, by (repeat (first | with_reducible assumption | with_reducible exact Bel.refl _ | with_reducible apply Bel.alloc | with_reducible apply Bel.drew | with_reducible apply Bel.drewN | ((with_reducible apply Bel.setCellR); (simp <;> omega)) | with_reducible refine Bel.behind (by with_reducible assumption) ?_)), fun h => (Bool.false_ne_true h).elim⟩
    · have e1 : (t == t) = true := by simp
      go_wp2
      refine post_ret (results_one rfl (resIs_tmp (by rfl))) ⟨false, rfl, by (repeat (first | with_reducible assumption | with_reducible exact Bel.refl _ | with_reducible apply Bel.alloc | with_reducible apply Bel.drew | with_reducible apply Bel.drewN | ((with_reducible apply Bel.setCellR); (simp <;> omega)) | with_reducible refine Bel.behind (by with_reducible assumption) ?_)), fun h => (Bool.false_ne_true h).elim⟩
  · have e1 : (t == t') = false := by simpa using ht
    clear ht
    go_wp2
    refine post_ret (results_one rfl (resIs_tmp (by rfl))) ⟨false, rfl, by (repeat (first | with_reducible assumption | with_reducible exact Bel.refl _ | with_reducible apply Bel.alloc | with_reducible apply Bel.drew | with_reducible apply Bel.drewN | ((with_reducible apply Bel.setCellR); (simp <;> omega)) | with_reducible refine Bel.behind (by with_reducible assumption) ?_)), fun h => (Bool.false_ne_true h).elim⟩

/-- A number on the way: N parts, T of them gone. -/
def IsLerp (r0 e : Int) (w : World) (x : Ending) (w' : World) : Prop := ∃ r, x = .returned (.float .f64 r) ∧ w = w' ∧ Is r (dy r0 e)
theorem cmpZ_lt {a b : Int} (h : cmpZ a b = .lt) : a < b := by
  unfold cmpZ at h
  split at h
  · assumption
  · split at h <;> cases h
theorem cmpZ_gt {a b : Int} (h : cmpZ a b = .gt) : b < a := by
  unfold cmpZ at h
  split at h
  · cases h
  · split at h
    · cases h
    · omega
theorem cmpZ_eq {a b : Int} (h : cmpZ a b = .eq) : a = b := by
  unfold cmpZ at h
  split at h
  · cases h
  · split at h
    · assumption
    · cases h
theorem natAbs_mul_le {a b : Int} {m n : Nat} (ha : a.natAbs ≤ m) (hb : b.natAbs ≤ n) : (a * b).natAbs ≤ m * n := by
  rw [Int.natAbs_mul]
  exact Nat.mul_le_mul ha hb
set_option maxHeartbeats 4000000 in
theorem lerp_any (a b t : Nat) (P Q T e : Int) (k : Nat) (ha : Is a (dy P e)) (hb : Is b (dy Q e)) (ht : Is t (dy T (-(k : Int)))) (hP : P.natAbs ≤ 2 ^ 24) (hQ : Q.natAbs ≤ 2 ^ 24) (hT0 : 0 ≤ T) (hT1 : T ≤ 2 ^ k) (hk : k ≤ 6) (he : -2 ≤ e) (he2 : e ≤ 0) (w : World) :
    Calls Try.prog 60 #[.float .f64 a, .float .f64 b, .float .f64 t] w (IsLerp (P * 2 ^ k + T * (Q - P)) (e - k) w) := by
  have hN : (2 : Int) ^ k ≤ 64 ∧ 1 ≤ (2 : Int) ^ k := by
    rcases (by omega : k = 0 ∨ k = 1 ∨ k = 2 ∨ k = 3 ∨ k = 4 ∨ k = 5 ∨ k = 6) with rfl | rfl | rfl | rfl | rfl | rfl | rfl <;> decide
  obtain ⟨hN1, hN2⟩ := hN
  have hone : Is 4607182418800017408 (dy (2 ^ k) (-(k : Int))) := by
    have := is_one
    rw [dy_shift 1 0 k] at this
    simpa using this
  have ha' : Is a (dy (P * 2 ^ k) (e - k)) := by rw [← dy_shift]; exact ha
  have hb' : Is b (dy (Q * 2 ^ k) (e - k)) := by rw [← dy_shift]; exact hb
  have hz : Is 0 (dy 0 e) := by rw [dy_zero]; exact is_zero false 0
  have hfe : -(k : Int) + e = e - k := by omega
  generalize (2 : Int) ^ k = N at *
  have oa := ha.dorder hz
  have ob := hb.dorder hz
  have ot := ht.dorder hone
  have oba := hb.dorder ha
  have tb : T.natAbs ≤ 64 := by omega
  have nb : (N - T).natAbs ≤ 64 := by omega
  have qb : (Q - P).natAbs ≤ 2 ^ 25 := by omega
  have m1 := natAbs_mul_le tb hQ
  have m3 := natAbs_mul_le nb hP
  have m2 := natAbs_mul_le tb qb
  have m4 := natAbs_mul_le hP (n := 64) (b := N) (by omega)
  obtain ⟨u1, e1, i1⟩ := ht.dmul hb (by omega) (by omega) (by omega)
  obtain ⟨u2, e2, i2⟩ := hone.dsub ht (by omega) (by omega) (by omega)
  obtain ⟨u3, e3, i3⟩ := i2.dmul ha (by omega) (by omega) (by omega)
  obtain ⟨u4, e4, i4⟩ := i1.dadd i3 (by omega) (by omega) (by omega)
  obtain ⟨v1, e5, i5⟩ := hb.dsub ha (by omega) (by omega) (by omega)
  obtain ⟨v2, e6, i6⟩ := ht.dmul i5 (by omega) (by omega) (by omega)
  rw [hfe] at i4 i6
  obtain ⟨v3, e7, i7⟩ := ha'.dadd i6 (by omega) (by omega) (by omega)
  have hA : T * Q + (N - T) * P = P * N + T * (Q - P) := by grind
  rw [hA] at i4
  have hX : Q * N - (P * N + T * (Q - P)) = (N - T) * (Q - P) := by grind
  have f1 := ra .mul t b u1 e1
  have f2 := ra .sub 4607182418800017408 t u2 e2
  have f3 := ra .mul u2 a u3 e3
  have f4 := ra .add u1 u3 u4 e4
  have f5 := ra .sub b a v1 e5
  have f6 := ra .mul t v1 v2 e6
  have f7 := ra .add a v2 v3 e7
  have I4 := Lib.hid i4
  have I7 := Lib.hid i7
  have IB := Lib.hid hb'
  have HX := Lib.hid hX
  have C4 : Hid (cmpZ Q P = cmpZ Q P) := Lib.hid rfl
  clear i1 i2 i3 i4 i5 i6 i7 e1 e2 e3 e4 e5 e6 e7 ha hb ht ha' hb' hone hz hA hX m1 m2 m3 m4 hfe tb nb qb hP hQ
  generalize P * N + T * (Q - P) = X at *
  have hmin : P < Q → Is (pickB true .lt b v3) (dy X (e - k)) := fun hlt => by
    have h := pickB_is true .lt IB.out I7.out
    have h0 : 0 ≤ (N - T) * (Q - P) := Int.mul_nonneg (by omega) (by omega)
    have h1 := HX.out
    have h2 : (if cmpZ (Q * N) X = .lt then Q * N else X) = X := by
      by_cases c : cmpZ (Q * N) X = .lt
      · have := cmpZ_lt c
        omega
      · rw [if_neg c]
    rw [h2] at h
    exact h
  have hmax : Q ≤ P → Is (pickB false .gt b v3) (dy X (e - k)) := fun hle => by
    have h := pickB_is false .gt IB.out I7.out
    have h0 : 0 ≤ (N - T) * (P - Q) := Int.mul_nonneg (by omega) (by omega)
    have h1 := HX.out
    have h3 : (N - T) * (Q - P) = -((N - T) * (P - Q)) := by grind
    have h2 : (if cmpZ (Q * N) X = .gt then Q * N else X) = X := by
      by_cases c : cmpZ (Q * N) X = .gt
      · have := cmpZ_gt c
        omega
      · rw [if_neg c]
    rw [h2] at h
    exact h
  have hend : T = N → Is b (dy X (e - k)) := fun hTN => by
    have h1 := HX.out
    subst hTN
    have h2 : Q * T = X := by
      have : (T - T) * (Q - P) = 0 := by grind
      omega
    rw [← h2]
    exact IB.out
  have HMIN := Lib.hid hmin
  have HMAX := Lib.hid hmax
  have HEND := Lib.hid hend
  have HTN := Lib.hid hT1
  clear hmin hmax hend hT0 hT1 hN1 hN2
  cases c1 : cmpZ P 0 <;> cases c2 : cmpZ Q 0
  all_goals
    rw [c1] at oa
    rw [c2] at ob
  case lt.lt =>
    clear c1 c2
    cases c3 : cmpZ T N
    · rw [c3] at ot
      cases c4 : cmpZ Q P
      · rw [c4] at oba
        have h := Lib.hid (HMAX.out (Int.le_of_lt (cmpZ_lt c4)))
        clear c3 c4
        go_enter Try.func60, Try.ntmps60
        go_wp2_with (go_at_call 81; refine (max_any b v3 _).mono ?_; rintro e w' ⟨rfl, rfl⟩)
        refine post_ret (results_one rfl (resIs_tmp (by rfl))) ⟨_, rfl, rfl, h.out⟩
      · rw [c4] at oba
        have h := Lib.hid (HMAX.out (Int.le_of_eq (cmpZ_eq c4)))
        clear c3 c4
        go_enter Try.func60, Try.ntmps60
        go_wp2_with (go_at_call 81; refine (max_any b v3 _).mono ?_; rintro e w' ⟨rfl, rfl⟩)
        refine post_ret (results_one rfl (resIs_tmp (by rfl))) ⟨_, rfl, rfl, h.out⟩
      · rw [c4] at oba
        have h := Lib.hid (HMIN.out (cmpZ_gt c4))
        clear c3 c4
        go_enter Try.func60, Try.ntmps60
        go_wp2_with (go_at_call 82; refine (min_any b v3 _).mono ?_; rintro e w' ⟨rfl, rfl⟩)
        refine post_ret (results_one rfl (resIs_tmp (by rfl))) ⟨_, rfl, rfl, h.out⟩
    · rw [c3] at ot
      have h := Lib.hid (HEND.out (cmpZ_eq c3))
      clear c3
      go_enter Try.func60, Try.ntmps60
      go_wp2
      refine post_ret (results_one rfl (resIs_tmp (by rfl))) ⟨_, rfl, rfl, h.out⟩
    · exact absurd (cmpZ_gt c3) (by have := HTN.out; omega)
  case gt.gt =>
    clear c1 c2
    cases c3 : cmpZ T N
    · rw [c3] at ot
      cases c4 : cmpZ Q P
      · rw [c4] at oba
        have h := Lib.hid (HMAX.out (Int.le_of_lt (cmpZ_lt c4)))
        clear c3 c4
        go_enter Try.func60, Try.ntmps60
        go_wp2_with (go_at_call 81; refine (max_any b v3 _).mono ?_; rintro e w' ⟨rfl, rfl⟩)
        refine post_ret (results_one rfl (resIs_tmp (by rfl))) ⟨_, rfl, rfl, h.out⟩
      · rw [c4] at oba
        have h := Lib.hid (HMAX.out (Int.le_of_eq (cmpZ_eq c4)))
        clear c3 c4
        go_enter Try.func60, Try.ntmps60
        go_wp2_with (go_at_call 81; refine (max_any b v3 _).mono ?_; rintro e w' ⟨rfl, rfl⟩)
        refine post_ret (results_one rfl (resIs_tmp (by rfl))) ⟨_, rfl, rfl, h.out⟩
      · rw [c4] at oba
        have h := Lib.hid (HMIN.out (cmpZ_gt c4))
        clear c3 c4
        go_enter Try.func60, Try.ntmps60
        go_wp2_with (go_at_call 82; refine (min_any b v3 _).mono ?_; rintro e w' ⟨rfl, rfl⟩)
        refine post_ret (results_one rfl (resIs_tmp (by rfl))) ⟨_, rfl, rfl, h.out⟩
    · rw [c3] at ot
      have h := Lib.hid (HEND.out (cmpZ_eq c3))
      clear c3
      go_enter Try.func60, Try.ntmps60
      go_wp2
      refine post_ret (results_one rfl (resIs_tmp (by rfl))) ⟨_, rfl, rfl, h.out⟩
    · exact absurd (cmpZ_gt c3) (by have := HTN.out; omega)
  all_goals
    clear c1 c2
    go_enter Try.func60, Try.ntmps60
    go_wp2
    refine post_ret (results_one rfl (resIs_tmp (by rfl))) ⟨_, rfl, rfl, I4.out⟩
end Go.Proofs.Ytnpgmoiiiemghaa
