/-
  For every overlay, all pairs of bools and every bool the law FnTakesLineTurned answers true: which edges an overlay takes as lines is as the sentence says. No condition.
-/
import Derived.Test.YtdebkmioaglmaaaTl
import Derived.Deep.RegionHeld3
import Derived.Lib.SmallJoins
namespace Go.Proofs.Ytdebkmioaglmaaa
open Go.ChangeShapes Go.WideShapes Go.ChangeAt Go.RowKit

theorem f17_any (a b : Bool) (w : World) :
    Calls Try.prog 17 #[.agg #[.bool a, .bool b]] w fun e w' => e = .returned (.agg #[.bool b, .bool a]) ∧ Bel w w' := by
  go_enter Try.func17, Try.ntmps17
  go_wp2
  exact bodyPost_ret (v := .agg #[.bool b, .bool a]) (by simp [results, Try.results17, go_sem]) rfl ⟨rfl, by repeat (first | assumption | exact Bel.refl _ | apply Bel.alloc | refine Bel.trans ?_ (by assumption))⟩

/-- The law's own three boxes. -/
structure Boxes (w : World) (b c d : Nat) (l0 l1 r0 r1 i0 i1 : Bool) : Prop where
  cl0 : w.cell? ⟨b, 0, none⟩ = some (.bool l0)
  cl1 : w.cell? ⟨b, 1, none⟩ = some (.bool l1)
  cr0 : w.cell? ⟨c, 0, none⟩ = some (.bool r0)
  cr1 : w.cell? ⟨c, 1, none⟩ = some (.bool r1)
  ci0 : w.cell? ⟨d, 0, none⟩ = some (.bool i0)
  ci1 : w.cell? ⟨d, 1, none⟩ = some (.bool i1)
  sb : b < w.heap.size
  sc : c < w.heap.size
  sd : d < w.heap.size

theorem Boxes.mono {w w' : World} {b c d : Nat} {l0 l1 r0 r1 i0 i1 : Bool} (hb : Bel w w') (h : Boxes w b c d l0 l1 r0 r1 i0 i1) : Boxes w' b c d l0 l1 r0 r1 i0 i1 := by
  have hs := hb.size
  obtain ⟨h1, h2, h3, h4, h5, h6, l1, l2, l3⟩ := h
  exact ⟨(hb.cell l1).trans h1, (hb.cell l1).trans h2, (hb.cell l2).trans h3, (hb.cell l2).trans h4, (hb.cell l3).trans h5, (hb.cell l3).trans h6, by omega, by omega, by omega⟩

/-- What the region of four calls holds on to. -/
theorem keepS {v w w' : World} {b c d : Nat} {l0 l1 r0 r1 i0 i1 : Bool} (hb : Bel w w')
    (h : w.cell? ⟨b, 0, none⟩ = some (.bool l0) ∧ w.cell? ⟨b, 1, none⟩ = some (.bool l1) ∧ w.cell? ⟨c, 0, none⟩ = some (.bool r0) ∧ w.cell? ⟨c, 1, none⟩ = some (.bool r1) ∧ w.cell? ⟨d, 0, none⟩ = some (.bool i0) ∧ w.cell? ⟨d, 1, none⟩ = some (.bool i1) ∧ Boxes w b c d l0 l1 r0 r1 i0 i1 ∧ Bel v w) :
    w'.cell? ⟨b, 0, none⟩ = some (.bool l0) ∧ w'.cell? ⟨b, 1, none⟩ = some (.bool l1) ∧ w'.cell? ⟨c, 0, none⟩ = some (.bool r0) ∧ w'.cell? ⟨c, 1, none⟩ = some (.bool r1) ∧ w'.cell? ⟨d, 0, none⟩ = some (.bool i0) ∧ w'.cell? ⟨d, 1, none⟩ = some (.bool i1) ∧ Boxes w' b c d l0 l1 r0 r1 i0 i1 ∧ Bel v w' := by
  have k := h.2.2.2.2.2.2.1.mono hb
  have hk := k
  obtain ⟨h1, h2, h3, h4, h5, h6, _, _, _⟩ := k
  exact ⟨h1, h2, h3, h4, h5, h6, hk, h.2.2.2.2.2.2.2.trans hb⟩

theorem endS {v w : World} {b c d : Nat} {l0 l1 r0 r1 i0 i1 : Bool}
    (h : w.cell? ⟨b, 0, none⟩ = some (.bool l0) ∧ w.cell? ⟨b, 1, none⟩ = some (.bool l1) ∧ w.cell? ⟨c, 0, none⟩ = some (.bool r0) ∧ w.cell? ⟨c, 1, none⟩ = some (.bool r1) ∧ w.cell? ⟨d, 0, none⟩ = some (.bool i0) ∧ w.cell? ⟨d, 1, none⟩ = some (.bool i1) ∧ Boxes w b c d l0 l1 r0 r1 i0 i1 ∧ Bel v w) : Bel v w :=
  h.2.2.2.2.2.2.2

theorem f5_out (op : Int) (ho : op < 0 ∨ 3 < op) (l0 l1 r0 r1 i0 i1 x : Bool) (w : World) :
    Calls Try.prog 5 #[.int .i64 op, .agg #[.bool l0, .bool l1], .agg #[.bool r0, .bool r1], .agg #[.bool i0, .bool i1], .bool x] w fun e w' =>
      e = .returned (.bool true) ∧ Bel w w' := by
  rcases ho with h | h
  · go_enter Try.func5, Try.ntmps5
    go_wp2
    go_ret
    exact ⟨rfl, by repeat (first | assumption | exact Bel.refl _ | apply Bel.alloc | refine Bel.trans ?_ (by assumption))⟩
  · have h0 : ¬ op < 0 := by omega
    go_enter Try.func5, Try.ntmps5
    go_wp2
    go_ret
    exact ⟨rfl, by repeat (first | assumption | exact Bel.refl _ | apply Bel.alloc | refine Bel.trans ?_ (by assumption))⟩

set_option maxHeartbeats 4000000 in
theorem f5_core (op : Int) (h0 : 0 ≤ op) (h3 : op ≤ 2) (l0 l1 r0 r1 i0 i1 x c : Bool) (hc1 : Hid (tl op l0 l1 r0 r1 i0 i1 x = c)) (hc2 : Hid (tl op r0 r1 l0 l1 i0 i1 x = c)) (hc3 : Hid (tl op l0 l1 r0 r1 i0 i1 true = false))
    (hc4 : Hid (tl op l1 l0 r1 r0 i1 i0 x = c)) (hc5 : Hid (tl 0 false false false false true false false = true)) (w : World) :
    Calls Try.prog 5 #[.int .i64 op, .agg #[.bool l0, .bool l1], .agg #[.bool r0, .bool r1], .agg #[.bool i0, .bool i1], .bool x] w fun e w' =>
      e = .returned (.bool true) ∧ Bel w w' := by
  have ho : Hid (op = 0 ∨ op = 1 ∨ op = 2 ∨ op = 3) := Lib.hid (by omega)
  go_enter Try.func5, Try.ntmps5
  go_wp2_with (go_at_call 16; first | ((with_reducible refine (f16_any op ho.out l0 l1 r0 r1 i0 i1 x c hc1 _).mono ?_); rintro e w' ⟨rfl, hg⟩; have hB1 := Boxes.mono (b := w.heap.size) (c := w.heap.size + 1) (d := w.heap.size + 1 + 1) (l0 := l0) (l1 := l1) (r0 := r0) (r1 := r1) (i0 := i0) (i1 := i1) hg (by constructor <;> simp [go_sem] <;> omega); have hB1' := hB1; obtain ⟨k1, k2, k3, k4, k5, k6, _, _, _⟩ := hB1') | ((with_reducible refine (f16_any op ho.out r0 r1 l0 l1 i0 i1 x c hc2 _).mono ?_); rintro e w2 ⟨rfl, hg2⟩; have hB2 := hB1.mono hg2; have hB2' := hB2; obtain ⟨m1, m2, m3, m4, m5, m6, _, _, _⟩ := hB2') | ((with_reducible refine (f16_any op ho.out l0 l1 r0 r1 i0 i1 true false hc3 _).mono ?_); rintro e w3 ⟨rfl, hg3⟩; have hB3 := hB2.mono hg3; have hB3' := hB3; obtain ⟨n1, n2, n3, n4, n5, n6, _, _, _⟩ := hB3'))
  have hall : Bel w w3 := by repeat (first | assumption | exact Bel.refl _ | apply Bel.alloc | refine Bel.trans ?_ (by assumption))
  clear hB1 hB2 k1 k2 k3 k4 k5 k6 m1 m2 m3 m4 m5 m6 hg hg2 hg3
  go_region_held3 (fun w' => w'.cell? ⟨w.heap.size, 0, none⟩ = some (.bool l0) ∧ w'.cell? ⟨w.heap.size, 1, none⟩ = some (.bool l1) ∧ w'.cell? ⟨w.heap.size + 1, 0, none⟩ = some (.bool r0) ∧ w'.cell? ⟨w.heap.size + 1, 1, none⟩ = some (.bool r1) ∧ w'.cell? ⟨w.heap.size + 1 + 1, 0, none⟩ = some (.bool i0) ∧ w'.cell? ⟨w.heap.size + 1 + 1, 1, none⟩ = some (.bool i1) ∧ Boxes w' w.heap.size (w.heap.size + 1) (w.heap.size + 1 + 1) l0 l1 r0 r1 i0 i1 ∧ Bel w w')
    (first | exact keepS (Bel.refl _).drew ⟨n1, n2, n3, n4, n5, n6, hB3, hall⟩ | exact keepS (by assumption) (by assumption))
    (first | (go_at_call 17; refine (f17_any _ _ _).mono ?_; rintro e w' ⟨rfl, hb⟩) | (go_at_call 16; refine (f16_any op ho.out l1 l0 r1 r0 i1 i0 x c hc4 _).mono ?_; rintro e w' ⟨rfl, hb⟩))
  all_goals
    go_wp2_with (go_at_call 16; refine (f16_any 0 (by decide) false false false false true false false true hc5 _).mono ?_; rintro e w9 ⟨rfl, hg9⟩)
    go_ret
    exact ⟨rfl, Bel.trans (endS (by assumption)) hg9⟩

set_option maxHeartbeats 4000000 in
theorem f5_three (l0 l1 r0 r1 i0 i1 x c d : Bool) (hc1 : Hid (tl 3 l0 l1 r0 r1 i0 i1 x = c)) (hc2 : Hid (tl 3 r0 r1 l0 l1 i0 i1 x = c)) (hc3 : Hid (tl 3 l0 l1 r0 r1 i0 i1 true = false))
    (hc4 : Hid (tl 3 l1 l0 r1 r0 i1 i0 x = d)) (hc5 : Hid (tl 0 false false false false true false false = true)) (w : World) :
    Calls Try.prog 5 #[.int .i64 3, .agg #[.bool l0, .bool l1], .agg #[.bool r0, .bool r1], .agg #[.bool i0, .bool i1], .bool x] w fun e w' =>
      e = .returned (.bool true) ∧ Bel w w' := by
  go_enter Try.func5, Try.ntmps5
  go_wp2_with (go_at_call 16; first | ((with_reducible refine (f16_any 3 (by decide) l0 l1 r0 r1 i0 i1 x c hc1 _).mono ?_); rintro e w' ⟨rfl, hg⟩; have hB1 := Boxes.mono (b := w.heap.size) (c := w.heap.size + 1) (d := w.heap.size + 1 + 1) (l0 := l0) (l1 := l1) (r0 := r0) (r1 := r1) (i0 := i0) (i1 := i1) hg (by constructor <;> simp [go_sem] <;> omega); have hB1' := hB1; obtain ⟨k1, k2, k3, k4, k5, k6, _, _, _⟩ := hB1') | ((with_reducible refine (f16_any 3 (by decide) r0 r1 l0 l1 i0 i1 x c hc2 _).mono ?_); rintro e w2 ⟨rfl, hg2⟩; have hB2 := hB1.mono hg2; have hB2' := hB2; obtain ⟨m1, m2, m3, m4, m5, m6, _, _, _⟩ := hB2') | ((with_reducible refine (f16_any 3 (by decide) l0 l1 r0 r1 i0 i1 true false hc3 _).mono ?_); rintro e w3 ⟨rfl, hg3⟩; have hB3 := hB2.mono hg3; have hB3' := hB3; obtain ⟨n1, n2, n3, n4, n5, n6, _, _, _⟩ := hB3'))
  have hall : Bel w w3 := by repeat (first | assumption | exact Bel.refl _ | apply Bel.alloc | refine Bel.trans ?_ (by assumption))
  clear hB1 hB2 k1 k2 k3 k4 k5 k6 m1 m2 m3 m4 m5 m6 hg hg2 hg3
  go_region_held3 (fun w' => w'.cell? ⟨w.heap.size, 0, none⟩ = some (.bool l0) ∧ w'.cell? ⟨w.heap.size, 1, none⟩ = some (.bool l1) ∧ w'.cell? ⟨w.heap.size + 1, 0, none⟩ = some (.bool r0) ∧ w'.cell? ⟨w.heap.size + 1, 1, none⟩ = some (.bool r1) ∧ w'.cell? ⟨w.heap.size + 1 + 1, 0, none⟩ = some (.bool i0) ∧ w'.cell? ⟨w.heap.size + 1 + 1, 1, none⟩ = some (.bool i1) ∧ Boxes w' w.heap.size (w.heap.size + 1) (w.heap.size + 1 + 1) l0 l1 r0 r1 i0 i1 ∧ Bel w w')
    (first | exact keepS (Bel.refl _).drew ⟨n1, n2, n3, n4, n5, n6, hB3, hall⟩ | exact keepS (by assumption) (by assumption))
    (first | (go_at_call 17; refine (f17_any _ _ _).mono ?_; rintro e w' ⟨rfl, hb⟩) | (go_at_call 16; refine (f16_any 3 (by decide) l1 l0 r1 r0 i1 i0 x d hc4 _).mono ?_; rintro e w' ⟨rfl, hb⟩))
  all_goals
    go_wp2_with (go_at_call 16; refine (f16_any 0 (by decide) false false false false true false false true hc5 _).mono ?_; rintro e w9 ⟨rfl, hg9⟩)
    go_ret
    exact ⟨rfl, Bel.trans (endS (by assumption)) hg9⟩

theorem takes_turned {op : Int} (h : op = 0 ∨ op = 1 ∨ op = 2) (a b : Bool) : takes op b a = takes op a b := by
  rcases h with rfl | rfl | rfl <;> cases a <;> cases b <;> rfl

theorem tl_turned {op : Int} (h : op = 0 ∨ op = 1 ∨ op = 2) (l0 l1 r0 r1 i0 i1 x : Bool) : tl op l1 l0 r1 r0 i1 i0 x = tl op l0 l1 r0 r1 i0 i1 x := by
  unfold tl
  rw [takes_turned h l0 l1, takes_turned h r0 r1, takes_turned h i0 i1]

theorem tl_back (op : Int) (l0 l1 r0 r1 i0 i1 x : Bool) : tl op r0 r1 l0 l1 i0 i1 x = tl op l0 l1 r0 r1 i0 i1 x := by
  unfold tl
  cases takes op l0 l1 <;> cases takes op r0 r1 <;> simp

theorem tl_again (op : Int) (l0 l1 r0 r1 i0 i1 : Bool) : tl op l0 l1 r0 r1 i0 i1 true = false := by
  simp [tl]

theorem f5_any (op : Int) (l0 l1 r0 r1 i0 i1 x : Bool) (w : World) :
    Calls Try.prog 5 #[.int .i64 op, .agg #[.bool l0, .bool l1], .agg #[.bool r0, .bool r1], .agg #[.bool i0, .bool i1], .bool x] w fun e w' =>
      e = .returned (.bool true) ∧ Bel w w' := by
  by_cases hout : op < 0 ∨ 3 < op
  · exact f5_out op hout l0 l1 r0 r1 i0 i1 x w
  by_cases h3 : op = 3
  · subst h3
    exact f5_three l0 l1 r0 r1 i0 i1 x _ _ (Lib.hid rfl) (Lib.hid (tl_back ..)) (Lib.hid (tl_again ..)) (Lib.hid rfl) (Lib.hid rfl) w
  · exact f5_core op (by omega) (by omega) l0 l1 r0 r1 i0 i1 x _ (Lib.hid rfl) (Lib.hid (tl_back ..)) (Lib.hid (tl_again ..)) (Lib.hid (tl_turned (by omega) ..)) (Lib.hid rfl) w


set_option maxRecDepth 100000 in
theorem open_pair {H : Type} {enc : TypeId × Value → H} {w : World} {base b0 : Nat} {sp : Nat → Bool} {held : Bool} {r : Reach} {v : Value} {d : DataW H} {ps : List MemPlace}
    (hv : Value.okWide Try.prog w r b0 28 v) (h : DataW.Trod enc Try.prog w base sp held 28 v d ps) : ∃ a b, v = .agg #[.bool a, .bool b] := by
  have hc : Try.prog.cellsOf 28 = 2 := by kernel_rfl
  have hc4 : Try.prog.cellsOf 4 = 1 := by kernel_rfl
  simp only [Value.okWide, Try.underlying28] at hv
  obtain ⟨cs, rfl, hsz, _⟩ := hv
  obtain ⟨c0, c1, rfl⟩ := Joins.array2 (hsz.trans hc)
  obtain ⟨fuel, hf⟩ := h
  obtain ⟨xs, m, _, _, _, hl, hx⟩ := DataW.trod_array Try.underlying28 hf
  obtain ⟨x0, x1, rfl⟩ : ∃ a b, xs = [a, b] := by
    match xs, hl with
    | [a, b], _ => exact ⟨a, b, rfl⟩
  have e0 := hx 0 (by omega)
  have e1 := hx 1 (by omega)
  simp [hc4, Value.cells] at e0 e1
  obtain ⟨a, ha, _⟩ := DataW.trod_bool Try.underlying4 e0
  obtain ⟨b, hb, _⟩ := DataW.trod_bool Try.underlying4 e1
  simp at ha hb
  subst ha hb
  exact ⟨a, b, rfl⟩

/-! ### The row's step -/
set_option maxRecDepth 100000 in
set_option maxHeartbeats 2000000 in
theorem fnTakesLineTurned_lifted (os : Os) (started : os.Started) (H : Type) (enc : TypeId × Value → H) :
    ReturnsInHanded {} Try.checked os 5 .any (Rows.fnTakesLineTurnedSpec.pre6 enc Try.prog Try.f5 Rows.fnTakesLineTurnedRow.domain false) (Rows.fnTakesLineTurnedSpec.post enc Try.prog Try.f5 false true false false) := by
  refine returnsInHanded_of_change (C := Try.checked) own started (by kernel_rfl) Try.func5
    (ChangeSpec.witness6 (enc := enc) (C := Try.checked) false ⟨#[], #[.int .i64 0, .agg #[.bool false, .bool false], .agg #[.bool false, .bool false], .agg #[.bool false, .bool false], .bool false], []⟩ 8 (by kernel_rfl) (by kernel_rfl) (by kernel_rfl) (by kernel_rfl)) ?_
  intro W base args ds gs before hval0 hW hcnd _
  have hval : ∀ (j : Nat) t v, Try.f5.params[j]? = some t → args[j]? = some v → Value.okWide Try.prog W .any base t v := hval0
  have hW' := hW
  obtain ⟨p, q, hA0, hV, rfl, hfz, hnd⟩ := hW
  have hA : DataW.TrodAll enc Try.prog W 0 (fun _ => true) true Try.f5.params.toList args.toList ds p := hA0
  rw [Try.params5] at hA hval
  obtain ⟨rfl, rfl⟩ := trodVars_none hV
  obtain ⟨v0, vs0, d0, ds0, p0, q0, hargs, rfl, rfl, h0, r0⟩ := trodAll_cons hA
  obtain ⟨v1, vs1, d1, ds1, p1, q1, rfl, rfl, rfl, h1, r1⟩ := trodAll_cons r0
  obtain ⟨v2, vs2, d2, ds2, p2, q2, rfl, rfl, rfl, h2, r2⟩ := trodAll_cons r1
  obtain ⟨v3, vs3, d3, ds3, p3, q3, rfl, rfl, rfl, h3, r3⟩ := trodAll_cons r2
  obtain ⟨v4, vs4, d4, ds4, p4, q4, rfl, rfl, rfl, h4, r4⟩ := trodAll_cons r3
  obtain ⟨rfl, rfl, rfl⟩ := trodAll_nil r4
  obtain rfl : args = #[v0, v1, v2, v3, v4] := by cases args; simp_all
  obtain ⟨a0, rfl, rfl, rfl, wa⟩ := open_int Try.underlying3 (hval 0 3 v0 rfl rfl) h0
  obtain ⟨l0, l1, rfl⟩ := open_pair (hval 1 28 v1 rfl rfl) h1
  obtain ⟨s0, s1, rfl⟩ := open_pair (hval 2 28 v2 rfl rfl) h2
  obtain ⟨i0, i1, rfl⟩ := open_pair (hval 3 28 v3 rfl rfl) h3
  obtain ⟨a4, rfl, rfl, rfl⟩ := open_bool Try.underlying4 (hval 4 4 v4 rfl rfl) h4
  refine (f5_any a0 l0 l1 s0 s1 i0 i1 a4 W).mono fun e W' ⟨he, hg⟩ => ?_
  subst he
  exact ⟨_, rfl, law_post (tb := 4) laidOut hW' rfl rfl rfl Try.underlying4 (by rw [Try.params5]; intro t ht; simp at ht; first | (subst ht; exact ⟨by kernel_rfl, of_decide_eq_true (by kernel_rfl)⟩) | (rcases ht with rfl | rfl | rfl | rfl | rfl <;> exact ⟨by kernel_rfl, of_decide_eq_true (by kernel_rfl)⟩)) hg⟩

theorem fnTakesLineTurned_over : Rows.fnTakesLineTurnedRow.holds Try.pinned (OpenSpec.ofChange Rows.fnTakesLineTurnedSpec) :=
  OpenClaim.holds_of_wide 5 Try.f5 rfl rfl rfl rfl rfl rfl rfl ⟨rfl, rfl, rfl, rfl, rfl⟩ rfl rfl rfl rfl rfl (by kernel_rfl) Try.func5 (by kernel_rfl)
    (of_decide_eq_true (by kernel_rfl)) (by unfold Func.isWrapper; first | (rw [if_pos (by decide +kernel)]; kernel_rfl) | (rw [if_neg (by decide +kernel)]; exact ⟨rfl, rfl⟩))
    (fun os started H enc _ => fnTakesLineTurned_lifted os started H enc)

/-- The statement. -/
theorem fnTakesLineTurned_holds : Rows.FnTakesLineTurnedSaid :=
  fnTakesLineTurned_over
#print axioms fnTakesLineTurned_holds
end Go.Proofs.Ytdebkmioaglmaaa
