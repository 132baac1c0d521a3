/-
  For every envelope (a bool and four floats, all bits allowed) the law FnEnvBox answers true: outside of finite ends in order at once; else the box and the corners are the envelope's, and an empty envelope has none. No condition.
-/
import Derived.Test.YtdebkmioaglmaaaEnv
import Derived.Lib.SmallJoins
import Derived.Laws.StructEq
import Derived.Outline
namespace Go.Proofs.Ytdebkmioaglmaaa
open Go.ChangeShapes Go.WideShapes Go.ChangeAt Go.RowKit

theorem eq_fin {a c : Nat} (fa : finB a = true) (e : FloatKind.f64.format.order a c = some .eq) : finB c = true := by
  have e' : (Ieee.double.read a).order (Ieee.double.read c) = some .eq := e
  unfold finB at *
  revert e' fa
  cases Ieee.double.read a <;> cases Ieee.double.read c <;> simp [Ieee.Datum.order]
  split <;> simp

/-- The lesser of two numbers in order is the first one's like. -/
theorem fmin_eq {a c : Nat} (fa : finB a = true) (h : leB a c = true) : (FloatKind.f64.format.order (fmin a c) a == some .eq) = true ∧ (FloatKind.f64.format.order (fmin a c) (fmin a c) == some .eq) = true := by
  unfold fmin ltB
  by_cases k : (FloatKind.f64.format.order a c == some .lt) = true
  · rw [if_pos k, order_self fa]
    exact ⟨rfl, rfl⟩
  · rw [if_neg k]
    unfold leB at h
    have e : FloatKind.f64.format.order a c = some .eq := by simpa [k] using h
    rw [order_swap a c, e, order_self (eq_fin fa e)]
    exact ⟨rfl, rfl⟩

/-- The greater of two numbers in order is the second one's like. -/
theorem fmax_eq {a c : Nat} (fc : finB c = true) (h : leB a c = true) : (FloatKind.f64.format.order (fmax a c) c == some .eq) = true ∧ (FloatKind.f64.format.order (fmax a c) (fmax a c) == some .eq) = true := by
  have k : (FloatKind.f64.format.order a c == some .gt) = false := by
    unfold leB at h
    cases e : FloatKind.f64.format.order a c with
    | none => rfl
    | some o => cases o <;> simp_all
  unfold fmax gtB
  rw [k]
  simp only [Bool.false_eq_true, if_false]
  rw [order_self fc]
  exact ⟨rfl, rfl⟩

set_option maxHeartbeats 1000000 in
theorem f10_out (f : Bool) (a b c d : Nat) (h : (finB a && finB b && finB c && finB d && (leB a c && leB b d)) = false) (w : World) :
    Calls Try.prog 10 #[.agg #[.bool f, .float .f64 a, .float .f64 b, .float .f64 c, .float .f64 d]] w fun e w' => e = .returned (.bool true) ∧ Bel w w' := by
  by_cases hf : (finB a && finB b && finB c && finB d) = true
  · have hx : (leB a c && leB b d) = false := by simpa [hf] using h
    simp only [Bool.and_eq_true] at hf
    obtain ⟨⟨⟨ha, hb⟩, hc⟩, hd⟩ := hf
    obtain ⟨x, hX⟩ : ∃ x, leB a c = x := ⟨_, rfl⟩
    obtain ⟨y, hY⟩ : ∃ y, leB b d = y := ⟨_, rfl⟩
    rw [hX, hY] at hx
    have HX := Lib.hid hX
    have HY := Lib.hid hY
    have HH := Lib.hid hx
    have FA := Lib.hid ha
    have FB := Lib.hid hb
    have FC := Lib.hid hc
    have FD := Lib.hid hd
    clear hX hY hx ha hb hc hd h
    go_enter Try.func10, Try.ntmps10
    go_wp2_with (go_at_call 28; refine (f28_fin f a b c d FA.out FB.out FC.out FD.out x y HX HY _).mono ?_; rw [HH.out]; rintro e w1 ⟨rfl, hb1⟩)
    go_ret
    exact ⟨rfl, by repeat (first | with_reducible assumption | with_reducible exact Bel.refl _ | with_reducible apply Bel.alloc | with_reducible apply Bel.drew | (with_reducible apply Bel.setCellR; (simp <;> omega)) | with_reducible refine Bel.behind (by with_reducible assumption) ?_)⟩
  · have hf' : (finB a && finB b && finB c && finB d) = false := by simpa using hf
    have HF := Lib.hid hf'
    clear hf hf' h
    go_enter Try.func10, Try.ntmps10
    go_wp2_with (go_at_call 28; refine (f28_inf f a b c d HF.out _).mono ?_; rintro e w1 ⟨rfl, hb1⟩)
    go_ret
    exact ⟨rfl, by repeat (first | with_reducible assumption | with_reducible exact Bel.refl _ | with_reducible apply Bel.alloc | with_reducible apply Bel.drew | (with_reducible apply Bel.setCellR; (simp <;> omega)) | with_reducible refine Bel.behind (by with_reducible assumption) ?_)⟩

theorem fin_zero : finB 0 = true := by decide
theorem fmin_zero : fmin 0 0 = 0 := by decide
theorem fmax_zero : fmax 0 0 = 0 := by decide

set_option maxHeartbeats 1000000 in
theorem f10_none (a b c d : Nat) (FA : Hid (finB a = true)) (FB : Hid (finB b = true)) (FC : Hid (finB c = true)) (FD : Hid (finB d = true)) (HX : Hid (leB a c = true)) (HY : Hid (leB b d = true)) (w : World) :
    Calls Try.prog 10 #[.agg #[.bool false, .float .f64 a, .float .f64 b, .float .f64 c, .float .f64 d]] w fun e w' => e = .returned (.bool true) ∧ Bel w w' := by
  have Z := Lib.hid fin_zero
  have Z1 := Lib.hid fmin_zero
  have Z2 := Lib.hid fmax_zero
  go_enter Try.func10, Try.ntmps10
  go_wp2_with (first | (go_at_call 28; (with_reducible refine (f28_fin false a b c d FA.out FB.out FC.out FD.out true true HX HY _).mono ?_); rintro e w1 ⟨rfl, hb2⟩; have B3 : Blk w1 (w.heap.size) #[.bool false, .float .f64 a, .float .f64 b, .float .f64 c, .float .f64 d] 64 := Blk.bel (by (apply Blk.cast; (repeat (first | with_reducible assumption | with_reducible apply Blk.set | (with_reducible apply Blk.otherR; (simp <;> omega)) | with_reducible exact Blk.new _ _ _ | (with_reducible apply Blk.new'; (focus (simp; done))) | with_reducible apply Blk.alloc | with_reducible apply Blk.drew)); rfl)) hb2; obtain ⟨r4, z5, z5l⟩ := B3.facts) | (go_at_call 29; (with_reducible refine (f29_none a b c d _).mono ?_); rintro e w6 ⟨rfl, hb7⟩; have B8 : Blk w6 (w.heap.size) #[.bool false, .float .f64 a, .float .f64 b, .float .f64 c, .float .f64 d] 64 := Blk.bel (by (apply Blk.cast; (repeat (first | with_reducible assumption | with_reducible apply Blk.set | (with_reducible apply Blk.otherR; (simp <;> omega)) | with_reducible exact Blk.new _ _ _ | (with_reducible apply Blk.new'; (focus (simp; done))) | with_reducible apply Blk.alloc | with_reducible apply Blk.drew)); rfl)) hb7; obtain ⟨r9, z10, z10l⟩ := B8.facts) | (go_at_call 30; (with_reducible refine (f30_none a b c d _).mono ?_); rintro e w11 ⟨rfl, hb12⟩; have B13 : Blk w11 (w.heap.size) #[.bool false, .float .f64 a, .float .f64 b, .float .f64 c, .float .f64 d] 64 := Blk.bel (by (apply Blk.cast; (repeat (first | with_reducible assumption | with_reducible apply Blk.set | (with_reducible apply Blk.otherR; (simp <;> omega)) | with_reducible exact Blk.new _ _ _ | (with_reducible apply Blk.new'; (focus (simp; done))) | with_reducible apply Blk.alloc | with_reducible apply Blk.drew)); rfl)) hb12; obtain ⟨r14, z15, z15l⟩ := B13.facts) | (go_at_call 29; (with_reducible refine (f29_full 0 0 0 0 0 0 0 0 Z Z Z1 Z1 Z2 Z2 _).mono ?_); rintro e w16 ⟨rfl, hb17⟩; have B18 : Blk w16 (w.heap.size) #[.bool false, .float .f64 a, .float .f64 b, .float .f64 c, .float .f64 d] 64 := Blk.bel (by (apply Blk.cast; (repeat (first | with_reducible assumption | with_reducible apply Blk.set | (with_reducible apply Blk.otherR; (simp <;> omega)) | with_reducible exact Blk.new _ _ _ | (with_reducible apply Blk.new'; (focus (simp; done))) | with_reducible apply Blk.alloc | with_reducible apply Blk.drew)); rfl)) hb17; obtain ⟨r19, z20, z20l⟩ := B18.facts))
  go_ret
  exact ⟨rfl, by repeat (first | with_reducible assumption | with_reducible exact Bel.refl _ | with_reducible apply Bel.alloc | with_reducible apply Bel.drew | (with_reducible apply Bel.setCellR; (simp <;> omega)) | with_reducible refine Bel.behind (by with_reducible assumption) ?_)⟩

set_option maxRecDepth 100000 in
set_option maxHeartbeats 2000000 in
theorem f10_full (a b c d c1 c2 c3 c4 : Nat) (FA : Hid (finB a = true)) (FB : Hid (finB b = true)) (FC : Hid (finB c = true)) (FD : Hid (finB d = true)) (HX : Hid (leB a c = true)) (HY : Hid (leB b d = true))
    (h1 : Hid (fmin a c = c1)) (h2 : Hid (fmin b d = c2)) (h3 : Hid (fmax a c = c3)) (h4 : Hid (fmax b d = c4))
    (e1 : (FloatKind.f64.format.order c1 a == some .eq) = true) (e2 : (FloatKind.f64.format.order c2 b == some .eq) = true) (e3 : (FloatKind.f64.format.order c3 c == some .eq) = true) (e4 : (FloatKind.f64.format.order c4 d == some .eq) = true)
    (s1 : (FloatKind.f64.format.order c1 c1 == some .eq) = true) (s2 : (FloatKind.f64.format.order c2 c2 == some .eq) = true) (s3 : (FloatKind.f64.format.order c3 c3 == some .eq) = true) (s4 : (FloatKind.f64.format.order c4 c4 == some .eq) = true) (w : World) :
    Calls Try.prog 10 #[.agg #[.bool true, .float .f64 a, .float .f64 b, .float .f64 c, .float .f64 d]] w fun e w' => e = .returned (.bool true) ∧ Bel w w' := by
  have Z := Lib.hid fin_zero
  have Z1 := Lib.hid fmin_zero
  have Z2 := Lib.hid fmax_zero
  have g1 : Try.prog.stoodInHeld 62 = false := by kernel_rfl
  have g2 : Try.prog.stoodInHeld 37 = false := by kernel_rfl
  have g3 : Try.prog.eqGuardType Try.prog.depth 62 = false := by kernel_rfl
  have g4 : Try.prog.eqGuardType Try.prog.depth 37 = false := by kernel_rfl
  go_enter Try.func10, Try.ntmps10
  go_wp2_with (first | (go_at_call 28; (with_reducible refine (f28_fin true a b c d FA.out FB.out FC.out FD.out true true HX HY _).mono ?_); rintro e w21 ⟨rfl, hb22⟩; have B23 : Blk w21 (w.heap.size) #[.bool true, .float .f64 a, .float .f64 b, .float .f64 c, .float .f64 d] 64 := Blk.bel (by (apply Blk.cast; (repeat (first | with_reducible assumption | with_reducible apply Blk.set | (with_reducible apply Blk.otherR; (simp <;> omega)) | with_reducible exact Blk.new _ _ _ | (with_reducible apply Blk.new'; (focus (simp; done))) | with_reducible apply Blk.alloc | with_reducible apply Blk.drew)); rfl)) hb22; obtain ⟨r24, z25, z25l⟩ := B23.facts) | (go_at_call 29; (with_reducible refine (f29_full a b c d c1 c2 c3 c4 FA FB h1 h2 h3 h4 _).mono ?_); rintro e wb ⟨rfl, hb26⟩; have B27 : Blk wb (w.heap.size) #[.bool true, .float .f64 a, .float .f64 b, .float .f64 c, .float .f64 d] 64 := Blk.bel (by (apply Blk.cast; (repeat (first | with_reducible assumption | with_reducible apply Blk.set | (with_reducible apply Blk.otherR; (simp <;> omega)) | with_reducible exact Blk.new _ _ _ | (with_reducible apply Blk.new'; (focus (simp; done))) | with_reducible apply Blk.alloc | with_reducible apply Blk.drew)); rfl)) hb26; obtain ⟨r28, z29, z29l⟩ := B27.facts) | (go_at_call 30; (with_reducible refine (f30_full a b c d c1 c2 c3 c4 FA FB h1 h2 h3 h4 _).mono ?_); rintro e wc ⟨rfl, hb30⟩; have B31 : Blk wc (w.heap.size) #[.bool true, .float .f64 a, .float .f64 b, .float .f64 c, .float .f64 d] 64 := Blk.bel (by (apply Blk.cast; (repeat (first | with_reducible assumption | with_reducible apply Blk.set | (with_reducible apply Blk.otherR; (simp <;> omega)) | with_reducible exact Blk.new _ _ _ | (with_reducible apply Blk.new'; (focus (simp; done))) | with_reducible apply Blk.alloc | with_reducible apply Blk.drew)); rfl)) hb30; obtain ⟨r32, z33, z33l⟩ := B31.facts; have B34 : Blk wc (wb.heap.size) #[.float .f64 c1, .float .f64 c2, .float .f64 c3, .float .f64 c4] 62 := Blk.bel (by (apply Blk.cast; (repeat (first | with_reducible assumption | with_reducible apply Blk.set | (with_reducible apply Blk.otherR; (simp <;> omega)) | with_reducible exact Blk.new _ _ _ | (with_reducible apply Blk.new'; (focus (simp; done))) | with_reducible apply Blk.alloc | with_reducible apply Blk.drew)); rfl)) hb30; obtain ⟨r35, z36, z36l⟩ := B34.facts) | (go_at_call 29; (with_reducible refine (f29_full 0 0 0 0 0 0 0 0 Z Z Z1 Z1 Z2 Z2 _).mono ?_); rintro e w37 ⟨rfl, hb38⟩; have B39 : Blk w37 (w.heap.size) #[.bool true, .float .f64 a, .float .f64 b, .float .f64 c, .float .f64 d] 64 := Blk.bel (by (apply Blk.cast; (repeat (first | with_reducible assumption | with_reducible apply Blk.set | (with_reducible apply Blk.otherR; (simp <;> omega)) | with_reducible exact Blk.new _ _ _ | (with_reducible apply Blk.new'; (focus (simp; done))) | with_reducible apply Blk.alloc | with_reducible apply Blk.drew)); rfl)) hb38; obtain ⟨r40, z41, z41l⟩ := B39.facts; have B42 : Blk w37 (wb.heap.size) #[.float .f64 c1, .float .f64 c2, .float .f64 c3, .float .f64 c4] 62 := Blk.bel (by (apply Blk.cast; (repeat (first | with_reducible assumption | with_reducible apply Blk.set | (with_reducible apply Blk.otherR; (simp <;> omega)) | with_reducible exact Blk.new _ _ _ | (with_reducible apply Blk.new'; (focus (simp; done))) | with_reducible apply Blk.alloc | with_reducible apply Blk.drew)); rfl)) hb38; obtain ⟨r43, z44, z44l⟩ := B42.facts; have B45 : Blk w37 (wc.heap.size) #[.float .f64 c1, .float .f64 c2] 37 := Blk.bel (by (apply Blk.cast; (repeat (first | with_reducible assumption | with_reducible apply Blk.set | (with_reducible apply Blk.otherR; (simp <;> omega)) | with_reducible exact Blk.new _ _ _ | (with_reducible apply Blk.new'; (focus (simp; done))) | with_reducible apply Blk.alloc | with_reducible apply Blk.drew)); rfl)) hb38; obtain ⟨r46, z47, z47l⟩ := B45.facts; have B48 : Blk w37 (wc.heap.size + 1) #[.float .f64 c3, .float .f64 c4] 37 := Blk.bel (by (apply Blk.cast; (repeat (first | with_reducible assumption | with_reducible apply Blk.set | (with_reducible apply Blk.otherR; (simp <;> omega)) | with_reducible exact Blk.new _ _ _ | (with_reducible apply Blk.new'; (focus (simp; done))) | with_reducible apply Blk.alloc | with_reducible apply Blk.drew)); rfl)) hb38; obtain ⟨r49, z50, z50l⟩ := B48.facts))
  go_ret
  exact ⟨rfl, by repeat (first | with_reducible assumption | with_reducible exact Bel.refl _ | with_reducible apply Bel.alloc | with_reducible apply Bel.drew | (with_reducible apply Bel.setCellR; (simp <;> omega)) | with_reducible refine Bel.behind (by with_reducible assumption) ?_)⟩

theorem f10_any (f : Bool) (a b c d : Nat) (w : World) :
    Calls Try.prog 10 #[.agg #[.bool f, .float .f64 a, .float .f64 b, .float .f64 c, .float .f64 d]] w fun e w' => e = .returned (.bool true) ∧ Bel w w' := by
  by_cases h : (finB a && finB b && finB c && finB d && (leB a c && leB b d)) = true
  · simp only [Bool.and_eq_true] at h
    obtain ⟨⟨⟨⟨ha, hb⟩, hc⟩, hd⟩, hx, hy⟩ := h
    cases f
    · exact f10_none a b c d (Lib.hid ha) (Lib.hid hb) (Lib.hid hc) (Lib.hid hd) (Lib.hid hx) (Lib.hid hy) w
    · have m1 := fmin_eq ha hx
      have m2 := fmin_eq hb hy
      have m3 := fmax_eq hc hx
      have m4 := fmax_eq hd hy
      exact f10_full a b c d _ _ _ _ (Lib.hid ha) (Lib.hid hb) (Lib.hid hc) (Lib.hid hd) (Lib.hid hx) (Lib.hid hy) (Lib.hid rfl) (Lib.hid rfl) (Lib.hid rfl) (Lib.hid rfl) m1.1 m2.1 m3.1 m4.1 m1.2 m2.2 m3.2 m4.2 w
  · exact f10_out f a b c d (by simpa using h) w

theorem array5 {cs : Array Value} (h : cs.size = 5) : ∃ c0 c1 c2 c3 c4, cs = #[c0, c1, c2, c3, c4] := by
  obtain ⟨l⟩ := cs
  match l, h with
  | [c0, c1, c2, c3, c4], _ => exact ⟨c0, c1, c2, c3, c4, rfl⟩

set_option maxRecDepth 100000 in
theorem open_env {H : Type} {enc : TypeId × Value → H} {w : World} {base b0 : Nat} {sp : Nat → Bool} {held : Bool} {r : Reach} {v : Value} {dt : DataW H} {ps : List MemPlace}
    (hv : Value.okWide Try.prog w r b0 64 v) (h : DataW.Trod enc Try.prog w base sp held 64 v dt ps) : ∃ f a b c d, v = .agg #[.bool f, .float .f64 a, .float .f64 b, .float .f64 c, .float .f64 d] := by
  have hc64 : Try.prog.cellsOf 64 = 5 := by kernel_rfl
  have hc62 : Try.prog.cellsOf 62 = 4 := by kernel_rfl
  have hc35 : Try.prog.cellsOf 35 = 1 := by kernel_rfl
  have hc4 : Try.prog.cellsOf 4 = 1 := by kernel_rfl
  obtain ⟨cs, rfl, hsz⟩ := okWide_struct Try.underlying64 hv
  obtain ⟨c0, c1, c2, c3, c4, rfl⟩ := array5 (hsz.trans hc64)
  obtain ⟨fuel, hf⟩ := h
  obtain ⟨_, _, e0⟩ := field_of Try.underlying64 hf 0 _ rfl
  obtain ⟨_, _, e1⟩ := field_of Try.underlying64 hf 1 _ rfl
  simp [hc4, hc62, Value.cells] at e0 e1
  obtain ⟨f, hf0, _⟩ := DataW.trod_bool Try.underlying4 e0
  obtain ⟨_, _, g0⟩ := field_of Try.underlying62 e1 0 _ rfl
  obtain ⟨_, _, g1⟩ := field_of Try.underlying62 e1 1 _ rfl
  obtain ⟨_, _, g2⟩ := field_of Try.underlying62 e1 2 _ rfl
  obtain ⟨_, _, g3⟩ := field_of Try.underlying62 e1 3 _ rfl
  simp [hc35] at g0 g1 g2 g3
  obtain ⟨a, k0, _⟩ := trod_float Try.underlying35 g0
  obtain ⟨b, k1, _⟩ := trod_float Try.underlying35 g1
  obtain ⟨c, k2, _⟩ := trod_float Try.underlying35 g2
  obtain ⟨d, k3, _⟩ := trod_float Try.underlying35 g3
  simp at hf0 k0 k1 k2 k3
  subst hf0 k0 k1 k2 k3
  exact ⟨f, a, b, c, d, rfl⟩

/-! ### The row's step -/
set_option maxRecDepth 100000 in
set_option maxHeartbeats 2000000 in
theorem fnEnvBox_lifted (os : Os) (started : os.Started) (H : Type) (enc : TypeId × Value → H) :
    ReturnsInHanded {} Try.checked os 10 .any (Rows.fnEnvBoxSpec.pre6 enc Try.prog Try.f10 Rows.fnEnvBoxRow.domain false) (Rows.fnEnvBoxSpec.post enc Try.prog Try.f10 false true false false) := by
  refine returnsInHanded_of_change (C := Try.checked) own started (by kernel_rfl) Try.func10
    (ChangeSpec.witness6 (enc := enc) (C := Try.checked) false ⟨#[], #[.agg #[.bool false, .float .f64 0, .float .f64 0, .float .f64 0, .float .f64 0]], []⟩ 8 (by kernel_rfl) (by kernel_rfl) (by kernel_rfl) (by kernel_rfl)) ?_
  intro W base args ds gs before hval0 hW hcnd _
  have hval : ∀ (j : Nat) t v, Try.f10.params[j]? = some t → args[j]? = some v → Value.okWide Try.prog W .any base t v := hval0
  have hW' := hW
  obtain ⟨p, q, hA0, hV, rfl, hfz, hnd⟩ := hW
  have hA : DataW.TrodAll enc Try.prog W 0 (fun _ => true) true Try.f10.params.toList args.toList ds p := hA0
  rw [Try.params10] at hA hval
  obtain ⟨rfl, rfl⟩ := trodVars_none hV
  obtain ⟨v0, vs0, d0, ds0, p0, q0, hargs, rfl, rfl, h0, r0⟩ := trodAll_cons hA
  obtain ⟨rfl, rfl, rfl⟩ := trodAll_nil r0
  obtain rfl : args = #[v0] := by cases args; simp_all
  obtain ⟨f, a, b, c, d, rfl⟩ := open_env (hval 0 64 v0 rfl rfl) h0
  refine (f10_any f a b c d W).mono fun e W' ⟨he, hg⟩ => ?_
  subst he
  exact ⟨_, rfl, law_post (tb := 4) laidOut hW' rfl rfl rfl Try.underlying4 (by rw [Try.params10]; intro t ht; simp at ht; first | (subst ht; exact ⟨by kernel_rfl, of_decide_eq_true (by kernel_rfl)⟩) | (rcases ht with rfl <;> exact ⟨by kernel_rfl, of_decide_eq_true (by kernel_rfl)⟩)) hg⟩

theorem fnEnvBox_over : Rows.fnEnvBoxRow.holds Try.pinned (OpenSpec.ofChange Rows.fnEnvBoxSpec) :=
  OpenClaim.holds_of_wide 10 Try.f10 rfl rfl rfl rfl rfl rfl rfl ⟨rfl, rfl, rfl, rfl, rfl⟩ rfl rfl rfl rfl rfl (by kernel_rfl) Try.func10 (by kernel_rfl)
    (of_decide_eq_true (by kernel_rfl)) (by unfold Func.isWrapper; first | (rw [if_pos (by decide +kernel)]; kernel_rfl) | (rw [if_neg (by decide +kernel)]; exact ⟨rfl, rfl⟩))
    (fun os started H enc _ => fnEnvBox_lifted os started H enc)

/-- The statement. -/
theorem fnEnvBox_holds : Rows.FnEnvBoxSaid :=
  fnEnvBox_over
#print axioms fnEnvBox_holds
end Go.Proofs.Ytdebkmioaglmaaa
