/-
  FnBetweenTurned: the row's step.
-/
import Derived.Test.YtnpgmoiiiemghaaBetLaw
import Derived.Test.YtnpgmoiiiemghaaOpen
namespace Go.Proofs.Ytnpgmoiiiemghaa
open Go.ChangeShapes Go.WideShapes Go.ChangeAt Go.RowKit
theorem array5 {α : Type} {cs : Array α} (h : cs.size = 5) : ∃ c0 c1 c2 c3 c4, cs = #[c0, c1, c2, c3, c4] := by
  rcases cs with ⟨l⟩
  match l, h with
  | [a, b, c, d, e], _ => exact ⟨a, b, c, d, e, rfl⟩
set_option maxRecDepth 100000 in
theorem open_co {H : Type} {enc : TypeId × Value → H} {w : World} {base b0 : Nat} {sp : Nat → Bool} {held : Bool} {r : Reach} {v : Value} {dt : DataW H} {ps : List MemPlace}
    (hv : Value.okWide Try.prog w r b0 38 v) (h : DataW.Trod enc Try.prog w base sp held 38 v dt ps) : ∃ (u : Four Nat) (d : Int), v = .agg #[.float .f64 u.x, .float .f64 u.y, .float .f64 u.z, .float .f64 u.m, .int .i64 d] := by
  have hc38 : Try.prog.cellsOf 38 = 5 := by kernel_rfl
  have hc25 : Try.prog.cellsOf 25 = 1 := by kernel_rfl
  have hc3 : Try.prog.cellsOf 3 = 1 := by kernel_rfl
  obtain ⟨cs, rfl, hsz⟩ := okWide_struct Try.underlying38 hv
  obtain ⟨c0, c1, c2, c3, c4, rfl⟩ := array5 (hsz.trans hc38)
  obtain ⟨fuel, hf⟩ := h
  obtain ⟨_, _, e0⟩ := field_of Try.underlying38 hf 0 _ rfl
  obtain ⟨_, _, e1⟩ := field_of Try.underlying38 hf 1 _ rfl
  obtain ⟨_, _, e2⟩ := field_of Try.underlying38 hf 2 _ rfl
  obtain ⟨_, _, e3⟩ := field_of Try.underlying38 hf 3 _ rfl
  obtain ⟨_, _, e4⟩ := field_of Try.underlying38 hf 4 _ rfl
  simp [hc25, hc3, Value.cells] at e0 e1 e2 e3 e4
  obtain ⟨a, k0, _⟩ := trod_float Try.underlying25 e0
  obtain ⟨b, k1, _⟩ := trod_float Try.underlying25 e1
  obtain ⟨c, k2, _⟩ := trod_float Try.underlying25 e2
  obtain ⟨d, k3, _⟩ := trod_float Try.underlying25 e3
  obtain ⟨n, k4, _, _⟩ := DataW.trod_int Try.underlying3 e4
  simp at k0 k1 k2 k3 k4
  subst k0 k1 k2 k3 k4
  exact ⟨⟨a, b, c, d⟩, n, rfl⟩

/-! ### The row's step -/
set_option maxRecDepth 100000 in
set_option maxHeartbeats 2000000 in
theorem fnBetweenTurned_lifted (os : Os) (started : os.Started) (H : Type) (enc : TypeId × Value → H) :
    ReturnsInHanded {} Try.checked os 4 .any (Rows.fnBetweenTurnedSpec.pre6 enc Try.prog Try.f4 Rows.fnBetweenTurnedRow.domain false) (Rows.fnBetweenTurnedSpec.post enc Try.prog Try.f4 false true false false) := by
  refine returnsInHanded_of_change (C := Try.checked) own started (by kernel_rfl) Try.func4
    (ChangeSpec.witness6 (enc := enc) (C := Try.checked) false ⟨#[], #[.agg #[.float .f64 0, .float .f64 0, .float .f64 0, .float .f64 0, .int .i64 0], .agg #[.float .f64 0, .float .f64 0, .float .f64 0, .float .f64 0, .int .i64 0], .int .i64 0], []⟩ 8 (by kernel_rfl) (by kernel_rfl) (by kernel_rfl) (by kernel_rfl)) ?_
  intro W base args ds gs before hval0 hW hcnd _
  have hval : ∀ (j : Nat) t v, Try.f4.params[j]? = some t → args[j]? = some v → Value.okWide Try.prog W .any base t v := hval0
  have hW' := hW
  obtain ⟨p, q, hA0, hV, rfl, hfz, hnd⟩ := hW
  have hA : DataW.TrodAll enc Try.prog W 0 (fun _ => true) true Try.f4.params.toList args.toList ds p := hA0
  rw [Try.params4] at hA hval
  obtain ⟨rfl, rfl⟩ := trodVars_none hV
  obtain ⟨v0, vs0, d0, ds0, p0, q0, hargs, rfl, rfl, h0, r0⟩ := trodAll_cons hA
  obtain ⟨v1, vs1, d1, ds1, p1, q1, rfl, rfl, rfl, h1, r1⟩ := trodAll_cons r0
  obtain ⟨v2, vs2, d2, ds2, p2, q2, rfl, rfl, rfl, h2, r2⟩ := trodAll_cons r1
  obtain ⟨rfl, rfl, rfl⟩ := trodAll_nil r2
  obtain rfl : args = #[v0, v1, v2] := by cases args; simp_all
  obtain ⟨u, d, rfl⟩ := open_co (hval 0 38 v0 rfl rfl) h0
  obtain ⟨u', d', rfl⟩ := open_co (hval 1 38 v1 rfl rfl) h1
  obtain ⟨n, rfl⟩ := okWide_int Try.underlying3 (hval 2 3 v2 rfl rfl)
  refine (law_main u u' d d' n W).mono fun e W' ⟨he, hg⟩ => ?_
  subst he
  exact ⟨_, rfl, law_post (tb := 4) laidOut hW' rfl rfl rfl Try.underlying4 (by rw [Try.params4]; intro t ht; simp at ht; first | (subst ht; exact ⟨by kernel_rfl, of_decide_eq_true (by kernel_rfl)⟩) | (rcases ht with rfl | rfl | rfl <;> exact ⟨by kernel_rfl, of_decide_eq_true (by kernel_rfl)⟩)) hg⟩

theorem fnBetweenTurned_over : Rows.fnBetweenTurnedRow.holds Try.pinned (OpenSpec.ofChange Rows.fnBetweenTurnedSpec) :=
  OpenClaim.holds_of_wide 4 Try.f4 rfl rfl rfl rfl rfl rfl rfl ⟨rfl, rfl, rfl, rfl, rfl⟩ rfl rfl rfl rfl rfl (by kernel_rfl) Try.func4 (by kernel_rfl)
    (of_decide_eq_true (by kernel_rfl)) (by unfold Func.isWrapper; first | (rw [if_pos (by decide +kernel)]; kernel_rfl) | (rw [if_neg (by decide +kernel)]; exact ⟨rfl, rfl⟩))
    (fun os started H enc _ => fnBetweenTurned_lifted os started H enc)

/-- The statement. -/
theorem fnBetweenTurned_holds : Rows.FnBetweenTurnedSaid :=
  fnBetweenTurned_over
#print axioms fnBetweenTurned_holds

end Go.Proofs.Ytnpgmoiiiemghaa
