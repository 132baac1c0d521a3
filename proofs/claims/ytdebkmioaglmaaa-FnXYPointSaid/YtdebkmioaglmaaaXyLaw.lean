/-
  For every place (two floats, all bits allowed) the law FnXYPoint answers true: a place of two numbers is as a point the plain geometry of these two. No condition.
-/
import Derived.Test.YtdebkmioaglmaaaNum
import Derived.Lib.SmallJoins
import Derived.Outline
namespace Go.Proofs.Ytdebkmioaglmaaa
open Go.ChangeShapes Go.WideShapes Go.ChangeAt Go.RowKit

theorem f7_out (x y : Nat) (h : (finB x && finB y) = false) (w : World) : Calls Try.prog 7 #[.agg #[.float .f64 x, .float .f64 y]] w fun e w' => e = .returned (.bool true) ∧ Bel w w' := by
  have o1 := order_nanAt_left
  have o0 := order_zero
  by_cases hx : finB x = true
  · have hy : finB y = false := by simpa [hx] using h
    have rx := run_sub_self_fin (P := Try.prog) hx 35
    have ry := run_sub_self_inf (P := Try.prog) hy 35
    clear hx hy h
    go_enter Try.func7, Try.ntmps7
    go_wp2
    go_ret
    exact ⟨rfl, by repeat (first | with_reducible assumption | with_reducible exact Bel.refl _ | with_reducible apply Bel.alloc | with_reducible apply Bel.drew | (with_reducible apply Bel.setCellR; (simp <;> omega)) | with_reducible refine Bel.behind (by with_reducible assumption) ?_)⟩
  · have hx' : finB x = false := by simpa using hx
    have rx := run_sub_self_inf (P := Try.prog) hx' 35
    clear hx hx' h
    go_enter Try.func7, Try.ntmps7
    go_wp2
    go_ret
    exact ⟨rfl, by repeat (first | with_reducible assumption | with_reducible exact Bel.refl _ | with_reducible apply Bel.alloc | with_reducible apply Bel.drew | (with_reducible apply Bel.setCellR; (simp <;> omega)) | with_reducible refine Bel.behind (by with_reducible assumption) ?_)⟩

set_option maxRecDepth 100000 in
set_option maxHeartbeats 2000000 in
theorem f7_in (x y : Nat) (hx : finB x = true) (hy : finB y = true) (w : World) : Calls Try.prog 7 #[.agg #[.float .f64 x, .float .f64 y]] w fun e w' => e = .returned (.bool true) ∧ Bel w w' := by
  have rx := run_sub_self_fin (P := Try.prog) hx 35
  have ry := run_sub_self_fin (P := Try.prog) hy 35
  have o0 := order_zero
  clear hx hy
  go_enter Try.func7, Try.ntmps7
  go_wp2
  generalize hW1 : World.alloc _ _ = w0
  have hb2 : Bel w w0 := by subst hW1; repeat (first | with_reducible assumption | with_reducible exact Bel.refl _ | with_reducible apply Bel.alloc | with_reducible apply Bel.drew | (with_reducible apply Bel.setCellR; (simp <;> omega)) | with_reducible refine Bel.behind (by with_reducible assumption) ?_)
  have B3 : Blk w0 (w.heap.size) #[.float .f64 x, .float .f64 y] 37 := by subst hW1; (apply Blk.cast; (repeat (first | with_reducible assumption | with_reducible apply Blk.set | (with_reducible apply Blk.otherR; (simp <;> omega)) | with_reducible exact Blk.new _ _ _ | (with_reducible apply Blk.new'; (focus (simp; done))) | with_reducible apply Blk.alloc | with_reducible apply Blk.drew)); rfl)
  obtain ⟨r4, z5, z5l⟩ := B3.facts
  clear hW1
  go_region_held3 (fun w' => (∀ o, w'.cell? ⟨w.heap.size, o, none⟩ = (#[.float .f64 x, .float .f64 y] : Array Value)[o]?) ∧ Blk w' (w.heap.size) #[.float .f64 x, .float .f64 y] 37 ∧ Bel w w')
    (first | (with_reducible apply keep1; with_reducible assumption; with_reducible assumption) | (with_reducible apply keep1; (with_reducible exact Bel.alloc1 _ _); with_reducible assumption) | ((repeat (first | with_reducible assumption | (with_reducible apply keep1s; (simp <;> omega); (simp <;> omega)))); done) | (refine keep1i ?_ ?_; (focus ((repeat (first | with_reducible assumption | with_reducible apply Blk.set | (with_reducible apply Blk.otherR; (simp <;> omega)) | with_reducible exact Blk.new _ _ _ | (with_reducible apply Blk.new'; (focus (simp; done))) | with_reducible apply Blk.alloc | with_reducible apply Blk.drew)); done)); (focus ((repeat (first | with_reducible assumption | with_reducible exact Bel.refl _ | with_reducible apply Bel.alloc | with_reducible apply Bel.drew | (with_reducible apply Bel.setCellR; (simp <;> omega)) | with_reducible refine Bel.behind (by with_reducible assumption) ?_)); done))))
    (first | (go_at_call 21; (with_reducible refine (f21_any _ _ _).mono ?_); rintro e w1 ⟨g, cap, rfl, hg1, hg2, hg3, hg4, hb1⟩) | (go_at_call 20; refine (f20_true 1 0 _ _ [x, y] _ _ _ _ _ _ (Lib.hid rfl) (Lib.hid rfl) _ ?ha ?hb).mono ?_; (case ha => (first | exact FSl.two hg2 hg3 hg4 | exact FSl.two (by simp; omega) (cell_alloc hg3) (cell_alloc hg4))); (case hb => (first | exact FSl.of_blk (Blk.new _ _ _) | exact FSl.of_blk (Blk.bel (Blk.drew (Blk.new _ _ _)) hb1))); rintro e w2 ⟨rfl, hb2⟩))

  all_goals
    go_wp2
    go_ret
    exact ⟨rfl, by repeat (first | with_reducible assumption | with_reducible exact Bel.refl _ | with_reducible apply Bel.alloc | with_reducible apply Bel.drew | (with_reducible apply Bel.setCellR; (simp <;> omega)) | with_reducible refine Bel.behind (by with_reducible assumption) ?_)⟩

set_option maxRecDepth 100000 in
theorem open_xy {H : Type} {enc : TypeId × Value → H} {w : World} {base b0 : Nat} {sp : Nat → Bool} {held : Bool} {r : Reach} {v : Value} {dt : DataW H} {ps : List MemPlace}
    (hv : Value.okWide Try.prog w r b0 37 v) (h : DataW.Trod enc Try.prog w base sp held 37 v dt ps) : ∃ x y, v = .agg #[.float .f64 x, .float .f64 y] := by
  have hc37 : Try.prog.cellsOf 37 = 2 := by kernel_rfl
  have hc35 : Try.prog.cellsOf 35 = 1 := by kernel_rfl
  obtain ⟨cs, rfl, hsz⟩ := okWide_struct Try.underlying37 hv
  obtain ⟨c0, c1, rfl⟩ := Joins.array2 (hsz.trans hc37)
  obtain ⟨fuel, hf⟩ := h
  obtain ⟨_, _, e0⟩ := field_of Try.underlying37 hf 0 _ rfl
  obtain ⟨_, _, e1⟩ := field_of Try.underlying37 hf 1 _ rfl
  simp [hc35, Value.cells] at e0 e1
  obtain ⟨a, k0, _⟩ := trod_float Try.underlying35 e0
  obtain ⟨b, k1, _⟩ := trod_float Try.underlying35 e1
  simp at k0 k1
  subst k0 k1
  exact ⟨a, b, rfl⟩

theorem f7_any (x y : Nat) (w : World) : Calls Try.prog 7 #[.agg #[.float .f64 x, .float .f64 y]] w fun e w' => e = .returned (.bool true) ∧ Bel w w' := by
  by_cases h : (finB x && finB y) = true
  · simp only [Bool.and_eq_true] at h
    exact f7_in x y h.1 h.2 w
  · exact f7_out x y (by simpa using h) w

/-! ### The row's step -/
set_option maxRecDepth 100000 in
set_option maxHeartbeats 2000000 in
theorem fnXYPoint_lifted (os : Os) (started : os.Started) (H : Type) (enc : TypeId × Value → H) :
    ReturnsInHanded {} Try.checked os 7 .any (Rows.fnXYPointSpec.pre6 enc Try.prog Try.f7 Rows.fnXYPointRow.domain false) (Rows.fnXYPointSpec.post enc Try.prog Try.f7 false true false false) := by
  refine returnsInHanded_of_change (C := Try.checked) own started (by kernel_rfl) Try.func7
    (ChangeSpec.witness6 (enc := enc) (C := Try.checked) false ⟨#[], #[.agg #[.float .f64 0, .float .f64 0]], []⟩ 8 (by kernel_rfl) (by kernel_rfl) (by kernel_rfl) (by kernel_rfl)) ?_
  intro W base args ds gs before hval0 hW hcnd _
  have hval : ∀ (j : Nat) t v, Try.f7.params[j]? = some t → args[j]? = some v → Value.okWide Try.prog W .any base t v := hval0
  have hW' := hW
  obtain ⟨p, q, hA0, hV, rfl, hfz, hnd⟩ := hW
  have hA : DataW.TrodAll enc Try.prog W 0 (fun _ => true) true Try.f7.params.toList args.toList ds p := hA0
  rw [Try.params7] at hA hval
  obtain ⟨rfl, rfl⟩ := trodVars_none hV
  obtain ⟨v0, vs0, d0, ds0, p0, q0, hargs, rfl, rfl, h0, r0⟩ := trodAll_cons hA
  obtain ⟨rfl, rfl, rfl⟩ := trodAll_nil r0
  obtain rfl : args = #[v0] := by cases args; simp_all
  obtain ⟨x, y, rfl⟩ := open_xy (hval 0 37 v0 rfl rfl) h0
  refine (f7_any x y W).mono fun e W' ⟨he, hg⟩ => ?_
  subst he
  exact ⟨_, rfl, law_post (tb := 4) laidOut hW' rfl rfl rfl Try.underlying4 (by rw [Try.params7]; intro t ht; simp at ht; first | (subst ht; exact ⟨by kernel_rfl, of_decide_eq_true (by kernel_rfl)⟩) | (rcases ht with rfl <;> exact ⟨by kernel_rfl, of_decide_eq_true (by kernel_rfl)⟩)) hg⟩

theorem fnXYPoint_over : Rows.fnXYPointRow.holds Try.pinned (OpenSpec.ofChange Rows.fnXYPointSpec) :=
  OpenClaim.holds_of_wide 7 Try.f7 rfl rfl rfl rfl rfl rfl rfl ⟨rfl, rfl, rfl, rfl, rfl⟩ rfl rfl rfl rfl rfl (by kernel_rfl) Try.func7 (by kernel_rfl)
    (of_decide_eq_true (by kernel_rfl)) (by unfold Func.isWrapper; first | (rw [if_pos (by decide +kernel)]; kernel_rfl) | (rw [if_neg (by decide +kernel)]; exact ⟨rfl, rfl⟩))
    (fun os started H enc _ => fnXYPoint_lifted os started H enc)

/-- The statement. -/
theorem fnXYPoint_holds : Rows.FnXYPointSaid :=
  fnXYPoint_over
#print axioms fnXYPoint_holds
end Go.Proofs.Ytdebkmioaglmaaa
