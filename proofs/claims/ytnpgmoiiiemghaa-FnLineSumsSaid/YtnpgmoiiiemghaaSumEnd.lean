/-
  FnLineSums: every input; the row's step.
-/
import Derived.Test.YtnpgmoiiiemghaaSumLaw
namespace Go.Proofs.Ytnpgmoiiiemghaa
open Go.ChangeShapes Go.WideShapes Go.ChangeAt Go.RowKit
set_option maxRecDepth 100000 in
theorem sumLaw_edge (p : Option Addr) (n cap : Nat) (w : World) (h : 2147483647 < n) : Calls Try.prog 5 #[.slice p n cap] w fun e w' => e = .returned (.bool true) ∧ Bel w w' := by
  go_enter Try.func5, Try.ntmps5
  go_wp2
  go_ret
  exact ⟨rfl, Bel.refl _⟩
set_option maxRecDepth 100000 in
theorem sumLaw_wide (ps : List (Int × Int)) (v : Value) (w : World) (h : PtSl w v ps) (h31 : ps.length ≤ 2147483647) (hs : Hid ((decide (ps.length ≤ 200) && ps.all (smallB 1000)) = false)) :
    Calls Try.prog 5 #[v] w fun e w' => e = .returned (.bool true) ∧ Bel w w' := by
  have HP := Lib.hid h
  obtain ⟨p, cap, rfl, hl, hc, -⟩ := h
  go_enter Try.func5, Try.ntmps5
  go_wp2_with (go_at_call 7; refine (lined_any ps _ 1000 (by decide) (by decide) _ HP.out).mono ?_; rw [hs.out]; rintro e w1 ⟨rfl, hb1⟩)
  go_ret
  exact ⟨rfl, hb1⟩
theorem sumLaw_any (ps : List (Int × Int)) (v : Value) (w : World) (h : PtSl w v ps) : Calls Try.prog 5 #[v] w fun e w' => e = .returned (.bool true) ∧ Bel w w' := by
  by_cases h0 : 2147483647 < ps.length
  · obtain ⟨p, cap, rfl, -⟩ := h
    exact sumLaw_edge p _ cap w h0
  · by_cases hs : (decide (ps.length ≤ 200) && ps.all (smallB 1000)) = true
    · obtain ⟨h3, h4⟩ := Bool.and_eq_true_iff.1 hs
      exact sumLaw_main ps v w h (of_decide_eq_true h3) h4
    · exact sumLaw_wide ps v w h (by omega) (Lib.hid (by simpa using hs))

/-! ### The row's step -/
set_option maxRecDepth 100000 in
set_option maxHeartbeats 2000000 in
theorem fnLineSums_lifted (os : Os) (started : os.Started) (H : Type) (enc : TypeId × Value → H) :
    ReturnsInHanded {} Try.checked os 5 .any (Rows.fnLineSumsSpec.pre6 enc Try.prog Try.f5 Rows.fnLineSumsRow.domain false) (Rows.fnLineSumsSpec.post enc Try.prog Try.f5 false true false false) := by
  refine returnsInHanded_of_change (C := Try.checked) own started (by kernel_rfl) Try.func5
    (ChangeSpec.witness6 (enc := enc) (C := Try.checked) false ⟨#[], #[.slice none 0 0], []⟩ 8 (by kernel_rfl) (by kernel_rfl) (by kernel_rfl) (by kernel_rfl)) ?_
  intro W base args ds gs before hval0 hW hcnd _
  have hval : ∀ (j : Nat) t v, Try.f5.params[j]? = some t → args[j]? = some v → Value.okWide Try.prog W .any base t v := hval0
  have hW' := hW
  obtain ⟨p, q, hA0, hV, rfl, hfz, hnd⟩ := hW
  have hA : DataW.TrodAll enc Try.prog W 0 (fun _ => true) true Try.f5.params.toList args.toList ds p := hA0
  rw [Try.params5] at hA hval
  obtain ⟨rfl, rfl⟩ := trodVars_none hV
  obtain ⟨v0, vs0, d0, ds0, p0, q0, hargs, rfl, rfl, h0, r0⟩ := trodAll_cons hA
  obtain ⟨rfl, rfl, rfl⟩ := trodAll_nil r0
  obtain rfl : args = #[v0] := by cases args; simp_all
  obtain ⟨fuel, hf⟩ := h0
  obtain ⟨ps, hps⟩ : ∃ ps, PtSl W v0 ps := by
    obtain ⟨a0, l0, c0, rfl⟩ := okWide_slice Try.underlying22 (hval 0 22 v0 rfl rfl)
    exact open_pts hf
  refine (sumLaw_any ps _ W hps).mono fun e W' ⟨he, hg⟩ => ?_
  subst he
  exact ⟨_, rfl, law_post (tb := 4) laidOut hW' rfl rfl rfl Try.underlying4 (by rw [Try.params5]; intro t ht; simp at ht; first | (subst ht; exact ⟨by kernel_rfl, of_decide_eq_true (by kernel_rfl)⟩) | (rcases ht with rfl <;> exact ⟨by kernel_rfl, of_decide_eq_true (by kernel_rfl)⟩)) hg⟩

theorem fnLineSums_over : Rows.fnLineSumsRow.holds Try.pinned (OpenSpec.ofChange Rows.fnLineSumsSpec) :=
  OpenClaim.holds_of_wide 5 Try.f5 rfl rfl rfl rfl rfl rfl rfl ⟨rfl, rfl, rfl, rfl, rfl⟩ rfl rfl rfl rfl rfl (by kernel_rfl) Try.func5 (by kernel_rfl)
    (of_decide_eq_true (by kernel_rfl)) (by unfold Func.isWrapper; first | (rw [if_pos (by decide +kernel)]; kernel_rfl) | (rw [if_neg (by decide +kernel)]; exact ⟨rfl, rfl⟩))
    (fun os started H enc _ => fnLineSums_lifted os started H enc)

/-- The statement. -/
theorem fnLineSums_holds : Rows.FnLineSumsSaid :=
  fnLineSums_over
#print axioms fnLineSums_holds

end Go.Proofs.Ytnpgmoiiiemghaa
