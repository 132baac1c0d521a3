/-
  FnHighestDimension: the highest dimension of a geometry of bulk at most 1048576 is that of what is not empty in it.
-/
import Derived.Test.YtpipehenfcbjbaaGreatSpo
import Derived.Test.YtpipehenfcbjbaaGreatHd
import Derived.Test.YtpipehenfcbjbaaGreatOg
import Derived.JoinedCond
set_option linter.unusedVariables false
namespace Go.Proofs.YtpipehenfcbjbaaGreat
open Go.ChangeShapes Go.WideShapes Go.ChangeAt Go.RowKit
/-- A guard that reads what was passed over says no. -/
@[local go_sem] theorem yielded_undef (f : Bool → Option Bool) (g : Option Value → Option Bool) : yielded.match_1 (fun _ => Option Bool) (some undef) f g = g (some undef) := rfl
theorem high_lit : highOf (newOf (.mk 2 0 [0, 0, 4607182418800017408, 4607182418800017408] [])) = 1 := by decide
set_option maxHeartbeats 4000000 in
set_option maxRecDepth 100000 in
theorem highLaw_any (g : Gm) (hsz : g.size ≤ 1048576) : GmArg g fun v w => Calls Tryz.prog 3 #[v] w fun e w' => e = .returned (.bool true) ∧ Bel w w' := by
  intro F pn nn cn pk nk ck w hN hK
  have HFI : Hid (∀ (W : World), Bel w W → Calls Tryz.prog 4 #[.agg #[.int .i64 g.kind, .int .i64 g.dim, .slice pn nn cn, .slice pk nk ck]] W (IsBool W)) := Lib.hid fun W hW => GmArg.of (fits_any g) hN hK hW
  have HKA : Hid (∀ (W : World), Bel w W → Calls Tryz.prog 5 #[.agg #[.int .i64 g.kind, .int .i64 g.dim, .slice pn nn cn, .slice pk nk ck]] W (IsB (kAnyOf g) W)) := Lib.hid fun W hW => GmArg.of (kAny_any g hsz) hN hK hW
  have HIM : Hid (∀ (W : World), Bel w W → Calls Tryz.prog 6 #[.agg #[.int .i64 g.kind, .int .i64 g.dim, .slice pn nn cn, .slice pk nk ck]] W fun e w' => e = .returned (.int .i64 (highOf (newOf g))) ∧ Bel W w') := Lib.hid fun W hW => implHigh_any (fun _ => True) g hsz pn nn cn pk nk ck W (New.any W) ((hN.bel hW).mono fun _ _ _ => trivial) ((hK.bel hW).mono fun _ _ _ => trivial)
  have HNE : Hid (∀ (W : World), Bel w W → Calls Tryz.prog 8 #[.agg #[.int .i64 g.kind, .int .i64 g.dim, .slice pn nn cn, .slice pk nk ck]] W (IsGm (fun _ => True) (newOf g) W)) := Lib.hid fun W hW => GmArg.of (spNew_any g hsz (fun _ => True)) hN hK hW (New.any W)
  have HSH : Hid (∀ (W : World) p1 n1 c1 p2 n2 c2, FlSl (fun _ => True) W (.slice p1 n1 c1) (newOf g).nums → GmSl (fun _ => True) W (.slice p2 n2 c2) (newOf g).kids → Calls Tryz.prog 7 #[.agg #[.int .i64 (newOf g).kind, .int .i64 (newOf g).dim, .slice p1 n1 c1, .slice p2 n2 c2]] W fun e w' => e = .returned (.int .i64 (highOf (newOf g))) ∧ Bel W w') := Lib.hid fun W p1 n1 c1 p2 n2 c2 h1 h2 => spHigh_any (newOf g) _ p1 n1 c1 p2 n2 c2 W h1 h2
  have HLI : Hid (∀ (b : Nat) (W : World), Blk W b #[.float .f64 0, .float .f64 0, .float .f64 4607182418800017408, .float .f64 4607182418800017408] 29 → Calls Tryz.prog 6 #[.agg #[.int .i64 2, .int .i64 0, .slice (some ⟨b, 0, none⟩) 4 4, .slice none 0 0]] W fun e w' => e = .returned (.int .i64 1) ∧ Bel W w') := Lib.hid fun b W hb => by
    have := implHigh_any (fun _ => True) (.mk 2 0 [0, 0, 4607182418800017408, 4607182418800017408] []) (by decide) (some ⟨b, 0, none⟩) 4 4 none 0 0 W (New.any W) (FlSl.of_blk (t := 29) hb rfl (by decide) trivial) (GmSl.nil _ _)
    rw [high_lit] at this
    exact this
  clear hN hK
  generalize g.kind = kind at *
  generalize g.dim = dim at *
  generalize newOf g = ng at *
  generalize kAnyOf g = ka at *
  cases ka
  · go_enter Tryz.func3, Tryz.ntmps3
    go_wp2_with (go_at_call 4; (with_reducible refine (HFI.out _ ?hb).mono ?_); (case hb => (repeat (first | with_reducible assumption | with_reducible exact Bel.refl _ | with_reducible apply Bel.alloc | with_reducible apply Bel.drew | with_reducible apply Bel.drewN | ((with_reducible apply Bel.setCellR); (simp <;> omega)) | with_reducible refine Bel.behind (by with_reducible assumption) ?_))); rintro e w1 ⟨b1, rfl, hb1⟩; have HB1 : Hid (Bel w w1) := Lib.hid ((Bel.alloc1 w _).trans hb1); have B1 := (Blk.new w #[.int .i64 kind, .int .i64 dim, .slice pn nn cn, .slice pk nk ck] 25).bel hb1; obtain ⟨r1, z1, l1⟩ := B1.facts; have HP1 := Lib.hid B1; clear hb1 B1; cases b1)
    · go_ret
      exact ⟨rfl, HB1.out⟩
    · go_wp2
      have hB1 := HB1.out
      first | (go_region_with ((go_at_call 5; (with_reducible refine (HKA.out _ ?hb1a).mono ?_); (case hb1a => (repeat (first | with_reducible assumption | with_reducible exact Bel.refl _ | with_reducible apply Bel.alloc | with_reducible apply Bel.drew | with_reducible apply Bel.drewN | ((with_reducible apply Bel.setCellR); (simp <;> omega)) | with_reducible refine Bel.behind (by with_reducible assumption) ?_))); rintro e w2 ⟨rfl, hb2⟩; have HB2 : Hid (Bel w w2) := Lib.hid (hB1.trans (show Bel w1 w2 by (repeat (first | with_reducible assumption | with_reducible exact Bel.refl _ | with_reducible apply Bel.alloc | with_reducible apply Bel.drew | with_reducible apply Bel.drewN | ((with_reducible apply Bel.setCellR); (simp <;> omega)) | with_reducible refine Bel.behind (by with_reducible assumption) ?_))))))) | fail
      all_goals
        go_wp2
        go_ret
        exact ⟨rfl, HB2.out⟩
  · go_enter Tryz.func3, Tryz.ntmps3
    go_wp2_with (go_at_call 4; (with_reducible refine (HFI.out _ ?hbb).mono ?_); (case hbb => (repeat (first | with_reducible assumption | with_reducible exact Bel.refl _ | with_reducible apply Bel.alloc | with_reducible apply Bel.drew | with_reducible apply Bel.drewN | ((with_reducible apply Bel.setCellR); (simp <;> omega)) | with_reducible refine Bel.behind (by with_reducible assumption) ?_))); rintro e w1 ⟨b1, rfl, hb1⟩; have HB1 : Hid (Bel w w1) := Lib.hid ((Bel.alloc1 w _).trans hb1); have B1 := (Blk.new w #[.int .i64 kind, .int .i64 dim, .slice pn nn cn, .slice pk nk ck] 25).bel hb1; obtain ⟨r1, z1, l1⟩ := B1.facts; have HP1 := Lib.hid B1; clear hb1 B1; cases b1)
    · go_ret
      exact ⟨rfl, HB1.out⟩
    · go_wp2
      (go_region_with (first
        | (go_at_call 5; (with_reducible refine (HKA.out _ ?hb1b).mono ?_); (case hb1b => (have HB := HB1.out; (repeat (first | with_reducible assumption | with_reducible exact Bel.refl _ | with_reducible apply Bel.alloc | with_reducible apply Bel.drew | with_reducible apply Bel.drewN | ((with_reducible apply Bel.setCellR); (simp <;> omega)) | with_reducible refine Bel.behind (by with_reducible assumption) ?_)))); rintro e w2 ⟨rfl, hb2⟩; have HB2 : Hid (Bel w w2) := Lib.hid (HB1.out.trans (show Bel w1 w2 by (repeat (first | with_reducible assumption | with_reducible exact Bel.refl _ | with_reducible apply Bel.alloc | with_reducible apply Bel.drew | with_reducible apply Bel.drewN | ((with_reducible apply Bel.setCellR); (simp <;> omega)) | with_reducible refine Bel.behind (by with_reducible assumption) ?_)))); have B2 := HP1.out.bel (show Bel w1 w2 by (repeat (first | with_reducible assumption | with_reducible exact Bel.refl _ | with_reducible apply Bel.alloc | with_reducible apply Bel.drew | with_reducible apply Bel.drewN | ((with_reducible apply Bel.setCellR); (simp <;> omega)) | with_reducible refine Bel.behind (by with_reducible assumption) ?_))); obtain ⟨r2, z2, l2⟩ := B2.facts; have HP2 := Lib.hid B2; clear hb2 B2)
        | (go_at_call 8; (with_reducible refine (HNE.out _ ?hbn).mono ?_); (case hbn => (have HB := HB2.out; (repeat (first | with_reducible assumption | with_reducible exact Bel.refl _ | with_reducible apply Bel.alloc | with_reducible apply Bel.drew | with_reducible apply Bel.drewN | ((with_reducible apply Bel.setCellR); (simp <;> omega)) | with_reducible refine Bel.behind (by with_reducible assumption) ?_)))); rintro e w3 ⟨p3, n3, c3, p4, n4, c4, rfl, hf3, hg3, hb3⟩; have HF3 := Lib.hid hf3; have HG3 := Lib.hid hg3; have HB3 : Hid (Bel w w3) := Lib.hid ((show Bel w _ by (have HB := HB2.out; (repeat (first | with_reducible assumption | with_reducible exact Bel.refl _ | with_reducible apply Bel.alloc | with_reducible apply Bel.drew | with_reducible apply Bel.drewN | ((with_reducible apply Bel.setCellR); (simp <;> omega)) | with_reducible refine Bel.behind (by with_reducible assumption) ?_)))).trans hb3); clear hf3 hg3 hb3)
        | (go_at_call 7; (with_reducible refine (HSH.out _ _ _ _ _ _ _ ?hf4 ?hg4).mono ?_); (case hf4 => exact HF3.out); (case hg4 => exact HG3.out); rintro e w4 ⟨rfl, hb4⟩; have HB4 : Hid (Bel w w4) := Lib.hid (HB3.out.trans hb4); clear hb4)
        | (go_at_call 6; (with_reducible refine (HLI.out _ _ ?hbl).mono ?_); (case hbl => exact Blk.new _ _ _); rintro e w6 ⟨rfl, hb6⟩; have HB6 : Hid (Bel w w6) := Lib.hid ((show Bel w _ by (have HB := HB4.out; (repeat (first | with_reducible assumption | with_reducible exact Bel.refl _ | with_reducible apply Bel.alloc | with_reducible apply Bel.drew | with_reducible apply Bel.drewN | ((with_reducible apply Bel.setCellR); (simp <;> omega)) | with_reducible refine Bel.behind (by with_reducible assumption) ?_)))).trans hb6); clear hb6)
        | (go_at_call 6; (with_reducible refine (HIM.out _ ?hbm).mono ?_); (case hbm => (have HB := HB2.out; (repeat (first | with_reducible assumption | with_reducible exact Bel.refl _ | with_reducible apply Bel.alloc | with_reducible apply Bel.drew | with_reducible apply Bel.drewN | ((with_reducible apply Bel.setCellR); (simp <;> omega)) | with_reducible refine Bel.behind (by with_reducible assumption) ?_)))); rintro e w5 ⟨rfl, hb5⟩; have HB2 : Hid (Bel w w5) := Lib.hid ((show Bel w _ by (have HB := HB2.out; (repeat (first | with_reducible assumption | with_reducible exact Bel.refl _ | with_reducible apply Bel.alloc | with_reducible apply Bel.drew | with_reducible apply Bel.drewN | ((with_reducible apply Bel.setCellR); (simp <;> omega)) | with_reducible refine Bel.behind (by with_reducible assumption) ?_)))).trans hb5); have HP2 := Lib.hid (HP2.out.bel hb5); have B2 := HP2.out; obtain ⟨r2, z2, l2⟩ := B2.facts; clear hb5 B2)))
      all_goals
        go_wp2
        go_ret
        exact ⟨rfl, HB6.out⟩

/-! ### The row's step -/
set_option maxRecDepth 100000 in
set_option maxHeartbeats 2000000 in
theorem fnHighestDimension_lifted (os : Os) (started : os.Started) (H : Type) (enc : TypeId × Value → H) (F0 : Stop.Interp) :
    ReturnsInHanded {} Tryz.checked os 3 .any ((Rows.OpenSpec.upto Rows.fnHighestDimensionSpec).pre6 enc Tryz.prog Tryz.f3 Rows.fnHighestDimensionUptoRow.domain false) (((Rows.OpenSpec.upto Rows.fnHighestDimensionSpec).at F0).post enc Tryz.prog Tryz.f3 false true false false) := by
  refine returnsInHanded_of_cond (C := Tryz.checked) (s := Rows.OpenSpec.upto Rows.fnHighestDimensionSpec) (k := Rows.uptoSmall) rfl own started (by kernel_rfl) Tryz.func3
    (OpenSpec.witness (enc := enc) (C := Tryz.checked) (s := Rows.OpenSpec.upto Rows.fnHighestDimensionSpec) (k := Rows.uptoSmall) rfl false ⟨#[], #[.agg #[.int .i64 0, .int .i64 0, .slice none 0 0, .slice none 0 0]], []⟩ 8 (by kernel_rfl) (by kernel_rfl) (by kernel_rfl)
      (x := ([.agg [.lit (.int .i64 0), .lit (.int .i64 0), .nil, .nil]], [], [])) (by kernel_rfl) (by kernel_rfl) (by kernel_rfl)) ?_
  intro W base args ds gs before hval0 hW _ hk _
  have hval : ∀ (j : Nat) t v, Tryz.f3.params[j]? = some t → args[j]? = some v → Value.okWide Tryz.prog W .any base t v := hval0
  have hW' := hW
  obtain ⟨p, q, hA0, hV, rfl, hfz, hnd⟩ := hW
  have hA : DataW.TrodAll enc Tryz.prog W 0 (fun _ => true) true Tryz.f3.params.toList args.toList ds p := hA0
  rw [Tryz.params3] at hA hval
  obtain ⟨rfl, rfl⟩ := trodVars_none hV
  obtain ⟨v0, vs0, d0, ds0, p0, q0, hargs, rfl, rfl, h0, r0⟩ := trodAll_cons hA
  obtain ⟨rfl, rfl, rfl⟩ := trodAll_nil r0
  obtain rfl : args = #[v0] := by cases args; simp_all
  obtain ⟨g, hg, pn, nn, cn, pk, nk, ck, rfl, hN, hK⟩ := open_geom h0 (hval 0 25 v0 rfl rfl)
  have hb : g.size ≤ 1048576 := by
    have h := of_decide_eq_true hk
    simp only [List.append_nil, Rows.uptoBulkAll] at h
    omega
  refine (highLaw_any g hb (fun _ => True) pn nn cn pk nk ck W hN hK).mono fun e W' ⟨he, hg⟩ => ?_
  subst he
  exact ⟨_, rfl, law_post (tb := 4) laidOut hW' rfl rfl rfl Tryz.underlying4 (by rw [Tryz.params3]; intro t ht; simp at ht; subst ht; exact ⟨by kernel_rfl, of_decide_eq_true (by kernel_rfl)⟩) hg⟩

theorem fnHighestDimension_over : Rows.fnHighestDimensionUptoRow.holds Tryz.pinned (Rows.OpenSpec.upto Rows.fnHighestDimensionSpec) :=
  OpenClaim.holds_of_cond 3 Tryz.f3 rfl rfl rfl rfl rfl rfl rfl ⟨rfl, rfl, rfl, rfl, rfl⟩ rfl rfl rfl rfl rfl (by kernel_rfl) Tryz.func3 (by kernel_rfl)
    (of_decide_eq_true (by kernel_rfl)) (by unfold Func.isWrapper; first | (rw [if_pos (by decide +kernel)]; kernel_rfl) | (rw [if_neg (by decide +kernel)]; exact ⟨rfl, rfl⟩))
    (fun os started H enc _ F0 => fnHighestDimension_lifted os started H enc F0)

/-- The statement. -/
theorem fnHighestDimension_holds : Rows.FnHighestDimensionUptoSaid :=
  fnHighestDimension_over
#print axioms fnHighestDimension_holds
end Go.Proofs.YtpipehenfcbjbaaGreat
