/-
  FnTreeStops: the row's step, the card.
-/
import Derived.Test.YtdfamnlmhikolaaDoorTx
import Derived.Test.YtdfamnlmhikolaaDoorTxo
import Derived.Test.YtdfamnlmhikolaaDoorCards
import Derived.Test.YtdfamnlmhikolaaDoorTie
import Derived.ProofKit
import Derived.LaidMore
import Derived.OpenShut
import Derived.Stop.Joined
import Derived.Stop.LaidErr
import Derived.SevenTiedAt
set_option linter.unusedVariables false
namespace Go.Proofs.YtdfamnlmhikolaaDoor
open Go.ChangeShapes Go.WideShapes Go.ChangeAt Go.RowKit Go.Stop
abbrev laidS : List (String × DataW Unit) := [("pub-eidograph/pub/simplefeatures/rtree.Stop", Rows.laid_pub_eidograph_pub_simplefeatures_rtree_Stop)]
theorem gStop : Tryd.prog.globalNamed "pub-eidograph/pub/simplefeatures/rtree.Stop" = some 0 := by kernel_rfl
theorem gStopType : (Tryd.prog.globals[0]?).map (·.type) = some 57 := by kernel_rfl
theorem star : "*" ++ "errors.errorString" = "*errors.errorString" := by decide
theorem rowStar (u : TypeId) (h : Tryd.prog.typeName? 3 u = some "*errors.errorString") : u = 128 :=
  typeName_ptr_named (nm := "errors.errorString") (by rw [star]; kernel_rfl) (by kernel_rfl) (by decide) u (by rw [star]; exact h)
/-- What the condition gives: the variable's cell. -/
theorem of_laid {W : World} (h : laidMetH Tryd.prog laidS W) : ∃ a, W.cell? ⟨0, 0, none⟩ = some (.iface 128 (.pointer (some a))) := by
  rw [MakeChecks.laidMetH_plain _ _ _ (by kernel_rfl)] at h
  obtain ⟨a, s, hv, hc, _, _⟩ := laid_sentinel h gStop gStopType Tryd.underlying57 rowStar Tryd.underlying128 Tryd.underlying153 rfl rfl Tryd.underlying9 (by kernel_rfl) (by kernel_rfl)
  exact ⟨a, by simpa using World.var?_cell gStop hv 0⟩
theorem door_met (os : Os) (args : Array Value) : laidMetH Tryd.prog laidS ((World.doorLaid Tryd.prog 400 os).forCall (fun _ _ => 0) ⟨#[], args, []⟩).memory :=
  laidMetH_of_parts3 (fuel := 8) (laidMet_of_run' 8 (by kernel_rfl) (by kernel_rfl)) (by kernel_rfl) (by kernel_rfl)
set_option maxRecDepth 100000 in
set_option maxHeartbeats 2000000 in
theorem fnTreeStops_lifted (os : Os) (started : os.Started) (H : Type) (enc : TypeId × Value → H) :
    ReturnsInHanded {} Tryd.checked os 4 .any (fun w args => (Rows.fnTreeStopsSpec.pre enc Tryd.prog Tryd.f4 [] false w args ∧ laidMetH Tryd.prog laidS w) ∧ sizedMet enc Tryd.prog Tryd.f4 (OpenSpec.ofChange Rows.fnTreeStopsSpec) false w args)
      (Rows.fnTreeStopsSpec.post enc Tryd.prog Tryd.f4 false true false false) := by
  refine returnsInHanded_of_change_and (C := Tryd.checked) (X := fun w _ => laidMetH Tryd.prog laidS w) (fun _ _ _ hh h => h.of_heap hh) own started (by kernel_rfl) Tryd.func4
    (ChangeSpec.witness_shaped (enc := enc) (C := Tryd.checked) (os := os) (X := fun w _ => laidMetH Tryd.prog laidS w) false (World.doorLaid Tryd.prog 400 os) #[.slice none 0 0, .agg #[.float .f64 0, .float .f64 0, .float .f64 0, .float .f64 0], .int .i64 0, .int .i64 0, .bool false] 8 rfl (World.shaped_of_RefB (by kernel_rfl) (by kernel_rfl)) (by kernel_rfl) (by kernel_rfl) (by kernel_rfl) (door_met os _)) ?_
  intro W base args ds gs before hval0 hW _ _ hL _
  have hval : ∀ (j : Nat) t v, Tryd.f4.params[j]? = some t → args[j]? = some v → Value.okWide Tryd.prog W .any base t v := hval0
  have hW' := hW
  obtain ⟨p, q, hA0, hV, rfl, hfz, hnd⟩ := hW
  have hA : DataW.TrodAll enc Tryd.prog W 0 (fun _ => true) true Tryd.f4.params.toList args.toList ds p := hA0
  rw [Tryd.params4] at hA hval
  obtain ⟨rfl, rfl⟩ := trodVars_none hV
  obtain ⟨v0, vs0, d0, ds0, p0, q0, hargs, rfl, rfl, h0, r0⟩ := trodAll_cons hA
  obtain ⟨v1, vs1, d1, ds1, p1, q1, rfl, rfl, rfl, h1, r1⟩ := trodAll_cons r0
  obtain ⟨v2, vs2, d2, ds2, p2, q2, rfl, rfl, rfl, h2, r2⟩ := trodAll_cons r1
  obtain ⟨v3, vs3, d3, ds3, p3, q3, rfl, rfl, rfl, h3, r3⟩ := trodAll_cons r2
  obtain ⟨v4, vs4, d4, ds4, p4, q4, rfl, rfl, rfl, h4, r4⟩ := trodAll_cons r3
  obtain ⟨rfl, rfl, rfl⟩ := trodAll_nil r4
  obtain rfl : args = #[v0, v1, v2, v3, v4] := by cases args; simp_all
  obtain ⟨a, hg⟩ := of_laid hL
  obtain ⟨sp0, sn0, sc0, rfl⟩ := okWide_slice Tryd.underlying22 (hval 0 22 v0 rfl rfl)
  obtain ⟨_, hf0⟩ := h0
  obtain ⟨xs, hR, hid⟩ := open_items hf0
  obtain ⟨x, y, z, u, rfl⟩ := open_box (hval 1 28 v1 rfl rfl) h1
  obtain ⟨stop, rfl, rfl, rfl, hwS⟩ := open_int Tryd.underlying3 (hval 2 3 v2 rfl rfl) h2
  obtain ⟨how, rfl⟩ := okWide_int Tryd.underlying3 (hval 3 3 v3 rfl rfl)
  obtain ⟨priority, rfl, rfl, rfl⟩ := open_bool Tryd.underlying4 (hval 4 4 v4 rfl rfl) h4
  refine (treeStops_any a _ xs x y z u stop how priority hid hwS W hR hg).mono fun e W' ⟨he, hb⟩ => ?_
  subst he
  exact ⟨_, rfl, law_post (tb := 4) laidOut hW' rfl rfl rfl Tryd.underlying4 (by rw [Tryd.params4]; intro t ht; simp at ht; rcases ht with rfl | rfl | rfl | rfl <;> exact ⟨by kernel_rfl, of_decide_eq_true (by kernel_rfl)⟩) hb⟩
theorem fnTreeStops_row_holds : Rows.FnTreeStopsSaid :=
  OpenClaim.holds_of_wide 4 Tryd.f4 rfl rfl rfl rfl rfl rfl rfl ⟨rfl, rfl, rfl, rfl, rfl⟩ rfl rfl rfl rfl rfl (by kernel_rfl) Tryd.func4 (by kernel_rfl)
    (of_decide_eq_true (by kernel_rfl)) (by unfold Func.isWrapper; first | (rw [if_pos (by decide +kernel)]; kernel_rfl) | (rw [if_neg (by decide +kernel)]; exact ⟨rfl, rfl⟩))
    (fun os started H enc _ => fnTreeStops_lifted os started H enc)
theorem fnTreeStops_holds : Rows.FnTreeStopsCardSaid :=
  Claim7.holds_tied_plain_at .later [] [.sentinel] true (true, "fe9054159d7202389f997208d673cf664261c7ecc8d0199567f3e7e0516c9456") true
    fnTreeStops_row_holds (fun _ h => by cases h) (by kernel_rfl) (fun _ h => by cases h) fnTreeStops_row_tie rfl ⟨rfl, rfl⟩ (by kernel_rfl) rfl
    (fun f fn hf hfn => by
      obtain rfl : f = 4 := Option.some.inj ((show Tryd.prog.funcNamed "pub-eidograph/laws.FnTreeStops" = some 4 by kernel_rfl).symm.trans hf) |>.symm
      obtain rfl : fn = Tryd.f4 := (Option.some.inj (Tryd.func4.symm.trans hfn)).symm
      exact ⟨by kernel_rfl, fun j t ht => by
        rw [Tryd.params4] at ht
        have hm : t ∈ [22, 28, 3, 3, 4] := by simpa using Array.mem_of_getElem? ht
        have hall : ([22, 28, 3, 3, 4].all fun u => !Tryd.prog.wantsStandIn u) = true := by kernel_rfl
        exact (show Tryd.prog.wantsStandIn t = false by simpa using List.all_eq_true.1 hall t hm)⟩)
    (by kernel_rfl)
#print axioms fnTreeStops_holds
end Go.Proofs.YtdfamnlmhikolaaDoor
