/-
  For all three bools the law FnEdgeIsTurned answers true: an edge lies where the one that runs the other way lies, and so on. No condition.
-/
import Derived.Test.YtdebkmioaglmaaaRows
import Derived.WalkKit
import Derived.ProofKit
import Derived.OpenShut
namespace Go.Proofs.Ytdebkmioaglmaaa.fnEdgeIsTurned
open Go.ChangeShapes Go.WideShapes Go.ChangeAt Go.RowKit
set_option linter.unusedVariables false      -- a walk need not use every 'w<i>' (that an integer argument fits its kind)

theorem own : ownKnob Try.prog.godebug = none := by kernel_rfl

/-- Where an edge lies: 0 in, 1 on the boundary, 2 out. -/
def edgeV (l r i : Bool) : Int := if l && r then 0 else if l || r then 1 else if i then 0 else 2

set_option maxHeartbeats 4000000 in
theorem f40_any (l r i : Bool) (w : World) :
    Calls Try.prog 40 #[.bool l, .bool r, .bool i] w fun e w' => e = .returned (.int .i64 (edgeV l r i)) ∧ Grown w w' := by
  cases l <;> cases r <;> cases i
  all_goals
    simp only [edgeV, Bool.and_true, Bool.and_false, Bool.or_true, Bool.or_false, if_true, Bool.false_eq_true, if_false]
    go_enter Try.func40, Try.ntmps40
    go_wp2
    go_ret
    exact ⟨rfl, by repeat (first | exact Grown.refl _ | apply Grown.drew | apply Grown.alloc)⟩

theorem f18_any (l r i : Bool) (w : World) :
    Calls Try.prog 18 #[.bool l, .bool r, .bool i] w fun e w' => e = .returned (.int .i64 (edgeV l r i)) ∧ Grown w w' := by
  go_enter Try.func18, Try.ntmps18
  go_wp2_with (go_at_call 40; refine (f40_any _ _ _ _).mono ?_; rintro e w' ⟨rfl, hg⟩)
  go_ret
  exact ⟨rfl, hg⟩

theorem f19_true (w : World) :
    Calls Try.prog 19 #[.bool true] w fun e w' => e = .returned (.int .i64 0) ∧ Grown w w' := by
  go_enter Try.func19, Try.ntmps19
  go_wp2
  go_ret
  exact ⟨rfl, by repeat (first | exact Grown.refl _ | apply Grown.drew | apply Grown.alloc)⟩

theorem Grown.trans {a b c : World} (h : Grown a b) (k : Grown b c) : Grown a c :=
  ⟨World.keptBut_trans h.1 k.1, fun x => (k.2.1 x).trans (h.2.1 x), Nat.le_trans h.2.2 k.2.2⟩

set_option maxHeartbeats 4000000 in
theorem walk (a0 : Bool) (a1 : Bool) (a2 : Bool) (w : World) :
    Calls Try.prog 6 #[.bool a0, .bool a1, .bool a2] w fun e w' => e = .returned (.bool true) ∧ Grown w w' := by
  cases a0 <;> cases a1 <;> cases a2
  all_goals
    go_enter Try.func6, Try.ntmps6
    go_wp2_with (first | (go_at_call 18; refine (f18_any _ _ _ _).mono ?_; simp only [edgeV, Bool.and_true, Bool.and_false, Bool.or_true, Bool.or_false, if_true, Bool.false_eq_true, if_false]; rintro e w' ⟨rfl, hg⟩) | (go_at_call 19; refine (f19_true _).mono ?_; rintro e w' ⟨rfl, hg⟩))
    go_ret
    exact ⟨rfl, by repeat (first | assumption | exact Grown.refl _ | refine Grown.trans ?_ (by assumption))⟩

/-! ### THE ROW's STEP: WRITTEN OUT: LEAVE IT -/
set_option maxRecDepth 100000 in
theorem lifted (os : Os) (started : os.Started) (H : Type) (enc : TypeId × Value → H) :
    ReturnsInHanded {} Try.checked os 6 .any (Rows.fnEdgeIsTurnedSpec.pre6 enc Try.prog Try.f6 Rows.fnEdgeIsTurnedRow.domain false) (Rows.fnEdgeIsTurnedSpec.post enc Try.prog Try.f6 false true false false) := by
  refine returnsInHanded_of_change (C := Try.checked) own started (by kernel_rfl) Try.func6
    (ChangeSpec.witness6 (enc := enc) (C := Try.checked) false ⟨#[], #[.bool false, .bool false, .bool false], []⟩ 8 (by kernel_rfl) (by kernel_rfl) (by kernel_rfl) (by kernel_rfl)) ?_
  intro W base args ds gs before hval0 hW hcnd _
  have hval : ∀ (j : Nat) t v, Try.f6.params[j]? = some t → args[j]? = some v → Value.okWide Try.prog W .any base t v := hval0
  have hW' := hW
  obtain ⟨p, q, hA0, hV, rfl, hfz, hnd⟩ := hW
  have hA : DataW.TrodAll enc Try.prog W 0 (fun _ => true) true Try.f6.params.toList args.toList ds p := hA0
  rw [Try.params6] at hA hval
  obtain ⟨v0, vs0, d0, ds0, p0, q0, hargs, rfl, rfl, h0, r0⟩ := trodAll_cons hA
  obtain ⟨v1, vs1, d1, ds1, p1, q1, rfl, rfl, rfl, h1, r1⟩ := trodAll_cons r0
  obtain ⟨v2, vs2, d2, ds2, p2, q2, rfl, rfl, rfl, h2, r2⟩ := trodAll_cons r1
  obtain ⟨rfl, rfl, rfl⟩ := trodAll_nil r2
  obtain rfl : args = #[v0, v1, v2] := by cases args; simp_all
  obtain ⟨rfl, rfl⟩ := trodVars_none hV
  obtain ⟨a0, rfl, rfl, rfl⟩ := open_bool Try.underlying4 (hval 0 4 v0 rfl rfl) h0
  obtain ⟨a1, rfl, rfl, rfl⟩ := open_bool Try.underlying4 (hval 1 4 v1 rfl rfl) h1
  obtain ⟨a2, rfl, rfl, rfl⟩ := open_bool Try.underlying4 (hval 2 4 v2 rfl rfl) h2
  clear hA0 hval0
  simp only [List.append_nil] at hW'
  refine (walk a0 a1 a2 W).mono fun e W' ⟨he, hg⟩ => ?_
  subst he
  exact ⟨_, rfl, post_of_same (pa := []) (pv := []) hW' (fun _ _ _ => (trodAll_cons_mk (shut_bool Try.underlying4 _) trodAll_mk0)) (fun sp _ => (trodAll_cons_mk (shut_bool Try.underlying4 _) (trodAll_cons_mk (shut_bool Try.underlying4 _) (trodAll_cons_mk (shut_bool Try.underlying4 _) trodAll_mk0)))) (fun _ _ => rfl) rfl
    (hg.frame _) hg.2.1 (ok_one (by kernel_rfl) rfl (okWide_bool_mk Try.underlying4 _))⟩

theorem over : Rows.fnEdgeIsTurnedRow.holds Try.pinned (OpenSpec.ofChange Rows.fnEdgeIsTurnedSpec) :=
  OpenClaim.holds_of_wide 6 Try.f6 rfl rfl rfl rfl rfl rfl rfl ⟨rfl, rfl, rfl, rfl, rfl⟩ rfl rfl rfl rfl rfl (by kernel_rfl) Try.func6 (by kernel_rfl)
    (of_decide_eq_true (by kernel_rfl)) (by unfold Func.isWrapper; first | (rw [if_pos (by decide +kernel)]; kernel_rfl) | (rw [if_neg (by decide +kernel)]; exact ⟨rfl, rfl⟩))
    (fun os started H enc _ => lifted os started H enc)

/-- ████ THE STATEMENT ████ -/
theorem proved : Rows.FnEdgeIsTurnedSaid :=
  over
#print axioms proved
end Go.Proofs.Ytdebkmioaglmaaa.fnEdgeIsTurned
