/-
  FnTreeMoved: the row's step, the card.
-/
import Derived.Test.YtdfamnlmhikolaaDoorTz
import Derived.Test.YtdfamnlmhikolaaDoorTxo
import Derived.Test.YtdfamnlmhikolaaDoorCards
import Derived.Test.YtdfamnlmhikolaaDoorTie
import Derived.ProofKit
import Derived.LaidMore
import Derived.OpenShut
import Derived.Stop.Joined
import Derived.Stop.LaidErr
import Derived.SevenTiedAt
set_option linter.unusedVariables false
namespace Go.Proofs.YtdfamnlmhikolaaDoor
open Go.ChangeShapes Go.WideShapes Go.ChangeAt Go.RowKit Go.Stop
set_option maxRecDepth 100000 in
theorem open_asks {H : Type} {enc : TypeId × Value → H} {w : World} {base fuel : Nat} {sp : Nat → Bool} {held : Bool} {v : Value} {x : DataW H × List MemPlace} (h : DataW.trod enc Tryd.prog w base sp held fuel 23 [v] = some x) : ∃ xs, AskSl w v xs := by
  rcases Go.Deep.open_slice Tryd.underlying23 h with ⟨hv, _⟩ | ⟨a, len, cap, m, n, D, Pl, hv, _, hl, hm, hmm, _, hi⟩
  · cases hv
    exact ⟨[], none, 0, rfl, by simp, by simp, fun k => absurd rfl k⟩
  · cases hv
    have hlm : len ≤ m := by rw [hmm]; split <;> omega
    obtain ⟨xs, hxs, hp⟩ := list_of (P := fun i (q : RawAsk) => w.cell? (a.add (i * 7)) = some (.int .i64 q.dov) ∧ w.cell? ((a.add (i * 7)).add 1) = some (.float .f64 q.a) ∧ w.cell? ((a.add (i * 7)).add 2) = some (.float .f64 q.b) ∧ w.cell? ((a.add (i * 7)).add 3) = some (.float .f64 q.c) ∧ w.cell? ((a.add (i * 7)).add 4) = some (.float .f64 q.d) ∧ w.cell? ((a.add (i * 7)).add 5) = some (.int .i64 q.stop) ∧ w.cell? ((a.add (i * 7)).add 6) = some (.int .i64 q.how)) len (fun i hlt => by
      obtain ⟨cs, hcs, ht⟩ := hi i (by omega)
      rw [c34] at hcs
      obtain ⟨_, hlen, hat⟩ := World.cells?_some hcs
      obtain ⟨k0, k1, k2, k3, k4, k5, k6, rfl⟩ : ∃ k0 k1 k2 k3 k4 k5 k6, cs = [k0, k1, k2, k3, k4, k5, k6] := by
        match cs, hlen with
        | [k0, k1, k2, k3, k4, k5, k6], _ => exact ⟨k0, k1, k2, k3, k4, k5, k6, rfl⟩
      obtain ⟨_, _, e0⟩ := field_of Tryd.underlying34 ht 0 _ rfl
      obtain ⟨_, _, e1⟩ := field_of Tryd.underlying34 ht 1 _ rfl
      obtain ⟨_, _, e2⟩ := field_of Tryd.underlying34 ht 2 _ rfl
      obtain ⟨_, _, e3⟩ := field_of Tryd.underlying34 ht 3 _ rfl
      simp [c28, c3] at e0 e1 e2 e3
      obtain ⟨a, b, c, d, rfl, rfl, rfl, rfl⟩ := box_cells e1
      obtain ⟨n0, g0, _, _⟩ := DataW.trod_int Tryd.underlying3 e0
      obtain ⟨n2, g2, _, _⟩ := DataW.trod_int Tryd.underlying3 e2
      obtain ⟨n3, g3, _, _⟩ := DataW.trod_int Tryd.underlying3 e3
      simp at g0 g2 g3
      subst g0 g2 g3
      exact ⟨⟨n0, a, b, c, d, n2, n3⟩, hat 0 (by decide), hat 1 (by decide), hat 2 (by decide), hat 3 (by decide), hat 4 (by decide), hat 5 (by decide), hat 6 (by decide)⟩)
    subst hxs
    refine ⟨xs, some a, cap, rfl, hl, by unfold maxLen at hm; omega, fun hne => ?_⟩
    · cases hq : xs with
      | nil => exact absurd hq hne
      | cons q0 r =>
        have hc0 := (hp 0 q0 (by rw [hq]; rfl)).1
        have hz := spot_none hc0
        obtain ⟨b, off, spot⟩ := a
        have hz' : spot = none := by simpa [Addr.add] using hz
        subst hz'
        rw [← hq]
        have e : ∀ i, Addr.add ⟨b, off, none⟩ i = ⟨b, off + i, none⟩ := fun i => by
          unfold Addr.add
          split
          · rename_i hz2; rw [hz2]; rfl
          · rfl
        have e' : ∀ i j, Addr.add ⟨b, off + i, none⟩ j = ⟨b, off + i + j, none⟩ := fun i j => by
          unfold Addr.add
          split
          · rename_i hz2; rw [hz2]; rfl
          · rfl
        refine ⟨b, off, rfl, ?_, fun i q hq => ?_⟩
        · rcases Nat.lt_or_ge b w.heap.size with g | g
          · exact g
          · simp [World.cell?, Addr.add, Array.getElem?_eq_none g] at hc0
        · have h1 := hp i q hq
          simp only [e, e'] at h1
          exact h1
abbrev laidS : List (String × DataW Unit) := [("pub-eidograph/pub/simplefeatures/rtree.Stop", Rows.laid_pub_eidograph_pub_simplefeatures_rtree_Stop)]
theorem gStop : Tryd.prog.globalNamed "pub-eidograph/pub/simplefeatures/rtree.Stop" = some 0 := by kernel_rfl
theorem gStopType : (Tryd.prog.globals[0]?).map (·.type) = some 57 := by kernel_rfl
theorem star : "*" ++ "errors.errorString" = "*errors.errorString" := by decide
theorem rowStar (u : TypeId) (h : Tryd.prog.typeName? 3 u = some "*errors.errorString") : u = 128 :=
  typeName_ptr_named (nm := "errors.errorString") (by rw [star]; kernel_rfl) (by kernel_rfl) (by decide) u (by rw [star]; exact h)
/-- What the condition gives: the variable's cell. -/
theorem of_laid {W : World} (h : laidMetH Tryd.prog laidS W) : ∃ a, W.cell? ⟨0, 0, none⟩ = some (.iface 128 (.pointer (some a))) := by
  rw [MakeChecks.laidMetH_plain _ _ _ (by kernel_rfl)] at h
  obtain ⟨a, s, hv, hc, _, _⟩ := laid_sentinel h gStop gStopType Tryd.underlying57 rowStar Tryd.underlying128 Tryd.underlying153 rfl rfl Tryd.underlying9 (by kernel_rfl) (by kernel_rfl)
  exact ⟨a, by simpa using World.var?_cell gStop hv 0⟩
theorem door_met (os : Os) (args : Array Value) : laidMetH Tryd.prog laidS ((World.doorLaid Tryd.prog 400 os).forCall (fun _ _ => 0) ⟨#[], args, []⟩).memory :=
  laidMetH_of_parts3 (fuel := 8) (laidMet_of_run' 8 (by kernel_rfl) (by kernel_rfl)) (by kernel_rfl) (by kernel_rfl)
set_option maxRecDepth 100000 in
set_option maxHeartbeats 2000000 in
theorem fnTreeMoved_lifted (os : Os) (started : os.Started) (H : Type) (enc : TypeId × Value → H) :
    ReturnsInHanded {} Tryd.checked os 3 .any (fun w args => (Rows.fnTreeMovedSpec.pre enc Tryd.prog Tryd.f3 [] false w args ∧ laidMetH Tryd.prog laidS w) ∧ sizedMet enc Tryd.prog Tryd.f3 (OpenSpec.ofChange Rows.fnTreeMovedSpec) false w args)
      (Rows.fnTreeMovedSpec.post enc Tryd.prog Tryd.f3 false true false false) := by
  refine returnsInHanded_of_change_and (C := Tryd.checked) (X := fun w _ => laidMetH Tryd.prog laidS w) (fun _ _ _ hh h => h.of_heap hh) own started (by kernel_rfl) Tryd.func3
    (ChangeSpec.witness_shaped (enc := enc) (C := Tryd.checked) (os := os) (X := fun w _ => laidMetH Tryd.prog laidS w) false (World.doorLaid Tryd.prog 400 os) #[.slice none 0 0, .int .i64 0, .int .i64 0, .slice none 0 0] 8 rfl (World.shaped_of_RefB (by kernel_rfl) (by kernel_rfl)) (by kernel_rfl) (by kernel_rfl) (by kernel_rfl) (door_met os _)) ?_
  intro W base args ds gs before hval0 hW _ _ hL _
  have hval : ∀ (j : Nat) t v, Tryd.f3.params[j]? = some t → args[j]? = some v → Value.okWide Tryd.prog W .any base t v := hval0
  have hW' := hW
  obtain ⟨p, q, hA0, hV, rfl, hfz, hnd⟩ := hW
  have hA : DataW.TrodAll enc Tryd.prog W 0 (fun _ => true) true Tryd.f3.params.toList args.toList ds p := hA0
  rw [Tryd.params3] at hA hval
  obtain ⟨rfl, rfl⟩ := trodVars_none hV
  obtain ⟨v0, vs0, d0, ds0, p0, q0, hargs, rfl, rfl, h0, r0⟩ := trodAll_cons hA
  obtain ⟨v1, vs1, d1, ds1, p1, q1, rfl, rfl, rfl, h1, r1⟩ := trodAll_cons r0
  obtain ⟨v2, vs2, d2, ds2, p2, q2, rfl, rfl, rfl, h2, r2⟩ := trodAll_cons r1
  obtain ⟨v3, vs3, d3, ds3, p3, q3, rfl, rfl, rfl, h3, r3⟩ := trodAll_cons r2
  obtain ⟨rfl, rfl, rfl⟩ := trodAll_nil r3
  obtain rfl : args = #[v0, v1, v2, v3] := by cases args; simp_all
  obtain ⟨a, hg⟩ := of_laid hL
  obtain ⟨sp0, sn0, sc0, rfl⟩ := okWide_slice Tryd.underlying22 (hval 0 22 v0 rfl rfl)
  obtain ⟨_, hf0⟩ := h0
  obtain ⟨xs, hR, hid⟩ := open_items hf0
  obtain ⟨X, rfl⟩ := okWide_int Tryd.underlying3 (hval 1 3 v1 rfl rfl)
  obtain ⟨Y, rfl⟩ := okWide_int Tryd.underlying3 (hval 2 3 v2 rfl rfl)
  obtain ⟨sp1, sn1, sc1, rfl⟩ := okWide_slice Tryd.underlying23 (hval 3 23 v3 rfl rfl)
  obtain ⟨_, hf3⟩ := h3
  obtain ⟨asks, hA⟩ := open_asks hf3
  refine (treeMoved_any a _ _ xs X Y asks hid W hR hA hg).mono fun e W' ⟨he, hb⟩ => ?_
  subst he
  exact ⟨_, rfl, law_post (tb := 4) laidOut hW' rfl rfl rfl Tryd.underlying4 (by rw [Tryd.params3]; intro t ht; simp at ht; rcases ht with rfl | rfl | rfl <;> exact ⟨by kernel_rfl, of_decide_eq_true (by kernel_rfl)⟩) hb⟩
theorem fnTreeMoved_row_holds : Rows.FnTreeMovedSaid :=
  OpenClaim.holds_of_wide 3 Tryd.f3 rfl rfl rfl rfl rfl rfl rfl ⟨rfl, rfl, rfl, rfl, rfl⟩ rfl rfl rfl rfl rfl (by kernel_rfl) Tryd.func3 (by kernel_rfl)
    (of_decide_eq_true (by kernel_rfl)) (by unfold Func.isWrapper; first | (rw [if_pos (by decide +kernel)]; kernel_rfl) | (rw [if_neg (by decide +kernel)]; exact ⟨rfl, rfl⟩))
    (fun os started H enc _ => fnTreeMoved_lifted os started H enc)
theorem fnTreeMoved_holds : Rows.FnTreeMovedCardSaid :=
  Claim7.holds_tied_plain_at .later [] [.sentinel] true (true, "fe9054159d7202389f997208d673cf664261c7ecc8d0199567f3e7e0516c9456") true
    fnTreeMoved_row_holds (fun _ h => by cases h) (by kernel_rfl) (fun _ h => by cases h) fnTreeMoved_row_tie rfl ⟨rfl, rfl⟩ (by kernel_rfl) rfl
    (fun f fn hf hfn => by
      obtain rfl : f = 3 := Option.some.inj ((show Tryd.prog.funcNamed "pub-eidograph/laws.FnTreeMoved" = some 3 by kernel_rfl).symm.trans hf) |>.symm
      obtain rfl : fn = Tryd.f3 := (Option.some.inj (Tryd.func3.symm.trans hfn)).symm
      exact ⟨by kernel_rfl, fun j t ht => by
        rw [Tryd.params3] at ht
        have hm : t ∈ [22, 3, 3, 23] := by simpa using Array.mem_of_getElem? ht
        have hall : ([22, 3, 3, 23].all fun u => !Tryd.prog.wantsStandIn u) = true := by kernel_rfl
        exact (show Tryd.prog.wantsStandIn t = false by simpa using List.all_eq_true.1 hall t hm)⟩)
    (by kernel_rfl)
#print axioms fnTreeMoved_holds
end Go.Proofs.YtdfamnlmhikolaaDoor
