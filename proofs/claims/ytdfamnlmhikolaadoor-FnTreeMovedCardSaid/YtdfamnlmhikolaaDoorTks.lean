/-
  kSame, kSameAll: answers that are the same are told so.
-/
import Derived.Test.YtdfamnlmhikolaaDoorTnr
import Derived.Laws.StructEq
import Derived.Outline
import Derived.BigRegion
set_option linter.unusedVariables false
namespace Go.Proofs.YtdfamnlmhikolaaDoor
open Go.ChangeShapes Go.WideShapes Go.ChangeAt Go.RowKit
theorem Is.same {x y : Nat} {p : Int} (hx : Is x (p : Rat)) (hy : Is y (p : Rat)) : (FloatKind.f64.format.order x y == some .eq) = true := by
  have h : Go.Proofs.YtdfamnlmhikolaaDoor.eqB x y = true := by
    rw [hx.eqB hy]
    simp
  exact h
set_option maxHeartbeats 4000000 in
set_option maxRecDepth 100000 in
theorem kSame_any {F G : Nat → Prop} (t : Told) (v u : Value) (c0 c1 c2 c3 d0 d1 d2 d3 : Nat) (w : World) (hv : IntSl F w v t.ids) (hu : IntSl G w u t.ids) (hc : BxB c0 c1 c2 c3 t.bx) (hd : BxB d0 d1 d2 d3 t.bx) :
    Calls Tryd.prog 15 #[.agg #[v, .bool t.err, .bool t.own, .bool t.found, .int .i64 t.id, .float .f64 c0, .float .f64 c1, .float .f64 c2, .float .f64 c3, .int .i64 t.count], .agg #[u, .bool t.err, .bool t.own, .bool t.found, .int .i64 t.id, .float .f64 d0, .float .f64 d1, .float .f64 d2, .float .f64 d3, .int .i64 t.count]] w
      fun e w' => e = .returned (.bool true) ∧ Bel w w' := by
  have g1 : Tryd.prog.stoodInHeld 28 = false := by kernel_rfl
  have g3 : Tryd.prog.eqGuardType Tryd.prog.depth 28 = false := by kernel_rfl
  have e0 := hc.x0.same hd.x0
  have e1 := hc.y0.same hd.y0
  have e2 := hc.x1.same hd.x1
  have e3 := hc.y1.same hd.y1
  obtain ⟨ids, err, own, found, id, bx, count⟩ := t
  simp only at *
  obtain ⟨p, cap, rfl, hl, hcap, hq⟩ := hv
  obtain ⟨p', cap', rfl, hl', hcap', hq'⟩ := hu
  have HQ := Lib.hid hq
  have HQ' := Lib.hid hq'
  generalize hn : ids.length = n at *
  have HN := Lib.hid hn
  clear hc hd hq hq' hn
  go_enter Tryd.func15, Tryd.ntmps15
  go_wp2
  generalize hW : World.alloc (World.alloc w _) _ = w2 at *
  have B1 : Blk w2 w.heap.size #[.slice p n cap, .bool err, .bool own, .bool found, .int .i64 id, .float .f64 c0, .float .f64 c1, .float .f64 c2, .float .f64 c3, .int .i64 count] 40 := by
    subst hW
    exact (Blk.new w _ _).alloc _
  have B2 : Blk w2 (w.heap.size + 1) #[.slice p' n cap', .bool err, .bool own, .bool found, .int .i64 id, .float .f64 d0, .float .f64 d1, .float .f64 d2, .float .f64 d3, .int .i64 count] 40 := by
    subst hW
    exact Blk.new' _ _ _ (by simp)
  have HB : Hid (Bel w w2) := Lib.hid (by
    subst hW
    exact (Bel.alloc1 w _).alloc _)
  obtain ⟨r1, z1, l1⟩ := B1.facts
  obtain ⟨r2, z2, l2⟩ := B2.facts
  clear hW B1 B2
  go_loopw [17] (fun iv wr => ∃ k : Nat, iv = .int .i64 k ∧ k ≤ n ∧ wr = w2) (fun iv _ => n - (intOf iv).toNat)
  case atStart => exact ⟨0, rfl, Nat.zero_le _, by first | rfl | trivial⟩
  case round =>
    obtain ⟨k, rfl, hk, rfl⟩ := hrel
    by_cases hkn : k < n
    · obtain ⟨i, hi⟩ : ∃ i, ids[k]? = some i := ⟨_, List.getElem?_eq_getElem (by have := HN.out; omega)⟩
      have hne : ids ≠ [] := by
        intro e
        rw [e] at hi
        simp at hi
      obtain ⟨b, off, rfl, hlt, _, hcs⟩ := HQ.out hne
      obtain ⟨b', off', rfl, hlt', _, hcs'⟩ := HQ'.out hne
      have E1 := cell_kept HB.out (hcs k i hi)
      have E2 := cell_kept HB.out (hcs' k i hi)
      clear hcs hcs' hi hne
      go_wp2
      go_roundw
      case rel => exact ⟨k + 1, by go_num, by omega, by first | rfl | trivial⟩
      case measure => simp [intOf]; omega
    · obtain rfl : k = n := by omega
      cases err <;> cases own <;> cases found
      all_goals
        go_wp2
        go_ret
        exact ⟨rfl, HB.out⟩
set_option maxHeartbeats 4000000 in
set_option maxRecDepth 100000 in
theorem kSameAll_any (v u : Value) (ts : List Told) (w : World) (hv : ToldSl w v ts) (hu : ToldSl w u ts) :
    Calls Tryd.prog 10 #[v, u] w fun e w' => e = .returned (.bool true) ∧ Bel w w' := by
  obtain ⟨p, cap, rfl, hl, hcap, hq⟩ := hv
  obtain ⟨p', cap', rfl, hl', hcap', hq'⟩ := hu
  have HQ := Lib.hid hq
  have HQ' := Lib.hid hq'
  generalize hn : ts.length = n at *
  have HN := Lib.hid hn
  clear hq hq' hn
  go_enter Tryd.func10, Tryd.ntmps10
  go_wp2
  go_loopw [14] (fun iv wr => ∃ k : Nat, iv = .int .i64 k ∧ k ≤ n ∧ Bel w wr) (fun iv _ => n - (intOf iv).toNat)
  case atStart => exact ⟨0, rfl, Nat.zero_le _, Bel.refl _⟩
  case round =>
    obtain ⟨k, rfl, hk, hbel⟩ := hrel
    have HBEL := Lib.hid hbel
    by_cases hkn : k < n
    · obtain ⟨t, ht⟩ : ∃ t, ts[k]? = some t := ⟨_, List.getElem?_eq_getElem (by have := HN.out; omega)⟩
      have hne : ts ≠ [] := by
        intro e
        rw [e] at ht
        simp at ht
      obtain ⟨b, off, rfl, hlt, hcs⟩ := HQ.out hne
      obtain ⟨b', off', rfl, hlt', hcs'⟩ := HQ'.out hne
      obtain ⟨v0, c0, c1, c2, c3, k0, k1, k2, k3, k4, k5, k6, k7, k8, k9, kI, kq⟩ := hcs k t ht
      obtain ⟨u0, d0, d1, d2, d3, l0, l1, l2, l3, l4, l5, l6, l7, l8, l9, lI, lq⟩ := hcs' k t ht
      obtain ⟨pv, nv, cv, rfl⟩ : ∃ pi ni ci, v0 = .slice pi ni ci := by
        obtain ⟨pi, ci, h, _⟩ := kI
        exact ⟨_, _, _, h⟩
      obtain ⟨pu, nu, cu, rfl⟩ : ∃ pi ni ci, u0 = .slice pi ni ci := by
        obtain ⟨pi, ci, h, _⟩ := lI
        exact ⟨_, _, _, h⟩
      have S : Hid (∀ W, Bel wr W → Calls Tryd.prog 15 #[.agg #[.slice pv nv cv, .bool t.err, .bool t.own, .bool t.found, .int .i64 t.id, .float .f64 c0, .float .f64 c1, .float .f64 c2, .float .f64 c3, .int .i64 t.count], .agg #[.slice pu nu cu, .bool t.err, .bool t.own, .bool t.found, .int .i64 t.id, .float .f64 d0, .float .f64 d1, .float .f64 d2, .float .f64 d3, .int .i64 t.count]] W fun e w' => e = .returned (.bool true) ∧ Bel W w') :=
        Lib.hid fun W hW => kSame_any t _ _ c0 c1 c2 c3 d0 d1 d2 d3 W ((kI.bel hbel).bel hW) ((lI.bel hbel).bel hW) kq lq
      simp only [← Nat.add_assoc] at k1 k2 k3 k4 k5 k6 k7 k8 k9 l1 l2 l3 l4 l5 l6 l7 l8 l9
      have K0 := cell_kept hbel k0
      have K1 := cell_kept hbel k1
      have K2 := cell_kept hbel k2
      have K3 := cell_kept hbel k3
      have K4 := cell_kept hbel k4
      have K5 := cell_kept hbel k5
      have K6 := cell_kept hbel k6
      have K7 := cell_kept hbel k7
      have K8 := cell_kept hbel k8
      have K9 := cell_kept hbel k9
      have L0 := cell_kept hbel l0
      have L1 := cell_kept hbel l1
      have L2 := cell_kept hbel l2
      have L3 := cell_kept hbel l3
      have L4 := cell_kept hbel l4
      have L5 := cell_kept hbel l5
      have L6 := cell_kept hbel l6
      have L7 := cell_kept hbel l7
      have L8 := cell_kept hbel l8
      have L9 := cell_kept hbel l9
      have hbl : b < wr.heap.size := Nat.lt_of_lt_of_le hlt hbel.size
      have hbl' : b' < wr.heap.size := Nat.lt_of_lt_of_le hlt' hbel.size
      clear hcs hcs' k0 k1 k2 k3 k4 k5 k6 k7 k8 k9 l0 l1 l2 l3 l4 l5 l6 l7 l8 l9 kI lI kq lq ht hne hbel
      go_wp2
      go_region_with (first
        | (go_at_call 15; (with_reducible refine (S.out _ ?hb).mono ?_); (case hb => (repeat (first | with_reducible assumption | with_reducible exact Bel.refl _ | with_reducible apply Bel.alloc | with_reducible apply Bel.drew | with_reducible apply Bel.drewN | ((with_reducible apply Bel.setCellR); (simp <;> omega)) | with_reducible refine Bel.behind (by with_reducible assumption) ?_))); rintro e w3 ⟨rfl, hb3⟩; have HB3 : Hid (Bel wr w3) := Lib.hid (by (repeat (first | with_reducible assumption | with_reducible exact Bel.refl _ | with_reducible apply Bel.alloc | with_reducible apply Bel.drew | with_reducible apply Bel.drewN | ((with_reducible apply Bel.setCellR); (simp <;> omega)) | with_reducible refine Bel.behind (by with_reducible assumption) ?_))); clear hb3))
      all_goals
        go_wp2
        go_roundw
        case rel => exact ⟨k + 1, by go_num, by omega, HBEL.out.trans HB3.out⟩
        case measure => simp [intOf]; omega
    · obtain rfl : k = n := by omega
      go_wp2
      go_ret
      exact ⟨rfl, HBEL.out⟩
end Go.Proofs.YtdfamnlmhikolaaDoor
