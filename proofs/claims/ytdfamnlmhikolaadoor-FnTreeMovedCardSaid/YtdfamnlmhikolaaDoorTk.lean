/-
  kItems: what a true answer says of the items.
-/
import Derived.Test.YtdfamnlmhikolaaDoorTy
import Derived.Maps.Own
import Derived.Maps.OwnOps
set_option linter.unusedVariables false
namespace Go.Proofs.YtdfamnlmhikolaaDoor
open Go.ChangeShapes Go.WideShapes Go.ChangeAt Go.RowKit Go.Maps
theorem plainElem_bool_inv {H : Type} {P : Program} {e : TypeId} (he : P.underlying e = some .bool) {v : Value} {z : DataW H × List MemPlace} (h : plainElem P e v = some z) : ∃ b, v = .bool b := by
  unfold plainElem at h
  rw [he] at h
  cases v <;> simp at h
  exact ⟨_, rfl⟩
theorem keyInt : Keyed Tryd.prog 3 := int_keyed Tryd.underlying3
theorem zeroBool (w : World) : (zeroValue 4).run Tryd.prog w = .ok (.bool false) w := by kernel_rfl
abbrev Own (w : World) (b n : Nat) (D : DataW Nat) : Prop := w.ownsMap Tryd.prog 3 (plainElem (H := Nat) Tryd.prog 4) b n D
theorem Own.look {w : World} {b n : Nat} {D : DataW Nat} (h : Own w b n D) (a : Int) (ha : (Lit.int .i64 a).wf = true) : ∃ c, (Instr.lookup 44 (.map (some b)) (.int .i64 a) false).run Tryd.prog w = .ok (.bool c) w := by
  obtain ⟨v, ps, hrun, hv⟩ := World.ownsMap.lookup h keyInt Tryd.underlying44 (zeroBool w) (plainElem_bool Tryd.underlying4 false) (keyOf_int_mk Tryd.underlying3 ha)
  obtain ⟨c, rfl⟩ := plainElem_bool_inv Tryd.underlying4 hv
  exact ⟨c, hrun⟩
def ItemsOk (xs : List Raw) : Prop := xs.length ≤ 400 ∧ ∀ x ∈ xs, boxB x.a x.b x.c x.d = true
def IsItems (xs : List Raw) (w : World) (e : Ending) (w' : World) : Prop := ∃ r, e = .returned (.bool r) ∧ (r = true → ItemsOk xs) ∧ Bel w w'
set_option maxHeartbeats 2000000 in
set_option maxRecDepth 100000 in
theorem kItems_any (v : Value) (xs : List Raw) (hid : ∀ x ∈ xs, (Lit.int .i64 x.id).wf = true) (w : World) (h : RawSl w v xs) :
    Calls Tryd.prog 5 #[v] w (IsItems xs w) := by
  obtain ⟨p, cap, rfl, hl, hc, h⟩ := h
  have hmm := @run_makeMap Tryd.prog
  have HR := Lib.hid h
  have HD := Lib.hid hid
  generalize hn : xs.length = n at *
  have HN := Lib.hid hn
  clear h hid hn
  by_cases h4 : 400 < n
  · go_enter Tryd.func5, Tryd.ntmps5
    go_wp2
    go_ret
    exact ⟨false, rfl, by simp, Bel.refl _⟩
  · go_enter Tryd.func5, Tryd.ntmps5
    go_wp2
    go_loopw [12] (fun iv wr => ∃ (k : Nat) (D : DataW Nat), iv = .int .i64 k ∧ k ≤ n ∧ Own wr w.heap.size k D ∧ Bel w wr ∧ ∀ (i : Nat) (x : Raw), i < k → xs[i]? = some x → boxB x.a x.b x.c x.d = true) (fun iv _ => n - (intOf iv).toNat)
    case atStart => exact ⟨0, _, rfl, Nat.zero_le _, World.ownsMap_made _ _ _ _, Bel.alloc1 _ _, fun i x hi => absurd hi (by omega)⟩
    case round =>
      obtain ⟨k, D, rfl, hk, hown, hbel, hall⟩ := hrel
      have HBEL := Lib.hid hbel
      have HOWN := Lib.hid hown
      have HALL := Lib.hid hall
      by_cases hkn : k < n
      · have hxl : k < xs.length := by have := HN.out; omega
        obtain ⟨b, off, rfl, hlt, hq⟩ := HR.out (by intro e; rw [e] at hxl; simp at hxl)
        obtain ⟨x, hx⟩ : ∃ x, xs[k]? = some x := ⟨_, List.getElem?_eq_getElem hxl⟩
        obtain ⟨d0, d1, d2, d3, d4⟩ := hq k x hx
        have D0 := cell_kept hbel d0
        have D1 := cell_kept hbel d1
        have D2 := cell_kept hbel d2
        have D3 := cell_kept hbel d3
        have D4 := cell_kept hbel d4
        have hbl : b < wr.heap.size := Nat.lt_of_lt_of_le hlt hbel.size
        have HX := Lib.hid hx
        have hwf := HD.out x (List.mem_iff_getElem?.2 ⟨k, hx⟩)
        have HWF := Lib.hid hwf
        clear hown hall hq hx d0 d1 d2 d3 d4 hwf
        generalize hB : boxB x.a x.b x.c x.d = B at *
        have HB := Lib.hid hB
        clear hB
        cases B
        · go_wp2_with (first
            | (go_at_call 11; (with_reducible refine (kBox_any _ _ _ _ _).mono ?_); rw [HB.out]; rintro e w3 ⟨rfl, hb3⟩; have HB3 : Hid (Bel w w3) := Lib.hid (by (repeat (first | with_reducible assumption | with_reducible exact Bel.refl _ | with_reducible apply Bel.alloc | with_reducible apply Bel.drew | with_reducible apply Bel.drewN | ((with_reducible apply Bel.setCellR); (simp <;> omega)) | with_reducible refine Bel.behind (by with_reducible assumption) ?_))); clear hb3))
          go_ret
          exact ⟨false, rfl, by simp, HB3.out⟩
        · go_wp2_with (first
            | (go_at_call 11; (with_reducible refine (kBox_any _ _ _ _ _).mono ?_); rw [HB.out]; rintro e w3 ⟨rfl, hb3⟩; have HB3 : Hid (Bel wr w3) := Lib.hid (by (repeat (first | with_reducible assumption | with_reducible exact Bel.refl _ | with_reducible apply Bel.alloc | with_reducible apply Bel.drew | with_reducible apply Bel.drewN | ((with_reducible apply Bel.setCellR); (simp <;> omega)) | with_reducible refine Bel.behind (by with_reducible assumption) ?_))); have ho3 : Own w3 w.heap.size k D := World.ownsMap.kept HOWN.out (World.grownBy.of_bel HB3.out none) (by simp); have HO3 := Lib.hid ho3; obtain ⟨c, hlook⟩ := ho3.look x.id HWF.out; have B4 := (Blk.new wr #[.float .f64 x.a, .float .f64 x.b, .float .f64 x.c, .float .f64 x.d, .int .i64 x.id] 32).bel hb3; obtain ⟨r4, z4, l4⟩ := B4.facts; clear hb3 ho3 B4; cases c)
            | (at_mapUpdate; refine wpList_mapUpdate_own _ rfl _ _ _ 44 rfl 3 4 keyInt Tryd.underlying44 (plainElem (H := Nat) Tryd.prog 4) w.heap.size k D rfl HO3.out (by unfold maxLen; omega) _ _ _ rfl rfl (keyOf_int_mk Tryd.underlying3 HWF.out) _ [] (plainElem_bool Tryd.underlying4 true) ?_; intro w4 hown4 hgrow4; have HO4 := Lib.hid hown4; have HG4 := Lib.hid hgrow4; clear hown4 hgrow4))
          · go_roundw
            case rel => exact ⟨k + 1, _, by go_num, by omega, HO4.out, (HBEL.out.trans HB3.out).of_new HG4.out (Nat.le_refl _), fun i y hi hy => by
              by_cases e : i < k
              · exact HALL.out i y e hy
              · obtain rfl : i = k := by omega
                obtain rfl : x = y := Option.some.inj (HX.out.symm.trans hy)
                exact HB.out⟩
            case measure => simp [intOf]; omega
          · go_ret
            exact ⟨false, rfl, by simp, HBEL.out.trans HB3.out⟩
      · obtain rfl : k = n := by omega
        go_wp2
        go_ret
        exact ⟨true, rfl, fun _ => ⟨by rw [HN.out]; omega, fun x hx => by
          obtain ⟨i, hi⟩ := List.mem_iff_getElem?.1 hx
          exact HALL.out i x (by have := (List.getElem?_eq_some_iff.1 hi).1; have := HN.out; omega) hi⟩, HBEL.out⟩
end Go.Proofs.YtdfamnlmhikolaaDoor
