/-
  Rows of points under another type; MultiPoint's type; NewMultiPoint of one point or more. No panic; what stood in memory has not turned.
-/
import Derived.Test.YtpipehenfcbjbaaGreatPn
set_option linter.unusedVariables false
namespace Go.Proofs.YtpipehenfcbjbaaGreat
open Go.ChangeShapes Go.WideShapes Go.ChangeAt Go.RowKit
theorem infoPt : (Tryz.prog.info? 47).map (fun i => (i.zero, i.size, i.bytes)) = some (some (.agg #[.float .f64 0, .float .f64 0, .float .f64 0, .float .f64 0, .int .u8 0, .bool false]), 6, 48) := by kernel_rfl
def IsObs (F : Nat → Prop) (w : World) (e k n : Nat) (gs : List Gm) (x : Ending) (w' : World) : Prop := ∃ p cap, x = .returned (.slice p n cap) ∧ ObSl F w' e k (.slice p n cap) gs ∧ Bel w w'
set_option maxHeartbeats 4000000 in
set_option maxRecDepth 100000 in
theorem pointsForce_any (F : Nat → Prop) (p : Option Addr) (n cap : Nat) (gs : List Gm) (c' : Nat) (hc' : c' ≤ 3) (w : World) (hF : New F w) (hsl : ObSl F w 1 6 (.slice p n cap) gs) (hn31 : n ≤ 1048576) : Calls Tryz.prog 80 #[.slice p n cap, .int .u8 c'] w (IsObs F w 1 6 n (gs.map (force c'))) := by
  have HSL := Lib.hid hsl
  have hn : gs.length = n := by
    obtain ⟨_, _, hv, _⟩ := hsl
    cases hv
    rfl
  have HN := Lib.hid hn
  clear hsl hn
  obtain ⟨i0, hi, hz0, hz1, hz2⟩ := info_parts infoPt
  go_enter Tryz.func80, Tryz.ntmps80
  go_wp2_with (at_make; refine wpList_make_full _ rfl (.tmp 9) (.tmp 9) 59 rfl w.heap.size 47 i0 (.agg #[.float .f64 0, .float .f64 0, .float .f64 0, .float .f64 0, .int .u8 0, .bool false]) 6 Tryz.underlying59 hi hz0 hz1 .i64 .i64 _ _ n rfl rfl rfl rfl ?b2 ?b3 ?b4 ?_; (case b2 => (rw [hz2]; omega)); (case b3 => (unfold maxLen; omega)); (case b4 => simp); intro w1 hown hgrow; obtain ⟨arr0, hB0, hs0⟩ := hown.blk; have HW1 := Lib.hid (Bel.of_grown0 hgrow); have HP0 := Lib.hid hB0; have HS0 := Lib.hid hs0; clear hown hgrow hB0 hs0)
  go_loopw [13] (fun iv wr => ∃ (t : Nat) (arr : Array Value), iv = .int .i64 t ∧ t ≤ n ∧ Bel w wr ∧ Blk wr w.heap.size arr 47 ∧ arr.size = n * 6 ∧ RowOb (fun _ => False) wr (fun o => arr[o]?) 1 6 ((gs.take t).map (force c'))) (fun iv _ => n - (intOf iv).toNat)
  case atStart => exact ⟨0, arr0, rfl, Nat.zero_le _, HW1.out, HP0.out, HS0.out, fun i g hg => by simp at hg⟩
  case round =>
    obtain ⟨t, arr, rfl, ht, hbel, hb3, harr, hrow⟩ := hrel
    have HBEL := Lib.hid hbel
    have HG3 := Lib.hid hb3
    have HROW := Lib.hid hrow
    have l3 := hb3.lt
    clear hrow hb3
    by_cases htn : t < n
    · obtain ⟨g, hg⟩ : ∃ g, gs[t]? = some g := ⟨_, List.getElem?_eq_getElem (by have := HN.out; omega)⟩
      obtain ⟨_, _, hve, _, _, hq⟩ := HSL.out
      cases hve
      obtain ⟨b, off, rfl, hlt, -, hr⟩ := hq (by intro e; rw [e] at hg; simp at hg)
      obtain ⟨cl, hcl, hcell, hob⟩ := hr t g hg
      obtain ⟨x0, y0, a0, m0, d0, f0, rfl, hd0, hge⟩ := hob.pt
      have D0 := cell_kept hbel (hcell 0 (.float .f64 x0) rfl)
      have D1 := cell_kept hbel (hcell 1 (.float .f64 y0) rfl)
      have D2 := cell_kept hbel (hcell 2 (.float .f64 a0) rfl)
      have D3 := cell_kept hbel (hcell 3 (.float .f64 m0) rfl)
      have D4 := cell_kept hbel (hcell 4 (.int .u8 d0) rfl)
      have D5 := cell_kept hbel (hcell 5 (.bool f0) rfl)
      simp only [Nat.add_zero] at D0
      have E1 := D1
      rw [← Nat.add_assoc] at E1
      have E2 := D2
      rw [← Nat.add_assoc] at E2
      have E3 := D3
      rw [← Nat.add_assoc] at E3
      have E4 := D4
      rw [← Nat.add_assoc] at E4
      have E5 := D5
      rw [← Nat.add_assoc] at E5
      have hbl : b < wr.heap.size := Nat.lt_of_lt_of_le hlt hbel.size
      have HG := Lib.hid hg
      have HC : Hid (∀ W, Calls Tryz.prog 87 #[.agg #[.float .f64 x0, .float .f64 y0, .float .f64 a0, .float .f64 m0, .int .u8 d0, .bool f0], .int .u8 c'] W (IsOb (fun _ => False) W 1 (force c' g))) := Lib.hid fun W => pointForce_any [.float .f64 x0, .float .f64 y0, .float .f64 a0, .float .f64 m0, .int .u8 d0, .bool f0] g c' hc' W (by rw [hge]; exact .point x0 y0 a0 m0 d0 f0 hd0)
      clear hq hr hcell hob hcl hbel hg hge
      go_wp2_with (go_at_call 87; (with_reducible refine (HC.out _).mono ?_); rintro e w3 ⟨cs, rfl, ho, hb⟩; have HO := Lib.hid ho; obtain ⟨x1, y1, a1, m1, d1, f1, hcs, -⟩ := ho.pt; cases hcs; have C3 := HG3.out.bel ((Bel.alloc1 _ _).trans hb); have HB3 : Hid (Bel wr w3) := Lib.hid ((Bel.alloc1 _ _).trans hb); have HC3 := Lib.hid C3; obtain ⟨e0, k0⟩ : ∃ u, w3.cell? ⟨w.heap.size, t * 6, none⟩ = some u := ⟨arr[t * 6], (C3.rules.1 _).trans (Array.getElem?_eq_getElem (by omega))⟩; obtain ⟨e1, k1⟩ : ∃ u, w3.cell? ⟨w.heap.size, t * 6 + 1, none⟩ = some u := ⟨arr[t * 6 + 1], (C3.rules.1 _).trans (Array.getElem?_eq_getElem (by omega))⟩; obtain ⟨e2, k2⟩ : ∃ u, w3.cell? ⟨w.heap.size, t * 6 + 2, none⟩ = some u := ⟨arr[t * 6 + 2], (C3.rules.1 _).trans (Array.getElem?_eq_getElem (by omega))⟩; obtain ⟨e3, k3⟩ : ∃ u, w3.cell? ⟨w.heap.size, t * 6 + 3, none⟩ = some u := ⟨arr[t * 6 + 3], (C3.rules.1 _).trans (Array.getElem?_eq_getElem (by omega))⟩; obtain ⟨e4, k4⟩ : ∃ u, w3.cell? ⟨w.heap.size, t * 6 + 4, none⟩ = some u := ⟨arr[t * 6 + 4], (C3.rules.1 _).trans (Array.getElem?_eq_getElem (by omega))⟩; obtain ⟨e5, k5⟩ : ∃ u, w3.cell? ⟨w.heap.size, t * 6 + 5, none⟩ = some u := ⟨arr[t * 6 + 5], (C3.rules.1 _).trans (Array.getElem?_eq_getElem (by omega))⟩; have t3 := C3.rules.2; have m3 := C3.lt; clear hb C3 ho)
      go_roundw
      case rel =>
        have hs1 := HBEL.out.size
        have hs3 := HB3.out.size
        refine ⟨t + 1, ((((((arr.setIfInBounds (t * 6) (.float .f64 x1)).setIfInBounds (t * 6 + 1) (.float .f64 y1)).setIfInBounds (t * 6 + 2) (.float .f64 a1)).setIfInBounds (t * 6 + 3) (.float .f64 m1)).setIfInBounds (t * 6 + 4) (.int .u8 d1)).setIfInBounds (t * 6 + 5) (.bool f1)), by go_num, by omega, ?_, ?_, by simp [harr], ?_⟩
        · have HB := HBEL.out.trans HB3.out
          (repeat (first | with_reducible assumption | with_reducible exact Bel.refl _ | with_reducible apply Bel.alloc | with_reducible apply Bel.drew | with_reducible apply Bel.drewN | ((with_reducible apply Bel.setCellR); (simp <;> omega)) | with_reducible refine Bel.behind (by with_reducible assumption) ?_))
        · exact ((((((HC3.out.set _ _).set _ _).set _ _).set _ _).set _ _).set _ _)
        · have e1 : (gs.take (t + 1)).map (force c') = (gs.take t).map (force c') ++ [force c' g] := by
            rw [List.take_add_one, HG.out]
            simp
          rw [e1]
          refine RowOb.push (t := t) (cl := [.float .f64 x1, .float .f64 y1, .float .f64 a1, .float .f64 m1, .int .u8 d1, .bool f1]) (HROW.out.keep (by simp; omega) (fun b hb hl => hb.elim) fun b _ hb => hb) (by rw [List.length_map, List.length_take]; have := HN.out; omega) (fun o u ho hu => ?_) rfl (fun j u hu => ?_) (HO.out.keep (by simp) (fun b hb hl => hb.elim) fun b _ hb => hb)
          · show (_ : Array Value)[o]? = some u
            rw [Array.getElem?_setIfInBounds_ne (by omega), Array.getElem?_setIfInBounds_ne (by omega), Array.getElem?_setIfInBounds_ne (by omega), Array.getElem?_setIfInBounds_ne (by omega), Array.getElem?_setIfInBounds_ne (by omega), Array.getElem?_setIfInBounds_ne (by omega)]
            exact hu
          · have hlt2 := (List.getElem?_eq_some_iff.1 hu).1
            simp at hlt2
            show (_ : Array Value)[t * 6 + j]? = some u
            match j, hlt2 with
            | 0, _ =>
              simp at hu
              subst hu
              rw [Array.getElem?_setIfInBounds_ne (by omega), Array.getElem?_setIfInBounds_ne (by omega), Array.getElem?_setIfInBounds_ne (by omega), Array.getElem?_setIfInBounds_ne (by omega), Array.getElem?_setIfInBounds_ne (by omega)]
              exact Array.getElem?_setIfInBounds_self_of_lt (by (try simp only [Array.size_setIfInBounds]); omega)
            | 1, _ =>
              simp at hu
              subst hu
              rw [Array.getElem?_setIfInBounds_ne (by omega), Array.getElem?_setIfInBounds_ne (by omega), Array.getElem?_setIfInBounds_ne (by omega), Array.getElem?_setIfInBounds_ne (by omega)]
              exact Array.getElem?_setIfInBounds_self_of_lt (by (try simp only [Array.size_setIfInBounds]); omega)
            | 2, _ =>
              simp at hu
              subst hu
              rw [Array.getElem?_setIfInBounds_ne (by omega), Array.getElem?_setIfInBounds_ne (by omega), Array.getElem?_setIfInBounds_ne (by omega)]
              exact Array.getElem?_setIfInBounds_self_of_lt (by (try simp only [Array.size_setIfInBounds]); omega)
            | 3, _ =>
              simp at hu
              subst hu
              rw [Array.getElem?_setIfInBounds_ne (by omega), Array.getElem?_setIfInBounds_ne (by omega)]
              exact Array.getElem?_setIfInBounds_self_of_lt (by (try simp only [Array.size_setIfInBounds]); omega)
            | 4, _ =>
              simp at hu
              subst hu
              rw [Array.getElem?_setIfInBounds_ne (by omega)]
              exact Array.getElem?_setIfInBounds_self_of_lt (by (try simp only [Array.size_setIfInBounds]); omega)
            | 5, _ =>
              simp at hu
              subst hu
              exact Array.getElem?_setIfInBounds_self_of_lt (by (try simp only [Array.size_setIfInBounds]); omega)
      case measure => simp [intOf]; omega
    · obtain rfl : t = n := by omega
      have hfin := HROW.out
      rw [List.take_of_length_le (by have := HN.out; omega)] at hfin
      have HFIN : Hid (ObSl F wr 1 6 (.slice (some ⟨w.heap.size, 0, none⟩) t t) (gs.map (force c'))) := Lib.hid ⟨_, t, by rw [List.length_map, HN.out], Nat.le_of_eq (by rw [List.length_map, HN.out]), by omega, fun _ => ⟨w.heap.size, 0, rfl, l3, hF _ (Nat.le_refl _), (hfin.keep (Nat.le_refl _) (fun _ _ _ => rfl) fun b _ hb => hb.elim).cells fun o u ho => by
          rw [Nat.zero_add]
          exact (HG3.out.rules.1 o).trans ho⟩⟩
      clear hfin
      go_wp2
      go_ret
      exact ⟨_, _, rfl, HFIN.out, HBEL.out⟩
set_option maxRecDepth 100000 in
theorem multiPointForce_any (F : Nat → Prop) (cs : List Value) (g : Gm) (c' : Nat) (hc' : c' ≤ 3) (w : World) (hF : New F w) (h : Ob F w 4 cs g) : Calls Tryz.prog 51 #[.agg cs.toArray, .int .u8 c'] w (IsOb F w 4 (force c' g)) := by
  obtain ⟨p, cap, c, gs, rfl, hc, rfl, hn31, hsl⟩ := h.sl (e := 1) (k := 6) rfl
  rw [force_parts (by decide) (by decide)]
  have HC : Hid (∀ W, Bel w W → Calls Tryz.prog 80 #[.slice p gs.length cap, .int .u8 c'] W (IsObs (fun b => (F b ∧ b < w.heap.size) ∨ W.heap.size ≤ b) W 1 6 gs.length (gs.map (force c')))) := Lib.hid fun W hW => pointsForce_any _ p _ cap gs c' hc' W (fun b hb => Or.inr hb) (hsl.keep hW.size (fun b _ hl => hW.block b hl) fun b hl hb => Or.inl ⟨hb, hl⟩) hn31
  clear h hsl
  show Calls Tryz.prog 51 #[.agg #[.slice p gs.length cap, .int .u8 c], .int .u8 c'] w _
  generalize hn : gs.length = n at *
  have HN := Lib.hid hn
  clear hn
  go_enter Tryz.func51, Tryz.ntmps51
  go_wp2_with (go_at_call 80; (with_reducible refine (HC.out _ ?hb).mono ?_); (case hb => (repeat (first | with_reducible assumption | with_reducible exact Bel.refl _ | with_reducible apply Bel.alloc | with_reducible apply Bel.drew | with_reducible apply Bel.drewN | ((with_reducible apply Bel.setCellR); (simp <;> omega)) | with_reducible refine Bel.behind (by with_reducible assumption) ?_))); rintro e w1 ⟨p1, c1, rfl, ho, hb1⟩; have HO := Lib.hid ho; have B2 := (Blk.new' (w.alloc (.cells #[.slice p n cap, .int .u8 c] 61)) #[.slice none 0 0, .int .u8 0] 61 (b := w.heap.size + 1) (by simp)).bel hb1; have HB1 : Hid (Bel w w1) := Lib.hid (((Bel.alloc1 w _).alloc _).trans hb1); obtain ⟨r2, z2, l2⟩ := B2.facts; have HP2 := Lib.hid B2; clear ho hb1 B2)
  refine post_ret (results_one rfl (resIs_agg (n := 2) (cs := #[.slice p1 n c1, .int .u8 c']) (by rfl) Tryz.underlying61 (by kernel_rfl) (T := 61) ?_ rfl)) ⟨_, rfl, ObSl.ob ?_ rfl hc' (by rw [List.length_map, HN.out]; exact hn31), ?_⟩
  · have HB := HP2.out
    (apply Blk.cast; (repeat (first | with_reducible assumption | with_reducible apply Blk.set | ((with_reducible apply Blk.otherR); (focus ((simp <;> omega); done))) | with_reducible exact Blk.new _ _ _ | ((with_reducible apply Blk.new'); (focus (simp; done))) | with_reducible apply Blk.alloc | with_reducible apply Blk.drew | with_reducible apply Blk.drewN | (with_reducible refine Blk.bel ?_ (by with_reducible assumption)))); rfl)
  · refine HO.out.keep (by simp) (fun b hb hl => ?_) (fun b _ hb => ?_)
    · rw [Below.heap_setCell _ _ _ _ (by simp; simp at hb; omega), Below.heap_setCell _ _ _ _ (by simp; simp at hb; omega)]
    · rcases hb with hb | hb
      · exact hb.1
      · exact hF b (by simp at hb; omega)
  · have HB := HB1.out
    (repeat (first | with_reducible assumption | with_reducible exact Bel.refl _ | with_reducible apply Bel.alloc | with_reducible apply Bel.drew | with_reducible apply Bel.drewN | ((with_reducible apply Bel.setCellR); (simp <;> omega)) | with_reducible refine Bel.behind (by with_reducible assumption) ?_))
theorem pointOb_type {F : Nat → Prop} {cs : List Value} {g : Gm} {w0 : World} (h : Ob F w0 1 cs g) (w : World) : Calls Tryz.prog 81 #[.agg cs.toArray] w fun e w' => e = .returned (.int .u8 g.dim.toNat) ∧ Bel w w' := by
  obtain ⟨x, y, z, m, c, full, rfl, hc, rfl⟩ := h.pt
  exact pointType_any x y z m c full w
set_option maxHeartbeats 4000000 in
set_option maxRecDepth 100000 in
theorem newMultiPoint_any (F : Nat → Prop) (p : Option Addr) (n cap : Nat) (gs : List Gm) (w : World) (hF : New F w) (hsl : ObSl F w 1 6 (.slice p n cap) gs) (hpos : 0 < n) (hn31 : n ≤ 1048576) : Calls Tryz.prog 52 #[.slice p n cap] w (IsOb F w 4 (.mk 4 (common gs) [] (gs.map (force (common gs))))) := by
  have HSL := Lib.hid hsl
  obtain ⟨_, _, hve, hl1, hl2, hq⟩ := hsl
  cases hve
  have hgn : gs ≠ [] := by intro e; rw [e] at hpos; simp at hpos
  obtain ⟨b, off, rfl, hlt, hFb, hr⟩ := hq hgn
  have HR := Lib.hid hr
  clear hq hr hFb hgn
  generalize hn : gs.length = n at *
  have HN := Lib.hid hn
  clear hn
  have hn0 : ((n : Int) == 0) = false := by simp; omega
  go_enter Tryz.func52, Tryz.ntmps52
  go_wp2
  go_loopw [3, 13] (fun cv iv wr => ∃ (t : Nat), cv = .int .u8 (common (gs.take t) : Nat) ∧ iv = .int .i64 t ∧ t ≤ n ∧ Bel w wr ∧ Blk wr w.heap.size #[.slice none 0 0, .int .u8 0] 61) (fun _ iv _ => n - (intOf iv).toNat)
  case atStart => exact ⟨0, rfl, rfl, Nat.zero_le _, by (repeat (first | with_reducible assumption | with_reducible exact Bel.refl _ | with_reducible apply Bel.alloc | with_reducible apply Bel.drew | with_reducible apply Bel.drewN | ((with_reducible apply Bel.setCellR); (simp <;> omega)) | with_reducible refine Bel.behind (by with_reducible assumption) ?_)), by (repeat (first | with_reducible assumption | with_reducible exact Blk.new _ _ _ | ((with_reducible refine Blk.new' _ _ _ ?_); (focus ((simp; done)))) | with_reducible apply Blk.drew | with_reducible apply Blk.drewN | with_reducible refine Blk.alloc ?_ _ | with_reducible apply Blk.same | (with_reducible refine Blk.bel ?_ (by with_reducible assumption)) | ((with_reducible refine Blk.otherR ?_ ?_); (focus ((simp <;> omega); done)))))⟩
  case round =>
    obtain ⟨t, rfl, rfl, ht, hbel, hb1⟩ := hrel
    have HBEL := Lib.hid hbel
    have HG1 := Lib.hid hb1
    clear hb1
    by_cases htn : t < n
    · obtain ⟨g, hg⟩ : ∃ g, gs[t]? = some g := ⟨_, List.getElem?_eq_getElem (by have := HN.out; omega)⟩
      obtain ⟨cl, hcl, hcell, hob⟩ := HR.out t g hg
      have HC := Lib.hid (pointOb_type hob)
      obtain ⟨cg, hcg, hdim⟩ := hob.dim
      obtain ⟨x0, y0, a0, m0, d0, f0, rfl, hd0, hge⟩ := hob.pt
      have D0 := cell_kept hbel (hcell 0 (.float .f64 x0) rfl)
      have D1 := cell_kept hbel (hcell 1 (.float .f64 y0) rfl)
      have D2 := cell_kept hbel (hcell 2 (.float .f64 a0) rfl)
      have D3 := cell_kept hbel (hcell 3 (.float .f64 m0) rfl)
      have D4 := cell_kept hbel (hcell 4 (.int .u8 d0) rfl)
      have D5 := cell_kept hbel (hcell 5 (.bool f0) rfl)
      simp only [Nat.add_zero] at D0
      have E1 := D1
      rw [← Nat.add_assoc] at E1
      have E2 := D2
      rw [← Nat.add_assoc] at E2
      have E3 := D3
      rw [← Nat.add_assoc] at E3
      have E4 := D4
      rw [← Nat.add_assoc] at E4
      have E5 := D5
      rw [← Nat.add_assoc] at E5
      have hbl : b < wr.heap.size := Nat.lt_of_lt_of_le hlt hbel.size
      have hct := common_take hg
      have hdn : g.dim.toNat = cg := by rw [hdim]; simp
      rw [hdn] at hct HC
      have hland := u8_land (common (gs.take t)) cg (common_le _ 3 (Nat.le_refl _)) hcg
      rw [← hct] at hland
      clear hcl hcell hob hbel hg hdim hct hdn hge
      generalize common (gs.take t) = ca at *
      generalize hcb : common (gs.take (t + 1)) = cb at *
      have HCB := Lib.hid hcb
      clear hcb
      go_wp2_with (go_at_call 81; (with_reducible refine (HC.out _).mono ?_); rintro e w3 ⟨rfl, hb⟩; have C1 := HG1.out.bel ((Bel.alloc1 _ _).trans hb); have HC1 := Lib.hid C1; have HB3 : Hid (Bel wr w3) := Lib.hid ((Bel.alloc1 _ _).trans hb); clear hb C1)
      go_roundw
      case rel => exact ⟨t + 1, by rw [HCB.out], by go_num, by omega, HBEL.out.trans HB3.out, HC1.out⟩
      case measure => simp [intOf]; omega
    · obtain rfl : t = n := by omega
      have hca : common (gs.take t) = common gs := by rw [List.take_of_length_le (by have := HN.out; omega)]
      rw [hca]
      have hcl3 := common_le gs 3 (Nat.le_refl _)
      have hcm : common gs ≤ 3 := hcl3
      clear hca hcl3
      generalize common gs = c' at *
      have HC : Hid (Calls Tryz.prog 80 #[.slice (some ⟨b, off, none⟩) t cap, .int .u8 c'] wr (IsObs (fun b => (F b ∧ b < w.heap.size) ∨ wr.heap.size ≤ b) wr 1 6 t (gs.map (force c')))) := Lib.hid (pointsForce_any _ _ _ cap gs c' hcm wr (fun b hb => Or.inr hb) (HSL.out.keep hbel.size (fun b _ hl => hbel.block b hl) fun b hl hb => Or.inl ⟨hb, hl⟩) hn31)
      have hw1 := HG1.out.lt
      clear hbel
      go_wp2_with (go_at_call 80; (with_reducible refine HC.out.mono ?_); rintro e w1 ⟨p1, c1, rfl, ho, hb1⟩; have HO := Lib.hid ho; have B2 := HG1.out.bel hb1; have HB1 : Hid (Bel w w1) := Lib.hid (HBEL.out.trans hb1); obtain ⟨r2, z2, l2⟩ := B2.facts; have HP2 := Lib.hid B2; clear ho hb1 B2)
      refine post_ret (results_one rfl (resIs_agg (n := 2) (cs := #[.slice p1 t c1, .int .u8 c']) (by rfl) Tryz.underlying61 (by kernel_rfl) (T := 61) ?_ rfl)) ⟨_, rfl, ObSl.ob ?_ rfl hcm (by rw [List.length_map, HN.out]; exact hn31), ?_⟩
      · have HB := HP2.out
        (apply Blk.cast; (repeat (first | with_reducible assumption | with_reducible apply Blk.set | ((with_reducible apply Blk.otherR); (focus ((simp <;> omega); done))) | with_reducible exact Blk.new _ _ _ | ((with_reducible apply Blk.new'); (focus (simp; done))) | with_reducible apply Blk.alloc | with_reducible apply Blk.drew | with_reducible apply Blk.drewN | (with_reducible refine Blk.bel ?_ (by with_reducible assumption)))); rfl)
      · refine HO.out.keep (by simp) (fun b hb hl => ?_) (fun b _ hb => ?_)
        · rw [Below.heap_setCell _ _ _ _ (by simp; omega), Below.heap_setCell _ _ _ _ (by simp; omega)]
        · rcases hb with hb | hb
          · exact hb.1
          · exact hF b (by omega)
      · have HB := HB1.out
        (repeat (first | with_reducible assumption | with_reducible exact Bel.refl _ | with_reducible apply Bel.alloc | with_reducible apply Bel.drew | with_reducible apply Bel.drewN | ((with_reducible apply Bel.setCellR); (simp <;> omega)) | with_reducible refine Bel.behind (by with_reducible assumption) ?_))
end Go.Proofs.YtpipehenfcbjbaaGreat
