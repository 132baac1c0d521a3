/-
  Polygons and rows of line strings under another type. No panic; what stood in memory has not turned.
-/
import Derived.Test.YtpipehenfcbjbaaGreatLin
set_option linter.unusedVariables false
namespace Go.Proofs.YtpipehenfcbjbaaGreat
open Go.ChangeShapes Go.WideShapes Go.ChangeAt Go.RowKit
theorem force_parts {s : Nat} (h1 : s ≠ 1) (h2 : s ≠ 2) (c c' : Nat) (gs : List Gm) : force c' (.mk s c [] gs) = .mk s c' [] (gs.map (force c')) := by
  simp only [force, forceAll_map, forceN_nil]
theorem infoLn : (Tryz.prog.info? 53).map (fun i => (i.zero, i.size, i.bytes)) = some (some (.agg #[.int .u8 0, .slice none 0 0]), 2, 32) := by kernel_rfl
theorem infoPg : (Tryz.prog.info? 57).map (fun i => (i.zero, i.size, i.bytes)) = some (some (.agg #[.slice none 0 0, .int .u8 0]), 2, 32) := by kernel_rfl
set_option maxHeartbeats 4000000 in
set_option maxRecDepth 100000 in
theorem polygonForce_any (F : Nat → Prop) (cs : List Value) (g : Gm) (c' : Nat) (hc' : c' ≤ 3) (w : World) (hF : New F w) (h : Ob F w 3 cs g) : Calls Tryz.prog 49 #[.agg cs.toArray, .int .u8 c'] w (IsOb F w 3 (force c' g)) := by
  obtain ⟨p, cap, c, gs, rfl, hc, rfl, hn31, hsl⟩ := h.sl (e := 2) (k := 2) rfl
  rw [force_parts (by decide) (by decide)]
  have HSL := Lib.hid hsl
  clear h hsl
  show Calls Tryz.prog 49 #[.agg #[.slice p gs.length cap, .int .u8 c], .int .u8 c'] w _
  generalize hn : gs.length = n at *
  have HN := Lib.hid hn
  clear hn
  obtain ⟨i0, hi, hz0, hz1, hz2⟩ := info_parts infoLn
  go_enter Tryz.func49, Tryz.ntmps49
  go_wp2_with (at_make; refine wpList_make_full _ rfl (.tmp 9) (.tmp 9) 55 rfl (w.heap.size + 1 + 1) 53 i0 (.agg #[.int .u8 0, .slice none 0 0]) 2 Tryz.underlying55 hi hz0 hz1 .i64 .i64 _ _ n rfl rfl rfl rfl ?b2 ?b3 ?b4 ?_; (case b2 => (rw [hz2]; omega)); (case b3 => (unfold maxLen; omega)); (case b4 => simp); intro w1 hown hgrow; obtain ⟨arr0, hB0, hs0⟩ := hown.blk; rw [show ((w.alloc (.cells #[.slice p n cap, .int .u8 c] 57)).alloc (.cells #[.slice none 0 0, .int .u8 0] 57)).heap.size = w.heap.size + 1 + 1 by simp] at hB0; have HW1 := Bel.of_grown0 hgrow; have B1 := ((Blk.new w #[.slice p n cap, .int .u8 c] 57).alloc (.cells #[.slice none 0 0, .int .u8 0] 57)).bel HW1; have B2 := (Blk.new' (w.alloc (.cells #[.slice p n cap, .int .u8 c] 57)) #[.slice none 0 0, .int .u8 0] 57 (b := w.heap.size + 1) (by simp)).bel HW1; have HB1 : Hid (Bel w w1) := Lib.hid (((Bel.alloc1 w _).alloc _).trans HW1); have HP0 := Lib.hid hB0; have HS0 := Lib.hid hs0; have HP1 := Lib.hid B1; have HP2 := Lib.hid B2; obtain ⟨r1, z1, l1⟩ := B1.facts; clear hown hgrow hB0 hs0 HW1 B1 B2)
  go_loopw [14] (fun iv wr => ∃ (t : Nat) (arr : Array Value), iv = .int .i64 t ∧ t ≤ n ∧ Bel w wr ∧ Blk wr w.heap.size #[.slice p n cap, .int .u8 c] 57 ∧ Blk wr (w.heap.size + 1) #[.slice none 0 0, .int .u8 0] 57 ∧ Blk wr (w.heap.size + 1 + 1) arr 53 ∧ arr.size = n * 2 ∧ RowOb (fun b => (F b ∧ b < w.heap.size) ∨ w.heap.size + 3 ≤ b) wr (fun o => arr[o]?) 2 2 ((gs.take t).map (force c'))) (fun iv _ => n - (intOf iv).toNat)
  case atStart => exact ⟨0, arr0, rfl, Nat.zero_le _, HB1.out, HP1.out, HP2.out, HP0.out, HS0.out, fun i g hg => by simp at hg⟩
  case round =>
    obtain ⟨t, arr, rfl, ht, hbel, hb1, hb2, hb3, harr, hrow⟩ := hrel
    have HBEL := Lib.hid hbel
    have HG1 := Lib.hid hb1
    have HG2 := Lib.hid hb2
    have HG3 := Lib.hid hb3
    have HROW := Lib.hid hrow
    obtain ⟨s1, t1, m1⟩ := hb1.facts
    have l3 := hb3.lt
    clear r1 z1 hrow hb1 hb2 hb3
    by_cases htn : t < n
    · obtain ⟨g, hg⟩ : ∃ g, gs[t]? = some g := ⟨_, List.getElem?_eq_getElem (by have := HN.out; omega)⟩
      obtain ⟨_, _, hve, _, _, hq⟩ := HSL.out
      cases hve
      obtain ⟨b, off, rfl, hlt, -, hr⟩ := hq (by intro e; rw [e] at hg; simp at hg)
      obtain ⟨cl, hcl, hcell, hob⟩ := hr t g hg
      obtain ⟨u0, u1, rfl⟩ := hob.two (by decide)
      have D0 := cell_kept hbel (hcell 0 u0 rfl)
      have D1 := cell_kept hbel (hcell 1 u1 rfl)
      simp only [Nat.add_zero] at D0
      have E1 := D1
      rw [← Nat.add_assoc] at E1
      have hbl : b < wr.heap.size := Nat.lt_of_lt_of_le hlt hbel.size
      have HG := Lib.hid hg
      have HC : Hid (∀ W, Bel w W → Calls Tryz.prog 78 #[.agg #[u0, u1], .int .u8 c'] W (IsOb (fun b => (F b ∧ b < w.heap.size) ∨ W.heap.size ≤ b) W 2 (force c' g))) := Lib.hid fun W hW => lineForce_any _ [u0, u1] g c' hc' W (fun b hb => Or.inr hb) (hob.keep hW.size (fun b _ hl => hW.block b hl) fun b hl hb => Or.inl ⟨hb, hl⟩)
      clear hq hr hcell hob hcl hbel hg
      go_wp2_with (go_at_call 78; (with_reducible refine (HC.out _ HBEL.out).mono ?_); rintro e w3 ⟨cs, rfl, ho, hb⟩; obtain ⟨d1, p1, n1, q1, xs1, hcs1, -⟩ := ho.ln; cases hcs1; have C1 := HG1.out.bel hb; have C2 := HG2.out.bel hb; have C3 := HG3.out.bel hb; have HB3 := Lib.hid hb; have HC1 := Lib.hid C1; have HC2 := Lib.hid C2; have HC3 := Lib.hid C3; have HO := Lib.hid ho; obtain ⟨x0, k0⟩ : ∃ u, w3.cell? ⟨w.heap.size + 1 + 1, t * 2, none⟩ = some u := ⟨arr[t * 2], (C3.rules.1 _).trans (Array.getElem?_eq_getElem (by omega))⟩; obtain ⟨x1, k1⟩ : ∃ u, w3.cell? ⟨w.heap.size + 1 + 1, t * 2 + 1, none⟩ = some u := ⟨arr[t * 2 + 1], (C3.rules.1 _).trans (Array.getElem?_eq_getElem (by omega))⟩; have t3 := C3.rules.2; have m3 := C3.lt; clear hb C1 C2 C3 ho)
      go_roundw
      case rel =>
        have hs1 := HBEL.out.size
        have hs3 := HB3.out.size
        refine ⟨t + 1, (arr.setIfInBounds (t * 2) (.int .u8 d1)).setIfInBounds (t * 2 + 1) (.slice p1 n1 q1), by go_num, by omega, ?_, ?_, ?_, ?_, by simp [harr], ?_⟩
        · have HB := HBEL.out.trans HB3.out
          (repeat (first | with_reducible assumption | with_reducible exact Bel.refl _ | with_reducible apply Bel.alloc | with_reducible apply Bel.drew | with_reducible apply Bel.drewN | ((with_reducible apply Bel.setCellR); (simp <;> omega)) | with_reducible refine Bel.behind (by with_reducible assumption) ?_))
        · have HB := HC1.out
          (repeat (first | with_reducible assumption | with_reducible exact Blk.new _ _ _ | ((with_reducible refine Blk.new' _ _ _ ?_); (focus ((simp; done)))) | with_reducible apply Blk.drew | with_reducible apply Blk.drewN | with_reducible refine Blk.alloc ?_ _ | with_reducible apply Blk.same | (with_reducible refine Blk.bel ?_ (by with_reducible assumption)) | ((with_reducible refine Blk.otherR ?_ ?_); (focus ((simp <;> omega); done)))))
        · have HB := HC2.out
          (repeat (first | with_reducible assumption | with_reducible exact Blk.new _ _ _ | ((with_reducible refine Blk.new' _ _ _ ?_); (focus ((simp; done)))) | with_reducible apply Blk.drew | with_reducible apply Blk.drewN | with_reducible refine Blk.alloc ?_ _ | with_reducible apply Blk.same | (with_reducible refine Blk.bel ?_ (by with_reducible assumption)) | ((with_reducible refine Blk.otherR ?_ ?_); (focus ((simp <;> omega); done)))))
        · exact (HC3.out.set _ _).set _ _
        · have e1 : (gs.take (t + 1)).map (force c') = (gs.take t).map (force c') ++ [force c' g] := by
            rw [List.take_add_one, HG.out]
            simp
          rw [e1]
          refine RowOb.push (t := t) (cl := [.int .u8 d1, .slice p1 n1 q1]) (HROW.out.keep (by simp; omega) (fun b hb hl => ?_) fun b _ hb => hb) (by rw [List.length_map, List.length_take]; have := HN.out; omega) (fun o u ho hu => ?_) rfl (fun j u hu => ?_) (HO.out.keep (by simp) (fun b hb hl => ?_) fun b _ hb => ?_)
          · rw [Below.heap_setCell _ _ _ _ (by simp; omega), Below.heap_setCell _ _ _ _ (by simp; omega)]
            exact HB3.out.block b hl
          · show (_ : Array Value)[o]? = some u
            rw [Array.getElem?_setIfInBounds_ne (by omega), Array.getElem?_setIfInBounds_ne (by omega)]
            exact hu
          · have hlt2 := (List.getElem?_eq_some_iff.1 hu).1
            simp at hlt2
            show (_ : Array Value)[t * 2 + j]? = some u
            match j, hlt2 with
            | 0, _ =>
              simp at hu
              subst hu
              rw [Array.getElem?_setIfInBounds_ne (by omega)]
              exact Array.getElem?_setIfInBounds_self_of_lt (by omega)
            | 1, _ =>
              simp at hu
              subst hu
              exact Array.getElem?_setIfInBounds_self_of_lt (by (try simp only [Array.size_setIfInBounds]); omega)
          · rw [Below.heap_setCell _ _ _ _ (by simp; omega), Below.heap_setCell _ _ _ _ (by simp; omega)]
          · rcases hb with hb | hb
            · exact Or.inl hb
            · exact Or.inr (by omega)
      case measure => simp [intOf]; omega
    · obtain rfl : t = n := by omega
      have hfin := HROW.out
      rw [List.take_of_length_le (by have := HN.out; omega)] at hfin
      have HFIN : Hid (ObSl (fun b => F b ∧ b ≠ w.heap.size + 1) wr 2 2 (.slice (some ⟨w.heap.size + 1 + 1, 0, none⟩) t t) (gs.map (force c'))) := Lib.hid ⟨_, t, by rw [List.length_map, HN.out], Nat.le_of_eq (by rw [List.length_map, HN.out]), by omega, fun _ => ⟨w.heap.size + 1 + 1, 0, rfl, l3, ⟨hF _ (by omega), by omega⟩, (hfin.keep (Nat.le_refl _) (fun _ _ _ => rfl) fun b _ hb => by
        rcases hb with hb | hb
        · exact ⟨hb.1, by omega⟩
        · exact ⟨hF _ (by omega), by omega⟩).cells fun o u ho => by
          rw [Nat.zero_add]
          exact (HG3.out.rules.1 o).trans ho⟩⟩
      clear hfin
      obtain ⟨s2, t2, m2⟩ := HG2.out.facts
      go_wp2
      refine post_ret (results_one rfl (resIs_agg (n := 2) (cs := #[.slice (some ⟨w.heap.size + 1 + 1, 0, none⟩) t t, .int .u8 c']) (by rfl) Tryz.underlying57 (by kernel_rfl) (T := 57) ?_ rfl)) ⟨_, rfl, ObSl.ob ?_ rfl hc' (by rw [List.length_map, HN.out]; exact hn31), ?_⟩
      · have HB := HG2.out
        (apply Blk.cast; (repeat (first | with_reducible assumption | with_reducible apply Blk.set | ((with_reducible apply Blk.otherR); (focus ((simp <;> omega); done))) | with_reducible exact Blk.new _ _ _ | ((with_reducible apply Blk.new'); (focus (simp; done))) | with_reducible apply Blk.alloc | with_reducible apply Blk.drew | with_reducible apply Blk.drewN | (with_reducible refine Blk.bel ?_ (by with_reducible assumption)))); rfl)
      · exact HFIN.out.keep (by simp) (fun b hb hl => by rw [Below.heap_setCell _ _ _ _ (fun e => hb.2 e), Below.heap_setCell _ _ _ _ (fun e => hb.2 e)]) fun b _ hb => hb.1
      · have HB := HBEL.out
        (repeat (first | with_reducible assumption | with_reducible exact Bel.refl _ | with_reducible apply Bel.alloc | with_reducible apply Bel.drew | with_reducible apply Bel.drewN | ((with_reducible apply Bel.setCellR); (simp <;> omega)) | with_reducible refine Bel.behind (by with_reducible assumption) ?_))
set_option maxHeartbeats 4000000 in
set_option maxRecDepth 100000 in
theorem multiLineForce_any (F : Nat → Prop) (cs : List Value) (g : Gm) (c' : Nat) (hc' : c' ≤ 3) (w : World) (hF : New F w) (h : Ob F w 5 cs g) : Calls Tryz.prog 53 #[.agg cs.toArray, .int .u8 c'] w (IsOb F w 5 (force c' g)) := by
  obtain ⟨p, cap, c, gs, rfl, hc, rfl, hn31, hsl⟩ := h.sl (e := 2) (k := 2) rfl
  rw [force_parts (by decide) (by decide)]
  have HSL := Lib.hid hsl
  clear h hsl
  show Calls Tryz.prog 53 #[.agg #[.slice p gs.length cap, .int .u8 c], .int .u8 c'] w _
  generalize hn : gs.length = n at *
  have HN := Lib.hid hn
  clear hn
  obtain ⟨i0, hi, hz0, hz1, hz2⟩ := info_parts infoLn
  go_enter Tryz.func53, Tryz.ntmps53
  go_wp2_with (at_make; refine wpList_make_full _ rfl (.tmp 9) (.tmp 9) 55 rfl (w.heap.size + 1 + 1) 53 i0 (.agg #[.int .u8 0, .slice none 0 0]) 2 Tryz.underlying55 hi hz0 hz1 .i64 .i64 _ _ n rfl rfl rfl rfl ?b2 ?b3 ?b4 ?_; (case b2 => (rw [hz2]; omega)); (case b3 => (unfold maxLen; omega)); (case b4 => simp); intro w1 hown hgrow; obtain ⟨arr0, hB0, hs0⟩ := hown.blk; rw [show ((w.alloc (.cells #[.slice p n cap, .int .u8 c] 64)).alloc (.cells #[.slice none 0 0, .int .u8 0] 64)).heap.size = w.heap.size + 1 + 1 by simp] at hB0; have HW1 := Bel.of_grown0 hgrow; have B1 := ((Blk.new w #[.slice p n cap, .int .u8 c] 64).alloc (.cells #[.slice none 0 0, .int .u8 0] 64)).bel HW1; have B2 := (Blk.new' (w.alloc (.cells #[.slice p n cap, .int .u8 c] 64)) #[.slice none 0 0, .int .u8 0] 64 (b := w.heap.size + 1) (by simp)).bel HW1; have HB1 : Hid (Bel w w1) := Lib.hid (((Bel.alloc1 w _).alloc _).trans HW1); have HP0 := Lib.hid hB0; have HS0 := Lib.hid hs0; have HP1 := Lib.hid B1; have HP2 := Lib.hid B2; obtain ⟨r1, z1, l1⟩ := B1.facts; clear hown hgrow hB0 hs0 HW1 B1 B2)
  go_loopw [14] (fun iv wr => ∃ (t : Nat) (arr : Array Value), iv = .int .i64 t ∧ t ≤ n ∧ Bel w wr ∧ Blk wr w.heap.size #[.slice p n cap, .int .u8 c] 64 ∧ Blk wr (w.heap.size + 1) #[.slice none 0 0, .int .u8 0] 64 ∧ Blk wr (w.heap.size + 1 + 1) arr 53 ∧ arr.size = n * 2 ∧ RowOb (fun b => (F b ∧ b < w.heap.size) ∨ w.heap.size + 3 ≤ b) wr (fun o => arr[o]?) 2 2 ((gs.take t).map (force c'))) (fun iv _ => n - (intOf iv).toNat)
  case atStart => exact ⟨0, arr0, rfl, Nat.zero_le _, HB1.out, HP1.out, HP2.out, HP0.out, HS0.out, fun i g hg => by simp at hg⟩
  case round =>
    obtain ⟨t, arr, rfl, ht, hbel, hb1, hb2, hb3, harr, hrow⟩ := hrel
    have HBEL := Lib.hid hbel
    have HG1 := Lib.hid hb1
    have HG2 := Lib.hid hb2
    have HG3 := Lib.hid hb3
    have HROW := Lib.hid hrow
    obtain ⟨s1, t1, m1⟩ := hb1.facts
    have l3 := hb3.lt
    clear r1 z1 hrow hb1 hb2 hb3
    by_cases htn : t < n
    · obtain ⟨g, hg⟩ : ∃ g, gs[t]? = some g := ⟨_, List.getElem?_eq_getElem (by have := HN.out; omega)⟩
      obtain ⟨_, _, hve, _, _, hq⟩ := HSL.out
      cases hve
      obtain ⟨b, off, rfl, hlt, -, hr⟩ := hq (by intro e; rw [e] at hg; simp at hg)
      obtain ⟨cl, hcl, hcell, hob⟩ := hr t g hg
      obtain ⟨u0, u1, rfl⟩ := hob.two (by decide)
      have D0 := cell_kept hbel (hcell 0 u0 rfl)
      have D1 := cell_kept hbel (hcell 1 u1 rfl)
      simp only [Nat.add_zero] at D0
      have E1 := D1
      rw [← Nat.add_assoc] at E1
      have hbl : b < wr.heap.size := Nat.lt_of_lt_of_le hlt hbel.size
      have HG := Lib.hid hg
      have HC : Hid (∀ W, Bel w W → Calls Tryz.prog 78 #[.agg #[u0, u1], .int .u8 c'] W (IsOb (fun b => (F b ∧ b < w.heap.size) ∨ W.heap.size ≤ b) W 2 (force c' g))) := Lib.hid fun W hW => lineForce_any _ [u0, u1] g c' hc' W (fun b hb => Or.inr hb) (hob.keep hW.size (fun b _ hl => hW.block b hl) fun b hl hb => Or.inl ⟨hb, hl⟩)
      clear hq hr hcell hob hcl hbel hg
      go_wp2_with (go_at_call 78; (with_reducible refine (HC.out _ HBEL.out).mono ?_); rintro e w3 ⟨cs, rfl, ho, hb⟩; obtain ⟨d1, p1, n1, q1, xs1, hcs1, -⟩ := ho.ln; cases hcs1; have C1 := HG1.out.bel hb; have C2 := HG2.out.bel hb; have C3 := HG3.out.bel hb; have HB3 := Lib.hid hb; have HC1 := Lib.hid C1; have HC2 := Lib.hid C2; have HC3 := Lib.hid C3; have HO := Lib.hid ho; obtain ⟨x0, k0⟩ : ∃ u, w3.cell? ⟨w.heap.size + 1 + 1, t * 2, none⟩ = some u := ⟨arr[t * 2], (C3.rules.1 _).trans (Array.getElem?_eq_getElem (by omega))⟩; obtain ⟨x1, k1⟩ : ∃ u, w3.cell? ⟨w.heap.size + 1 + 1, t * 2 + 1, none⟩ = some u := ⟨arr[t * 2 + 1], (C3.rules.1 _).trans (Array.getElem?_eq_getElem (by omega))⟩; have t3 := C3.rules.2; have m3 := C3.lt; clear hb C1 C2 C3 ho)
      go_roundw
      case rel =>
        have hs1 := HBEL.out.size
        have hs3 := HB3.out.size
        refine ⟨t + 1, (arr.setIfInBounds (t * 2) (.int .u8 d1)).setIfInBounds (t * 2 + 1) (.slice p1 n1 q1), by go_num, by omega, ?_, ?_, ?_, ?_, by simp [harr], ?_⟩
        · have HB := HBEL.out.trans HB3.out
          (repeat (first | with_reducible assumption | with_reducible exact Bel.refl _ | with_reducible apply Bel.alloc | with_reducible apply Bel.drew | with_reducible apply Bel.drewN | ((with_reducible apply Bel.setCellR); (simp <;> omega)) | with_reducible refine Bel.behind (by with_reducible assumption) ?_))
        · have HB := HC1.out
          (repeat (first | with_reducible assumption | with_reducible exact Blk.new _ _ _ | ((with_reducible refine Blk.new' _ _ _ ?_); (focus ((simp; done)))) | with_reducible apply Blk.drew | with_reducible apply Blk.drewN | with_reducible refine Blk.alloc ?_ _ | with_reducible apply Blk.same | (with_reducible refine Blk.bel ?_ (by with_reducible assumption)) | ((with_reducible refine Blk.otherR ?_ ?_); (focus ((simp <;> omega); done)))))
        · have HB := HC2.out
          (repeat (first | with_reducible assumption | with_reducible exact Blk.new _ _ _ | ((with_reducible refine Blk.new' _ _ _ ?_); (focus ((simp; done)))) | with_reducible apply Blk.drew | with_reducible apply Blk.drewN | with_reducible refine Blk.alloc ?_ _ | with_reducible apply Blk.same | (with_reducible refine Blk.bel ?_ (by with_reducible assumption)) | ((with_reducible refine Blk.otherR ?_ ?_); (focus ((simp <;> omega); done)))))
        · exact (HC3.out.set _ _).set _ _
        · have e1 : (gs.take (t + 1)).map (force c') = (gs.take t).map (force c') ++ [force c' g] := by
            rw [List.take_add_one, HG.out]
            simp
          rw [e1]
          refine RowOb.push (t := t) (cl := [.int .u8 d1, .slice p1 n1 q1]) (HROW.out.keep (by simp; omega) (fun b hb hl => ?_) fun b _ hb => hb) (by rw [List.length_map, List.length_take]; have := HN.out; omega) (fun o u ho hu => ?_) rfl (fun j u hu => ?_) (HO.out.keep (by simp) (fun b hb hl => ?_) fun b _ hb => ?_)
          · rw [Below.heap_setCell _ _ _ _ (by simp; omega), Below.heap_setCell _ _ _ _ (by simp; omega)]
            exact HB3.out.block b hl
          · show (_ : Array Value)[o]? = some u
            rw [Array.getElem?_setIfInBounds_ne (by omega), Array.getElem?_setIfInBounds_ne (by omega)]
            exact hu
          · have hlt2 := (List.getElem?_eq_some_iff.1 hu).1
            simp at hlt2
            show (_ : Array Value)[t * 2 + j]? = some u
            match j, hlt2 with
            | 0, _ =>
              simp at hu
              subst hu
              rw [Array.getElem?_setIfInBounds_ne (by omega)]
              exact Array.getElem?_setIfInBounds_self_of_lt (by omega)
            | 1, _ =>
              simp at hu
              subst hu
              exact Array.getElem?_setIfInBounds_self_of_lt (by (try simp only [Array.size_setIfInBounds]); omega)
          · rw [Below.heap_setCell _ _ _ _ (by simp; omega), Below.heap_setCell _ _ _ _ (by simp; omega)]
          · rcases hb with hb | hb
            · exact Or.inl hb
            · exact Or.inr (by omega)
      case measure => simp [intOf]; omega
    · obtain rfl : t = n := by omega
      have hfin := HROW.out
      rw [List.take_of_length_le (by have := HN.out; omega)] at hfin
      have HFIN : Hid (ObSl (fun b => F b ∧ b ≠ w.heap.size + 1) wr 2 2 (.slice (some ⟨w.heap.size + 1 + 1, 0, none⟩) t t) (gs.map (force c'))) := Lib.hid ⟨_, t, by rw [List.length_map, HN.out], Nat.le_of_eq (by rw [List.length_map, HN.out]), by omega, fun _ => ⟨w.heap.size + 1 + 1, 0, rfl, l3, ⟨hF _ (by omega), by omega⟩, (hfin.keep (Nat.le_refl _) (fun _ _ _ => rfl) fun b _ hb => by
        rcases hb with hb | hb
        · exact ⟨hb.1, by omega⟩
        · exact ⟨hF _ (by omega), by omega⟩).cells fun o u ho => by
          rw [Nat.zero_add]
          exact (HG3.out.rules.1 o).trans ho⟩⟩
      clear hfin
      obtain ⟨s2, t2, m2⟩ := HG2.out.facts
      go_wp2
      refine post_ret (results_one rfl (resIs_agg (n := 2) (cs := #[.slice (some ⟨w.heap.size + 1 + 1, 0, none⟩) t t, .int .u8 c']) (by rfl) Tryz.underlying64 (by kernel_rfl) (T := 64) ?_ rfl)) ⟨_, rfl, ObSl.ob ?_ rfl hc' (by rw [List.length_map, HN.out]; exact hn31), ?_⟩
      · have HB := HG2.out
        (apply Blk.cast; (repeat (first | with_reducible assumption | with_reducible apply Blk.set | ((with_reducible apply Blk.otherR); (focus ((simp <;> omega); done))) | with_reducible exact Blk.new _ _ _ | ((with_reducible apply Blk.new'); (focus (simp; done))) | with_reducible apply Blk.alloc | with_reducible apply Blk.drew | with_reducible apply Blk.drewN | (with_reducible refine Blk.bel ?_ (by with_reducible assumption)))); rfl)
      · exact HFIN.out.keep (by simp) (fun b hb hl => by rw [Below.heap_setCell _ _ _ _ (fun e => hb.2 e), Below.heap_setCell _ _ _ _ (fun e => hb.2 e)]) fun b _ hb => hb.1
      · have HB := HBEL.out
        (repeat (first | with_reducible assumption | with_reducible exact Bel.refl _ | with_reducible apply Bel.alloc | with_reducible apply Bel.drew | with_reducible apply Bel.drewN | ((with_reducible apply Bel.setCellR); (simp <;> omega)) | with_reducible refine Bel.behind (by with_reducible assumption) ?_))
set_option maxHeartbeats 4000000 in
set_option maxRecDepth 100000 in
theorem multiPolygonForce_any (F : Nat → Prop) (cs : List Value) (g : Gm) (c' : Nat) (hc' : c' ≤ 3) (w : World) (hF : New F w) (h : Ob F w 6 cs g) : Calls Tryz.prog 55 #[.agg cs.toArray, .int .u8 c'] w (IsOb F w 6 (force c' g)) := by
  obtain ⟨p, cap, c, gs, rfl, hc, rfl, hn31, hsl⟩ := h.sl (e := 3) (k := 2) rfl
  rw [force_parts (by decide) (by decide)]
  have HSL := Lib.hid hsl
  clear h hsl
  show Calls Tryz.prog 55 #[.agg #[.slice p gs.length cap, .int .u8 c], .int .u8 c'] w _
  generalize hn : gs.length = n at *
  have HN := Lib.hid hn
  clear hn
  obtain ⟨i0, hi, hz0, hz1, hz2⟩ := info_parts infoPg
  go_enter Tryz.func55, Tryz.ntmps55
  go_wp2_with (at_make; refine wpList_make_full _ rfl (.tmp 9) (.tmp 9) 66 rfl (w.heap.size + 1 + 1) 57 i0 (.agg #[.slice none 0 0, .int .u8 0]) 2 Tryz.underlying66 hi hz0 hz1 .i64 .i64 _ _ n rfl rfl rfl rfl ?b2 ?b3 ?b4 ?_; (case b2 => (rw [hz2]; omega)); (case b3 => (unfold maxLen; omega)); (case b4 => simp); intro w1 hown hgrow; obtain ⟨arr0, hB0, hs0⟩ := hown.blk; rw [show ((w.alloc (.cells #[.slice p n cap, .int .u8 c] 68)).alloc (.cells #[.slice none 0 0, .int .u8 0] 68)).heap.size = w.heap.size + 1 + 1 by simp] at hB0; have HW1 := Bel.of_grown0 hgrow; have B1 := ((Blk.new w #[.slice p n cap, .int .u8 c] 68).alloc (.cells #[.slice none 0 0, .int .u8 0] 68)).bel HW1; have B2 := (Blk.new' (w.alloc (.cells #[.slice p n cap, .int .u8 c] 68)) #[.slice none 0 0, .int .u8 0] 68 (b := w.heap.size + 1) (by simp)).bel HW1; have HB1 : Hid (Bel w w1) := Lib.hid (((Bel.alloc1 w _).alloc _).trans HW1); have HP0 := Lib.hid hB0; have HS0 := Lib.hid hs0; have HP1 := Lib.hid B1; have HP2 := Lib.hid B2; obtain ⟨r1, z1, l1⟩ := B1.facts; clear hown hgrow hB0 hs0 HW1 B1 B2)
  go_loopw [14] (fun iv wr => ∃ (t : Nat) (arr : Array Value), iv = .int .i64 t ∧ t ≤ n ∧ Bel w wr ∧ Blk wr w.heap.size #[.slice p n cap, .int .u8 c] 68 ∧ Blk wr (w.heap.size + 1) #[.slice none 0 0, .int .u8 0] 68 ∧ Blk wr (w.heap.size + 1 + 1) arr 57 ∧ arr.size = n * 2 ∧ RowOb (fun b => (F b ∧ b < w.heap.size) ∨ w.heap.size + 3 ≤ b) wr (fun o => arr[o]?) 3 2 ((gs.take t).map (force c'))) (fun iv _ => n - (intOf iv).toNat)
  case atStart => exact ⟨0, arr0, rfl, Nat.zero_le _, HB1.out, HP1.out, HP2.out, HP0.out, HS0.out, fun i g hg => by simp at hg⟩
  case round =>
    obtain ⟨t, arr, rfl, ht, hbel, hb1, hb2, hb3, harr, hrow⟩ := hrel
    have HBEL := Lib.hid hbel
    have HG1 := Lib.hid hb1
    have HG2 := Lib.hid hb2
    have HG3 := Lib.hid hb3
    have HROW := Lib.hid hrow
    obtain ⟨s1, t1, m1⟩ := hb1.facts
    have l3 := hb3.lt
    clear r1 z1 hrow hb1 hb2 hb3
    by_cases htn : t < n
    · obtain ⟨g, hg⟩ : ∃ g, gs[t]? = some g := ⟨_, List.getElem?_eq_getElem (by have := HN.out; omega)⟩
      obtain ⟨_, _, hve, _, _, hq⟩ := HSL.out
      cases hve
      obtain ⟨b, off, rfl, hlt, -, hr⟩ := hq (by intro e; rw [e] at hg; simp at hg)
      obtain ⟨cl, hcl, hcell, hob⟩ := hr t g hg
      obtain ⟨u0, u1, rfl⟩ := hob.two (by decide)
      have D0 := cell_kept hbel (hcell 0 u0 rfl)
      have D1 := cell_kept hbel (hcell 1 u1 rfl)
      simp only [Nat.add_zero] at D0
      have E1 := D1
      rw [← Nat.add_assoc] at E1
      have hbl : b < wr.heap.size := Nat.lt_of_lt_of_le hlt hbel.size
      have HG := Lib.hid hg
      have HC : Hid (∀ W, Bel w W → Calls Tryz.prog 49 #[.agg #[u0, u1], .int .u8 c'] W (IsOb (fun b => (F b ∧ b < w.heap.size) ∨ W.heap.size ≤ b) W 3 (force c' g))) := Lib.hid fun W hW => polygonForce_any _ [u0, u1] g c' hc' W (fun b hb => Or.inr hb) (hob.keep hW.size (fun b _ hl => hW.block b hl) fun b hl hb => Or.inl ⟨hb, hl⟩)
      clear hq hr hcell hob hcl hbel hg
      go_wp2_with (go_at_call 49; (with_reducible refine (HC.out _ HBEL.out).mono ?_); rintro e w3 ⟨cs, rfl, ho, hb⟩; obtain ⟨p1, q1, d1, gs1, hcs1, -⟩ := ho.sl (e := 2) (k := 2) rfl; cases hcs1; generalize gs1.length = n1 at *; have C1 := HG1.out.bel hb; have C2 := HG2.out.bel hb; have C3 := HG3.out.bel hb; have HB3 := Lib.hid hb; have HC1 := Lib.hid C1; have HC2 := Lib.hid C2; have HC3 := Lib.hid C3; have HO := Lib.hid ho; obtain ⟨x0, k0⟩ : ∃ u, w3.cell? ⟨w.heap.size + 1 + 1, t * 2, none⟩ = some u := ⟨arr[t * 2], (C3.rules.1 _).trans (Array.getElem?_eq_getElem (by omega))⟩; obtain ⟨x1, k1⟩ : ∃ u, w3.cell? ⟨w.heap.size + 1 + 1, t * 2 + 1, none⟩ = some u := ⟨arr[t * 2 + 1], (C3.rules.1 _).trans (Array.getElem?_eq_getElem (by omega))⟩; have t3 := C3.rules.2; have m3 := C3.lt; clear hb C1 C2 C3 ho)
      go_roundw
      case rel =>
        have hs1 := HBEL.out.size
        have hs3 := HB3.out.size
        refine ⟨t + 1, (arr.setIfInBounds (t * 2) (.slice p1 n1 q1)).setIfInBounds (t * 2 + 1) (.int .u8 d1), by go_num, by omega, ?_, ?_, ?_, ?_, by simp [harr], ?_⟩
        · have HB := HBEL.out.trans HB3.out
          (repeat (first | with_reducible assumption | with_reducible exact Bel.refl _ | with_reducible apply Bel.alloc | with_reducible apply Bel.drew | with_reducible apply Bel.drewN | ((with_reducible apply Bel.setCellR); (simp <;> omega)) | with_reducible refine Bel.behind (by with_reducible assumption) ?_))
        · have HB := HC1.out
          (repeat (first | with_reducible assumption | with_reducible exact Blk.new _ _ _ | ((with_reducible refine Blk.new' _ _ _ ?_); (focus ((simp; done)))) | with_reducible apply Blk.drew | with_reducible apply Blk.drewN | with_reducible refine Blk.alloc ?_ _ | with_reducible apply Blk.same | (with_reducible refine Blk.bel ?_ (by with_reducible assumption)) | ((with_reducible refine Blk.otherR ?_ ?_); (focus ((simp <;> omega); done)))))
        · have HB := HC2.out
          (repeat (first | with_reducible assumption | with_reducible exact Blk.new _ _ _ | ((with_reducible refine Blk.new' _ _ _ ?_); (focus ((simp; done)))) | with_reducible apply Blk.drew | with_reducible apply Blk.drewN | with_reducible refine Blk.alloc ?_ _ | with_reducible apply Blk.same | (with_reducible refine Blk.bel ?_ (by with_reducible assumption)) | ((with_reducible refine Blk.otherR ?_ ?_); (focus ((simp <;> omega); done)))))
        · exact (HC3.out.set _ _).set _ _
        · have e1 : (gs.take (t + 1)).map (force c') = (gs.take t).map (force c') ++ [force c' g] := by
            rw [List.take_add_one, HG.out]
            simp
          rw [e1]
          refine RowOb.push (t := t) (cl := [.slice p1 n1 q1, .int .u8 d1]) (HROW.out.keep (by simp; omega) (fun b hb hl => ?_) fun b _ hb => hb) (by rw [List.length_map, List.length_take]; have := HN.out; omega) (fun o u ho hu => ?_) rfl (fun j u hu => ?_) (HO.out.keep (by simp) (fun b hb hl => ?_) fun b _ hb => ?_)
          · rw [Below.heap_setCell _ _ _ _ (by simp; omega), Below.heap_setCell _ _ _ _ (by simp; omega)]
            exact HB3.out.block b hl
          · show (_ : Array Value)[o]? = some u
            rw [Array.getElem?_setIfInBounds_ne (by omega), Array.getElem?_setIfInBounds_ne (by omega)]
            exact hu
          · have hlt2 := (List.getElem?_eq_some_iff.1 hu).1
            simp at hlt2
            show (_ : Array Value)[t * 2 + j]? = some u
            match j, hlt2 with
            | 0, _ =>
              simp at hu
              subst hu
              rw [Array.getElem?_setIfInBounds_ne (by omega)]
              exact Array.getElem?_setIfInBounds_self_of_lt (by omega)
            | 1, _ =>
              simp at hu
              subst hu
              exact Array.getElem?_setIfInBounds_self_of_lt (by (try simp only [Array.size_setIfInBounds]); omega)
          · rw [Below.heap_setCell _ _ _ _ (by simp; omega), Below.heap_setCell _ _ _ _ (by simp; omega)]
          · rcases hb with hb | hb
            · exact Or.inl hb
            · exact Or.inr (by omega)
      case measure => simp [intOf]; omega
    · obtain rfl : t = n := by omega
      have hfin := HROW.out
      rw [List.take_of_length_le (by have := HN.out; omega)] at hfin
      have HFIN : Hid (ObSl (fun b => F b ∧ b ≠ w.heap.size + 1) wr 3 2 (.slice (some ⟨w.heap.size + 1 + 1, 0, none⟩) t t) (gs.map (force c'))) := Lib.hid ⟨_, t, by rw [List.length_map, HN.out], Nat.le_of_eq (by rw [List.length_map, HN.out]), by omega, fun _ => ⟨w.heap.size + 1 + 1, 0, rfl, l3, ⟨hF _ (by omega), by omega⟩, (hfin.keep (Nat.le_refl _) (fun _ _ _ => rfl) fun b _ hb => by
        rcases hb with hb | hb
        · exact ⟨hb.1, by omega⟩
        · exact ⟨hF _ (by omega), by omega⟩).cells fun o u ho => by
          rw [Nat.zero_add]
          exact (HG3.out.rules.1 o).trans ho⟩⟩
      clear hfin
      obtain ⟨s2, t2, m2⟩ := HG2.out.facts
      go_wp2
      refine post_ret (results_one rfl (resIs_agg (n := 2) (cs := #[.slice (some ⟨w.heap.size + 1 + 1, 0, none⟩) t t, .int .u8 c']) (by rfl) Tryz.underlying68 (by kernel_rfl) (T := 68) ?_ rfl)) ⟨_, rfl, ObSl.ob ?_ rfl hc' (by rw [List.length_map, HN.out]; exact hn31), ?_⟩
      · have HB := HG2.out
        (apply Blk.cast; (repeat (first | with_reducible assumption | with_reducible apply Blk.set | ((with_reducible apply Blk.otherR); (focus ((simp <;> omega); done))) | with_reducible exact Blk.new _ _ _ | ((with_reducible apply Blk.new'); (focus (simp; done))) | with_reducible apply Blk.alloc | with_reducible apply Blk.drew | with_reducible apply Blk.drewN | (with_reducible refine Blk.bel ?_ (by with_reducible assumption)))); rfl)
      · exact HFIN.out.keep (by simp) (fun b hb hl => by rw [Below.heap_setCell _ _ _ _ (fun e => hb.2 e), Below.heap_setCell _ _ _ _ (fun e => hb.2 e)]) fun b _ hb => hb.1
      · have HB := HBEL.out
        (repeat (first | with_reducible assumption | with_reducible exact Bel.refl _ | with_reducible apply Bel.alloc | with_reducible apply Bel.drew | with_reducible apply Bel.drewN | ((with_reducible apply Bel.setCellR); (simp <;> omega)) | with_reducible refine Bel.behind (by with_reducible assumption) ?_))
end Go.Proofs.YtpipehenfcbjbaaGreat
