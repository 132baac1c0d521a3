/-
  Geometries and collections under another type; NewGeometryCollection of one part or more. No panic; what stood in memory has not turned.
-/
import Derived.Test.YtpipehenfcbjbaaGreatGt
set_option linter.unusedVariables false
namespace Go.Proofs.YtpipehenfcbjbaaGreat
open Go.ChangeShapes Go.WideShapes Go.ChangeAt Go.RowKit
theorem infoGe : (Tryz.prog.info? 36).map (fun i => (i.zero, i.size, i.bytes)) = some (some (.agg #[.int .i64 0, .nilIface]), 2, 24) := by kernel_rfl
def GeoForced (c' : Nat) (k : Gm) : Prop := ∀ (F' : Nat → Prop) (cs : List Value) (W : World), New F' W → Ob F' W 7 cs k → Calls Tryz.prog 83 #[.agg cs.toArray, .int .u8 c'] W (IsOb F' W 7 (force c' k))
set_option maxHeartbeats 4000000 in
set_option maxRecDepth 100000 in
theorem collForce_any (F : Nat → Prop) (cs : List Value) (g : Gm) (c' : Nat) (hc' : c' ≤ 3) (w : World) (hF : New F w) (h : Ob F w 0 cs g) (hih : ∀ k ∈ g.kids, GeoForced c' k) : Calls Tryz.prog 57 #[.agg cs.toArray, .int .u8 c'] w (IsOb F w 0 (force c' g)) := by
  obtain ⟨p, cap, c, gs, rfl, hc, rfl, hn31, hsl⟩ := h.sl (e := 7) (k := 2) rfl
  rw [force_parts (by decide) (by decide)]
  have HIH : Hid (∀ k ∈ gs, GeoForced c' k) := Lib.hid hih
  clear hih
  have HSL := Lib.hid hsl
  clear h hsl
  show Calls Tryz.prog 57 #[.agg #[.slice p gs.length cap, .int .u8 c], .int .u8 c'] w _
  generalize hn : gs.length = n at *
  have HN := Lib.hid hn
  clear hn
  obtain ⟨i0, hi, hz0, hz1, hz2⟩ := info_parts infoGe
  go_enter Tryz.func57, Tryz.ntmps57
  go_wp2_with (at_make; refine wpList_make_full _ rfl (.tmp 9) (.tmp 9) 70 rfl (w.heap.size + 1 + 1) 36 i0 (.agg #[.int .i64 0, .nilIface]) 2 Tryz.underlying70 hi hz0 hz1 .i64 .i64 _ _ n rfl rfl rfl rfl ?b2 ?b3 ?b4 ?_; (case b2 => (rw [hz2]; omega)); (case b3 => (unfold maxLen; omega)); (case b4 => simp); intro w1 hown hgrow; obtain ⟨arr0, hB0, hs0⟩ := hown.blk; rw [show ((w.alloc (.cells #[.slice p n cap, .int .u8 c] 72)).alloc (.cells #[.slice none 0 0, .int .u8 0] 72)).heap.size = w.heap.size + 1 + 1 by simp] at hB0; have HW1 := Bel.of_grown0 hgrow; have B1 := ((Blk.new w #[.slice p n cap, .int .u8 c] 72).alloc (.cells #[.slice none 0 0, .int .u8 0] 72)).bel HW1; have B2 := (Blk.new' (w.alloc (.cells #[.slice p n cap, .int .u8 c] 72)) #[.slice none 0 0, .int .u8 0] 72 (b := w.heap.size + 1) (by simp)).bel HW1; have HB1 : Hid (Bel w w1) := Lib.hid (((Bel.alloc1 w _).alloc _).trans HW1); have HP0 := Lib.hid hB0; have HS0 := Lib.hid hs0; have HP1 := Lib.hid B1; have HP2 := Lib.hid B2; obtain ⟨r1, z1, l1⟩ := B1.facts; clear hown hgrow hB0 hs0 HW1 B1 B2)
  go_loopw [14] (fun iv wr => ∃ (t : Nat) (arr : Array Value), iv = .int .i64 t ∧ t ≤ n ∧ Bel w wr ∧ Blk wr w.heap.size #[.slice p n cap, .int .u8 c] 72 ∧ Blk wr (w.heap.size + 1) #[.slice none 0 0, .int .u8 0] 72 ∧ Blk wr (w.heap.size + 1 + 1) arr 36 ∧ arr.size = n * 2 ∧ RowOb (fun b => (F b ∧ b < w.heap.size) ∨ w.heap.size + 3 ≤ b) wr (fun o => arr[o]?) 7 2 ((gs.take t).map (force c'))) (fun iv _ => n - (intOf iv).toNat)
  case atStart => exact ⟨0, arr0, rfl, Nat.zero_le _, HB1.out, HP1.out, HP2.out, HP0.out, HS0.out, fun i g hg => by simp at hg⟩
  case round =>
    obtain ⟨t, arr, rfl, ht, hbel, hb1, hb2, hb3, harr, hrow⟩ := hrel
    have HBEL := Lib.hid hbel
    have HG1 := Lib.hid hb1
    have HG2 := Lib.hid hb2
    have HG3 := Lib.hid hb3
    have HROW := Lib.hid hrow
    obtain ⟨s1, t1, m1⟩ := hb1.facts
    have l3 := hb3.lt
    clear r1 z1 hrow hb1 hb2 hb3
    by_cases htn : t < n
    · obtain ⟨g, hg⟩ : ∃ g, gs[t]? = some g := ⟨_, List.getElem?_eq_getElem (by have := HN.out; omega)⟩
      obtain ⟨_, _, hve, _, _, hq⟩ := HSL.out
      cases hve
      obtain ⟨b, off, rfl, hlt, -, hr⟩ := hq (by intro e; rw [e] at hg; simp at hg)
      obtain ⟨cl, hcl, hcell, hob⟩ := hr t g hg
      obtain ⟨u0, u1, rfl⟩ := hob.two (by decide)
      have D0 := cell_kept hbel (hcell 0 u0 rfl)
      have D1 := cell_kept hbel (hcell 1 u1 rfl)
      simp only [Nat.add_zero] at D0
      have E1 := D1
      rw [← Nat.add_assoc] at E1
      have hbl : b < wr.heap.size := Nat.lt_of_lt_of_le hlt hbel.size
      have HG := Lib.hid hg
      have HC : Hid (∀ W, Bel w W → Calls Tryz.prog 83 #[.agg #[u0, u1], .int .u8 c'] W (IsOb (fun b => (F b ∧ b < w.heap.size) ∨ W.heap.size ≤ b) W 7 (force c' g))) := Lib.hid fun W hW => HIH.out g (List.mem_iff_getElem?.2 ⟨t, hg⟩) _ [u0, u1] W (fun b hb => Or.inr hb) (hob.keep hW.size (fun b _ hl => hW.block b hl) fun b hl hb => Or.inl ⟨hb, hl⟩)
      clear hq hr hcell hob hcl hbel hg
      go_wp2_with (go_at_call 83; (with_reducible refine (HC.out _ HBEL.out).mono ?_); rintro e w3 ⟨cs, rfl, ho, hb⟩; obtain ⟨s1, b1, cl1, hcs1, -⟩ := ho.gi; cases hcs1; have C1 := HG1.out.bel hb; have C2 := HG2.out.bel hb; have C3 := HG3.out.bel hb; have HB3 := Lib.hid hb; have HC1 := Lib.hid C1; have HC2 := Lib.hid C2; have HC3 := Lib.hid C3; have HO := Lib.hid ho; obtain ⟨x0, k0⟩ : ∃ u, w3.cell? ⟨w.heap.size + 1 + 1, t * 2, none⟩ = some u := ⟨arr[t * 2], (C3.rules.1 _).trans (Array.getElem?_eq_getElem (by omega))⟩; obtain ⟨x1, k1⟩ : ∃ u, w3.cell? ⟨w.heap.size + 1 + 1, t * 2 + 1, none⟩ = some u := ⟨arr[t * 2 + 1], (C3.rules.1 _).trans (Array.getElem?_eq_getElem (by omega))⟩; have t3 := C3.rules.2; have m3 := C3.lt; clear hb C1 C2 C3 ho)
      go_roundw
      case rel =>
        have hs1 := HBEL.out.size
        have hs3 := HB3.out.size
        refine ⟨t + 1, (arr.setIfInBounds (t * 2) (.int .i64 s1)).setIfInBounds (t * 2 + 1) (.iface (ptrT s1) (.pointer (some ⟨b1, 0, none⟩))), by go_num, by omega, ?_, ?_, ?_, ?_, by simp [harr], ?_⟩
        · have HB := HBEL.out.trans HB3.out
          (repeat (first | with_reducible assumption | with_reducible exact Bel.refl _ | with_reducible apply Bel.alloc | with_reducible apply Bel.drew | with_reducible apply Bel.drewN | ((with_reducible apply Bel.setCellR); (simp <;> omega)) | with_reducible refine Bel.behind (by with_reducible assumption) ?_))
        · have HB := HC1.out
          (repeat (first | with_reducible assumption | with_reducible exact Blk.new _ _ _ | ((with_reducible refine Blk.new' _ _ _ ?_); (focus ((simp; done)))) | with_reducible apply Blk.drew | with_reducible apply Blk.drewN | with_reducible refine Blk.alloc ?_ _ | with_reducible apply Blk.same | (with_reducible refine Blk.bel ?_ (by with_reducible assumption)) | ((with_reducible refine Blk.otherR ?_ ?_); (focus ((simp <;> omega); done)))))
        · have HB := HC2.out
          (repeat (first | with_reducible assumption | with_reducible exact Blk.new _ _ _ | ((with_reducible refine Blk.new' _ _ _ ?_); (focus ((simp; done)))) | with_reducible apply Blk.drew | with_reducible apply Blk.drewN | with_reducible refine Blk.alloc ?_ _ | with_reducible apply Blk.same | (with_reducible refine Blk.bel ?_ (by with_reducible assumption)) | ((with_reducible refine Blk.otherR ?_ ?_); (focus ((simp <;> omega); done)))))
        · exact (HC3.out.set _ _).set _ _
        · have e1 : (gs.take (t + 1)).map (force c') = (gs.take t).map (force c') ++ [force c' g] := by
            rw [List.take_add_one, HG.out]
            simp
          rw [e1]
          refine RowOb.push (t := t) (cl := [.int .i64 s1, .iface (ptrT s1) (.pointer (some ⟨b1, 0, none⟩))]) (HROW.out.keep (by simp; omega) (fun b hb hl => ?_) fun b _ hb => hb) (by rw [List.length_map, List.length_take]; have := HN.out; omega) (fun o u ho hu => ?_) rfl (fun j u hu => ?_) (HO.out.keep (by simp) (fun b hb hl => ?_) fun b _ hb => ?_)
          · rw [Below.heap_setCell _ _ _ _ (by simp; omega), Below.heap_setCell _ _ _ _ (by simp; omega)]
            exact HB3.out.block b hl
          · show (_ : Array Value)[o]? = some u
            rw [Array.getElem?_setIfInBounds_ne (by omega), Array.getElem?_setIfInBounds_ne (by omega)]
            exact hu
          · have hlt2 := (List.getElem?_eq_some_iff.1 hu).1
            simp at hlt2
            show (_ : Array Value)[t * 2 + j]? = some u
            match j, hlt2 with
            | 0, _ =>
              simp at hu
              subst hu
              rw [Array.getElem?_setIfInBounds_ne (by omega)]
              exact Array.getElem?_setIfInBounds_self_of_lt (by omega)
            | 1, _ =>
              simp at hu
              subst hu
              exact Array.getElem?_setIfInBounds_self_of_lt (by (try simp only [Array.size_setIfInBounds]); omega)
          · rw [Below.heap_setCell _ _ _ _ (by simp; omega), Below.heap_setCell _ _ _ _ (by simp; omega)]
          · rcases hb with hb | hb
            · exact Or.inl hb
            · exact Or.inr (by omega)
      case measure => simp [intOf]; omega
    · obtain rfl : t = n := by omega
      have hfin := HROW.out
      rw [List.take_of_length_le (by have := HN.out; omega)] at hfin
      have HFIN : Hid (ObSl (fun b => F b ∧ b ≠ w.heap.size + 1) wr 7 2 (.slice (some ⟨w.heap.size + 1 + 1, 0, none⟩) t t) (gs.map (force c'))) := Lib.hid ⟨_, t, by rw [List.length_map, HN.out], Nat.le_of_eq (by rw [List.length_map, HN.out]), by omega, fun _ => ⟨w.heap.size + 1 + 1, 0, rfl, l3, ⟨hF _ (by omega), by omega⟩, (hfin.keep (Nat.le_refl _) (fun _ _ _ => rfl) fun b _ hb => by
        rcases hb with hb | hb
        · exact ⟨hb.1, by omega⟩
        · exact ⟨hF _ (by omega), by omega⟩).cells fun o u ho => by
          rw [Nat.zero_add]
          exact (HG3.out.rules.1 o).trans ho⟩⟩
      clear hfin
      obtain ⟨s2, t2, m2⟩ := HG2.out.facts
      go_wp2
      refine post_ret (results_one rfl (resIs_agg (n := 2) (cs := #[.slice (some ⟨w.heap.size + 1 + 1, 0, none⟩) t t, .int .u8 c']) (by rfl) Tryz.underlying72 (by kernel_rfl) (T := 72) ?_ rfl)) ⟨_, rfl, ObSl.ob ?_ rfl hc' (by rw [List.length_map, HN.out]; exact hn31), ?_⟩
      · have HB := HG2.out
        (apply Blk.cast; (repeat (first | with_reducible assumption | with_reducible apply Blk.set | ((with_reducible apply Blk.otherR); (focus ((simp <;> omega); done))) | with_reducible exact Blk.new _ _ _ | ((with_reducible apply Blk.new'); (focus (simp; done))) | with_reducible apply Blk.alloc | with_reducible apply Blk.drew | with_reducible apply Blk.drewN | (with_reducible refine Blk.bel ?_ (by with_reducible assumption)))); rfl)
      · exact HFIN.out.keep (by simp) (fun b hb hl => by rw [Below.heap_setCell _ _ _ _ (fun e => hb.2 e), Below.heap_setCell _ _ _ _ (fun e => hb.2 e)]) fun b _ hb => hb.1
      · have HB := HBEL.out
        (repeat (first | with_reducible assumption | with_reducible exact Bel.refl _ | with_reducible apply Bel.alloc | with_reducible apply Bel.drew | with_reducible apply Bel.drewN | ((with_reducible apply Bel.setCellR); (simp <;> omega)) | with_reducible refine Bel.behind (by with_reducible assumption) ?_))
set_option maxHeartbeats 8000000 in
set_option maxRecDepth 100000 in
theorem geoForce_ind (c' : Nat) (hc' : c' ≤ 3) : ∀ (n : Nat) (g : Gm), g.size ≤ n → GeoForced c' g := by
  intro n
  induction n with
  | zero => exact fun g h => absurd h (by have := g.size_pos; omega)
  | succ n ih =>
    intro g hsz F cs w hF h
    obtain ⟨s, b, cl, rfl, hs6, hlt, hFb, hc, ho⟩ := h.gi
    clear h
    have h7 : s = 0 ∨ s = 1 ∨ s = 2 ∨ s = 3 ∨ s = 4 ∨ s = 5 ∨ s = 6 := by omega
    have HO : Hid (∀ W, Bel w W → Ob (fun b => W.heap.size ≤ b ∨ (F b ∧ b < w.heap.size)) W s cl g) := Lib.hid fun W hW => ho.keep hW.size (fun b _ hl => hW.block b hl) fun b hl hb => Or.inr ⟨hb, hl⟩
    have HIH : Hid (∀ k ∈ g.kids, GeoForced c' k) := Lib.hid fun k hk => ih k (by
      have := g.size_eq
      have := Gm.size_mem hk
      omega)
    clear ih hsz
    rcases h7 with rfl | rfl | rfl | rfl | rfl | rfl | rfl
    · obtain ⟨p, cap, c, gs, hcs, -⟩ := ho.sl (e := 7) (k := 2) rfl
      subst hcs
      clear ho
      show Calls Tryz.prog 83 #[.agg #[.int .i64 0, .iface 105 (.pointer (some ⟨b, 0, none⟩))], .int .u8 c'] w _
      have HM : Hid (∀ W, Bel w W → Calls Tryz.prog 40 #[.agg #[.int .i64 0, .iface 105 (.pointer (some ⟨b, 0, none⟩))]] W fun e w' => e = .returned (.agg #[.slice p gs.length cap, .int .u8 c]) ∧ Bel W w') := Lib.hid fun W hW => mustAs_0 _ _ _ _ b W (cell_kept hW (hc 0 _ rfl)) (cell_kept hW (hc 1 _ rfl))
      have HC : Hid (∀ W, Bel w W → Calls Tryz.prog 57 #[.agg #[.slice p gs.length cap, .int .u8 c], .int .u8 c'] W (IsOb (fun b => W.heap.size ≤ b ∨ (F b ∧ b < w.heap.size)) W 0 (force c' g))) := Lib.hid fun W hW => collForce_any _ [.slice p gs.length cap, .int .u8 c] g c' hc' W (fun b hb => Or.inl hb) (HO.out W hW) HIH.out
      clear hc HO HIH
      generalize gs.length = n at *
      go_enter Tryz.func83, Tryz.ntmps83
      go_wp2_with (first
        | (go_at_call 40; (with_reducible refine (HM.out _ ?hb).mono ?_); (case hb => (repeat (first | with_reducible assumption | with_reducible exact Bel.refl _ | with_reducible apply Bel.alloc | with_reducible apply Bel.drew | with_reducible apply Bel.drewN | ((with_reducible apply Bel.setCellR); (simp <;> omega)) | with_reducible refine Bel.behind (by with_reducible assumption) ?_))); rintro e w1 ⟨rfl, hb1⟩; have HB1 : Hid (Bel w w1) := Lib.hid ((show Bel w _ by (repeat (first | with_reducible assumption | with_reducible exact Bel.refl _ | with_reducible apply Bel.alloc | with_reducible apply Bel.drew | with_reducible apply Bel.drewN | ((with_reducible apply Bel.setCellR); (simp <;> omega)) | with_reducible refine Bel.behind (by with_reducible assumption) ?_))).trans hb1); have B2 := (Blk.new' (w.alloc (.cells #[.int .i64 0, .iface 105 (.pointer (some ⟨b, 0, none⟩))] 36)) #[.int .i64 0, .nilIface] 36 (b := w.heap.size + 1) (by simp)).bel hb1; have HP2 := Lib.hid B2; clear hb1 B2)
        | (go_at_call 57; (with_reducible refine (HC.out _ HB1.out).mono ?_); rintro e w2 ⟨cs2, rfl, ho2, hb2⟩; have HO2 := Lib.hid ho2; have HB2 : Hid (Bel w w2) := Lib.hid (HB1.out.trans hb2); have HB12 : Hid (Bel w1 w2) := Lib.hid hb2; have B2 := HP2.out.bel hb2; have HP3 := Lib.hid B2; clear ho2 hb2 B2)
        | (go_at_call 34; (with_reducible refine (asGeo_0 _ cs2 _ _ ?hn HO2.out).mono ?_); (case hn => exact fun b hb => Or.inl (by have := HB12.out.size; omega)); rintro e w3 ⟨cs3, rfl, ho3, hb3⟩; have HO3 := Lib.hid ho3; obtain ⟨s1, b1, cl1, hcs1, -⟩ := ho3.gi; cases hcs1; have B2 := HP3.out.bel hb3; have HP4 := Lib.hid B2; obtain ⟨r2, z2, l2⟩ := B2.facts; have HB3 : Hid (Bel w w3) := Lib.hid (HB2.out.trans hb3); clear ho3 hb3 B2))
      have hw1 := HP2.out.lt
      refine post_ret (results_one rfl (resIs_agg (n := 2) (cs := #[.int .i64 s1, .iface (ptrT s1) (.pointer (some ⟨b1, 0, none⟩))]) (by rfl) Tryz.underlying36 (by kernel_rfl) (T := 36) ?_ rfl)) ⟨_, rfl, HO3.out.keep (by simp) (fun b hb hl => ?_) (fun b _ hb => ?_), ?_⟩
      · have HB := HP4.out
        (apply Blk.cast; (repeat (first | with_reducible assumption | with_reducible apply Blk.set | ((with_reducible apply Blk.otherR); (focus ((simp <;> omega); done))) | with_reducible exact Blk.new _ _ _ | ((with_reducible apply Blk.new'); (focus (simp; done))) | with_reducible apply Blk.alloc | with_reducible apply Blk.drew | with_reducible apply Blk.drewN | (with_reducible refine Blk.bel ?_ (by with_reducible assumption)))); rfl)
      · rw [Below.heap_setCell _ _ _ _ (by simp; omega), Below.heap_setCell _ _ _ _ (by simp; omega)]
      · rcases hb with hb | hb
        · exact hF b (by have := HB1.out.size; omega)
        · exact hb.1
      · have HB := HB3.out
        (repeat (first | with_reducible assumption | with_reducible exact Bel.refl _ | with_reducible apply Bel.alloc | with_reducible apply Bel.drew | with_reducible apply Bel.drewN | ((with_reducible apply Bel.setCellR); (simp <;> omega)) | with_reducible refine Bel.behind (by with_reducible assumption) ?_))
    · obtain ⟨x, y, z, m, c, full, hcs, -⟩ := ho.pt
      subst hcs
      clear ho
      show Calls Tryz.prog 83 #[.agg #[.int .i64 1, .iface 87 (.pointer (some ⟨b, 0, none⟩))], .int .u8 c'] w _
      have HM : Hid (∀ W, Bel w W → Calls Tryz.prog 61 #[.agg #[.int .i64 1, .iface 87 (.pointer (some ⟨b, 0, none⟩))]] W fun e w' => e = .returned (.agg #[.float .f64 x, .float .f64 y, .float .f64 z, .float .f64 m, .int .u8 c, .bool full]) ∧ Bel W w') := Lib.hid fun W hW => mustAs_1 _ _ _ _ _ _ b W (cell_kept hW (hc 0 _ rfl)) (cell_kept hW (hc 1 _ rfl)) (cell_kept hW (hc 2 _ rfl)) (cell_kept hW (hc 3 _ rfl)) (cell_kept hW (hc 4 _ rfl)) (cell_kept hW (hc 5 _ rfl))
      have HC : Hid (∀ W, Bel w W → Calls Tryz.prog 87 #[.agg #[.float .f64 x, .float .f64 y, .float .f64 z, .float .f64 m, .int .u8 c, .bool full], .int .u8 c'] W (IsOb (fun b => W.heap.size ≤ b ∨ (F b ∧ b < w.heap.size)) W 1 (force c' g))) := Lib.hid fun W hW => pointForce_any [.float .f64 x, .float .f64 y, .float .f64 z, .float .f64 m, .int .u8 c, .bool full] g c' hc' W (HO.out W hW)
      clear hc HO HIH
      go_enter Tryz.func83, Tryz.ntmps83
      go_wp2_with (first
        | (go_at_call 61; (with_reducible refine (HM.out _ ?hb).mono ?_); (case hb => (repeat (first | with_reducible assumption | with_reducible exact Bel.refl _ | with_reducible apply Bel.alloc | with_reducible apply Bel.drew | with_reducible apply Bel.drewN | ((with_reducible apply Bel.setCellR); (simp <;> omega)) | with_reducible refine Bel.behind (by with_reducible assumption) ?_))); rintro e w1 ⟨rfl, hb1⟩; have HB1 : Hid (Bel w w1) := Lib.hid ((show Bel w _ by (repeat (first | with_reducible assumption | with_reducible exact Bel.refl _ | with_reducible apply Bel.alloc | with_reducible apply Bel.drew | with_reducible apply Bel.drewN | ((with_reducible apply Bel.setCellR); (simp <;> omega)) | with_reducible refine Bel.behind (by with_reducible assumption) ?_))).trans hb1); have B2 := (Blk.new' (w.alloc (.cells #[.int .i64 1, .iface 87 (.pointer (some ⟨b, 0, none⟩))] 36)) #[.int .i64 0, .nilIface] 36 (b := w.heap.size + 1) (by simp)).bel hb1; have HP2 := Lib.hid B2; clear hb1 B2)
        | (go_at_call 87; (with_reducible refine (HC.out _ HB1.out).mono ?_); rintro e w2 ⟨cs2, rfl, ho2, hb2⟩; have HO2 := Lib.hid ho2; have HB2 : Hid (Bel w w2) := Lib.hid (HB1.out.trans hb2); have HB12 : Hid (Bel w1 w2) := Lib.hid hb2; have B2 := HP2.out.bel hb2; have HP3 := Lib.hid B2; clear ho2 hb2 B2)
        | (go_at_call 22; (with_reducible refine (asGeo_1 _ cs2 _ _ ?hn HO2.out).mono ?_); (case hn => exact fun b hb => Or.inl (by have := HB12.out.size; omega)); rintro e w3 ⟨cs3, rfl, ho3, hb3⟩; have HO3 := Lib.hid ho3; obtain ⟨s1, b1, cl1, hcs1, -⟩ := ho3.gi; cases hcs1; have B2 := HP3.out.bel hb3; have HP4 := Lib.hid B2; obtain ⟨r2, z2, l2⟩ := B2.facts; have HB3 : Hid (Bel w w3) := Lib.hid (HB2.out.trans hb3); clear ho3 hb3 B2))
      have hw1 := HP2.out.lt
      refine post_ret (results_one rfl (resIs_agg (n := 2) (cs := #[.int .i64 s1, .iface (ptrT s1) (.pointer (some ⟨b1, 0, none⟩))]) (by rfl) Tryz.underlying36 (by kernel_rfl) (T := 36) ?_ rfl)) ⟨_, rfl, HO3.out.keep (by simp) (fun b hb hl => ?_) (fun b _ hb => ?_), ?_⟩
      · have HB := HP4.out
        (apply Blk.cast; (repeat (first | with_reducible assumption | with_reducible apply Blk.set | ((with_reducible apply Blk.otherR); (focus ((simp <;> omega); done))) | with_reducible exact Blk.new _ _ _ | ((with_reducible apply Blk.new'); (focus (simp; done))) | with_reducible apply Blk.alloc | with_reducible apply Blk.drew | with_reducible apply Blk.drewN | (with_reducible refine Blk.bel ?_ (by with_reducible assumption)))); rfl)
      · rw [Below.heap_setCell _ _ _ _ (by simp; omega), Below.heap_setCell _ _ _ _ (by simp; omega)]
      · rcases hb with hb | hb
        · exact hF b (by have := HB1.out.size; omega)
        · exact hb.1
      · have HB := HB3.out
        (repeat (first | with_reducible assumption | with_reducible exact Bel.refl _ | with_reducible apply Bel.alloc | with_reducible apply Bel.drew | with_reducible apply Bel.drewN | ((with_reducible apply Bel.setCellR); (simp <;> omega)) | with_reducible refine Bel.behind (by with_reducible assumption) ?_))
    · obtain ⟨c, p, n, cap, xs, hcs, -⟩ := ho.ln
      subst hcs
      clear ho
      show Calls Tryz.prog 83 #[.agg #[.int .i64 2, .iface 89 (.pointer (some ⟨b, 0, none⟩))], .int .u8 c'] w _
      have HM : Hid (∀ W, Bel w W → Calls Tryz.prog 63 #[.agg #[.int .i64 2, .iface 89 (.pointer (some ⟨b, 0, none⟩))]] W fun e w' => e = .returned (.agg #[.int .u8 c, .slice p n cap]) ∧ Bel W w') := Lib.hid fun W hW => mustAs_2 _ _ _ _ b W (cell_kept hW (hc 0 _ rfl)) (cell_kept hW (hc 1 _ rfl))
      have HC : Hid (∀ W, Bel w W → Calls Tryz.prog 78 #[.agg #[.int .u8 c, .slice p n cap], .int .u8 c'] W (IsOb (fun b => W.heap.size ≤ b ∨ (F b ∧ b < w.heap.size)) W 2 (force c' g))) := Lib.hid fun W hW => lineForce_any _ [.int .u8 c, .slice p n cap] g c' hc' W (fun b hb => Or.inl hb) (HO.out W hW)
      clear hc HO HIH
      go_enter Tryz.func83, Tryz.ntmps83
      go_wp2_with (first
        | (go_at_call 63; (with_reducible refine (HM.out _ ?hb).mono ?_); (case hb => (repeat (first | with_reducible assumption | with_reducible exact Bel.refl _ | with_reducible apply Bel.alloc | with_reducible apply Bel.drew | with_reducible apply Bel.drewN | ((with_reducible apply Bel.setCellR); (simp <;> omega)) | with_reducible refine Bel.behind (by with_reducible assumption) ?_))); rintro e w1 ⟨rfl, hb1⟩; have HB1 : Hid (Bel w w1) := Lib.hid ((show Bel w _ by (repeat (first | with_reducible assumption | with_reducible exact Bel.refl _ | with_reducible apply Bel.alloc | with_reducible apply Bel.drew | with_reducible apply Bel.drewN | ((with_reducible apply Bel.setCellR); (simp <;> omega)) | with_reducible refine Bel.behind (by with_reducible assumption) ?_))).trans hb1); have B2 := (Blk.new' (w.alloc (.cells #[.int .i64 2, .iface 89 (.pointer (some ⟨b, 0, none⟩))] 36)) #[.int .i64 0, .nilIface] 36 (b := w.heap.size + 1) (by simp)).bel hb1; have HP2 := Lib.hid B2; clear hb1 B2)
        | (go_at_call 78; (with_reducible refine (HC.out _ HB1.out).mono ?_); rintro e w2 ⟨cs2, rfl, ho2, hb2⟩; have HO2 := Lib.hid ho2; have HB2 : Hid (Bel w w2) := Lib.hid (HB1.out.trans hb2); have HB12 : Hid (Bel w1 w2) := Lib.hid hb2; have B2 := HP2.out.bel hb2; have HP3 := Lib.hid B2; clear ho2 hb2 B2)
        | (go_at_call 24; (with_reducible refine (asGeo_2 _ cs2 _ _ ?hn HO2.out).mono ?_); (case hn => exact fun b hb => Or.inl (by have := HB12.out.size; omega)); rintro e w3 ⟨cs3, rfl, ho3, hb3⟩; have HO3 := Lib.hid ho3; obtain ⟨s1, b1, cl1, hcs1, -⟩ := ho3.gi; cases hcs1; have B2 := HP3.out.bel hb3; have HP4 := Lib.hid B2; obtain ⟨r2, z2, l2⟩ := B2.facts; have HB3 : Hid (Bel w w3) := Lib.hid (HB2.out.trans hb3); clear ho3 hb3 B2))
      have hw1 := HP2.out.lt
      refine post_ret (results_one rfl (resIs_agg (n := 2) (cs := #[.int .i64 s1, .iface (ptrT s1) (.pointer (some ⟨b1, 0, none⟩))]) (by rfl) Tryz.underlying36 (by kernel_rfl) (T := 36) ?_ rfl)) ⟨_, rfl, HO3.out.keep (by simp) (fun b hb hl => ?_) (fun b _ hb => ?_), ?_⟩
      · have HB := HP4.out
        (apply Blk.cast; (repeat (first | with_reducible assumption | with_reducible apply Blk.set | ((with_reducible apply Blk.otherR); (focus ((simp <;> omega); done))) | with_reducible exact Blk.new _ _ _ | ((with_reducible apply Blk.new'); (focus (simp; done))) | with_reducible apply Blk.alloc | with_reducible apply Blk.drew | with_reducible apply Blk.drewN | (with_reducible refine Blk.bel ?_ (by with_reducible assumption)))); rfl)
      · rw [Below.heap_setCell _ _ _ _ (by simp; omega), Below.heap_setCell _ _ _ _ (by simp; omega)]
      · rcases hb with hb | hb
        · exact hF b (by have := HB1.out.size; omega)
        · exact hb.1
      · have HB := HB3.out
        (repeat (first | with_reducible assumption | with_reducible exact Bel.refl _ | with_reducible apply Bel.alloc | with_reducible apply Bel.drew | with_reducible apply Bel.drewN | ((with_reducible apply Bel.setCellR); (simp <;> omega)) | with_reducible refine Bel.behind (by with_reducible assumption) ?_))
    · obtain ⟨p, cap, c, gs, hcs, -⟩ := ho.sl (e := 2) (k := 2) rfl
      subst hcs
      clear ho
      show Calls Tryz.prog 83 #[.agg #[.int .i64 3, .iface 92 (.pointer (some ⟨b, 0, none⟩))], .int .u8 c'] w _
      have HM : Hid (∀ W, Bel w W → Calls Tryz.prog 65 #[.agg #[.int .i64 3, .iface 92 (.pointer (some ⟨b, 0, none⟩))]] W fun e w' => e = .returned (.agg #[.slice p gs.length cap, .int .u8 c]) ∧ Bel W w') := Lib.hid fun W hW => mustAs_3 _ _ _ _ b W (cell_kept hW (hc 0 _ rfl)) (cell_kept hW (hc 1 _ rfl))
      have HC : Hid (∀ W, Bel w W → Calls Tryz.prog 49 #[.agg #[.slice p gs.length cap, .int .u8 c], .int .u8 c'] W (IsOb (fun b => W.heap.size ≤ b ∨ (F b ∧ b < w.heap.size)) W 3 (force c' g))) := Lib.hid fun W hW => polygonForce_any _ [.slice p gs.length cap, .int .u8 c] g c' hc' W (fun b hb => Or.inl hb) (HO.out W hW)
      clear hc HO HIH
      generalize gs.length = n at *
      go_enter Tryz.func83, Tryz.ntmps83
      go_wp2_with (first
        | (go_at_call 65; (with_reducible refine (HM.out _ ?hb).mono ?_); (case hb => (repeat (first | with_reducible assumption | with_reducible exact Bel.refl _ | with_reducible apply Bel.alloc | with_reducible apply Bel.drew | with_reducible apply Bel.drewN | ((with_reducible apply Bel.setCellR); (simp <;> omega)) | with_reducible refine Bel.behind (by with_reducible assumption) ?_))); rintro e w1 ⟨rfl, hb1⟩; have HB1 : Hid (Bel w w1) := Lib.hid ((show Bel w _ by (repeat (first | with_reducible assumption | with_reducible exact Bel.refl _ | with_reducible apply Bel.alloc | with_reducible apply Bel.drew | with_reducible apply Bel.drewN | ((with_reducible apply Bel.setCellR); (simp <;> omega)) | with_reducible refine Bel.behind (by with_reducible assumption) ?_))).trans hb1); have B2 := (Blk.new' (w.alloc (.cells #[.int .i64 3, .iface 92 (.pointer (some ⟨b, 0, none⟩))] 36)) #[.int .i64 0, .nilIface] 36 (b := w.heap.size + 1) (by simp)).bel hb1; have HP2 := Lib.hid B2; clear hb1 B2)
        | (go_at_call 49; (with_reducible refine (HC.out _ HB1.out).mono ?_); rintro e w2 ⟨cs2, rfl, ho2, hb2⟩; have HO2 := Lib.hid ho2; have HB2 : Hid (Bel w w2) := Lib.hid (HB1.out.trans hb2); have HB12 : Hid (Bel w1 w2) := Lib.hid hb2; have B2 := HP2.out.bel hb2; have HP3 := Lib.hid B2; clear ho2 hb2 B2)
        | (go_at_call 26; (with_reducible refine (asGeo_3 _ cs2 _ _ ?hn HO2.out).mono ?_); (case hn => exact fun b hb => Or.inl (by have := HB12.out.size; omega)); rintro e w3 ⟨cs3, rfl, ho3, hb3⟩; have HO3 := Lib.hid ho3; obtain ⟨s1, b1, cl1, hcs1, -⟩ := ho3.gi; cases hcs1; have B2 := HP3.out.bel hb3; have HP4 := Lib.hid B2; obtain ⟨r2, z2, l2⟩ := B2.facts; have HB3 : Hid (Bel w w3) := Lib.hid (HB2.out.trans hb3); clear ho3 hb3 B2))
      have hw1 := HP2.out.lt
      refine post_ret (results_one rfl (resIs_agg (n := 2) (cs := #[.int .i64 s1, .iface (ptrT s1) (.pointer (some ⟨b1, 0, none⟩))]) (by rfl) Tryz.underlying36 (by kernel_rfl) (T := 36) ?_ rfl)) ⟨_, rfl, HO3.out.keep (by simp) (fun b hb hl => ?_) (fun b _ hb => ?_), ?_⟩
      · have HB := HP4.out
        (apply Blk.cast; (repeat (first | with_reducible assumption | with_reducible apply Blk.set | ((with_reducible apply Blk.otherR); (focus ((simp <;> omega); done))) | with_reducible exact Blk.new _ _ _ | ((with_reducible apply Blk.new'); (focus (simp; done))) | with_reducible apply Blk.alloc | with_reducible apply Blk.drew | with_reducible apply Blk.drewN | (with_reducible refine Blk.bel ?_ (by with_reducible assumption)))); rfl)
      · rw [Below.heap_setCell _ _ _ _ (by simp; omega), Below.heap_setCell _ _ _ _ (by simp; omega)]
      · rcases hb with hb | hb
        · exact hF b (by have := HB1.out.size; omega)
        · exact hb.1
      · have HB := HB3.out
        (repeat (first | with_reducible assumption | with_reducible exact Bel.refl _ | with_reducible apply Bel.alloc | with_reducible apply Bel.drew | with_reducible apply Bel.drewN | ((with_reducible apply Bel.setCellR); (simp <;> omega)) | with_reducible refine Bel.behind (by with_reducible assumption) ?_))
    · obtain ⟨p, cap, c, gs, hcs, -⟩ := ho.sl (e := 1) (k := 6) rfl
      subst hcs
      clear ho
      show Calls Tryz.prog 83 #[.agg #[.int .i64 4, .iface 95 (.pointer (some ⟨b, 0, none⟩))], .int .u8 c'] w _
      have HM : Hid (∀ W, Bel w W → Calls Tryz.prog 67 #[.agg #[.int .i64 4, .iface 95 (.pointer (some ⟨b, 0, none⟩))]] W fun e w' => e = .returned (.agg #[.slice p gs.length cap, .int .u8 c]) ∧ Bel W w') := Lib.hid fun W hW => mustAs_4 _ _ _ _ b W (cell_kept hW (hc 0 _ rfl)) (cell_kept hW (hc 1 _ rfl))
      have HC : Hid (∀ W, Bel w W → Calls Tryz.prog 51 #[.agg #[.slice p gs.length cap, .int .u8 c], .int .u8 c'] W (IsOb (fun b => W.heap.size ≤ b ∨ (F b ∧ b < w.heap.size)) W 4 (force c' g))) := Lib.hid fun W hW => multiPointForce_any _ [.slice p gs.length cap, .int .u8 c] g c' hc' W (fun b hb => Or.inl hb) (HO.out W hW)
      clear hc HO HIH
      generalize gs.length = n at *
      go_enter Tryz.func83, Tryz.ntmps83
      go_wp2_with (first
        | (go_at_call 67; (with_reducible refine (HM.out _ ?hb).mono ?_); (case hb => (repeat (first | with_reducible assumption | with_reducible exact Bel.refl _ | with_reducible apply Bel.alloc | with_reducible apply Bel.drew | with_reducible apply Bel.drewN | ((with_reducible apply Bel.setCellR); (simp <;> omega)) | with_reducible refine Bel.behind (by with_reducible assumption) ?_))); rintro e w1 ⟨rfl, hb1⟩; have HB1 : Hid (Bel w w1) := Lib.hid ((show Bel w _ by (repeat (first | with_reducible assumption | with_reducible exact Bel.refl _ | with_reducible apply Bel.alloc | with_reducible apply Bel.drew | with_reducible apply Bel.drewN | ((with_reducible apply Bel.setCellR); (simp <;> omega)) | with_reducible refine Bel.behind (by with_reducible assumption) ?_))).trans hb1); have B2 := (Blk.new' (w.alloc (.cells #[.int .i64 4, .iface 95 (.pointer (some ⟨b, 0, none⟩))] 36)) #[.int .i64 0, .nilIface] 36 (b := w.heap.size + 1) (by simp)).bel hb1; have HP2 := Lib.hid B2; clear hb1 B2)
        | (go_at_call 51; (with_reducible refine (HC.out _ HB1.out).mono ?_); rintro e w2 ⟨cs2, rfl, ho2, hb2⟩; have HO2 := Lib.hid ho2; have HB2 : Hid (Bel w w2) := Lib.hid (HB1.out.trans hb2); have HB12 : Hid (Bel w1 w2) := Lib.hid hb2; have B2 := HP2.out.bel hb2; have HP3 := Lib.hid B2; clear ho2 hb2 B2)
        | (go_at_call 28; (with_reducible refine (asGeo_4 _ cs2 _ _ ?hn HO2.out).mono ?_); (case hn => exact fun b hb => Or.inl (by have := HB12.out.size; omega)); rintro e w3 ⟨cs3, rfl, ho3, hb3⟩; have HO3 := Lib.hid ho3; obtain ⟨s1, b1, cl1, hcs1, -⟩ := ho3.gi; cases hcs1; have B2 := HP3.out.bel hb3; have HP4 := Lib.hid B2; obtain ⟨r2, z2, l2⟩ := B2.facts; have HB3 : Hid (Bel w w3) := Lib.hid (HB2.out.trans hb3); clear ho3 hb3 B2))
      have hw1 := HP2.out.lt
      refine post_ret (results_one rfl (resIs_agg (n := 2) (cs := #[.int .i64 s1, .iface (ptrT s1) (.pointer (some ⟨b1, 0, none⟩))]) (by rfl) Tryz.underlying36 (by kernel_rfl) (T := 36) ?_ rfl)) ⟨_, rfl, HO3.out.keep (by simp) (fun b hb hl => ?_) (fun b _ hb => ?_), ?_⟩
      · have HB := HP4.out
        (apply Blk.cast; (repeat (first | with_reducible assumption | with_reducible apply Blk.set | ((with_reducible apply Blk.otherR); (focus ((simp <;> omega); done))) | with_reducible exact Blk.new _ _ _ | ((with_reducible apply Blk.new'); (focus (simp; done))) | with_reducible apply Blk.alloc | with_reducible apply Blk.drew | with_reducible apply Blk.drewN | (with_reducible refine Blk.bel ?_ (by with_reducible assumption)))); rfl)
      · rw [Below.heap_setCell _ _ _ _ (by simp; omega), Below.heap_setCell _ _ _ _ (by simp; omega)]
      · rcases hb with hb | hb
        · exact hF b (by have := HB1.out.size; omega)
        · exact hb.1
      · have HB := HB3.out
        (repeat (first | with_reducible assumption | with_reducible exact Bel.refl _ | with_reducible apply Bel.alloc | with_reducible apply Bel.drew | with_reducible apply Bel.drewN | ((with_reducible apply Bel.setCellR); (simp <;> omega)) | with_reducible refine Bel.behind (by with_reducible assumption) ?_))
    · obtain ⟨p, cap, c, gs, hcs, -⟩ := ho.sl (e := 2) (k := 2) rfl
      subst hcs
      clear ho
      show Calls Tryz.prog 83 #[.agg #[.int .i64 5, .iface 98 (.pointer (some ⟨b, 0, none⟩))], .int .u8 c'] w _
      have HM : Hid (∀ W, Bel w W → Calls Tryz.prog 69 #[.agg #[.int .i64 5, .iface 98 (.pointer (some ⟨b, 0, none⟩))]] W fun e w' => e = .returned (.agg #[.slice p gs.length cap, .int .u8 c]) ∧ Bel W w') := Lib.hid fun W hW => mustAs_5 _ _ _ _ b W (cell_kept hW (hc 0 _ rfl)) (cell_kept hW (hc 1 _ rfl))
      have HC : Hid (∀ W, Bel w W → Calls Tryz.prog 53 #[.agg #[.slice p gs.length cap, .int .u8 c], .int .u8 c'] W (IsOb (fun b => W.heap.size ≤ b ∨ (F b ∧ b < w.heap.size)) W 5 (force c' g))) := Lib.hid fun W hW => multiLineForce_any _ [.slice p gs.length cap, .int .u8 c] g c' hc' W (fun b hb => Or.inl hb) (HO.out W hW)
      clear hc HO HIH
      generalize gs.length = n at *
      go_enter Tryz.func83, Tryz.ntmps83
      go_wp2_with (first
        | (go_at_call 69; (with_reducible refine (HM.out _ ?hb).mono ?_); (case hb => (repeat (first | with_reducible assumption | with_reducible exact Bel.refl _ | with_reducible apply Bel.alloc | with_reducible apply Bel.drew | with_reducible apply Bel.drewN | ((with_reducible apply Bel.setCellR); (simp <;> omega)) | with_reducible refine Bel.behind (by with_reducible assumption) ?_))); rintro e w1 ⟨rfl, hb1⟩; have HB1 : Hid (Bel w w1) := Lib.hid ((show Bel w _ by (repeat (first | with_reducible assumption | with_reducible exact Bel.refl _ | with_reducible apply Bel.alloc | with_reducible apply Bel.drew | with_reducible apply Bel.drewN | ((with_reducible apply Bel.setCellR); (simp <;> omega)) | with_reducible refine Bel.behind (by with_reducible assumption) ?_))).trans hb1); have B2 := (Blk.new' (w.alloc (.cells #[.int .i64 5, .iface 98 (.pointer (some ⟨b, 0, none⟩))] 36)) #[.int .i64 0, .nilIface] 36 (b := w.heap.size + 1) (by simp)).bel hb1; have HP2 := Lib.hid B2; clear hb1 B2)
        | (go_at_call 53; (with_reducible refine (HC.out _ HB1.out).mono ?_); rintro e w2 ⟨cs2, rfl, ho2, hb2⟩; have HO2 := Lib.hid ho2; have HB2 : Hid (Bel w w2) := Lib.hid (HB1.out.trans hb2); have HB12 : Hid (Bel w1 w2) := Lib.hid hb2; have B2 := HP2.out.bel hb2; have HP3 := Lib.hid B2; clear ho2 hb2 B2)
        | (go_at_call 30; (with_reducible refine (asGeo_5 _ cs2 _ _ ?hn HO2.out).mono ?_); (case hn => exact fun b hb => Or.inl (by have := HB12.out.size; omega)); rintro e w3 ⟨cs3, rfl, ho3, hb3⟩; have HO3 := Lib.hid ho3; obtain ⟨s1, b1, cl1, hcs1, -⟩ := ho3.gi; cases hcs1; have B2 := HP3.out.bel hb3; have HP4 := Lib.hid B2; obtain ⟨r2, z2, l2⟩ := B2.facts; have HB3 : Hid (Bel w w3) := Lib.hid (HB2.out.trans hb3); clear ho3 hb3 B2))
      have hw1 := HP2.out.lt
      refine post_ret (results_one rfl (resIs_agg (n := 2) (cs := #[.int .i64 s1, .iface (ptrT s1) (.pointer (some ⟨b1, 0, none⟩))]) (by rfl) Tryz.underlying36 (by kernel_rfl) (T := 36) ?_ rfl)) ⟨_, rfl, HO3.out.keep (by simp) (fun b hb hl => ?_) (fun b _ hb => ?_), ?_⟩
      · have HB := HP4.out
        (apply Blk.cast; (repeat (first | with_reducible assumption | with_reducible apply Blk.set | ((with_reducible apply Blk.otherR); (focus ((simp <;> omega); done))) | with_reducible exact Blk.new _ _ _ | ((with_reducible apply Blk.new'); (focus (simp; done))) | with_reducible apply Blk.alloc | with_reducible apply Blk.drew | with_reducible apply Blk.drewN | (with_reducible refine Blk.bel ?_ (by with_reducible assumption)))); rfl)
      · rw [Below.heap_setCell _ _ _ _ (by simp; omega), Below.heap_setCell _ _ _ _ (by simp; omega)]
      · rcases hb with hb | hb
        · exact hF b (by have := HB1.out.size; omega)
        · exact hb.1
      · have HB := HB3.out
        (repeat (first | with_reducible assumption | with_reducible exact Bel.refl _ | with_reducible apply Bel.alloc | with_reducible apply Bel.drew | with_reducible apply Bel.drewN | ((with_reducible apply Bel.setCellR); (simp <;> omega)) | with_reducible refine Bel.behind (by with_reducible assumption) ?_))
    · obtain ⟨p, cap, c, gs, hcs, -⟩ := ho.sl (e := 3) (k := 2) rfl
      subst hcs
      clear ho
      show Calls Tryz.prog 83 #[.agg #[.int .i64 6, .iface 101 (.pointer (some ⟨b, 0, none⟩))], .int .u8 c'] w _
      have HM : Hid (∀ W, Bel w W → Calls Tryz.prog 71 #[.agg #[.int .i64 6, .iface 101 (.pointer (some ⟨b, 0, none⟩))]] W fun e w' => e = .returned (.agg #[.slice p gs.length cap, .int .u8 c]) ∧ Bel W w') := Lib.hid fun W hW => mustAs_6 _ _ _ _ b W (cell_kept hW (hc 0 _ rfl)) (cell_kept hW (hc 1 _ rfl))
      have HC : Hid (∀ W, Bel w W → Calls Tryz.prog 55 #[.agg #[.slice p gs.length cap, .int .u8 c], .int .u8 c'] W (IsOb (fun b => W.heap.size ≤ b ∨ (F b ∧ b < w.heap.size)) W 6 (force c' g))) := Lib.hid fun W hW => multiPolygonForce_any _ [.slice p gs.length cap, .int .u8 c] g c' hc' W (fun b hb => Or.inl hb) (HO.out W hW)
      clear hc HO HIH
      generalize gs.length = n at *
      go_enter Tryz.func83, Tryz.ntmps83
      go_wp2_with (first
        | (go_at_call 71; (with_reducible refine (HM.out _ ?hb).mono ?_); (case hb => (repeat (first | with_reducible assumption | with_reducible exact Bel.refl _ | with_reducible apply Bel.alloc | with_reducible apply Bel.drew | with_reducible apply Bel.drewN | ((with_reducible apply Bel.setCellR); (simp <;> omega)) | with_reducible refine Bel.behind (by with_reducible assumption) ?_))); rintro e w1 ⟨rfl, hb1⟩; have HB1 : Hid (Bel w w1) := Lib.hid ((show Bel w _ by (repeat (first | with_reducible assumption | with_reducible exact Bel.refl _ | with_reducible apply Bel.alloc | with_reducible apply Bel.drew | with_reducible apply Bel.drewN | ((with_reducible apply Bel.setCellR); (simp <;> omega)) | with_reducible refine Bel.behind (by with_reducible assumption) ?_))).trans hb1); have B2 := (Blk.new' (w.alloc (.cells #[.int .i64 6, .iface 101 (.pointer (some ⟨b, 0, none⟩))] 36)) #[.int .i64 0, .nilIface] 36 (b := w.heap.size + 1) (by simp)).bel hb1; have HP2 := Lib.hid B2; clear hb1 B2)
        | (go_at_call 55; (with_reducible refine (HC.out _ HB1.out).mono ?_); rintro e w2 ⟨cs2, rfl, ho2, hb2⟩; have HO2 := Lib.hid ho2; have HB2 : Hid (Bel w w2) := Lib.hid (HB1.out.trans hb2); have HB12 : Hid (Bel w1 w2) := Lib.hid hb2; have B2 := HP2.out.bel hb2; have HP3 := Lib.hid B2; clear ho2 hb2 B2)
        | (go_at_call 32; (with_reducible refine (asGeo_6 _ cs2 _ _ ?hn HO2.out).mono ?_); (case hn => exact fun b hb => Or.inl (by have := HB12.out.size; omega)); rintro e w3 ⟨cs3, rfl, ho3, hb3⟩; have HO3 := Lib.hid ho3; obtain ⟨s1, b1, cl1, hcs1, -⟩ := ho3.gi; cases hcs1; have B2 := HP3.out.bel hb3; have HP4 := Lib.hid B2; obtain ⟨r2, z2, l2⟩ := B2.facts; have HB3 : Hid (Bel w w3) := Lib.hid (HB2.out.trans hb3); clear ho3 hb3 B2))
      have hw1 := HP2.out.lt
      refine post_ret (results_one rfl (resIs_agg (n := 2) (cs := #[.int .i64 s1, .iface (ptrT s1) (.pointer (some ⟨b1, 0, none⟩))]) (by rfl) Tryz.underlying36 (by kernel_rfl) (T := 36) ?_ rfl)) ⟨_, rfl, HO3.out.keep (by simp) (fun b hb hl => ?_) (fun b _ hb => ?_), ?_⟩
      · have HB := HP4.out
        (apply Blk.cast; (repeat (first | with_reducible assumption | with_reducible apply Blk.set | ((with_reducible apply Blk.otherR); (focus ((simp <;> omega); done))) | with_reducible exact Blk.new _ _ _ | ((with_reducible apply Blk.new'); (focus (simp; done))) | with_reducible apply Blk.alloc | with_reducible apply Blk.drew | with_reducible apply Blk.drewN | (with_reducible refine Blk.bel ?_ (by with_reducible assumption)))); rfl)
      · rw [Below.heap_setCell _ _ _ _ (by simp; omega), Below.heap_setCell _ _ _ _ (by simp; omega)]
      · rcases hb with hb | hb
        · exact hF b (by have := HB1.out.size; omega)
        · exact hb.1
      · have HB := HB3.out
        (repeat (first | with_reducible assumption | with_reducible exact Bel.refl _ | with_reducible apply Bel.alloc | with_reducible apply Bel.drew | with_reducible apply Bel.drewN | ((with_reducible apply Bel.setCellR); (simp <;> omega)) | with_reducible refine Bel.behind (by with_reducible assumption) ?_))
theorem geoForce_any (F : Nat → Prop) (cs : List Value) (g : Gm) (c' : Nat) (hc' : c' ≤ 3) (w : World) (hF : New F w) (h : Ob F w 7 cs g) : Calls Tryz.prog 83 #[.agg cs.toArray, .int .u8 c'] w (IsOb F w 7 (force c' g)) := geoForce_ind c' hc' g.size g (Nat.le_refl _) F cs w hF h
set_option maxHeartbeats 4000000 in
set_option maxRecDepth 100000 in
theorem newColl_any (F : Nat → Prop) (p : Option Addr) (n cap : Nat) (gs : List Gm) (w : World) (hF : New F w) (hsl : ObSl F w 7 2 (.slice p n cap) gs) (hpos : 0 < n) (hn31 : n ≤ 1048576) : Calls Tryz.prog 58 #[.slice p n cap] w (IsOb F w 0 (.mk 0 (common gs) [] (gs.map (force (common gs))))) := by
  have HSL := Lib.hid hsl
  obtain ⟨_, _, hve, hl1, hl2, hq⟩ := hsl
  cases hve
  have hgn : gs ≠ [] := by intro e; rw [e] at hpos; simp at hpos
  obtain ⟨b, off, rfl, hlt, hFb, hr⟩ := hq hgn
  have HR := Lib.hid hr
  have HFB := Lib.hid hFb
  clear hq hr hFb hgn
  generalize hn : gs.length = n at *
  have HN := Lib.hid hn
  clear hn
  have hn0 : ((n : Int) == 0) = false := by simp; omega
  obtain ⟨i0, hi, hz0, hz1, hz2⟩ := info_parts infoGe
  go_enter Tryz.func58, Tryz.ntmps58
  go_wp2
  go_loopw [3, 13] (fun cv iv wr => ∃ (t : Nat), cv = .int .u8 (common (gs.take t) : Nat) ∧ iv = .int .i64 t ∧ t ≤ n ∧ Bel w wr ∧ Blk wr w.heap.size #[.slice none 0 0, .int .u8 0] 72) (fun _ iv _ => n - (intOf iv).toNat)
  case atStart => exact ⟨0, rfl, rfl, Nat.zero_le _, by (repeat (first | with_reducible assumption | with_reducible exact Bel.refl _ | with_reducible apply Bel.alloc | with_reducible apply Bel.drew | with_reducible apply Bel.drewN | ((with_reducible apply Bel.setCellR); (simp <;> omega)) | with_reducible refine Bel.behind (by with_reducible assumption) ?_)), by (repeat (first | with_reducible assumption | with_reducible exact Blk.new _ _ _ | ((with_reducible refine Blk.new' _ _ _ ?_); (focus ((simp; done)))) | with_reducible apply Blk.drew | with_reducible apply Blk.drewN | with_reducible refine Blk.alloc ?_ _ | with_reducible apply Blk.same | (with_reducible refine Blk.bel ?_ (by with_reducible assumption)) | ((with_reducible refine Blk.otherR ?_ ?_); (focus ((simp <;> omega); done)))))⟩
  case round =>
    obtain ⟨t, rfl, rfl, ht, hbel, hb1⟩ := hrel
    have HBEL := Lib.hid hbel
    have HG1 := Lib.hid hb1
    clear hb1
    by_cases htn : t < n
    · obtain ⟨g, hg⟩ : ∃ g, gs[t]? = some g := ⟨_, List.getElem?_eq_getElem (by have := HN.out; omega)⟩
      obtain ⟨cl, hcl, hcell, hob⟩ := HR.out t g hg
      have HC := Lib.hid (fun W (hW : Bel w W) => geoType_any W (hob.bel hW))
      obtain ⟨cg, hcg, hdim⟩ := hob.dim
      obtain ⟨s0, b0, cl0, hcs0, -⟩ := hob.gi; cases hcs0
      have D0 := cell_kept hbel (hcell 0 (.int .i64 s0) rfl)
      have D1 := cell_kept hbel (hcell 1 (.iface (ptrT s0) (.pointer (some ⟨b0, 0, none⟩))) rfl)
      simp only [Nat.add_zero] at D0
      have E1 := D1
      rw [← Nat.add_assoc] at E1
      have hbl : b < wr.heap.size := Nat.lt_of_lt_of_le hlt hbel.size
      have hct := common_take hg
      have hdn : g.dim.toNat = cg := by rw [hdim]; simp
      rw [hdn] at hct HC
      have hland := u8_land (common (gs.take t)) cg (common_le _ 3 (Nat.le_refl _)) hcg
      rw [← hct] at hland
      clear hcl hcell hob hbel hg hdim hct hdn
      generalize common (gs.take t) = ca at *
      generalize hcb : common (gs.take (t + 1)) = cb at *
      have HCB := Lib.hid hcb
      clear hcb
      go_wp2_with (go_at_call 84; (with_reducible refine (HC.out _ (HBEL.out.alloc _)).mono ?_); rintro e w3 ⟨rfl, hb⟩; have C1 := HG1.out.bel ((Bel.alloc1 _ _).trans hb); have HC1 := Lib.hid C1; have HB3 : Hid (Bel wr w3) := Lib.hid ((Bel.alloc1 _ _).trans hb); clear hb C1)
      go_roundw
      case rel => exact ⟨t + 1, by rw [HCB.out], by go_num, by omega, HBEL.out.trans HB3.out, HC1.out⟩
      case measure => simp [intOf]; omega
    · obtain rfl : t = n := by omega
      have hca : common (gs.take t) = common gs := by rw [List.take_of_length_le (by have := HN.out; omega)]
      rw [hca]
      have hcl3 := common_le gs 3 (Nat.le_refl _)
      have hcm : common gs ≤ 3 := hcl3
      clear hca hcl3
      generalize common gs = c' at *
      obtain ⟨w1, hw1⟩ : ∃ w1, w1 = wr := ⟨_, rfl⟩
      subst hw1
      obtain ⟨news, hnl, hnc, hnr, hn1⟩ := ((HR.out.keep (G := F) hbel.size (fun b _ hl => hbel.block b hl) fun _ _ h => h).cells (arr' := fun o => w1.cell? ⟨b, off + o, none⟩) fun o u ho => cell_kept hbel ho).flat
      have HNL : Hid (news.length = t * 2) := Lib.hid (by rw [hnl, HN.out])
      have HNC : Hid (∀ (j : Nat) (u : Value), news[j]? = some u → w1.cell? ((⟨b, off, none⟩ : Addr).add j) = some u) := Lib.hid fun j u hu => by rw [add_off]; exact hnc j u hu
      have HNR := Lib.hid hnr
      have HN1 := Lib.hid hn1
      have hbl : b < w1.heap.size := Nat.lt_of_lt_of_le hlt hbel.size
      clear hnl hnc hnr hn1
      have HSZ : Hid (w.heap.size + 1 ≤ w1.heap.size) := Lib.hid (HG1.out.lt)
      go_wp2_with (at_builtin; refine wpList_append_row _ rfl (.const (.slice none 0 0)) (.tmp 22) 70 rfl w1.heap.size 36 i0 _ 2 24 Tryz.underlying70 hi hz0 hz1 hz2 rfl (by decide) (.slice none 0 0) 0 [] rfl (World.ownsRow_nil _ _ _ _) ⟨b, off, none⟩ t cap news rfl HNL.out HNC.out HN1.out hpos (by unfold maxLen; omega) (by omega) (Nat.le_refl _) ?_; intro v' w2 ho2 hg2 hb2; have HO2 := Lib.hid ho2; have HB2 : Hid (Bel w1 w2) := Lib.hid (Bel.of_grown0 hg2); rcases ho2.2 with ⟨rfl, h0⟩ | ⟨g0, c0, arr0, rfl, hb0, hg0, hc0, hc1, hs0, htk⟩; (case inl => exact absurd h0 (by omega)); have HCE := Lib.hid (ho2.cells rfl); simp only [Nat.zero_add] at hc0 hc1; clear ho2 hg2 hb2 htk)
      simp only [Nat.zero_add, List.nil_append] at *
      have HG0 : Hid (Blk w2 g0 arr0 36) := Lib.hid hg0
      have HS0 := Lib.hid hs0
      have HGE := Lib.hid hb0
      have hrow0 : RowOb (fun b => (F b ∧ b < w.heap.size) ∨ g0 < b) w2 (fun o => arr0[o]?) 7 2 (mixed (force c') gs 0) := by
        have e0 : mixed (force c') gs 0 = gs := by simp [mixed]
        rw [e0]
        have h2 := (HR.out.keep (w' := w2) (G := fun b => (F b ∧ b < w.heap.size) ∨ g0 < b) (HBEL.out.trans HB2.out).size (fun b _ hl => (HBEL.out.trans HB2.out).block b hl) fun b hl hb => Or.inl ⟨hb, hl⟩)
        intro i g hg
        obtain ⟨cl, a1, a2, a3⟩ := HNR.out i g hg
        obtain ⟨cl', b1, b2, b3⟩ := h2 i g hg
        have ecl : cl = cl' := by
          apply List.ext_getElem?
          intro j
          rcases Nat.lt_or_ge j 2 with q | q
          · obtain ⟨u, hu⟩ : ∃ u, cl[j]? = some u := ⟨_, List.getElem?_eq_getElem (by omega)⟩
            obtain ⟨u', hu'⟩ : ∃ u, cl'[j]? = some u := ⟨_, List.getElem?_eq_getElem (by omega)⟩
            have q1 := HNC.out _ _ (a2 j u hu)
            rw [add_off] at q1
            have q2 := cell_kept HBEL.out (b2 j u' hu')
            rw [hu, hu']
            exact q1.symm.trans q2
          · rw [List.getElem?_eq_none (by omega), List.getElem?_eq_none (by omega)]
        refine ⟨cl, a1, fun j u hu => ?_, ecl ▸ b3⟩
        have q1 := HCE.out (i * 2 + j) u (a2 j u hu)
        rw [add_none] at q1
        exact (HG0.out.rules.1 _).symm.trans q1
      have HROW0 := Lib.hid hrow0
      have hb20 := (HG1.out.bel HB2.out)
      have HG20 := Lib.hid hb20
      have HB20 := Lib.hid (HBEL.out.trans HB2.out)
      clear hrow0 hb20 HNC HNL HN1 HNR hg0 hs0 hb0 HCE
      go_loopw [26] (fun iv wr => ∃ (j : Nat) (arr : Array Value), iv = .int .i64 j ∧ j ≤ t ∧ Bel w wr ∧ Blk wr w.heap.size #[.slice none 0 0, .int .u8 0] 72 ∧ Blk wr g0 arr 36 ∧ arr.size = c0 * 2 ∧ RowOb (fun b => (F b ∧ b < w.heap.size) ∨ g0 < b) wr (fun o => arr[o]?) 7 2 (mixed (force c') gs j)) (fun iv _ => t - (intOf iv).toNat)
      case atStart => exact ⟨0, arr0, rfl, Nat.zero_le _, HB20.out, HG20.out, HG0.out, HS0.out, HROW0.out⟩
      case round =>
        obtain ⟨j, arr, rfl, hj, hbel2, hz, hga, harr, hrow⟩ := hrel
        have HBEL2 := Lib.hid hbel2
        have HZ := Lib.hid hz
        have HGA := Lib.hid hga
        have HROW := Lib.hid hrow
        have l3 := hga.lt
        have z3 := hga.rules.2
        clear hrow
        by_cases hjt : j < t
        · obtain ⟨g, hg⟩ : ∃ g, gs[j]? = some g := ⟨_, List.getElem?_eq_getElem (by have := HN.out; omega)⟩
          obtain ⟨cl, hcl, hcell, hob⟩ := HROW.out j g (mixed_at hg)
          have HC : Hid (∀ W, Bel wr W → Calls Tryz.prog 83 #[.agg cl.toArray, .int .u8 c'] W (IsOb (fun b => (F b ∧ b < w.heap.size) ∨ g0 < b) W 7 (force c' g))) := Lib.hid fun W hW => geoForce_any _ cl g c' hcm W (fun b hb => Or.inr (by have := hW.size; omega)) (hob.bel hW)
          obtain ⟨s0, b0, cl0, hcs0, -⟩ := hob.gi; cases hcs0
          have D0 := (hga.rules.1 (j * 2)).trans (hcell 0 (.int .i64 s0) rfl)
          have D1 := (hga.rules.1 (j * 2 + 1)).trans (hcell 1 (.iface (ptrT s0) (.pointer (some ⟨b0, 0, none⟩))) rfl)
          have HG := Lib.hid hg
          clear hcl hcell hob hbel2 hg hz hga
          go_wp2_with (go_at_call 83; (with_reducible refine (HC.out _ (Bel.refl _)).mono ?_); rintro e w3 ⟨cs, rfl, ho, hb⟩; obtain ⟨s1, b1, cl1, hcs1, -⟩ := ho.gi; cases hcs1; have C1 := HZ.out.bel hb; have C3 := HGA.out.bel hb; have HB3 := Lib.hid hb; have HC1 := Lib.hid C1; have HC3 := Lib.hid C3; have HO := Lib.hid ho; have k0 := cell_kept hb D0; have k1 := cell_kept hb D1; have t3 := C3.rules.2; have m3 := C3.lt; clear hb C1 C3 ho)
          go_roundw
          case rel =>
            have hs1 := HBEL2.out.size
            have hs3 := HB3.out.size
            have hge := HGE.out
            have hsz := HSZ.out
            refine ⟨j + 1, (arr.setIfInBounds (j * 2) (.int .i64 s1)).setIfInBounds (j * 2 + 1) (.iface (ptrT s1) (.pointer (some ⟨b1, 0, none⟩))), by go_num, by omega, ?_, ?_, ?_, by simp [harr], ?_⟩
            · have HB := HBEL2.out.trans HB3.out
              (repeat (first | with_reducible assumption | with_reducible exact Bel.refl _ | with_reducible apply Bel.alloc | with_reducible apply Bel.drew | with_reducible apply Bel.drewN | ((with_reducible apply Bel.setCellR); (simp <;> omega)) | with_reducible refine Bel.behind (by with_reducible assumption) ?_))
            · have HB := HC1.out
              (repeat (first | with_reducible assumption | with_reducible exact Blk.new _ _ _ | ((with_reducible refine Blk.new' _ _ _ ?_); (focus ((simp; done)))) | with_reducible apply Blk.drew | with_reducible apply Blk.drewN | with_reducible refine Blk.alloc ?_ _ | with_reducible apply Blk.same | (with_reducible refine Blk.bel ?_ (by with_reducible assumption)) | ((with_reducible refine Blk.otherR ?_ ?_); (focus ((simp <;> omega); done)))))
            · exact (HC3.out.set _ _).set _ _
            · refine RowOb.put (t := j) (cl := [.int .i64 s1, .iface (ptrT s1) (.pointer (some ⟨b1, 0, none⟩))]) (HROW.out.keep (by simp; omega) (fun b hb hl => ?_) fun b _ hb => hb) (mixed_put HG.out) (fun o u ho hu => ?_) rfl (fun i u hu => ?_) (HO.out.keep (by simp) (fun b hb hl => ?_) fun b _ hb => hb)
              · rw [Below.heap_setCell _ _ _ _ (by simp; omega), Below.heap_setCell _ _ _ _ (by simp; omega)]
                exact HB3.out.block b hl
              · show (_ : Array Value)[o]? = some u
                rw [Array.getElem?_setIfInBounds_ne (by omega), Array.getElem?_setIfInBounds_ne (by omega)]
                exact hu
              · have hlt2 := (List.getElem?_eq_some_iff.1 hu).1
                simp at hlt2
                show (_ : Array Value)[j * 2 + i]? = some u
                match i, hlt2 with
                | 0, _ =>
                  simp at hu
                  subst hu
                  rw [Array.getElem?_setIfInBounds_ne (by omega)]
                  exact Array.getElem?_setIfInBounds_self_of_lt (by omega)
                | 1, _ =>
                  simp at hu
                  subst hu
                  exact Array.getElem?_setIfInBounds_self_of_lt (by (try simp only [Array.size_setIfInBounds]); omega)
              · rw [Below.heap_setCell _ _ _ _ (by simp; omega), Below.heap_setCell _ _ _ _ (by simp; omega)]
          case measure => simp [intOf]; omega
        · obtain rfl : j = t := by omega
          have hfin := HROW.out
          have em : mixed (force c') gs j = gs.map (force c') := by
            unfold mixed
            rw [List.take_of_length_le (by have := HN.out; omega), List.drop_of_length_le (by have := HN.out; omega), List.append_nil]
          rw [em] at hfin
          have hge := HGE.out
          have hsz := HSZ.out
          have HFIN : Hid (ObSl (fun b => F b ∧ b ≠ w.heap.size) wr 7 2 (.slice (some ⟨g0, 0, none⟩) j c0) (gs.map (force c'))) := Lib.hid ⟨_, c0, by rw [List.length_map, HN.out], by rw [List.length_map, HN.out]; exact hc0, by unfold maxLen at hc1; omega, fun _ => ⟨g0, 0, rfl, l3, ⟨hF _ (by omega), by omega⟩, (hfin.keep (Nat.le_refl _) (fun _ _ _ => rfl) fun b _ hb => by
            rcases hb with hb | hb
            · exact ⟨hb.1, by omega⟩
            · exact ⟨hF _ (by omega), by omega⟩).cells fun o u ho => by
              rw [Nat.zero_add]
              exact (HGA.out.rules.1 o).trans ho⟩⟩
          clear hfin em
          obtain ⟨s2, t2, m2⟩ := HZ.out.facts
          go_wp2
          refine post_ret (results_one rfl (resIs_agg (n := 2) (cs := #[.slice (some ⟨g0, 0, none⟩) j c0, .int .u8 c']) (by rfl) Tryz.underlying72 (by kernel_rfl) (T := 72) ?_ rfl)) ⟨_, rfl, ObSl.ob ?_ rfl hcm (by rw [List.length_map, HN.out]; exact hn31), ?_⟩
          · have HB := HZ.out
            (apply Blk.cast; (repeat (first | with_reducible assumption | with_reducible apply Blk.set | ((with_reducible apply Blk.otherR); (focus ((simp <;> omega); done))) | with_reducible exact Blk.new _ _ _ | ((with_reducible apply Blk.new'); (focus (simp; done))) | with_reducible apply Blk.alloc | with_reducible apply Blk.drew | with_reducible apply Blk.drewN | (with_reducible refine Blk.bel ?_ (by with_reducible assumption)))); rfl)
          · exact HFIN.out.keep (by simp) (fun b hb hl => by rw [Below.heap_setCell _ _ _ _ (fun e => hb.2 e), Below.heap_setCell _ _ _ _ (fun e => hb.2 e)]) fun b _ hb => hb.1
          · have HB := HBEL2.out
            (repeat (first | with_reducible assumption | with_reducible exact Bel.refl _ | with_reducible apply Bel.alloc | with_reducible apply Bel.drew | with_reducible apply Bel.drewN | ((with_reducible apply Bel.setCellR); (simp <;> omega)) | with_reducible refine Bel.behind (by with_reducible assumption) ?_))
end Go.Proofs.YtpipehenfcbjbaaGreat
