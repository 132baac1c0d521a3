/-
  The types of coordinates of objects and geometries. No panic; what stood in memory has not turned.
-/
import Derived.Test.YtpipehenfcbjbaaGreatGeo
set_option linter.unusedVariables false
namespace Go.Proofs.YtpipehenfcbjbaaGreat
open Go.ChangeShapes Go.WideShapes Go.ChangeAt Go.RowKit
theorem rawType_0 (c : Int) (p : Option Addr) (n cap : Nat) (w : World) : Calls Tryz.prog 88 #[.agg #[.slice p n cap, .int .u8 c]] w fun e w' => e = .returned (.int .u8 c) ∧ Bel w w' := by
  go_enter Tryz.func88, Tryz.ntmps88
  go_wp2
  go_ret
  exact ⟨rfl, by (repeat (first | with_reducible assumption | with_reducible exact Bel.refl _ | with_reducible apply Bel.alloc | with_reducible apply Bel.drew | with_reducible apply Bel.drewN | ((with_reducible apply Bel.setCellR); (simp <;> omega)) | with_reducible refine Bel.behind (by with_reducible assumption) ?_))⟩
theorem rawType_4 (c : Int) (p : Option Addr) (n cap : Nat) (w : World) : Calls Tryz.prog 89 #[.agg #[.slice p n cap, .int .u8 c]] w fun e w' => e = .returned (.int .u8 c) ∧ Bel w w' := by
  go_enter Tryz.func89, Tryz.ntmps89
  go_wp2
  go_ret
  exact ⟨rfl, by (repeat (first | with_reducible assumption | with_reducible exact Bel.refl _ | with_reducible apply Bel.alloc | with_reducible apply Bel.drew | with_reducible apply Bel.drewN | ((with_reducible apply Bel.setCellR); (simp <;> omega)) | with_reducible refine Bel.behind (by with_reducible assumption) ?_))⟩
theorem rawType_5 (c : Int) (p : Option Addr) (n cap : Nat) (w : World) : Calls Tryz.prog 90 #[.agg #[.slice p n cap, .int .u8 c]] w fun e w' => e = .returned (.int .u8 c) ∧ Bel w w' := by
  go_enter Tryz.func90, Tryz.ntmps90
  go_wp2
  go_ret
  exact ⟨rfl, by (repeat (first | with_reducible assumption | with_reducible exact Bel.refl _ | with_reducible apply Bel.alloc | with_reducible apply Bel.drew | with_reducible apply Bel.drewN | ((with_reducible apply Bel.setCellR); (simp <;> omega)) | with_reducible refine Bel.behind (by with_reducible assumption) ?_))⟩
theorem rawType_6 (c : Int) (p : Option Addr) (n cap : Nat) (w : World) : Calls Tryz.prog 91 #[.agg #[.slice p n cap, .int .u8 c]] w fun e w' => e = .returned (.int .u8 c) ∧ Bel w w' := by
  go_enter Tryz.func91, Tryz.ntmps91
  go_wp2
  go_ret
  exact ⟨rfl, by (repeat (first | with_reducible assumption | with_reducible exact Bel.refl _ | with_reducible apply Bel.alloc | with_reducible apply Bel.drew | with_reducible apply Bel.drewN | ((with_reducible apply Bel.setCellR); (simp <;> omega)) | with_reducible refine Bel.behind (by with_reducible assumption) ?_))⟩
set_option maxHeartbeats 4000000 in
set_option maxRecDepth 100000 in
theorem geoType_any {F : Nat → Prop} {cs : List Value} {g : Gm} (w : World) (h : Ob F w 7 cs g) : Calls Tryz.prog 84 #[.agg cs.toArray] w fun e w' => e = .returned (.int .u8 g.dim.toNat) ∧ Bel w w' := by
  obtain ⟨s, b, cl, rfl, hs6, hlt, hF, hc, ho⟩ := h.gi
  clear h
  have h7 : s = 0 ∨ s = 1 ∨ s = 2 ∨ s = 3 ∨ s = 4 ∨ s = 5 ∨ s = 6 := by omega
  rcases h7 with rfl | rfl | rfl | rfl | rfl | rfl | rfl
  · obtain ⟨p, cap, c, gs, rfl, hc3, rfl, -⟩ := ho.sl (e := 7) (k := 2) rfl
    show Calls Tryz.prog 84 #[.agg #[.int .i64 0, .iface 105 (.pointer (some ⟨b, 0, none⟩))]] w _
    have HM : Hid (∀ W, Bel w W → Calls Tryz.prog 40 #[.agg #[.int .i64 0, .iface 105 (.pointer (some ⟨b, 0, none⟩))]] W fun e w' => e = .returned (.agg #[.slice p gs.length cap, .int .u8 c]) ∧ Bel W w') := Lib.hid fun W hW => mustAs_0 _ _ _ _ b W (cell_kept hW (hc 0 _ rfl)) (cell_kept hW (hc 1 _ rfl))
    have HT := Lib.hid fun W => rawType_0 c p gs.length cap W
    have hdm : ∀ (k : Int) (ns : List Nat) (ks : List Gm), (Gm.mk k (c : Int) ns ks).dim.toNat = c := fun _ _ _ => by simp [Gm.dim]
    rw [hdm]
    clear hc hF hdm
    generalize gs.length = n at *
    go_enter Tryz.func84, Tryz.ntmps84
    go_wp2_with (first
      | (go_at_call 40; (with_reducible refine (HM.out _ ?hb).mono ?_); (case hb => (repeat (first | with_reducible assumption | with_reducible exact Bel.refl _ | with_reducible apply Bel.alloc | with_reducible apply Bel.drew | with_reducible apply Bel.drewN | ((with_reducible apply Bel.setCellR); (simp <;> omega)) | with_reducible refine Bel.behind (by with_reducible assumption) ?_))); rintro e w1 ⟨rfl, hb1⟩; have HB1 : Hid (Bel w w1) := Lib.hid ((show Bel w _ by (repeat (first | with_reducible assumption | with_reducible exact Bel.refl _ | with_reducible apply Bel.alloc | with_reducible apply Bel.drew | with_reducible apply Bel.drewN | ((with_reducible apply Bel.setCellR); (simp <;> omega)) | with_reducible refine Bel.behind (by with_reducible assumption) ?_))).trans hb1); clear hb1)
      | (go_at_call 88; (with_reducible refine (HT.out _).mono ?_); rintro e w2 ⟨rfl, hb2⟩; have HB2 : Hid (Bel w w2) := Lib.hid (HB1.out.trans hb2); clear hb2))
    go_ret
    exact ⟨rfl, HB2.out⟩
  · obtain ⟨x, y, z, m, c, full, rfl, hc3, rfl⟩ := ho.pt
    show Calls Tryz.prog 84 #[.agg #[.int .i64 1, .iface 87 (.pointer (some ⟨b, 0, none⟩))]] w _
    have HM : Hid (∀ W, Bel w W → Calls Tryz.prog 61 #[.agg #[.int .i64 1, .iface 87 (.pointer (some ⟨b, 0, none⟩))]] W fun e w' => e = .returned (.agg #[.float .f64 x, .float .f64 y, .float .f64 z, .float .f64 m, .int .u8 c, .bool full]) ∧ Bel W w') := Lib.hid fun W hW => mustAs_1 _ _ _ _ _ _ b W (cell_kept hW (hc 0 _ rfl)) (cell_kept hW (hc 1 _ rfl)) (cell_kept hW (hc 2 _ rfl)) (cell_kept hW (hc 3 _ rfl)) (cell_kept hW (hc 4 _ rfl)) (cell_kept hW (hc 5 _ rfl))
    have HT := Lib.hid fun W => pointType_any x y z m c full W
    have hdm : ∀ (k : Int) (ns : List Nat) (ks : List Gm), (Gm.mk k (c : Int) ns ks).dim.toNat = c := fun _ _ _ => by simp [Gm.dim]
    rw [hdm]
    clear hc hF hdm
    go_enter Tryz.func84, Tryz.ntmps84
    go_wp2_with (first
      | (go_at_call 61; (with_reducible refine (HM.out _ ?hb).mono ?_); (case hb => (repeat (first | with_reducible assumption | with_reducible exact Bel.refl _ | with_reducible apply Bel.alloc | with_reducible apply Bel.drew | with_reducible apply Bel.drewN | ((with_reducible apply Bel.setCellR); (simp <;> omega)) | with_reducible refine Bel.behind (by with_reducible assumption) ?_))); rintro e w1 ⟨rfl, hb1⟩; have HB1 : Hid (Bel w w1) := Lib.hid ((show Bel w _ by (repeat (first | with_reducible assumption | with_reducible exact Bel.refl _ | with_reducible apply Bel.alloc | with_reducible apply Bel.drew | with_reducible apply Bel.drewN | ((with_reducible apply Bel.setCellR); (simp <;> omega)) | with_reducible refine Bel.behind (by with_reducible assumption) ?_))).trans hb1); clear hb1)
      | (go_at_call 81; (with_reducible refine (HT.out _).mono ?_); rintro e w2 ⟨rfl, hb2⟩; have HB2 : Hid (Bel w w2) := Lib.hid (HB1.out.trans hb2); clear hb2))
    go_ret
    exact ⟨rfl, HB2.out⟩
  · obtain ⟨c, p, n, cap, xs, rfl, hc3, rfl, -⟩ := ho.ln
    show Calls Tryz.prog 84 #[.agg #[.int .i64 2, .iface 89 (.pointer (some ⟨b, 0, none⟩))]] w _
    have HM : Hid (∀ W, Bel w W → Calls Tryz.prog 63 #[.agg #[.int .i64 2, .iface 89 (.pointer (some ⟨b, 0, none⟩))]] W fun e w' => e = .returned (.agg #[.int .u8 c, .slice p n cap]) ∧ Bel W w') := Lib.hid fun W hW => mustAs_2 _ _ _ _ b W (cell_kept hW (hc 0 _ rfl)) (cell_kept hW (hc 1 _ rfl))
    have HT := Lib.hid fun W => lineType_any c p n cap W
    have hdm : ∀ (k : Int) (ns : List Nat) (ks : List Gm), (Gm.mk k (c : Int) ns ks).dim.toNat = c := fun _ _ _ => by simp [Gm.dim]
    rw [hdm]
    clear hc hF hdm
    go_enter Tryz.func84, Tryz.ntmps84
    go_wp2_with (first
      | (go_at_call 63; (with_reducible refine (HM.out _ ?hb).mono ?_); (case hb => (repeat (first | with_reducible assumption | with_reducible exact Bel.refl _ | with_reducible apply Bel.alloc | with_reducible apply Bel.drew | with_reducible apply Bel.drewN | ((with_reducible apply Bel.setCellR); (simp <;> omega)) | with_reducible refine Bel.behind (by with_reducible assumption) ?_))); rintro e w1 ⟨rfl, hb1⟩; have HB1 : Hid (Bel w w1) := Lib.hid ((show Bel w _ by (repeat (first | with_reducible assumption | with_reducible exact Bel.refl _ | with_reducible apply Bel.alloc | with_reducible apply Bel.drew | with_reducible apply Bel.drewN | ((with_reducible apply Bel.setCellR); (simp <;> omega)) | with_reducible refine Bel.behind (by with_reducible assumption) ?_))).trans hb1); clear hb1)
      | (go_at_call 79; (with_reducible refine (HT.out _).mono ?_); rintro e w2 ⟨rfl, hb2⟩; have HB2 : Hid (Bel w w2) := Lib.hid (HB1.out.trans hb2); clear hb2))
    go_ret
    exact ⟨rfl, HB2.out⟩
  · obtain ⟨p, cap, c, gs, rfl, hc3, rfl, -⟩ := ho.sl (e := 2) (k := 2) rfl
    show Calls Tryz.prog 84 #[.agg #[.int .i64 3, .iface 92 (.pointer (some ⟨b, 0, none⟩))]] w _
    have HM : Hid (∀ W, Bel w W → Calls Tryz.prog 65 #[.agg #[.int .i64 3, .iface 92 (.pointer (some ⟨b, 0, none⟩))]] W fun e w' => e = .returned (.agg #[.slice p gs.length cap, .int .u8 c]) ∧ Bel W w') := Lib.hid fun W hW => mustAs_3 _ _ _ _ b W (cell_kept hW (hc 0 _ rfl)) (cell_kept hW (hc 1 _ rfl))
    have HT := Lib.hid fun W => polygonType_any c p gs.length cap W
    have hdm : ∀ (k : Int) (ns : List Nat) (ks : List Gm), (Gm.mk k (c : Int) ns ks).dim.toNat = c := fun _ _ _ => by simp [Gm.dim]
    rw [hdm]
    clear hc hF hdm
    generalize gs.length = n at *
    go_enter Tryz.func84, Tryz.ntmps84
    go_wp2_with (first
      | (go_at_call 65; (with_reducible refine (HM.out _ ?hb).mono ?_); (case hb => (repeat (first | with_reducible assumption | with_reducible exact Bel.refl _ | with_reducible apply Bel.alloc | with_reducible apply Bel.drew | with_reducible apply Bel.drewN | ((with_reducible apply Bel.setCellR); (simp <;> omega)) | with_reducible refine Bel.behind (by with_reducible assumption) ?_))); rintro e w1 ⟨rfl, hb1⟩; have HB1 : Hid (Bel w w1) := Lib.hid ((show Bel w _ by (repeat (first | with_reducible assumption | with_reducible exact Bel.refl _ | with_reducible apply Bel.alloc | with_reducible apply Bel.drew | with_reducible apply Bel.drewN | ((with_reducible apply Bel.setCellR); (simp <;> omega)) | with_reducible refine Bel.behind (by with_reducible assumption) ?_))).trans hb1); clear hb1)
      | (go_at_call 82; (with_reducible refine (HT.out _).mono ?_); rintro e w2 ⟨rfl, hb2⟩; have HB2 : Hid (Bel w w2) := Lib.hid (HB1.out.trans hb2); clear hb2))
    go_ret
    exact ⟨rfl, HB2.out⟩
  · obtain ⟨p, cap, c, gs, rfl, hc3, rfl, -⟩ := ho.sl (e := 1) (k := 6) rfl
    show Calls Tryz.prog 84 #[.agg #[.int .i64 4, .iface 95 (.pointer (some ⟨b, 0, none⟩))]] w _
    have HM : Hid (∀ W, Bel w W → Calls Tryz.prog 67 #[.agg #[.int .i64 4, .iface 95 (.pointer (some ⟨b, 0, none⟩))]] W fun e w' => e = .returned (.agg #[.slice p gs.length cap, .int .u8 c]) ∧ Bel W w') := Lib.hid fun W hW => mustAs_4 _ _ _ _ b W (cell_kept hW (hc 0 _ rfl)) (cell_kept hW (hc 1 _ rfl))
    have HT := Lib.hid fun W => rawType_4 c p gs.length cap W
    have hdm : ∀ (k : Int) (ns : List Nat) (ks : List Gm), (Gm.mk k (c : Int) ns ks).dim.toNat = c := fun _ _ _ => by simp [Gm.dim]
    rw [hdm]
    clear hc hF hdm
    generalize gs.length = n at *
    go_enter Tryz.func84, Tryz.ntmps84
    go_wp2_with (first
      | (go_at_call 67; (with_reducible refine (HM.out _ ?hb).mono ?_); (case hb => (repeat (first | with_reducible assumption | with_reducible exact Bel.refl _ | with_reducible apply Bel.alloc | with_reducible apply Bel.drew | with_reducible apply Bel.drewN | ((with_reducible apply Bel.setCellR); (simp <;> omega)) | with_reducible refine Bel.behind (by with_reducible assumption) ?_))); rintro e w1 ⟨rfl, hb1⟩; have HB1 : Hid (Bel w w1) := Lib.hid ((show Bel w _ by (repeat (first | with_reducible assumption | with_reducible exact Bel.refl _ | with_reducible apply Bel.alloc | with_reducible apply Bel.drew | with_reducible apply Bel.drewN | ((with_reducible apply Bel.setCellR); (simp <;> omega)) | with_reducible refine Bel.behind (by with_reducible assumption) ?_))).trans hb1); clear hb1)
      | (go_at_call 89; (with_reducible refine (HT.out _).mono ?_); rintro e w2 ⟨rfl, hb2⟩; have HB2 : Hid (Bel w w2) := Lib.hid (HB1.out.trans hb2); clear hb2))
    go_ret
    exact ⟨rfl, HB2.out⟩
  · obtain ⟨p, cap, c, gs, rfl, hc3, rfl, -⟩ := ho.sl (e := 2) (k := 2) rfl
    show Calls Tryz.prog 84 #[.agg #[.int .i64 5, .iface 98 (.pointer (some ⟨b, 0, none⟩))]] w _
    have HM : Hid (∀ W, Bel w W → Calls Tryz.prog 69 #[.agg #[.int .i64 5, .iface 98 (.pointer (some ⟨b, 0, none⟩))]] W fun e w' => e = .returned (.agg #[.slice p gs.length cap, .int .u8 c]) ∧ Bel W w') := Lib.hid fun W hW => mustAs_5 _ _ _ _ b W (cell_kept hW (hc 0 _ rfl)) (cell_kept hW (hc 1 _ rfl))
    have HT := Lib.hid fun W => rawType_5 c p gs.length cap W
    have hdm : ∀ (k : Int) (ns : List Nat) (ks : List Gm), (Gm.mk k (c : Int) ns ks).dim.toNat = c := fun _ _ _ => by simp [Gm.dim]
    rw [hdm]
    clear hc hF hdm
    generalize gs.length = n at *
    go_enter Tryz.func84, Tryz.ntmps84
    go_wp2_with (first
      | (go_at_call 69; (with_reducible refine (HM.out _ ?hb).mono ?_); (case hb => (repeat (first | with_reducible assumption | with_reducible exact Bel.refl _ | with_reducible apply Bel.alloc | with_reducible apply Bel.drew | with_reducible apply Bel.drewN | ((with_reducible apply Bel.setCellR); (simp <;> omega)) | with_reducible refine Bel.behind (by with_reducible assumption) ?_))); rintro e w1 ⟨rfl, hb1⟩; have HB1 : Hid (Bel w w1) := Lib.hid ((show Bel w _ by (repeat (first | with_reducible assumption | with_reducible exact Bel.refl _ | with_reducible apply Bel.alloc | with_reducible apply Bel.drew | with_reducible apply Bel.drewN | ((with_reducible apply Bel.setCellR); (simp <;> omega)) | with_reducible refine Bel.behind (by with_reducible assumption) ?_))).trans hb1); clear hb1)
      | (go_at_call 90; (with_reducible refine (HT.out _).mono ?_); rintro e w2 ⟨rfl, hb2⟩; have HB2 : Hid (Bel w w2) := Lib.hid (HB1.out.trans hb2); clear hb2))
    go_ret
    exact ⟨rfl, HB2.out⟩
  · obtain ⟨p, cap, c, gs, rfl, hc3, rfl, -⟩ := ho.sl (e := 3) (k := 2) rfl
    show Calls Tryz.prog 84 #[.agg #[.int .i64 6, .iface 101 (.pointer (some ⟨b, 0, none⟩))]] w _
    have HM : Hid (∀ W, Bel w W → Calls Tryz.prog 71 #[.agg #[.int .i64 6, .iface 101 (.pointer (some ⟨b, 0, none⟩))]] W fun e w' => e = .returned (.agg #[.slice p gs.length cap, .int .u8 c]) ∧ Bel W w') := Lib.hid fun W hW => mustAs_6 _ _ _ _ b W (cell_kept hW (hc 0 _ rfl)) (cell_kept hW (hc 1 _ rfl))
    have HT := Lib.hid fun W => rawType_6 c p gs.length cap W
    have hdm : ∀ (k : Int) (ns : List Nat) (ks : List Gm), (Gm.mk k (c : Int) ns ks).dim.toNat = c := fun _ _ _ => by simp [Gm.dim]
    rw [hdm]
    clear hc hF hdm
    generalize gs.length = n at *
    go_enter Tryz.func84, Tryz.ntmps84
    go_wp2_with (first
      | (go_at_call 71; (with_reducible refine (HM.out _ ?hb).mono ?_); (case hb => (repeat (first | with_reducible assumption | with_reducible exact Bel.refl _ | with_reducible apply Bel.alloc | with_reducible apply Bel.drew | with_reducible apply Bel.drewN | ((with_reducible apply Bel.setCellR); (simp <;> omega)) | with_reducible refine Bel.behind (by with_reducible assumption) ?_))); rintro e w1 ⟨rfl, hb1⟩; have HB1 : Hid (Bel w w1) := Lib.hid ((show Bel w _ by (repeat (first | with_reducible assumption | with_reducible exact Bel.refl _ | with_reducible apply Bel.alloc | with_reducible apply Bel.drew | with_reducible apply Bel.drewN | ((with_reducible apply Bel.setCellR); (simp <;> omega)) | with_reducible refine Bel.behind (by with_reducible assumption) ?_))).trans hb1); clear hb1)
      | (go_at_call 91; (with_reducible refine (HT.out _).mono ?_); rintro e w2 ⟨rfl, hb2⟩; have HB2 : Hid (Bel w w2) := Lib.hid (HB1.out.trans hb2); clear hb2))
    go_ret
    exact ⟨rfl, HB2.out⟩
end Go.Proofs.YtpipehenfcbjbaaGreat
