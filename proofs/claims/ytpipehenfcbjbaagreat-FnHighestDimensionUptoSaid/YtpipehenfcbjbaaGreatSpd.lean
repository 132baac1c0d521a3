/-
  kAny: no deeper than 8, no greater than 600, no number that is not one.
-/
import Derived.Test.YtpipehenfcbjbaaGreatSpc
set_option linter.unusedVariables false
namespace Go.Proofs.YtpipehenfcbjbaaGreat
open Go.ChangeShapes Go.WideShapes Go.ChangeAt Go.RowKit
def nanB (x : Nat) : Bool := FloatKind.f64.format.order x x != some .eq
def kAnyOf (g : Gm) : Bool := deepOf g 8 && (decide (g.size ≤ 600) && (allOf g).all fun x => !nanB x)
set_option maxHeartbeats 4000000 in
set_option maxRecDepth 100000 in
theorem kAny_any (g : Gm) (hsz : g.size ≤ 1048576) : GmArg g fun v w => Calls Tryz.prog 5 #[v] w (IsB (kAnyOf g) w) := by
  intro F pn nn cn pk nk ck w hN hK
  have HD : Hid (∀ (W : World), Bel w W → Calls Tryz.prog 9 #[.agg #[.int .i64 g.kind, .int .i64 g.dim, .slice pn nn cn, .slice pk nk ck], .int .i64 8] W (IsB (deepOf g 8) W)) := Lib.hid fun W hW => GmArg.of (pDeep_any g 8 (by decide)) hN hK hW
  have HW : Hid (∀ (m : Int) (W : World), Bel w W → Calls Tryz.prog 10 #[.agg #[.int .i64 g.kind, .int .i64 g.dim, .slice pn nn cn, .slice pk nk ck], .int .i64 m] W (IsSmall g.size m W)) := Lib.hid fun m W hW => GmArg.of (spWeight_any g hsz m) hN hK hW
  have HA : Hid (∀ (W : World), Bel w W → Calls Tryz.prog 11 #[.agg #[.int .i64 g.kind, .int .i64 g.dim, .slice pn nn cn, .slice pk nk ck]] W (IsFls (fun _ => True) (allOf g) g.size W)) := Lib.hid fun W hW => GmArg.of (allNums_any g hsz (fun _ => True)) hN hK hW (New.any W)
  have HSZ := Lib.hid hsz
  clear hN hK hsz
  rw [kAnyOf]
  generalize g.size = sz at *
  generalize allOf g = xs at *
  generalize deepOf g 8 = dp at *
  generalize g.kind = kind at *
  generalize g.dim = dim at *
  go_enter Tryz.func5, Tryz.ntmps5
  go_wp2_with (go_at_call 9; (with_reducible refine (HD.out _ ?hb).mono ?_); (case hb => (repeat (first | with_reducible assumption | with_reducible exact Bel.refl _ | with_reducible apply Bel.alloc | with_reducible apply Bel.drew | with_reducible apply Bel.drewN | ((with_reducible apply Bel.setCellR); (simp <;> omega)) | with_reducible refine Bel.behind (by with_reducible assumption) ?_))); rintro e w1 ⟨rfl, hb1⟩; have HB1 : Hid (Bel w w1) := Lib.hid ((Bel.alloc1 w _).trans hb1); have B1 := (Blk.new w #[.int .i64 kind, .int .i64 dim, .slice pn nn cn, .slice pk nk ck] 25).bel hb1; obtain ⟨r1, z1, l1⟩ := B1.facts; have HP1 := Lib.hid B1; clear hb1 B1; cases dp)
  · go_ret
    exact IsB.mk' (by simp) HB1.out
  · go_wp2_with (go_at_call 10; (with_reducible refine (HW.out _ _ HB1.out).mono ?_); rintro e w2 ⟨v2, rfl, hv2, hx2, hb2⟩; have HX2 := Lib.hid hx2; have HV2 := Lib.hid hv2; have hv2b : v2 ≤ 1048576 := Nat.le_trans hv2 HSZ.out; have HB2 : Hid (Bel w w2) := Lib.hid (HB1.out.trans hb2); have B2 := HP1.out.bel hb2; obtain ⟨r2, z2, l2⟩ := B2.facts; have HP2 := Lib.hid B2; clear hb2 B2 hv2 hx2; by_cases hgt : (600 : Int) < v2)
    · have hno : decide (sz ≤ 600) = false := decide_eq_false (by have := HV2.out; omega)
      have HNO := Lib.hid hno
      clear hno
      go_ret
      exact IsB.mk' (by rw [HNO.out]; simp) HB2.out
    · have hyes : decide (sz ≤ 600) = true := decide_eq_true (by have := HX2.out (by omega); omega)
      have HYES := Lib.hid hyes
      clear hyes
      go_wp2_with (go_at_call 11; (with_reducible refine (HA.out _ HB2.out).mono ?_); rintro e w3 ⟨p3, m3, c3, rfl, hf3, hm3, hb3⟩; have HF3 := Lib.hid hf3; have hxl : xs.length = m3 := hf3.len.1; have HXL := Lib.hid hxl; have hm3b : m3 ≤ 1048576 := Nat.le_trans hm3 HSZ.out; have HB3 : Hid (Bel w w3) := Lib.hid (HB2.out.trans hb3); clear hb3 hf3 hm3 hxl)
      go_loopw [16] (fun iv wr => ∃ t : Nat, iv = .int .i64 t ∧ t ≤ m3 ∧ (∀ x ∈ xs.take t, nanB x = false) ∧ Bel w3 wr) (fun iv _ => m3 - (intOf iv).toNat)
      case atStart => exact ⟨0, rfl, Nat.zero_le _, fun x hx => by simp at hx, Bel.refl _⟩
      case round =>
        obtain ⟨t, rfl, ht, hall, hbel⟩ := hrel
        have HALL := Lib.hid hall
        clear hall
        have HBEL := Lib.hid hbel
        by_cases htn : t < m3
        · obtain ⟨b, off, rfl, hlt, -, hq⟩ := HF3.out.cells (by omega)
          obtain ⟨x, hx⟩ : ∃ x, xs[t]? = some x := ⟨_, List.getElem?_eq_getElem (by have := HXL.out; omega)⟩
          have D0 := cell_kept hbel (hq t x hx)
          have hbl : b < wr.heap.size := Nat.lt_of_lt_of_le hlt hbel.size
          obtain ⟨bb, hbb⟩ : ∃ b, (FloatKind.f64.format.order x x != some .eq) = b := ⟨_, rfl⟩
          have HBB : Hid (nanB x = bb) := Lib.hid hbb
          have HX := Lib.hid hx
          clear hq hx hbel
          cases bb
          · go_wp2
            go_roundw
            case rel => exact ⟨t + 1, by go_num, by omega, fun y hy => by (rw [List.take_add_one, HX.out] at hy; rcases List.mem_append.1 hy with hy | hy; exact HALL.out y hy; simp at hy; rw [hy]; exact HBB.out), by have := HBEL.out; (repeat (first | with_reducible assumption | with_reducible exact Bel.refl _ | with_reducible apply Bel.alloc | with_reducible apply Bel.drew | with_reducible apply Bel.drewN | ((with_reducible apply Bel.setCellR); (simp <;> omega)) | with_reducible refine Bel.behind (by with_reducible assumption) ?_))⟩
            case measure => simp [intOf]; omega
          · have hne : (xs.all fun x => !nanB x) = false := by
              apply Bool.eq_false_iff.2
              intro h
              have := List.all_eq_true.1 h x (List.mem_iff_getElem?.2 ⟨t, HX.out⟩)
              rw [HBB.out] at this
              simp at this
            have HNE := Lib.hid hne
            clear hne
            go_wp2
            go_ret
            exact IsB.mk' (by rw [HNE.out]; simp) (HB3.out.trans HBEL.out)
        · obtain rfl : t = m3 := by omega
          clear hbel
          have hye : (xs.all fun x => !nanB x) = true := by
            apply List.all_eq_true.2
            intro x hx
            have := HALL.out x (by rw [List.take_of_length_le (by have := HXL.out; omega)]; exact hx)
            rw [this]
            rfl
          have HYE := Lib.hid hye
          clear hye
          go_wp2
          go_ret
          exact IsB.mk' (by rw [HYE.out, HYES.out]; simp) (HB3.out.trans HBEL.out)
end Go.Proofs.YtpipehenfcbjbaaGreat
