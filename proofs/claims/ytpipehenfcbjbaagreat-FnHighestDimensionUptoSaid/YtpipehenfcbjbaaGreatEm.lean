/-
  IsEmpty of objects and geometries. No panic; what stood in memory has not turned.
-/
import Derived.Test.YtpipehenfcbjbaaGreatMk
set_option linter.unusedVariables false
namespace Go.Proofs.YtpipehenfcbjbaaGreat
open Go.ChangeShapes Go.WideShapes Go.ChangeAt Go.RowKit
mutual
/-- A leaf without numbers, a polygon without rings, anything else without parts that are not empty. -/
def emptyOf : Gm → Bool
  | .mk k _ ns ks => if k = 3 then ks.isEmpty else emptyAll ks && ns.isEmpty
def emptyAll : List Gm → Bool
  | [] => true
  | g :: r => emptyOf g && emptyAll r
end
theorem emptyAll_take {gs : List Gm} {t : Nat} {g : Gm} (h : gs[t]? = some g) : emptyAll (gs.take (t + 1)) = (emptyAll (gs.take t) && emptyOf g) := by
  have key : ∀ (l : List Gm) (a : Gm), emptyAll (l ++ [a]) = (emptyAll l && emptyOf a) := fun l a => by
    induction l with
    | nil => simp [emptyAll]
    | cons x r ih => simp only [List.cons_append, emptyAll, ih, Bool.and_assoc]
  rw [List.take_add_one, h]
  exact key _ _
theorem emptyAll_not {gs : List Gm} {t : Nat} {g : Gm} (h : gs[t]? = some g) (he : emptyOf g = false) : emptyAll gs = false := by
  induction gs generalizing t with
  | nil => simp at h
  | cons x r ih =>
    cases t with
    | zero =>
      simp at h
      subst h
      simp [emptyAll, he]
    | succ t =>
      have := ih (t := t) (by simpa using h)
      simp [emptyAll, this]
theorem numsOfPl_some (c : Nat) (p : Pl) : (numsOfPl c p).isEmpty = false := rfl
theorem lineEmpty_any {F : Nat → Prop} {cs : List Value} {g : Gm} {w0 : World} (h : Ob F w0 2 cs g) (w : World) : Calls Tryz.prog 64 #[.agg cs.toArray] w fun e w' => e = .returned (.bool (emptyOf g)) ∧ Bel w w' := by
  obtain ⟨c, p, n, cap, xs, rfl, hc, rfl, hf, hw, hb⟩ := h.ln
  have hl := hf.len
  have h0 := wd_bd c
  have he : emptyOf (.mk 2 c xs []) = decide ((n / wd c : Nat) = (0 : Int)) := by
    simp only [emptyOf, emptyAll]
    rw [if_neg (by decide)]
    simp only [Bool.true_and]
    cases xs with
    | nil =>
      have : n = 0 := by simpa using hl.1.symm
      subst this
      simp
    | cons a r =>
      have hp : 0 < n := by have := hl.1; simp at this; omega
      have : 0 < n / wd c := by
        rcases Nat.eq_zero_or_pos (n / wd c) with q | q
        · have := Nat.div_add_mod n (wd c)
          rw [q, hw] at this
          omega
        · exact q
      have h2 : ¬ ((n / wd c : Nat) : Int) = 0 := by omega
      rw [decide_eq_false h2]
      rfl
  rw [he]
  have HL := Lib.hid (fun w => length_any p n cap c hc (by omega) w)
  clear he hf hw hb h hl
  show Calls Tryz.prog 64 #[.agg #[.int .u8 c, .slice p n cap]] w _
  generalize n / wd c = q at *
  go_enter Tryz.func64, Tryz.ntmps64
  go_wp2_with (go_at_call 43; (with_reducible refine (HL.out _).mono ?_); rintro e w1 ⟨rfl, hb1⟩; have HB1 : Hid (Bel w w1) := Lib.hid ((Bel.alloc1 w _).trans hb1); clear hb1)
  go_ret
  exact ⟨by first | rfl | (congr 2; first | rfl | (by_cases hq : q = 0 <;> simp [hq])), HB1.out⟩
theorem pointOb_empty {F : Nat → Prop} {cs : List Value} {g : Gm} {w0 : World} (h : Ob F w0 1 cs g) (w : World) : Calls Tryz.prog 62 #[.agg cs.toArray] w fun e w' => e = .returned (.bool (emptyOf g)) ∧ Bel w w' := by
  obtain ⟨x, y, z, m, c, full, rfl, hc, rfl⟩ := h.pt
  have he : emptyOf (.mk 1 c (if full then numsOfPl c ⟨x, y, z, m⟩ else []) []) = !full := by
    simp only [emptyOf, emptyAll]
    rw [if_neg (by decide)]
    cases full
    · rfl
    · rfl
  rw [he]
  exact pointEmpty_any x y z m c full w
theorem polygonEmpty_any {F : Nat → Prop} {cs : List Value} {g : Gm} {w0 : World} (h : Ob F w0 3 cs g) (w : World) : Calls Tryz.prog 66 #[.agg cs.toArray] w fun e w' => e = .returned (.bool (emptyOf g)) ∧ Bel w w' := by
  obtain ⟨p, cap, c, gs, rfl, hc, rfl, _⟩ := h.sl (e := 2) (k := 2) rfl
  have he : emptyOf (.mk (3 : Nat) c [] gs) = ((gs.length : Int) == 0) := by
    simp only [emptyOf]
    rw [if_pos (show ((3 : Nat) : Int) = 3 from rfl)]
    cases gs with
    | nil => rfl
    | cons a r =>
      have : ((((a :: r).length : Nat) : Int) == 0) = false := by simp; omega
      rw [this]
      rfl
  rw [he]
  show Calls Tryz.prog 66 #[.agg #[.slice p gs.length cap, .int .u8 c]] w _
  generalize gs.length = n at *
  go_enter Tryz.func66, Tryz.ntmps66
  go_wp2
  go_ret
  exact ⟨by first | rfl | (congr 2; first | rfl | (by_cases hq : n = 0 <;> simp [hq])), by (repeat (first | with_reducible assumption | with_reducible exact Bel.refl _ | with_reducible apply Bel.alloc | with_reducible apply Bel.drew | with_reducible apply Bel.drewN | ((with_reducible apply Bel.setCellR); (simp <;> omega)) | with_reducible refine Bel.behind (by with_reducible assumption) ?_))⟩
def GeoEmpty (g : Gm) : Prop := ∀ (F : Nat → Prop) (cs : List Value) (w : World), Ob F w 7 cs g → Calls Tryz.prog 37 #[.agg cs.toArray] w fun e w' => e = .returned (.bool (emptyOf g)) ∧ Bel w w'
set_option maxHeartbeats 4000000 in
set_option maxRecDepth 100000 in
theorem multiPointEmpty_any {F : Nat → Prop} {cs : List Value} {g : Gm} (w : World) (h : Ob F w 4 cs g) : Calls Tryz.prog 68 #[.agg cs.toArray] w fun e w' => e = .returned (.bool (emptyOf g)) ∧ Bel w w' := by
  obtain ⟨p, cap, c, gs, rfl, hc, rfl, hn31, hsl⟩ := h.sl (e := 1) (k := 6) rfl
  have he : emptyOf (.mk (4 : Nat) c [] gs) = emptyAll gs := by
    simp only [emptyOf]
    rw [if_neg (by decide)]
    simp
  rw [he]
  have HSL := Lib.hid hsl
  clear h hsl he
  show Calls Tryz.prog 68 #[.agg #[.slice p gs.length cap, .int .u8 c]] w _
  generalize hn : gs.length = n at *
  have HN := Lib.hid hn
  clear hn
  go_enter Tryz.func68, Tryz.ntmps68
  go_wp2
  go_loopw [8] (fun iv wr => ∃ t : Nat, iv = .int .i64 t ∧ t ≤ n ∧ Bel w wr ∧ emptyAll (gs.take t) = true) (fun iv _ => n - (intOf iv).toNat)
  case atStart => exact ⟨0, rfl, Nat.zero_le _, by (repeat (first | with_reducible assumption | with_reducible exact Bel.refl _ | with_reducible apply Bel.alloc | with_reducible apply Bel.drew | with_reducible apply Bel.drewN | ((with_reducible apply Bel.setCellR); (simp <;> omega)) | with_reducible refine Bel.behind (by with_reducible assumption) ?_)), by simp [emptyAll]⟩
  case round =>
    obtain ⟨t, rfl, ht, hbel, hall⟩ := hrel
    have HBEL := Lib.hid hbel
    have HALL := Lib.hid hall
    by_cases htn : t < n
    · obtain ⟨g, hg⟩ : ∃ g, gs[t]? = some g := ⟨_, List.getElem?_eq_getElem (by have := HN.out; omega)⟩
      obtain ⟨_, _, hve, _, _, hq⟩ := HSL.out
      cases hve
      obtain ⟨b, off, rfl, hlt, -, hr⟩ := hq (by intro e; rw [e] at hg; simp at hg)
      obtain ⟨cl, hcl, hcell, hob⟩ := hr t g hg
      have HC : Hid (∀ W, Bel w W → Calls Tryz.prog 62 #[.agg cl.toArray] W fun e w' => e = .returned (.bool (emptyOf g)) ∧ Bel W w') := Lib.hid fun W hW => pointOb_empty (hob.bel hW) W
      obtain ⟨x0, y0, a0, m0, d0, f0, hcs0, -⟩ := hob.pt; cases hcs0
      have D0 := cell_kept hbel (hcell 0 (.float .f64 x0) rfl)
      have D1 := cell_kept hbel (hcell 1 (.float .f64 y0) rfl)
      have D2 := cell_kept hbel (hcell 2 (.float .f64 a0) rfl)
      have D3 := cell_kept hbel (hcell 3 (.float .f64 m0) rfl)
      have D4 := cell_kept hbel (hcell 4 (.int .u8 d0) rfl)
      have D5 := cell_kept hbel (hcell 5 (.bool f0) rfl)
      simp only [Nat.add_zero] at D0
      have E1 := D1
      rw [← Nat.add_assoc] at E1
      have E2 := D2
      rw [← Nat.add_assoc] at E2
      have E3 := D3
      rw [← Nat.add_assoc] at E3
      have E4 := D4
      rw [← Nat.add_assoc] at E4
      have E5 := D5
      rw [← Nat.add_assoc] at E5
      have hbl : b < wr.heap.size := Nat.lt_of_lt_of_le hlt hbel.size
      have HTK := Lib.hid (emptyAll_take hg)
      have HNT : Hid (emptyOf g = false → emptyAll gs = false) := Lib.hid (emptyAll_not hg)
      clear hq hr hcell hob hcl hbel hg hall
      generalize emptyOf g = eg at *
      cases eg
      · have HR := Lib.hid (HNT.out rfl)
        go_wp2_with (go_at_call 62; (with_reducible refine (HC.out _ ?hb).mono ?_); (case hb => exact HBEL.out.alloc _); rintro e w3 ⟨rfl, hb⟩; have HB3 : Hid (Bel wr w3) := Lib.hid ((Bel.alloc1 _ _).trans hb); clear hb)
        go_ret
        exact ⟨by rw [HR.out]; rfl, HBEL.out.trans HB3.out⟩
      · go_wp2_with (go_at_call 62; (with_reducible refine (HC.out _ ?hb).mono ?_); (case hb => exact HBEL.out.alloc _); rintro e w3 ⟨rfl, hb⟩; have HB3 : Hid (Bel wr w3) := Lib.hid ((Bel.alloc1 _ _).trans hb); clear hb)
        go_roundw
        case rel => exact ⟨t + 1, by go_num, by omega, HBEL.out.trans HB3.out, by rw [HTK.out, HALL.out]; rfl⟩
        case measure => simp [intOf]; omega
    · obtain rfl : t = n := by omega
      have hx : gs.take t = gs := List.take_of_length_le (by have := HN.out; omega)
      rw [hx] at HALL
      clear hx hbel hall
      go_wp2
      go_ret
      exact ⟨by rw [HALL.out]; rfl, HBEL.out⟩
set_option maxHeartbeats 4000000 in
set_option maxRecDepth 100000 in
theorem multiLineEmpty_any {F : Nat → Prop} {cs : List Value} {g : Gm} (w : World) (h : Ob F w 5 cs g) : Calls Tryz.prog 70 #[.agg cs.toArray] w fun e w' => e = .returned (.bool (emptyOf g)) ∧ Bel w w' := by
  obtain ⟨p, cap, c, gs, rfl, hc, rfl, hn31, hsl⟩ := h.sl (e := 2) (k := 2) rfl
  have he : emptyOf (.mk (5 : Nat) c [] gs) = emptyAll gs := by
    simp only [emptyOf]
    rw [if_neg (by decide)]
    simp
  rw [he]
  have HSL := Lib.hid hsl
  clear h hsl he
  show Calls Tryz.prog 70 #[.agg #[.slice p gs.length cap, .int .u8 c]] w _
  generalize hn : gs.length = n at *
  have HN := Lib.hid hn
  clear hn
  go_enter Tryz.func70, Tryz.ntmps70
  go_wp2
  go_loopw [8] (fun iv wr => ∃ t : Nat, iv = .int .i64 t ∧ t ≤ n ∧ Bel w wr ∧ emptyAll (gs.take t) = true) (fun iv _ => n - (intOf iv).toNat)
  case atStart => exact ⟨0, rfl, Nat.zero_le _, by (repeat (first | with_reducible assumption | with_reducible exact Bel.refl _ | with_reducible apply Bel.alloc | with_reducible apply Bel.drew | with_reducible apply Bel.drewN | ((with_reducible apply Bel.setCellR); (simp <;> omega)) | with_reducible refine Bel.behind (by with_reducible assumption) ?_)), by simp [emptyAll]⟩
  case round =>
    obtain ⟨t, rfl, ht, hbel, hall⟩ := hrel
    have HBEL := Lib.hid hbel
    have HALL := Lib.hid hall
    by_cases htn : t < n
    · obtain ⟨g, hg⟩ : ∃ g, gs[t]? = some g := ⟨_, List.getElem?_eq_getElem (by have := HN.out; omega)⟩
      obtain ⟨_, _, hve, _, _, hq⟩ := HSL.out
      cases hve
      obtain ⟨b, off, rfl, hlt, -, hr⟩ := hq (by intro e; rw [e] at hg; simp at hg)
      obtain ⟨cl, hcl, hcell, hob⟩ := hr t g hg
      have HC : Hid (∀ W, Bel w W → Calls Tryz.prog 64 #[.agg cl.toArray] W fun e w' => e = .returned (.bool (emptyOf g)) ∧ Bel W w') := Lib.hid fun W hW => lineEmpty_any (hob.bel hW) W
      obtain ⟨d0, p0, n0, q0, xs0, hcs0, -⟩ := hob.ln; cases hcs0
      have D0 := cell_kept hbel (hcell 0 (.int .u8 d0) rfl)
      have D1 := cell_kept hbel (hcell 1 (.slice p0 n0 q0) rfl)
      simp only [Nat.add_zero] at D0
      have E1 := D1
      rw [← Nat.add_assoc] at E1
      have hbl : b < wr.heap.size := Nat.lt_of_lt_of_le hlt hbel.size
      have HTK := Lib.hid (emptyAll_take hg)
      have HNT : Hid (emptyOf g = false → emptyAll gs = false) := Lib.hid (emptyAll_not hg)
      clear hq hr hcell hob hcl hbel hg hall
      generalize emptyOf g = eg at *
      cases eg
      · have HR := Lib.hid (HNT.out rfl)
        go_wp2_with (go_at_call 64; (with_reducible refine (HC.out _ ?hb).mono ?_); (case hb => exact HBEL.out.alloc _); rintro e w3 ⟨rfl, hb⟩; have HB3 : Hid (Bel wr w3) := Lib.hid ((Bel.alloc1 _ _).trans hb); clear hb)
        go_ret
        exact ⟨by rw [HR.out]; rfl, HBEL.out.trans HB3.out⟩
      · go_wp2_with (go_at_call 64; (with_reducible refine (HC.out _ ?hb).mono ?_); (case hb => exact HBEL.out.alloc _); rintro e w3 ⟨rfl, hb⟩; have HB3 : Hid (Bel wr w3) := Lib.hid ((Bel.alloc1 _ _).trans hb); clear hb)
        go_roundw
        case rel => exact ⟨t + 1, by go_num, by omega, HBEL.out.trans HB3.out, by rw [HTK.out, HALL.out]; rfl⟩
        case measure => simp [intOf]; omega
    · obtain rfl : t = n := by omega
      have hx : gs.take t = gs := List.take_of_length_le (by have := HN.out; omega)
      rw [hx] at HALL
      clear hx hbel hall
      go_wp2
      go_ret
      exact ⟨by rw [HALL.out]; rfl, HBEL.out⟩
set_option maxHeartbeats 4000000 in
set_option maxRecDepth 100000 in
theorem multiPolygonEmpty_any {F : Nat → Prop} {cs : List Value} {g : Gm} (w : World) (h : Ob F w 6 cs g) : Calls Tryz.prog 72 #[.agg cs.toArray] w fun e w' => e = .returned (.bool (emptyOf g)) ∧ Bel w w' := by
  obtain ⟨p, cap, c, gs, rfl, hc, rfl, hn31, hsl⟩ := h.sl (e := 3) (k := 2) rfl
  have he : emptyOf (.mk (6 : Nat) c [] gs) = emptyAll gs := by
    simp only [emptyOf]
    rw [if_neg (by decide)]
    simp
  rw [he]
  have HSL := Lib.hid hsl
  clear h hsl he
  show Calls Tryz.prog 72 #[.agg #[.slice p gs.length cap, .int .u8 c]] w _
  generalize hn : gs.length = n at *
  have HN := Lib.hid hn
  clear hn
  go_enter Tryz.func72, Tryz.ntmps72
  go_wp2
  go_loopw [8] (fun iv wr => ∃ t : Nat, iv = .int .i64 t ∧ t ≤ n ∧ Bel w wr ∧ emptyAll (gs.take t) = true) (fun iv _ => n - (intOf iv).toNat)
  case atStart => exact ⟨0, rfl, Nat.zero_le _, by (repeat (first | with_reducible assumption | with_reducible exact Bel.refl _ | with_reducible apply Bel.alloc | with_reducible apply Bel.drew | with_reducible apply Bel.drewN | ((with_reducible apply Bel.setCellR); (simp <;> omega)) | with_reducible refine Bel.behind (by with_reducible assumption) ?_)), by simp [emptyAll]⟩
  case round =>
    obtain ⟨t, rfl, ht, hbel, hall⟩ := hrel
    have HBEL := Lib.hid hbel
    have HALL := Lib.hid hall
    by_cases htn : t < n
    · obtain ⟨g, hg⟩ : ∃ g, gs[t]? = some g := ⟨_, List.getElem?_eq_getElem (by have := HN.out; omega)⟩
      obtain ⟨_, _, hve, _, _, hq⟩ := HSL.out
      cases hve
      obtain ⟨b, off, rfl, hlt, -, hr⟩ := hq (by intro e; rw [e] at hg; simp at hg)
      obtain ⟨cl, hcl, hcell, hob⟩ := hr t g hg
      have HC : Hid (∀ W, Bel w W → Calls Tryz.prog 66 #[.agg cl.toArray] W fun e w' => e = .returned (.bool (emptyOf g)) ∧ Bel W w') := Lib.hid fun W hW => polygonEmpty_any (hob.bel hW) W
      obtain ⟨p0, n0, q0, d0, hcs0⟩ := hob.ofSl (c := 0) (e := 2) (k := 2) rfl; cases hcs0
      have D0 := cell_kept hbel (hcell 0 (.slice p0 n0 q0) rfl)
      have D1 := cell_kept hbel (hcell 1 (.int .u8 d0) rfl)
      simp only [Nat.add_zero] at D0
      have E1 := D1
      rw [← Nat.add_assoc] at E1
      have hbl : b < wr.heap.size := Nat.lt_of_lt_of_le hlt hbel.size
      have HTK := Lib.hid (emptyAll_take hg)
      have HNT : Hid (emptyOf g = false → emptyAll gs = false) := Lib.hid (emptyAll_not hg)
      clear hq hr hcell hob hcl hbel hg hall
      generalize emptyOf g = eg at *
      cases eg
      · have HR := Lib.hid (HNT.out rfl)
        go_wp2_with (go_at_call 66; (with_reducible refine (HC.out _ ?hb).mono ?_); (case hb => exact HBEL.out.alloc _); rintro e w3 ⟨rfl, hb⟩; have HB3 : Hid (Bel wr w3) := Lib.hid ((Bel.alloc1 _ _).trans hb); clear hb)
        go_ret
        exact ⟨by rw [HR.out]; rfl, HBEL.out.trans HB3.out⟩
      · go_wp2_with (go_at_call 66; (with_reducible refine (HC.out _ ?hb).mono ?_); (case hb => exact HBEL.out.alloc _); rintro e w3 ⟨rfl, hb⟩; have HB3 : Hid (Bel wr w3) := Lib.hid ((Bel.alloc1 _ _).trans hb); clear hb)
        go_roundw
        case rel => exact ⟨t + 1, by go_num, by omega, HBEL.out.trans HB3.out, by rw [HTK.out, HALL.out]; rfl⟩
        case measure => simp [intOf]; omega
    · obtain rfl : t = n := by omega
      have hx : gs.take t = gs := List.take_of_length_le (by have := HN.out; omega)
      rw [hx] at HALL
      clear hx hbel hall
      go_wp2
      go_ret
      exact ⟨by rw [HALL.out]; rfl, HBEL.out⟩
set_option maxHeartbeats 4000000 in
set_option maxRecDepth 100000 in
theorem collEmpty_any {F : Nat → Prop} {cs : List Value} {g : Gm} (w : World) (h : Ob F w 0 cs g) (hih : ∀ k ∈ g.kids, GeoEmpty k) : Calls Tryz.prog 60 #[.agg cs.toArray] w fun e w' => e = .returned (.bool (emptyOf g)) ∧ Bel w w' := by
  obtain ⟨p, cap, c, gs, rfl, hc, rfl, hn31, hsl⟩ := h.sl (e := 7) (k := 2) rfl
  have HIH : Hid (∀ k ∈ gs, GeoEmpty k) := Lib.hid hih
  clear hih
  have he : emptyOf (.mk (0 : Nat) c [] gs) = emptyAll gs := by
    simp only [emptyOf]
    rw [if_neg (by decide)]
    simp
  rw [he]
  have HSL := Lib.hid hsl
  clear h hsl he
  show Calls Tryz.prog 60 #[.agg #[.slice p gs.length cap, .int .u8 c]] w _
  generalize hn : gs.length = n at *
  have HN := Lib.hid hn
  clear hn
  go_enter Tryz.func60, Tryz.ntmps60
  go_wp2
  go_loopw [8] (fun iv wr => ∃ t : Nat, iv = .int .i64 t ∧ t ≤ n ∧ Bel w wr ∧ emptyAll (gs.take t) = true) (fun iv _ => n - (intOf iv).toNat)
  case atStart => exact ⟨0, rfl, Nat.zero_le _, by (repeat (first | with_reducible assumption | with_reducible exact Bel.refl _ | with_reducible apply Bel.alloc | with_reducible apply Bel.drew | with_reducible apply Bel.drewN | ((with_reducible apply Bel.setCellR); (simp <;> omega)) | with_reducible refine Bel.behind (by with_reducible assumption) ?_)), by simp [emptyAll]⟩
  case round =>
    obtain ⟨t, rfl, ht, hbel, hall⟩ := hrel
    have HBEL := Lib.hid hbel
    have HALL := Lib.hid hall
    by_cases htn : t < n
    · obtain ⟨g, hg⟩ : ∃ g, gs[t]? = some g := ⟨_, List.getElem?_eq_getElem (by have := HN.out; omega)⟩
      obtain ⟨_, _, hve, _, _, hq⟩ := HSL.out
      cases hve
      obtain ⟨b, off, rfl, hlt, -, hr⟩ := hq (by intro e; rw [e] at hg; simp at hg)
      obtain ⟨cl, hcl, hcell, hob⟩ := hr t g hg
      have HC : Hid (∀ W, Bel w W → Calls Tryz.prog 37 #[.agg cl.toArray] W fun e w' => e = .returned (.bool (emptyOf g)) ∧ Bel W w') := Lib.hid fun W hW => HIH.out g (List.mem_iff_getElem?.2 ⟨t, hg⟩) F _ W (hob.bel hW)
      obtain ⟨s0, b0, cl0, hcs0, -⟩ := hob.gi; cases hcs0
      have D0 := cell_kept hbel (hcell 0 (.int .i64 s0) rfl)
      have D1 := cell_kept hbel (hcell 1 (.iface (ptrT s0) (.pointer (some ⟨b0, 0, none⟩))) rfl)
      simp only [Nat.add_zero] at D0
      have E1 := D1
      rw [← Nat.add_assoc] at E1
      have hbl : b < wr.heap.size := Nat.lt_of_lt_of_le hlt hbel.size
      have HTK := Lib.hid (emptyAll_take hg)
      have HNT : Hid (emptyOf g = false → emptyAll gs = false) := Lib.hid (emptyAll_not hg)
      clear hq hr hcell hob hcl hbel hg hall
      generalize emptyOf g = eg at *
      cases eg
      · have HR := Lib.hid (HNT.out rfl)
        go_wp2_with (go_at_call 37; (with_reducible refine (HC.out _ ?hb).mono ?_); (case hb => exact HBEL.out.alloc _); rintro e w3 ⟨rfl, hb⟩; have HB3 : Hid (Bel wr w3) := Lib.hid ((Bel.alloc1 _ _).trans hb); clear hb)
        go_ret
        exact ⟨by rw [HR.out]; rfl, HBEL.out.trans HB3.out⟩
      · go_wp2_with (go_at_call 37; (with_reducible refine (HC.out _ ?hb).mono ?_); (case hb => exact HBEL.out.alloc _); rintro e w3 ⟨rfl, hb⟩; have HB3 : Hid (Bel wr w3) := Lib.hid ((Bel.alloc1 _ _).trans hb); clear hb)
        go_roundw
        case rel => exact ⟨t + 1, by go_num, by omega, HBEL.out.trans HB3.out, by rw [HTK.out, HALL.out]; rfl⟩
        case measure => simp [intOf]; omega
    · obtain rfl : t = n := by omega
      have hx : gs.take t = gs := List.take_of_length_le (by have := HN.out; omega)
      rw [hx] at HALL
      clear hx hbel hall
      go_wp2
      go_ret
      exact ⟨by rw [HALL.out]; rfl, HBEL.out⟩
set_option maxHeartbeats 8000000 in
set_option maxRecDepth 100000 in
theorem geoEmpty_ind : ∀ (n : Nat) (g : Gm), g.size ≤ n → GeoEmpty g := by
  intro n
  induction n with
  | zero => exact fun g h => absurd h (by have := g.size_pos; omega)
  | succ n ih =>
    intro g hsz F cs w h
    obtain ⟨s, b, cl, rfl, hs6, hlt, hFb, hc, ho⟩ := h.gi
    clear h
    have h7 : s = 0 ∨ s = 1 ∨ s = 2 ∨ s = 3 ∨ s = 4 ∨ s = 5 ∨ s = 6 := by omega
    have HO : Hid (∀ W, Bel w W → Ob F W s cl g) := Lib.hid fun W hW => ho.bel hW
    have HIH : Hid (∀ k ∈ g.kids, GeoEmpty k) := Lib.hid fun k hk => ih k (by
      have := g.size_eq
      have := Gm.size_mem hk
      omega)
    clear ih hsz
    rcases h7 with rfl | rfl | rfl | rfl | rfl | rfl | rfl
    · obtain ⟨p, cap, c, gs, hcs, -⟩ := ho.sl (e := 7) (k := 2) rfl
      subst hcs
      clear ho
      show Calls Tryz.prog 37 #[.agg #[.int .i64 0, .iface 105 (.pointer (some ⟨b, 0, none⟩))]] w _
      have HM : Hid (∀ W, Bel w W → Calls Tryz.prog 40 #[.agg #[.int .i64 0, .iface 105 (.pointer (some ⟨b, 0, none⟩))]] W fun e w' => e = .returned (.agg #[.slice p gs.length cap, .int .u8 c]) ∧ Bel W w') := Lib.hid fun W hW => mustAs_0 _ _ _ _ b W (cell_kept hW (hc 0 _ rfl)) (cell_kept hW (hc 1 _ rfl))
      have HC : Hid (∀ W, Bel w W → Calls Tryz.prog 60 #[.agg #[.slice p gs.length cap, .int .u8 c]] W fun e w' => e = .returned (.bool (emptyOf g)) ∧ Bel W w') := Lib.hid fun W hW => collEmpty_any W (HO.out W hW) HIH.out
      clear hc HO HIH
      generalize gs.length = n at *
      go_enter Tryz.func37, Tryz.ntmps37
      go_wp2_with (first
        | (go_at_call 40; (with_reducible refine (HM.out _ ?hb).mono ?_); (case hb => (repeat (first | with_reducible assumption | with_reducible exact Bel.refl _ | with_reducible apply Bel.alloc | with_reducible apply Bel.drew | with_reducible apply Bel.drewN | ((with_reducible apply Bel.setCellR); (simp <;> omega)) | with_reducible refine Bel.behind (by with_reducible assumption) ?_))); rintro e w1 ⟨rfl, hb1⟩; have HB1 : Hid (Bel w w1) := Lib.hid ((show Bel w _ by (repeat (first | with_reducible assumption | with_reducible exact Bel.refl _ | with_reducible apply Bel.alloc | with_reducible apply Bel.drew | with_reducible apply Bel.drewN | ((with_reducible apply Bel.setCellR); (simp <;> omega)) | with_reducible refine Bel.behind (by with_reducible assumption) ?_))).trans hb1); clear hb1)
        | (go_at_call 60; (with_reducible refine (HC.out _ HB1.out).mono ?_); rintro e w2 ⟨rfl, hb2⟩; have HB2 : Hid (Bel w w2) := Lib.hid (HB1.out.trans hb2); clear hb2))
      go_ret
      exact ⟨rfl, HB2.out⟩
    · obtain ⟨x, y, z, m, c, full, hcs, -⟩ := ho.pt
      subst hcs
      clear ho
      show Calls Tryz.prog 37 #[.agg #[.int .i64 1, .iface 87 (.pointer (some ⟨b, 0, none⟩))]] w _
      have HM : Hid (∀ W, Bel w W → Calls Tryz.prog 61 #[.agg #[.int .i64 1, .iface 87 (.pointer (some ⟨b, 0, none⟩))]] W fun e w' => e = .returned (.agg #[.float .f64 x, .float .f64 y, .float .f64 z, .float .f64 m, .int .u8 c, .bool full]) ∧ Bel W w') := Lib.hid fun W hW => mustAs_1 _ _ _ _ _ _ b W (cell_kept hW (hc 0 _ rfl)) (cell_kept hW (hc 1 _ rfl)) (cell_kept hW (hc 2 _ rfl)) (cell_kept hW (hc 3 _ rfl)) (cell_kept hW (hc 4 _ rfl)) (cell_kept hW (hc 5 _ rfl))
      have HC : Hid (∀ W, Bel w W → Calls Tryz.prog 62 #[.agg #[.float .f64 x, .float .f64 y, .float .f64 z, .float .f64 m, .int .u8 c, .bool full]] W fun e w' => e = .returned (.bool (emptyOf g)) ∧ Bel W w') := Lib.hid fun W hW => pointOb_empty (HO.out W hW) W
      clear hc HO HIH
      go_enter Tryz.func37, Tryz.ntmps37
      go_wp2_with (first
        | (go_at_call 61; (with_reducible refine (HM.out _ ?hb).mono ?_); (case hb => (repeat (first | with_reducible assumption | with_reducible exact Bel.refl _ | with_reducible apply Bel.alloc | with_reducible apply Bel.drew | with_reducible apply Bel.drewN | ((with_reducible apply Bel.setCellR); (simp <;> omega)) | with_reducible refine Bel.behind (by with_reducible assumption) ?_))); rintro e w1 ⟨rfl, hb1⟩; have HB1 : Hid (Bel w w1) := Lib.hid ((show Bel w _ by (repeat (first | with_reducible assumption | with_reducible exact Bel.refl _ | with_reducible apply Bel.alloc | with_reducible apply Bel.drew | with_reducible apply Bel.drewN | ((with_reducible apply Bel.setCellR); (simp <;> omega)) | with_reducible refine Bel.behind (by with_reducible assumption) ?_))).trans hb1); clear hb1)
        | (go_at_call 62; (with_reducible refine (HC.out _ HB1.out).mono ?_); rintro e w2 ⟨rfl, hb2⟩; have HB2 : Hid (Bel w w2) := Lib.hid (HB1.out.trans hb2); clear hb2))
      go_ret
      exact ⟨rfl, HB2.out⟩
    · obtain ⟨c, p, n, cap, xs, hcs, -⟩ := ho.ln
      subst hcs
      clear ho
      show Calls Tryz.prog 37 #[.agg #[.int .i64 2, .iface 89 (.pointer (some ⟨b, 0, none⟩))]] w _
      have HM : Hid (∀ W, Bel w W → Calls Tryz.prog 63 #[.agg #[.int .i64 2, .iface 89 (.pointer (some ⟨b, 0, none⟩))]] W fun e w' => e = .returned (.agg #[.int .u8 c, .slice p n cap]) ∧ Bel W w') := Lib.hid fun W hW => mustAs_2 _ _ _ _ b W (cell_kept hW (hc 0 _ rfl)) (cell_kept hW (hc 1 _ rfl))
      have HC : Hid (∀ W, Bel w W → Calls Tryz.prog 64 #[.agg #[.int .u8 c, .slice p n cap]] W fun e w' => e = .returned (.bool (emptyOf g)) ∧ Bel W w') := Lib.hid fun W hW => lineEmpty_any (HO.out W hW) W
      clear hc HO HIH
      go_enter Tryz.func37, Tryz.ntmps37
      go_wp2_with (first
        | (go_at_call 63; (with_reducible refine (HM.out _ ?hb).mono ?_); (case hb => (repeat (first | with_reducible assumption | with_reducible exact Bel.refl _ | with_reducible apply Bel.alloc | with_reducible apply Bel.drew | with_reducible apply Bel.drewN | ((with_reducible apply Bel.setCellR); (simp <;> omega)) | with_reducible refine Bel.behind (by with_reducible assumption) ?_))); rintro e w1 ⟨rfl, hb1⟩; have HB1 : Hid (Bel w w1) := Lib.hid ((show Bel w _ by (repeat (first | with_reducible assumption | with_reducible exact Bel.refl _ | with_reducible apply Bel.alloc | with_reducible apply Bel.drew | with_reducible apply Bel.drewN | ((with_reducible apply Bel.setCellR); (simp <;> omega)) | with_reducible refine Bel.behind (by with_reducible assumption) ?_))).trans hb1); clear hb1)
        | (go_at_call 64; (with_reducible refine (HC.out _ HB1.out).mono ?_); rintro e w2 ⟨rfl, hb2⟩; have HB2 : Hid (Bel w w2) := Lib.hid (HB1.out.trans hb2); clear hb2))
      go_ret
      exact ⟨rfl, HB2.out⟩
    · obtain ⟨p, cap, c, gs, hcs, -⟩ := ho.sl (e := 2) (k := 2) rfl
      subst hcs
      clear ho
      show Calls Tryz.prog 37 #[.agg #[.int .i64 3, .iface 92 (.pointer (some ⟨b, 0, none⟩))]] w _
      have HM : Hid (∀ W, Bel w W → Calls Tryz.prog 65 #[.agg #[.int .i64 3, .iface 92 (.pointer (some ⟨b, 0, none⟩))]] W fun e w' => e = .returned (.agg #[.slice p gs.length cap, .int .u8 c]) ∧ Bel W w') := Lib.hid fun W hW => mustAs_3 _ _ _ _ b W (cell_kept hW (hc 0 _ rfl)) (cell_kept hW (hc 1 _ rfl))
      have HC : Hid (∀ W, Bel w W → Calls Tryz.prog 66 #[.agg #[.slice p gs.length cap, .int .u8 c]] W fun e w' => e = .returned (.bool (emptyOf g)) ∧ Bel W w') := Lib.hid fun W hW => polygonEmpty_any (HO.out W hW) W
      clear hc HO HIH
      generalize gs.length = n at *
      go_enter Tryz.func37, Tryz.ntmps37
      go_wp2_with (first
        | (go_at_call 65; (with_reducible refine (HM.out _ ?hb).mono ?_); (case hb => (repeat (first | with_reducible assumption | with_reducible exact Bel.refl _ | with_reducible apply Bel.alloc | with_reducible apply Bel.drew | with_reducible apply Bel.drewN | ((with_reducible apply Bel.setCellR); (simp <;> omega)) | with_reducible refine Bel.behind (by with_reducible assumption) ?_))); rintro e w1 ⟨rfl, hb1⟩; have HB1 : Hid (Bel w w1) := Lib.hid ((show Bel w _ by (repeat (first | with_reducible assumption | with_reducible exact Bel.refl _ | with_reducible apply Bel.alloc | with_reducible apply Bel.drew | with_reducible apply Bel.drewN | ((with_reducible apply Bel.setCellR); (simp <;> omega)) | with_reducible refine Bel.behind (by with_reducible assumption) ?_))).trans hb1); clear hb1)
        | (go_at_call 66; (with_reducible refine (HC.out _ HB1.out).mono ?_); rintro e w2 ⟨rfl, hb2⟩; have HB2 : Hid (Bel w w2) := Lib.hid (HB1.out.trans hb2); clear hb2))
      go_ret
      exact ⟨rfl, HB2.out⟩
    · obtain ⟨p, cap, c, gs, hcs, -⟩ := ho.sl (e := 1) (k := 6) rfl
      subst hcs
      clear ho
      show Calls Tryz.prog 37 #[.agg #[.int .i64 4, .iface 95 (.pointer (some ⟨b, 0, none⟩))]] w _
      have HM : Hid (∀ W, Bel w W → Calls Tryz.prog 67 #[.agg #[.int .i64 4, .iface 95 (.pointer (some ⟨b, 0, none⟩))]] W fun e w' => e = .returned (.agg #[.slice p gs.length cap, .int .u8 c]) ∧ Bel W w') := Lib.hid fun W hW => mustAs_4 _ _ _ _ b W (cell_kept hW (hc 0 _ rfl)) (cell_kept hW (hc 1 _ rfl))
      have HC : Hid (∀ W, Bel w W → Calls Tryz.prog 68 #[.agg #[.slice p gs.length cap, .int .u8 c]] W fun e w' => e = .returned (.bool (emptyOf g)) ∧ Bel W w') := Lib.hid fun W hW => multiPointEmpty_any W (HO.out W hW)
      clear hc HO HIH
      generalize gs.length = n at *
      go_enter Tryz.func37, Tryz.ntmps37
      go_wp2_with (first
        | (go_at_call 67; (with_reducible refine (HM.out _ ?hb).mono ?_); (case hb => (repeat (first | with_reducible assumption | with_reducible exact Bel.refl _ | with_reducible apply Bel.alloc | with_reducible apply Bel.drew | with_reducible apply Bel.drewN | ((with_reducible apply Bel.setCellR); (simp <;> omega)) | with_reducible refine Bel.behind (by with_reducible assumption) ?_))); rintro e w1 ⟨rfl, hb1⟩; have HB1 : Hid (Bel w w1) := Lib.hid ((show Bel w _ by (repeat (first | with_reducible assumption | with_reducible exact Bel.refl _ | with_reducible apply Bel.alloc | with_reducible apply Bel.drew | with_reducible apply Bel.drewN | ((with_reducible apply Bel.setCellR); (simp <;> omega)) | with_reducible refine Bel.behind (by with_reducible assumption) ?_))).trans hb1); clear hb1)
        | (go_at_call 68; (with_reducible refine (HC.out _ HB1.out).mono ?_); rintro e w2 ⟨rfl, hb2⟩; have HB2 : Hid (Bel w w2) := Lib.hid (HB1.out.trans hb2); clear hb2))
      go_ret
      exact ⟨rfl, HB2.out⟩
    · obtain ⟨p, cap, c, gs, hcs, -⟩ := ho.sl (e := 2) (k := 2) rfl
      subst hcs
      clear ho
      show Calls Tryz.prog 37 #[.agg #[.int .i64 5, .iface 98 (.pointer (some ⟨b, 0, none⟩))]] w _
      have HM : Hid (∀ W, Bel w W → Calls Tryz.prog 69 #[.agg #[.int .i64 5, .iface 98 (.pointer (some ⟨b, 0, none⟩))]] W fun e w' => e = .returned (.agg #[.slice p gs.length cap, .int .u8 c]) ∧ Bel W w') := Lib.hid fun W hW => mustAs_5 _ _ _ _ b W (cell_kept hW (hc 0 _ rfl)) (cell_kept hW (hc 1 _ rfl))
      have HC : Hid (∀ W, Bel w W → Calls Tryz.prog 70 #[.agg #[.slice p gs.length cap, .int .u8 c]] W fun e w' => e = .returned (.bool (emptyOf g)) ∧ Bel W w') := Lib.hid fun W hW => multiLineEmpty_any W (HO.out W hW)
      clear hc HO HIH
      generalize gs.length = n at *
      go_enter Tryz.func37, Tryz.ntmps37
      go_wp2_with (first
        | (go_at_call 69; (with_reducible refine (HM.out _ ?hb).mono ?_); (case hb => (repeat (first | with_reducible assumption | with_reducible exact Bel.refl _ | with_reducible apply Bel.alloc | with_reducible apply Bel.drew | with_reducible apply Bel.drewN | ((with_reducible apply Bel.setCellR); (simp <;> omega)) | with_reducible refine Bel.behind (by with_reducible assumption) ?_))); rintro e w1 ⟨rfl, hb1⟩; have HB1 : Hid (Bel w w1) := Lib.hid ((show Bel w _ by (repeat (first | with_reducible assumption | with_reducible exact Bel.refl _ | with_reducible apply Bel.alloc | with_reducible apply Bel.drew | with_reducible apply Bel.drewN | ((with_reducible apply Bel.setCellR); (simp <;> omega)) | with_reducible refine Bel.behind (by with_reducible assumption) ?_))).trans hb1); clear hb1)
        | (go_at_call 70; (with_reducible refine (HC.out _ HB1.out).mono ?_); rintro e w2 ⟨rfl, hb2⟩; have HB2 : Hid (Bel w w2) := Lib.hid (HB1.out.trans hb2); clear hb2))
      go_ret
      exact ⟨rfl, HB2.out⟩
    · obtain ⟨p, cap, c, gs, hcs, -⟩ := ho.sl (e := 3) (k := 2) rfl
      subst hcs
      clear ho
      show Calls Tryz.prog 37 #[.agg #[.int .i64 6, .iface 101 (.pointer (some ⟨b, 0, none⟩))]] w _
      have HM : Hid (∀ W, Bel w W → Calls Tryz.prog 71 #[.agg #[.int .i64 6, .iface 101 (.pointer (some ⟨b, 0, none⟩))]] W fun e w' => e = .returned (.agg #[.slice p gs.length cap, .int .u8 c]) ∧ Bel W w') := Lib.hid fun W hW => mustAs_6 _ _ _ _ b W (cell_kept hW (hc 0 _ rfl)) (cell_kept hW (hc 1 _ rfl))
      have HC : Hid (∀ W, Bel w W → Calls Tryz.prog 72 #[.agg #[.slice p gs.length cap, .int .u8 c]] W fun e w' => e = .returned (.bool (emptyOf g)) ∧ Bel W w') := Lib.hid fun W hW => multiPolygonEmpty_any W (HO.out W hW)
      clear hc HO HIH
      generalize gs.length = n at *
      go_enter Tryz.func37, Tryz.ntmps37
      go_wp2_with (first
        | (go_at_call 71; (with_reducible refine (HM.out _ ?hb).mono ?_); (case hb => (repeat (first | with_reducible assumption | with_reducible exact Bel.refl _ | with_reducible apply Bel.alloc | with_reducible apply Bel.drew | with_reducible apply Bel.drewN | ((with_reducible apply Bel.setCellR); (simp <;> omega)) | with_reducible refine Bel.behind (by with_reducible assumption) ?_))); rintro e w1 ⟨rfl, hb1⟩; have HB1 : Hid (Bel w w1) := Lib.hid ((show Bel w _ by (repeat (first | with_reducible assumption | with_reducible exact Bel.refl _ | with_reducible apply Bel.alloc | with_reducible apply Bel.drew | with_reducible apply Bel.drewN | ((with_reducible apply Bel.setCellR); (simp <;> omega)) | with_reducible refine Bel.behind (by with_reducible assumption) ?_))).trans hb1); clear hb1)
        | (go_at_call 72; (with_reducible refine (HC.out _ HB1.out).mono ?_); rintro e w2 ⟨rfl, hb2⟩; have HB2 : Hid (Bel w w2) := Lib.hid (HB1.out.trans hb2); clear hb2))
      go_ret
      exact ⟨rfl, HB2.out⟩
theorem geoEmpty_any (g : Gm) : GeoEmpty g := geoEmpty_ind g.size g (Nat.le_refl _)
end Go.Proofs.YtpipehenfcbjbaaGreat
