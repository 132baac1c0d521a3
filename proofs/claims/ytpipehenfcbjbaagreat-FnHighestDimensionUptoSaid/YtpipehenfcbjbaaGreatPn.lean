/-
  NewPolygon, NewMultiLineString, NewMultiPolygon, of one part or more. No panic; what stood in memory has not turned.
-/
import Derived.Test.YtpipehenfcbjbaaGreatPf
set_option linter.unusedVariables false
namespace Go.Proofs.YtpipehenfcbjbaaGreat
open Go.ChangeShapes Go.WideShapes Go.ChangeAt Go.RowKit
theorem u8_land (a b : Nat) (ha : a ≤ 3) (hb : b ≤ 3) : bits .and .u8 (a : Int) (b : Int) = ((a &&& b : Nat) : Int) := by
  have h1 : a = 0 ∨ a = 1 ∨ a = 2 ∨ a = 3 := by omega
  have h2 : b = 0 ∨ b = 1 ∨ b = 2 ∨ b = 3 := by omega
  rcases h1 with rfl | rfl | rfl | rfl <;> rcases h2 with rfl | rfl | rfl | rfl <;> decide
theorem land_le (a b : Nat) (ha : a ≤ 3) : a &&& b ≤ 3 := Nat.le_trans Nat.and_le_left ha
theorem common_le : ∀ (gs : List Gm) (a : Nat), a ≤ 3 → gs.foldl (fun a g => a &&& g.dim.toNat) a ≤ 3
  | [], a, h => h
  | g :: r, a, h => common_le r _ (land_le a _ h)
theorem common_take {gs : List Gm} {t : Nat} {g : Gm} (h : gs[t]? = some g) : common (gs.take (t + 1)) = common (gs.take t) &&& g.dim.toNat := by
  unfold common
  rw [List.take_add_one, h]
  simp
theorem Ob.one {F : Nat → Prop} {w : World} {s : Nat} {cs : List Value} {g : Gm} (h : Ob F w s cs g) : ∀ u ∈ cs, u.oneCell' = true := by
  cases h with
  | point x y z m c full hc => intro u hu; simp at hu; rcases hu with rfl | rfl | rfl | rfl | rfl | rfl <;> rfl
  | line c p n cap xs hc h hw hb => intro u hu; simp at hu; rcases hu with rfl | rfl <;> rfl
  | parts s e k c p cap gs cs he hc hl hcap hb h0 hkk h1 => intro u hu; simp at hu; rcases hu with rfl | rfl <;> rfl
  | geo s b cs g hs' hb hF hc h => intro u hu; simp at hu; rcases hu with rfl | rfl <;> rfl
/-- The cells of a row, one behind another. -/
theorem RowOb.flat {F : Nat → Prop} {w : World} {arr : Nat → Option Value} {e k : Nat} : ∀ {gs : List Gm}, RowOb F w arr e k gs → ∃ news : List Value, news.length = gs.length * k ∧ (∀ (j : Nat) (u : Value), news[j]? = some u → arr j = some u) ∧ RowOb F w (fun o => news[o]?) e k gs ∧ ∀ u ∈ news, u.oneCell' = true := by
  intro gs h
  have key : ∀ t, t ≤ gs.length → ∃ news : List Value, news.length = t * k ∧ (∀ (j : Nat) (u : Value), news[j]? = some u → arr j = some u) ∧ RowOb F w (fun o => news[o]?) e k (gs.take t) ∧ ∀ u ∈ news, u.oneCell' = true := by
    intro t
    induction t with
    | zero => exact fun _ => ⟨[], by simp, fun j u hu => by simp at hu, fun i g hg => by simp at hg, fun u hu => by simp at hu⟩
    | succ t ih =>
      intro ht
      obtain ⟨news, h1, h2, h3, h4⟩ := ih (by omega)
      obtain ⟨g, hg⟩ : ∃ g, gs[t]? = some g := ⟨_, List.getElem?_eq_getElem (by omega)⟩
      obtain ⟨cl, a1, a2, a3⟩ := h t g hg
      refine ⟨news ++ cl, by rw [List.length_append, h1, a1, Nat.add_mul, Nat.one_mul], fun j u hu => ?_, ?_, fun u hu => ?_⟩
      · rcases Nat.lt_or_ge j news.length with q | q
        · rw [List.getElem?_append_left q] at hu
          exact h2 j u hu
        · rw [List.getElem?_append_right q] at hu
          have := a2 _ u hu
          rw [h1] at this q
          rw [show t * k + (j - t * k) = j by omega] at this
          exact this
      · have e1 : gs.take (t + 1) = gs.take t ++ [g] := by
          rw [List.take_add_one, hg]
          rfl
        rw [e1]
        refine RowOb.push (t := t) (cl := cl) h3 (by rw [List.length_take]; omega) (fun o u ho hu => ?_) a1 (fun j u hu => ?_) a3
        · show (news ++ cl)[o]? = some u
          rw [List.getElem?_append_left (by omega)]
          exact hu
        · show (news ++ cl)[t * k + j]? = some u
          rw [List.getElem?_append_right (by omega), h1, Nat.add_sub_cancel_left]
          exact hu
      · rcases List.mem_append.1 hu with q | q
        · exact h4 u q
        · exact a3.one u q
  obtain ⟨news, h1, h2, h3, h4⟩ := key gs.length (Nat.le_refl _)
  rw [List.take_length] at h3
  exact ⟨news, h1, h2, h3, h4⟩
/-- One object of a row, put in another's place. -/
theorem RowOb.put {F : Nat → Prop} {w : World} {arr arr' : Nat → Option Value} {e k t : Nat} {hs hs' : List Gm} {g : Gm} {cl : List Value} (h : RowOb F w arr e k hs) (hh : ∀ i g', hs'[i]? = some g' → (i = t ∧ g' = g) ∨ (i ≠ t ∧ hs[i]? = some g')) (h1 : ∀ o u, (o < t * k ∨ t * k + k ≤ o) → arr o = some u → arr' o = some u) (hk : cl.length = k) (h2 : ∀ (j : Nat) (u : Value), cl[j]? = some u → arr' (t * k + j) = some u) (ho : Ob F w e cl g) : RowOb F w arr' e k hs' := fun i g' hg => by
  rcases hh i g' hg with ⟨rfl, rfl⟩ | ⟨hne, hg'⟩
  · exact ⟨cl, hk, h2, ho⟩
  · obtain ⟨cl', a1, a2, a3⟩ := h i g' hg'
    refine ⟨cl', a1, fun j u hu => h1 _ _ ?_ (a2 j u hu), a3⟩
    have hj := (List.getElem?_eq_some_iff.1 hu).1
    rcases Nat.lt_or_gt_of_ne hne with q | q
    · left
      have : (i + 1) * k ≤ t * k := Nat.mul_le_mul_right _ (by omega)
      rw [Nat.add_mul] at this
      omega
    · right
      have : (t + 1) * k ≤ i * k := Nat.mul_le_mul_right _ (by omega)
      rw [Nat.add_mul] at this
      omega
def mixed (f : Gm → Gm) (gs : List Gm) (t : Nat) : List Gm := (gs.take t).map f ++ gs.drop t
theorem mixed_at {f : Gm → Gm} {gs : List Gm} {t : Nat} {g : Gm} (h : gs[t]? = some g) : (mixed f gs t)[t]? = some g := by
  have hlt := (List.getElem?_eq_some_iff.1 h).1
  unfold mixed
  rw [List.getElem?_append_right (by simp; omega), List.length_map, List.length_take, Nat.min_eq_left (by omega), Nat.sub_self, List.getElem?_drop]
  simpa using h
theorem mixed_put {f : Gm → Gm} {gs : List Gm} {t : Nat} {g : Gm} (h : gs[t]? = some g) : ∀ i g', (mixed f gs (t + 1))[i]? = some g' → (i = t ∧ g' = f g) ∨ (i ≠ t ∧ (mixed f gs t)[i]? = some g') := by
  have hlt := (List.getElem?_eq_some_iff.1 h).1
  intro i g' hg
  unfold mixed at *
  rcases Nat.lt_or_ge i (t + 1) with q | q
  · rw [List.getElem?_append_left (by simp; omega)] at hg
    by_cases e : i = t
    · subst e
      left
      rw [List.getElem?_map, List.getElem?_take, if_pos (by omega), h] at hg
      exact ⟨rfl, (Option.some.inj hg).symm⟩
    · right
      refine ⟨e, ?_⟩
      rw [List.getElem?_append_left (by simp; omega)]
      rw [List.getElem?_map, List.getElem?_take, if_pos (by omega)] at hg
      rw [List.getElem?_map, List.getElem?_take, if_pos (by omega)]
      exact hg
  · right
    refine ⟨by omega, ?_⟩
    rw [List.getElem?_append_right (by simp; omega)] at hg
    rw [List.getElem?_append_right (by simp; omega)]
    rw [List.length_map, List.length_take, Nat.min_eq_left (by omega), List.getElem?_drop] at hg ⊢
    rw [← hg]
    congr 1
    omega
theorem polygonType_any (c : Int) (p : Option Addr) (n cap : Nat) (w : World) : Calls Tryz.prog 82 #[.agg #[.slice p n cap, .int .u8 c]] w fun e w' => e = .returned (.int .u8 c) ∧ Bel w w' := by
  go_enter Tryz.func82, Tryz.ntmps82
  go_wp2
  go_ret
  exact ⟨rfl, by (repeat (first | with_reducible assumption | with_reducible exact Bel.refl _ | with_reducible apply Bel.alloc | with_reducible apply Bel.drew | with_reducible apply Bel.drewN | ((with_reducible apply Bel.setCellR); (simp <;> omega)) | with_reducible refine Bel.behind (by with_reducible assumption) ?_))⟩
theorem lineOb_type {F : Nat → Prop} {cs : List Value} {g : Gm} {w0 : World} (h : Ob F w0 2 cs g) (w : World) : Calls Tryz.prog 79 #[.agg cs.toArray] w fun e w' => e = .returned (.int .u8 g.dim.toNat) ∧ Bel w w' := by
  obtain ⟨c, p, n, cap, xs, rfl, hc, rfl, _⟩ := h.ln
  exact lineType_any c p n cap w
theorem polygonOb_type {F : Nat → Prop} {cs : List Value} {g : Gm} {w0 : World} (h : Ob F w0 3 cs g) (w : World) : Calls Tryz.prog 82 #[.agg cs.toArray] w fun e w' => e = .returned (.int .u8 g.dim.toNat) ∧ Bel w w' := by
  obtain ⟨p, cap, c, gs, rfl, hc, rfl, _⟩ := h.sl (e := 2) (k := 2) rfl
  exact polygonType_any c p _ cap w
set_option maxHeartbeats 4000000 in
set_option maxRecDepth 100000 in
theorem newPolygon_any (F : Nat → Prop) (p : Option Addr) (n cap : Nat) (gs : List Gm) (w : World) (hF : New F w) (hsl : ObSl F w 2 2 (.slice p n cap) gs) (hpos : 0 < n) (hn31 : n ≤ 1048576) : Calls Tryz.prog 50 #[.slice p n cap] w (IsOb F w 3 (.mk 3 (common gs) [] (gs.map (force (common gs))))) := by
  have HSL := Lib.hid hsl
  obtain ⟨_, _, hve, hl1, hl2, hq⟩ := hsl
  cases hve
  have hgn : gs ≠ [] := by intro e; rw [e] at hpos; simp at hpos
  obtain ⟨b, off, rfl, hlt, hFb, hr⟩ := hq hgn
  have HR := Lib.hid hr
  have HFB := Lib.hid hFb
  clear hq hr hFb hgn
  generalize hn : gs.length = n at *
  have HN := Lib.hid hn
  clear hn
  have hn0 : ((n : Int) == 0) = false := by simp; omega
  obtain ⟨i0, hi, hz0, hz1, hz2⟩ := info_parts infoLn
  go_enter Tryz.func50, Tryz.ntmps50
  go_wp2
  go_loopw [3, 12] (fun cv iv wr => ∃ (t : Nat), cv = .int .u8 (common (gs.take t) : Nat) ∧ iv = .int .i64 t ∧ t ≤ n ∧ Bel w wr ∧ Blk wr w.heap.size #[.slice none 0 0, .int .u8 0] 57) (fun _ iv _ => n - (intOf iv).toNat)
  case atStart => exact ⟨0, rfl, rfl, Nat.zero_le _, by (repeat (first | with_reducible assumption | with_reducible exact Bel.refl _ | with_reducible apply Bel.alloc | with_reducible apply Bel.drew | with_reducible apply Bel.drewN | ((with_reducible apply Bel.setCellR); (simp <;> omega)) | with_reducible refine Bel.behind (by with_reducible assumption) ?_)), by (repeat (first | with_reducible assumption | with_reducible exact Blk.new _ _ _ | ((with_reducible refine Blk.new' _ _ _ ?_); (focus ((simp; done)))) | with_reducible apply Blk.drew | with_reducible apply Blk.drewN | with_reducible refine Blk.alloc ?_ _ | with_reducible apply Blk.same | (with_reducible refine Blk.bel ?_ (by with_reducible assumption)) | ((with_reducible refine Blk.otherR ?_ ?_); (focus ((simp <;> omega); done)))))⟩
  case round =>
    obtain ⟨t, rfl, rfl, ht, hbel, hb1⟩ := hrel
    have HBEL := Lib.hid hbel
    have HG1 := Lib.hid hb1
    clear hb1
    by_cases htn : t < n
    · obtain ⟨g, hg⟩ : ∃ g, gs[t]? = some g := ⟨_, List.getElem?_eq_getElem (by have := HN.out; omega)⟩
      obtain ⟨cl, hcl, hcell, hob⟩ := HR.out t g hg
      have HC := Lib.hid (lineOb_type hob)
      obtain ⟨cg, hcg, hdim⟩ := hob.dim
      obtain ⟨d0, p0, n0, q0, xs0, hcs0, -⟩ := hob.ln; cases hcs0
      have D0 := cell_kept hbel (hcell 0 (.int .u8 d0) rfl)
      have D1 := cell_kept hbel (hcell 1 (.slice p0 n0 q0) rfl)
      simp only [Nat.add_zero] at D0
      have E1 := D1
      rw [← Nat.add_assoc] at E1
      have hbl : b < wr.heap.size := Nat.lt_of_lt_of_le hlt hbel.size
      have hct := common_take hg
      have hdn : g.dim.toNat = cg := by rw [hdim]; simp
      rw [hdn] at hct HC
      have hland := u8_land (common (gs.take t)) cg (common_le _ 3 (Nat.le_refl _)) hcg
      rw [← hct] at hland
      clear hcl hcell hob hbel hg hdim hct hdn
      generalize common (gs.take t) = ca at *
      generalize hcb : common (gs.take (t + 1)) = cb at *
      have HCB := Lib.hid hcb
      clear hcb
      go_wp2_with (go_at_call 79; (with_reducible refine (HC.out _).mono ?_); rintro e w3 ⟨rfl, hb⟩; have C1 := HG1.out.bel ((Bel.alloc1 _ _).trans hb); have HC1 := Lib.hid C1; have HB3 : Hid (Bel wr w3) := Lib.hid ((Bel.alloc1 _ _).trans hb); clear hb C1)
      go_roundw
      case rel => exact ⟨t + 1, by rw [HCB.out], by go_num, by omega, HBEL.out.trans HB3.out, HC1.out⟩
      case measure => simp [intOf]; omega
    · obtain rfl : t = n := by omega
      have hca : common (gs.take t) = common gs := by rw [List.take_of_length_le (by have := HN.out; omega)]
      rw [hca]
      have hcl3 := common_le gs 3 (Nat.le_refl _)
      have hcm : common gs ≤ 3 := hcl3
      clear hca hcl3
      generalize common gs = c' at *
      obtain ⟨w1, hw1⟩ : ∃ w1, w1 = wr := ⟨_, rfl⟩
      subst hw1
      obtain ⟨news, hnl, hnc, hnr, hn1⟩ := ((HR.out.keep (G := F) hbel.size (fun b _ hl => hbel.block b hl) fun _ _ h => h).cells (arr' := fun o => w1.cell? ⟨b, off + o, none⟩) fun o u ho => cell_kept hbel ho).flat
      have HNL : Hid (news.length = t * 2) := Lib.hid (by rw [hnl, HN.out])
      have HNC : Hid (∀ (j : Nat) (u : Value), news[j]? = some u → w1.cell? ((⟨b, off, none⟩ : Addr).add j) = some u) := Lib.hid fun j u hu => by rw [add_off]; exact hnc j u hu
      have HNR := Lib.hid hnr
      have HN1 := Lib.hid hn1
      have hbl : b < w1.heap.size := Nat.lt_of_lt_of_le hlt hbel.size
      clear hnl hnc hnr hn1
      have HSZ : Hid (w.heap.size + 1 ≤ w1.heap.size) := Lib.hid (HG1.out.lt)
      go_wp2_with (at_builtin; refine wpList_append_row _ rfl (.const (.slice none 0 0)) (.tmp 21) 55 rfl w1.heap.size 53 i0 _ 2 32 Tryz.underlying55 hi hz0 hz1 hz2 rfl (by decide) (.slice none 0 0) 0 [] rfl (World.ownsRow_nil _ _ _ _) ⟨b, off, none⟩ t cap news rfl HNL.out HNC.out HN1.out hpos (by unfold maxLen; omega) (by omega) (Nat.le_refl _) ?_; intro v' w2 ho2 hg2 hb2; have HO2 := Lib.hid ho2; have HB2 : Hid (Bel w1 w2) := Lib.hid (Bel.of_grown0 hg2); rcases ho2.2 with ⟨rfl, h0⟩ | ⟨g0, c0, arr0, rfl, hb0, hg0, hc0, hc1, hs0, htk⟩; (case inl => exact absurd h0 (by omega)); have HCE := Lib.hid (ho2.cells rfl); simp only [Nat.zero_add] at hc0 hc1; clear ho2 hg2 hb2 htk)
      simp only [Nat.zero_add, List.nil_append] at *
      have HG0 : Hid (Blk w2 g0 arr0 53) := Lib.hid hg0
      have HS0 := Lib.hid hs0
      have HGE := Lib.hid hb0
      have hrow0 : RowOb (fun b => (F b ∧ b < w.heap.size) ∨ g0 < b) w2 (fun o => arr0[o]?) 2 2 (mixed (force c') gs 0) := by
        have e0 : mixed (force c') gs 0 = gs := by simp [mixed]
        rw [e0]
        have h2 := (HR.out.keep (w' := w2) (G := fun b => (F b ∧ b < w.heap.size) ∨ g0 < b) (HBEL.out.trans HB2.out).size (fun b _ hl => (HBEL.out.trans HB2.out).block b hl) fun b hl hb => Or.inl ⟨hb, hl⟩)
        intro i g hg
        obtain ⟨cl, a1, a2, a3⟩ := HNR.out i g hg
        obtain ⟨cl', b1, b2, b3⟩ := h2 i g hg
        have ecl : cl = cl' := by
          apply List.ext_getElem?
          intro j
          rcases Nat.lt_or_ge j 2 with q | q
          · obtain ⟨u, hu⟩ : ∃ u, cl[j]? = some u := ⟨_, List.getElem?_eq_getElem (by omega)⟩
            obtain ⟨u', hu'⟩ : ∃ u, cl'[j]? = some u := ⟨_, List.getElem?_eq_getElem (by omega)⟩
            have q1 := HNC.out _ _ (a2 j u hu)
            rw [add_off] at q1
            have q2 := cell_kept HBEL.out (b2 j u' hu')
            rw [hu, hu']
            exact q1.symm.trans q2
          · rw [List.getElem?_eq_none (by omega), List.getElem?_eq_none (by omega)]
        refine ⟨cl, a1, fun j u hu => ?_, ecl ▸ b3⟩
        have q1 := HCE.out (i * 2 + j) u (a2 j u hu)
        rw [add_none] at q1
        exact (HG0.out.rules.1 _).symm.trans q1
      have HROW0 := Lib.hid hrow0
      have hb20 := (HG1.out.bel HB2.out)
      have HG20 := Lib.hid hb20
      have HB20 := Lib.hid (HBEL.out.trans HB2.out)
      clear hrow0 hb20 HNC HNL HN1 HNR hg0 hs0 hb0 HCE
      go_loopw [25] (fun iv wr => ∃ (j : Nat) (arr : Array Value), iv = .int .i64 j ∧ j ≤ t ∧ Bel w wr ∧ Blk wr w.heap.size #[.slice none 0 0, .int .u8 0] 57 ∧ Blk wr g0 arr 53 ∧ arr.size = c0 * 2 ∧ RowOb (fun b => (F b ∧ b < w.heap.size) ∨ g0 < b) wr (fun o => arr[o]?) 2 2 (mixed (force c') gs j)) (fun iv _ => t - (intOf iv).toNat)
      case atStart => exact ⟨0, arr0, rfl, Nat.zero_le _, HB20.out, HG20.out, HG0.out, HS0.out, HROW0.out⟩
      case round =>
        obtain ⟨j, arr, rfl, hj, hbel2, hz, hga, harr, hrow⟩ := hrel
        have HBEL2 := Lib.hid hbel2
        have HZ := Lib.hid hz
        have HGA := Lib.hid hga
        have HROW := Lib.hid hrow
        have l3 := hga.lt
        have z3 := hga.rules.2
        clear hrow
        by_cases hjt : j < t
        · obtain ⟨g, hg⟩ : ∃ g, gs[j]? = some g := ⟨_, List.getElem?_eq_getElem (by have := HN.out; omega)⟩
          obtain ⟨cl, hcl, hcell, hob⟩ := HROW.out j g (mixed_at hg)
          have HC : Hid (∀ W, Bel wr W → Calls Tryz.prog 78 #[.agg cl.toArray, .int .u8 c'] W (IsOb (fun b => (F b ∧ b < w.heap.size) ∨ g0 < b) W 2 (force c' g))) := Lib.hid fun W hW => lineForce_any _ cl g c' hcm W (fun b hb => Or.inr (by have := hW.size; omega)) (hob.bel hW)
          obtain ⟨d0, p0, n0, q0, xs0, hcs0, -⟩ := hob.ln; cases hcs0
          have D0 := (hga.rules.1 (j * 2)).trans (hcell 0 (.int .u8 d0) rfl)
          have D1 := (hga.rules.1 (j * 2 + 1)).trans (hcell 1 (.slice p0 n0 q0) rfl)
          have HG := Lib.hid hg
          clear hcl hcell hob hbel2 hg hz hga
          go_wp2_with (go_at_call 78; (with_reducible refine (HC.out _ (Bel.refl _)).mono ?_); rintro e w3 ⟨cs, rfl, ho, hb⟩; obtain ⟨d1, p1, n1, q1, xs1, hcs1, -⟩ := ho.ln; cases hcs1; have C1 := HZ.out.bel hb; have C3 := HGA.out.bel hb; have HB3 := Lib.hid hb; have HC1 := Lib.hid C1; have HC3 := Lib.hid C3; have HO := Lib.hid ho; have k0 := cell_kept hb D0; have k1 := cell_kept hb D1; have t3 := C3.rules.2; have m3 := C3.lt; clear hb C1 C3 ho)
          go_roundw
          case rel =>
            have hs1 := HBEL2.out.size
            have hs3 := HB3.out.size
            have hge := HGE.out
            have hsz := HSZ.out
            refine ⟨j + 1, (arr.setIfInBounds (j * 2) (.int .u8 d1)).setIfInBounds (j * 2 + 1) (.slice p1 n1 q1), by go_num, by omega, ?_, ?_, ?_, by simp [harr], ?_⟩
            · have HB := HBEL2.out.trans HB3.out
              (repeat (first | with_reducible assumption | with_reducible exact Bel.refl _ | with_reducible apply Bel.alloc | with_reducible apply Bel.drew | with_reducible apply Bel.drewN | ((with_reducible apply Bel.setCellR); (simp <;> omega)) | with_reducible refine Bel.behind (by with_reducible assumption) ?_))
            · have HB := HC1.out
              (repeat (first | with_reducible assumption | with_reducible exact Blk.new _ _ _ | ((with_reducible refine Blk.new' _ _ _ ?_); (focus ((simp; done)))) | with_reducible apply Blk.drew | with_reducible apply Blk.drewN | with_reducible refine Blk.alloc ?_ _ | with_reducible apply Blk.same | (with_reducible refine Blk.bel ?_ (by with_reducible assumption)) | ((with_reducible refine Blk.otherR ?_ ?_); (focus ((simp <;> omega); done)))))
            · exact (HC3.out.set _ _).set _ _
            · refine RowOb.put (t := j) (cl := [.int .u8 d1, .slice p1 n1 q1]) (HROW.out.keep (by simp; omega) (fun b hb hl => ?_) fun b _ hb => hb) (mixed_put HG.out) (fun o u ho hu => ?_) rfl (fun i u hu => ?_) (HO.out.keep (by simp) (fun b hb hl => ?_) fun b _ hb => hb)
              · rw [Below.heap_setCell _ _ _ _ (by simp; omega), Below.heap_setCell _ _ _ _ (by simp; omega)]
                exact HB3.out.block b hl
              · show (_ : Array Value)[o]? = some u
                rw [Array.getElem?_setIfInBounds_ne (by omega), Array.getElem?_setIfInBounds_ne (by omega)]
                exact hu
              · have hlt2 := (List.getElem?_eq_some_iff.1 hu).1
                simp at hlt2
                show (_ : Array Value)[j * 2 + i]? = some u
                match i, hlt2 with
                | 0, _ =>
                  simp at hu
                  subst hu
                  rw [Array.getElem?_setIfInBounds_ne (by omega)]
                  exact Array.getElem?_setIfInBounds_self_of_lt (by omega)
                | 1, _ =>
                  simp at hu
                  subst hu
                  exact Array.getElem?_setIfInBounds_self_of_lt (by (try simp only [Array.size_setIfInBounds]); omega)
              · rw [Below.heap_setCell _ _ _ _ (by simp; omega), Below.heap_setCell _ _ _ _ (by simp; omega)]
          case measure => simp [intOf]; omega
        · obtain rfl : j = t := by omega
          have hfin := HROW.out
          have em : mixed (force c') gs j = gs.map (force c') := by
            unfold mixed
            rw [List.take_of_length_le (by have := HN.out; omega), List.drop_of_length_le (by have := HN.out; omega), List.append_nil]
          rw [em] at hfin
          have hge := HGE.out
          have hsz := HSZ.out
          have HFIN : Hid (ObSl (fun b => F b ∧ b ≠ w.heap.size) wr 2 2 (.slice (some ⟨g0, 0, none⟩) j c0) (gs.map (force c'))) := Lib.hid ⟨_, c0, by rw [List.length_map, HN.out], by rw [List.length_map, HN.out]; exact hc0, by unfold maxLen at hc1; omega, fun _ => ⟨g0, 0, rfl, l3, ⟨hF _ (by omega), by omega⟩, (hfin.keep (Nat.le_refl _) (fun _ _ _ => rfl) fun b _ hb => by
            rcases hb with hb | hb
            · exact ⟨hb.1, by omega⟩
            · exact ⟨hF _ (by omega), by omega⟩).cells fun o u ho => by
              rw [Nat.zero_add]
              exact (HGA.out.rules.1 o).trans ho⟩⟩
          clear hfin em
          obtain ⟨s2, t2, m2⟩ := HZ.out.facts
          go_wp2
          refine post_ret (results_one rfl (resIs_agg (n := 2) (cs := #[.slice (some ⟨g0, 0, none⟩) j c0, .int .u8 c']) (by rfl) Tryz.underlying57 (by kernel_rfl) (T := 57) ?_ rfl)) ⟨_, rfl, ObSl.ob ?_ rfl hcm (by rw [List.length_map, HN.out]; exact hn31), ?_⟩
          · have HB := HZ.out
            (apply Blk.cast; (repeat (first | with_reducible assumption | with_reducible apply Blk.set | ((with_reducible apply Blk.otherR); (focus ((simp <;> omega); done))) | with_reducible exact Blk.new _ _ _ | ((with_reducible apply Blk.new'); (focus (simp; done))) | with_reducible apply Blk.alloc | with_reducible apply Blk.drew | with_reducible apply Blk.drewN | (with_reducible refine Blk.bel ?_ (by with_reducible assumption)))); rfl)
          · exact HFIN.out.keep (by simp) (fun b hb hl => by rw [Below.heap_setCell _ _ _ _ (fun e => hb.2 e), Below.heap_setCell _ _ _ _ (fun e => hb.2 e)]) fun b _ hb => hb.1
          · have HB := HBEL2.out
            (repeat (first | with_reducible assumption | with_reducible exact Bel.refl _ | with_reducible apply Bel.alloc | with_reducible apply Bel.drew | with_reducible apply Bel.drewN | ((with_reducible apply Bel.setCellR); (simp <;> omega)) | with_reducible refine Bel.behind (by with_reducible assumption) ?_))
set_option maxHeartbeats 4000000 in
set_option maxRecDepth 100000 in
theorem newMultiLine_any (F : Nat → Prop) (p : Option Addr) (n cap : Nat) (gs : List Gm) (w : World) (hF : New F w) (hsl : ObSl F w 2 2 (.slice p n cap) gs) (hpos : 0 < n) (hn31 : n ≤ 1048576) : Calls Tryz.prog 54 #[.slice p n cap] w (IsOb F w 5 (.mk 5 (common gs) [] (gs.map (force (common gs))))) := by
  have HSL := Lib.hid hsl
  obtain ⟨_, _, hve, hl1, hl2, hq⟩ := hsl
  cases hve
  have hgn : gs ≠ [] := by intro e; rw [e] at hpos; simp at hpos
  obtain ⟨b, off, rfl, hlt, hFb, hr⟩ := hq hgn
  have HR := Lib.hid hr
  have HFB := Lib.hid hFb
  clear hq hr hFb hgn
  generalize hn : gs.length = n at *
  have HN := Lib.hid hn
  clear hn
  have hn0 : ((n : Int) == 0) = false := by simp; omega
  obtain ⟨i0, hi, hz0, hz1, hz2⟩ := info_parts infoLn
  go_enter Tryz.func54, Tryz.ntmps54
  go_wp2
  go_loopw [3, 13] (fun cv iv wr => ∃ (t : Nat), cv = .int .u8 (common (gs.take t) : Nat) ∧ iv = .int .i64 t ∧ t ≤ n ∧ Bel w wr ∧ Blk wr w.heap.size #[.slice none 0 0, .int .u8 0] 64) (fun _ iv _ => n - (intOf iv).toNat)
  case atStart => exact ⟨0, rfl, rfl, Nat.zero_le _, by (repeat (first | with_reducible assumption | with_reducible exact Bel.refl _ | with_reducible apply Bel.alloc | with_reducible apply Bel.drew | with_reducible apply Bel.drewN | ((with_reducible apply Bel.setCellR); (simp <;> omega)) | with_reducible refine Bel.behind (by with_reducible assumption) ?_)), by (repeat (first | with_reducible assumption | with_reducible exact Blk.new _ _ _ | ((with_reducible refine Blk.new' _ _ _ ?_); (focus ((simp; done)))) | with_reducible apply Blk.drew | with_reducible apply Blk.drewN | with_reducible refine Blk.alloc ?_ _ | with_reducible apply Blk.same | (with_reducible refine Blk.bel ?_ (by with_reducible assumption)) | ((with_reducible refine Blk.otherR ?_ ?_); (focus ((simp <;> omega); done)))))⟩
  case round =>
    obtain ⟨t, rfl, rfl, ht, hbel, hb1⟩ := hrel
    have HBEL := Lib.hid hbel
    have HG1 := Lib.hid hb1
    clear hb1
    by_cases htn : t < n
    · obtain ⟨g, hg⟩ : ∃ g, gs[t]? = some g := ⟨_, List.getElem?_eq_getElem (by have := HN.out; omega)⟩
      obtain ⟨cl, hcl, hcell, hob⟩ := HR.out t g hg
      have HC := Lib.hid (lineOb_type hob)
      obtain ⟨cg, hcg, hdim⟩ := hob.dim
      obtain ⟨d0, p0, n0, q0, xs0, hcs0, -⟩ := hob.ln; cases hcs0
      have D0 := cell_kept hbel (hcell 0 (.int .u8 d0) rfl)
      have D1 := cell_kept hbel (hcell 1 (.slice p0 n0 q0) rfl)
      simp only [Nat.add_zero] at D0
      have E1 := D1
      rw [← Nat.add_assoc] at E1
      have hbl : b < wr.heap.size := Nat.lt_of_lt_of_le hlt hbel.size
      have hct := common_take hg
      have hdn : g.dim.toNat = cg := by rw [hdim]; simp
      rw [hdn] at hct HC
      have hland := u8_land (common (gs.take t)) cg (common_le _ 3 (Nat.le_refl _)) hcg
      rw [← hct] at hland
      clear hcl hcell hob hbel hg hdim hct hdn
      generalize common (gs.take t) = ca at *
      generalize hcb : common (gs.take (t + 1)) = cb at *
      have HCB := Lib.hid hcb
      clear hcb
      go_wp2_with (go_at_call 79; (with_reducible refine (HC.out _).mono ?_); rintro e w3 ⟨rfl, hb⟩; have C1 := HG1.out.bel ((Bel.alloc1 _ _).trans hb); have HC1 := Lib.hid C1; have HB3 : Hid (Bel wr w3) := Lib.hid ((Bel.alloc1 _ _).trans hb); clear hb C1)
      go_roundw
      case rel => exact ⟨t + 1, by rw [HCB.out], by go_num, by omega, HBEL.out.trans HB3.out, HC1.out⟩
      case measure => simp [intOf]; omega
    · obtain rfl : t = n := by omega
      have hca : common (gs.take t) = common gs := by rw [List.take_of_length_le (by have := HN.out; omega)]
      rw [hca]
      have hcl3 := common_le gs 3 (Nat.le_refl _)
      have hcm : common gs ≤ 3 := hcl3
      clear hca hcl3
      generalize common gs = c' at *
      obtain ⟨w1, hw1⟩ : ∃ w1, w1 = wr := ⟨_, rfl⟩
      subst hw1
      obtain ⟨news, hnl, hnc, hnr, hn1⟩ := ((HR.out.keep (G := F) hbel.size (fun b _ hl => hbel.block b hl) fun _ _ h => h).cells (arr' := fun o => w1.cell? ⟨b, off + o, none⟩) fun o u ho => cell_kept hbel ho).flat
      have HNL : Hid (news.length = t * 2) := Lib.hid (by rw [hnl, HN.out])
      have HNC : Hid (∀ (j : Nat) (u : Value), news[j]? = some u → w1.cell? ((⟨b, off, none⟩ : Addr).add j) = some u) := Lib.hid fun j u hu => by rw [add_off]; exact hnc j u hu
      have HNR := Lib.hid hnr
      have HN1 := Lib.hid hn1
      have hbl : b < w1.heap.size := Nat.lt_of_lt_of_le hlt hbel.size
      clear hnl hnc hnr hn1
      have HSZ : Hid (w.heap.size + 1 ≤ w1.heap.size) := Lib.hid (HG1.out.lt)
      go_wp2_with (at_builtin; refine wpList_append_row _ rfl (.const (.slice none 0 0)) (.tmp 22) 55 rfl w1.heap.size 53 i0 _ 2 32 Tryz.underlying55 hi hz0 hz1 hz2 rfl (by decide) (.slice none 0 0) 0 [] rfl (World.ownsRow_nil _ _ _ _) ⟨b, off, none⟩ t cap news rfl HNL.out HNC.out HN1.out hpos (by unfold maxLen; omega) (by omega) (Nat.le_refl _) ?_; intro v' w2 ho2 hg2 hb2; have HO2 := Lib.hid ho2; have HB2 : Hid (Bel w1 w2) := Lib.hid (Bel.of_grown0 hg2); rcases ho2.2 with ⟨rfl, h0⟩ | ⟨g0, c0, arr0, rfl, hb0, hg0, hc0, hc1, hs0, htk⟩; (case inl => exact absurd h0 (by omega)); have HCE := Lib.hid (ho2.cells rfl); simp only [Nat.zero_add] at hc0 hc1; clear ho2 hg2 hb2 htk)
      simp only [Nat.zero_add, List.nil_append] at *
      have HG0 : Hid (Blk w2 g0 arr0 53) := Lib.hid hg0
      have HS0 := Lib.hid hs0
      have HGE := Lib.hid hb0
      have hrow0 : RowOb (fun b => (F b ∧ b < w.heap.size) ∨ g0 < b) w2 (fun o => arr0[o]?) 2 2 (mixed (force c') gs 0) := by
        have e0 : mixed (force c') gs 0 = gs := by simp [mixed]
        rw [e0]
        have h2 := (HR.out.keep (w' := w2) (G := fun b => (F b ∧ b < w.heap.size) ∨ g0 < b) (HBEL.out.trans HB2.out).size (fun b _ hl => (HBEL.out.trans HB2.out).block b hl) fun b hl hb => Or.inl ⟨hb, hl⟩)
        intro i g hg
        obtain ⟨cl, a1, a2, a3⟩ := HNR.out i g hg
        obtain ⟨cl', b1, b2, b3⟩ := h2 i g hg
        have ecl : cl = cl' := by
          apply List.ext_getElem?
          intro j
          rcases Nat.lt_or_ge j 2 with q | q
          · obtain ⟨u, hu⟩ : ∃ u, cl[j]? = some u := ⟨_, List.getElem?_eq_getElem (by omega)⟩
            obtain ⟨u', hu'⟩ : ∃ u, cl'[j]? = some u := ⟨_, List.getElem?_eq_getElem (by omega)⟩
            have q1 := HNC.out _ _ (a2 j u hu)
            rw [add_off] at q1
            have q2 := cell_kept HBEL.out (b2 j u' hu')
            rw [hu, hu']
            exact q1.symm.trans q2
          · rw [List.getElem?_eq_none (by omega), List.getElem?_eq_none (by omega)]
        refine ⟨cl, a1, fun j u hu => ?_, ecl ▸ b3⟩
        have q1 := HCE.out (i * 2 + j) u (a2 j u hu)
        rw [add_none] at q1
        exact (HG0.out.rules.1 _).symm.trans q1
      have HROW0 := Lib.hid hrow0
      have hb20 := (HG1.out.bel HB2.out)
      have HG20 := Lib.hid hb20
      have HB20 := Lib.hid (HBEL.out.trans HB2.out)
      clear hrow0 hb20 HNC HNL HN1 HNR hg0 hs0 hb0 HCE
      go_loopw [26] (fun iv wr => ∃ (j : Nat) (arr : Array Value), iv = .int .i64 j ∧ j ≤ t ∧ Bel w wr ∧ Blk wr w.heap.size #[.slice none 0 0, .int .u8 0] 64 ∧ Blk wr g0 arr 53 ∧ arr.size = c0 * 2 ∧ RowOb (fun b => (F b ∧ b < w.heap.size) ∨ g0 < b) wr (fun o => arr[o]?) 2 2 (mixed (force c') gs j)) (fun iv _ => t - (intOf iv).toNat)
      case atStart => exact ⟨0, arr0, rfl, Nat.zero_le _, HB20.out, HG20.out, HG0.out, HS0.out, HROW0.out⟩
      case round =>
        obtain ⟨j, arr, rfl, hj, hbel2, hz, hga, harr, hrow⟩ := hrel
        have HBEL2 := Lib.hid hbel2
        have HZ := Lib.hid hz
        have HGA := Lib.hid hga
        have HROW := Lib.hid hrow
        have l3 := hga.lt
        have z3 := hga.rules.2
        clear hrow
        by_cases hjt : j < t
        · obtain ⟨g, hg⟩ : ∃ g, gs[j]? = some g := ⟨_, List.getElem?_eq_getElem (by have := HN.out; omega)⟩
          obtain ⟨cl, hcl, hcell, hob⟩ := HROW.out j g (mixed_at hg)
          have HC : Hid (∀ W, Bel wr W → Calls Tryz.prog 78 #[.agg cl.toArray, .int .u8 c'] W (IsOb (fun b => (F b ∧ b < w.heap.size) ∨ g0 < b) W 2 (force c' g))) := Lib.hid fun W hW => lineForce_any _ cl g c' hcm W (fun b hb => Or.inr (by have := hW.size; omega)) (hob.bel hW)
          obtain ⟨d0, p0, n0, q0, xs0, hcs0, -⟩ := hob.ln; cases hcs0
          have D0 := (hga.rules.1 (j * 2)).trans (hcell 0 (.int .u8 d0) rfl)
          have D1 := (hga.rules.1 (j * 2 + 1)).trans (hcell 1 (.slice p0 n0 q0) rfl)
          have HG := Lib.hid hg
          clear hcl hcell hob hbel2 hg hz hga
          go_wp2_with (go_at_call 78; (with_reducible refine (HC.out _ (Bel.refl _)).mono ?_); rintro e w3 ⟨cs, rfl, ho, hb⟩; obtain ⟨d1, p1, n1, q1, xs1, hcs1, -⟩ := ho.ln; cases hcs1; have C1 := HZ.out.bel hb; have C3 := HGA.out.bel hb; have HB3 := Lib.hid hb; have HC1 := Lib.hid C1; have HC3 := Lib.hid C3; have HO := Lib.hid ho; have k0 := cell_kept hb D0; have k1 := cell_kept hb D1; have t3 := C3.rules.2; have m3 := C3.lt; clear hb C1 C3 ho)
          go_roundw
          case rel =>
            have hs1 := HBEL2.out.size
            have hs3 := HB3.out.size
            have hge := HGE.out
            have hsz := HSZ.out
            refine ⟨j + 1, (arr.setIfInBounds (j * 2) (.int .u8 d1)).setIfInBounds (j * 2 + 1) (.slice p1 n1 q1), by go_num, by omega, ?_, ?_, ?_, by simp [harr], ?_⟩
            · have HB := HBEL2.out.trans HB3.out
              (repeat (first | with_reducible assumption | with_reducible exact Bel.refl _ | with_reducible apply Bel.alloc | with_reducible apply Bel.drew | with_reducible apply Bel.drewN | ((with_reducible apply Bel.setCellR); (simp <;> omega)) | with_reducible refine Bel.behind (by with_reducible assumption) ?_))
            · have HB := HC1.out
              (repeat (first | with_reducible assumption | with_reducible exact Blk.new _ _ _ | ((with_reducible refine Blk.new' _ _ _ ?_); (focus ((simp; done)))) | with_reducible apply Blk.drew | with_reducible apply Blk.drewN | with_reducible refine Blk.alloc ?_ _ | with_reducible apply Blk.same | (with_reducible refine Blk.bel ?_ (by with_reducible assumption)) | ((with_reducible refine Blk.otherR ?_ ?_); (focus ((simp <;> omega); done)))))
            · exact (HC3.out.set _ _).set _ _
            · refine RowOb.put (t := j) (cl := [.int .u8 d1, .slice p1 n1 q1]) (HROW.out.keep (by simp; omega) (fun b hb hl => ?_) fun b _ hb => hb) (mixed_put HG.out) (fun o u ho hu => ?_) rfl (fun i u hu => ?_) (HO.out.keep (by simp) (fun b hb hl => ?_) fun b _ hb => hb)
              · rw [Below.heap_setCell _ _ _ _ (by simp; omega), Below.heap_setCell _ _ _ _ (by simp; omega)]
                exact HB3.out.block b hl
              · show (_ : Array Value)[o]? = some u
                rw [Array.getElem?_setIfInBounds_ne (by omega), Array.getElem?_setIfInBounds_ne (by omega)]
                exact hu
              · have hlt2 := (List.getElem?_eq_some_iff.1 hu).1
                simp at hlt2
                show (_ : Array Value)[j * 2 + i]? = some u
                match i, hlt2 with
                | 0, _ =>
                  simp at hu
                  subst hu
                  rw [Array.getElem?_setIfInBounds_ne (by omega)]
                  exact Array.getElem?_setIfInBounds_self_of_lt (by omega)
                | 1, _ =>
                  simp at hu
                  subst hu
                  exact Array.getElem?_setIfInBounds_self_of_lt (by (try simp only [Array.size_setIfInBounds]); omega)
              · rw [Below.heap_setCell _ _ _ _ (by simp; omega), Below.heap_setCell _ _ _ _ (by simp; omega)]
          case measure => simp [intOf]; omega
        · obtain rfl : j = t := by omega
          have hfin := HROW.out
          have em : mixed (force c') gs j = gs.map (force c') := by
            unfold mixed
            rw [List.take_of_length_le (by have := HN.out; omega), List.drop_of_length_le (by have := HN.out; omega), List.append_nil]
          rw [em] at hfin
          have hge := HGE.out
          have hsz := HSZ.out
          have HFIN : Hid (ObSl (fun b => F b ∧ b ≠ w.heap.size) wr 2 2 (.slice (some ⟨g0, 0, none⟩) j c0) (gs.map (force c'))) := Lib.hid ⟨_, c0, by rw [List.length_map, HN.out], by rw [List.length_map, HN.out]; exact hc0, by unfold maxLen at hc1; omega, fun _ => ⟨g0, 0, rfl, l3, ⟨hF _ (by omega), by omega⟩, (hfin.keep (Nat.le_refl _) (fun _ _ _ => rfl) fun b _ hb => by
            rcases hb with hb | hb
            · exact ⟨hb.1, by omega⟩
            · exact ⟨hF _ (by omega), by omega⟩).cells fun o u ho => by
              rw [Nat.zero_add]
              exact (HGA.out.rules.1 o).trans ho⟩⟩
          clear hfin em
          obtain ⟨s2, t2, m2⟩ := HZ.out.facts
          go_wp2
          refine post_ret (results_one rfl (resIs_agg (n := 2) (cs := #[.slice (some ⟨g0, 0, none⟩) j c0, .int .u8 c']) (by rfl) Tryz.underlying64 (by kernel_rfl) (T := 64) ?_ rfl)) ⟨_, rfl, ObSl.ob ?_ rfl hcm (by rw [List.length_map, HN.out]; exact hn31), ?_⟩
          · have HB := HZ.out
            (apply Blk.cast; (repeat (first | with_reducible assumption | with_reducible apply Blk.set | ((with_reducible apply Blk.otherR); (focus ((simp <;> omega); done))) | with_reducible exact Blk.new _ _ _ | ((with_reducible apply Blk.new'); (focus (simp; done))) | with_reducible apply Blk.alloc | with_reducible apply Blk.drew | with_reducible apply Blk.drewN | (with_reducible refine Blk.bel ?_ (by with_reducible assumption)))); rfl)
          · exact HFIN.out.keep (by simp) (fun b hb hl => by rw [Below.heap_setCell _ _ _ _ (fun e => hb.2 e), Below.heap_setCell _ _ _ _ (fun e => hb.2 e)]) fun b _ hb => hb.1
          · have HB := HBEL2.out
            (repeat (first | with_reducible assumption | with_reducible exact Bel.refl _ | with_reducible apply Bel.alloc | with_reducible apply Bel.drew | with_reducible apply Bel.drewN | ((with_reducible apply Bel.setCellR); (simp <;> omega)) | with_reducible refine Bel.behind (by with_reducible assumption) ?_))
set_option maxHeartbeats 4000000 in
set_option maxRecDepth 100000 in
theorem newMultiPolygon_any (F : Nat → Prop) (p : Option Addr) (n cap : Nat) (gs : List Gm) (w : World) (hF : New F w) (hsl : ObSl F w 3 2 (.slice p n cap) gs) (hpos : 0 < n) (hn31 : n ≤ 1048576) : Calls Tryz.prog 56 #[.slice p n cap] w (IsOb F w 6 (.mk 6 (common gs) [] (gs.map (force (common gs))))) := by
  have HSL := Lib.hid hsl
  obtain ⟨_, _, hve, hl1, hl2, hq⟩ := hsl
  cases hve
  have hgn : gs ≠ [] := by intro e; rw [e] at hpos; simp at hpos
  obtain ⟨b, off, rfl, hlt, hFb, hr⟩ := hq hgn
  have HR := Lib.hid hr
  have HFB := Lib.hid hFb
  clear hq hr hFb hgn
  generalize hn : gs.length = n at *
  have HN := Lib.hid hn
  clear hn
  have hn0 : ((n : Int) == 0) = false := by simp; omega
  obtain ⟨i0, hi, hz0, hz1, hz2⟩ := info_parts infoPg
  go_enter Tryz.func56, Tryz.ntmps56
  go_wp2
  go_loopw [3, 12] (fun cv iv wr => ∃ (t : Nat), cv = .int .u8 (common (gs.take t) : Nat) ∧ iv = .int .i64 t ∧ t ≤ n ∧ Bel w wr ∧ Blk wr w.heap.size #[.slice none 0 0, .int .u8 0] 68) (fun _ iv _ => n - (intOf iv).toNat)
  case atStart => exact ⟨0, rfl, rfl, Nat.zero_le _, by (repeat (first | with_reducible assumption | with_reducible exact Bel.refl _ | with_reducible apply Bel.alloc | with_reducible apply Bel.drew | with_reducible apply Bel.drewN | ((with_reducible apply Bel.setCellR); (simp <;> omega)) | with_reducible refine Bel.behind (by with_reducible assumption) ?_)), by (repeat (first | with_reducible assumption | with_reducible exact Blk.new _ _ _ | ((with_reducible refine Blk.new' _ _ _ ?_); (focus ((simp; done)))) | with_reducible apply Blk.drew | with_reducible apply Blk.drewN | with_reducible refine Blk.alloc ?_ _ | with_reducible apply Blk.same | (with_reducible refine Blk.bel ?_ (by with_reducible assumption)) | ((with_reducible refine Blk.otherR ?_ ?_); (focus ((simp <;> omega); done)))))⟩
  case round =>
    obtain ⟨t, rfl, rfl, ht, hbel, hb1⟩ := hrel
    have HBEL := Lib.hid hbel
    have HG1 := Lib.hid hb1
    clear hb1
    by_cases htn : t < n
    · obtain ⟨g, hg⟩ : ∃ g, gs[t]? = some g := ⟨_, List.getElem?_eq_getElem (by have := HN.out; omega)⟩
      obtain ⟨cl, hcl, hcell, hob⟩ := HR.out t g hg
      have HC := Lib.hid (polygonOb_type hob)
      obtain ⟨cg, hcg, hdim⟩ := hob.dim
      obtain ⟨p0, q0, d0, gs0, hcs0, -⟩ := hob.sl (e := 2) (k := 2) rfl; cases hcs0; generalize gs0.length = n0 at *
      have D0 := cell_kept hbel (hcell 0 (.slice p0 n0 q0) rfl)
      have D1 := cell_kept hbel (hcell 1 (.int .u8 d0) rfl)
      simp only [Nat.add_zero] at D0
      have E1 := D1
      rw [← Nat.add_assoc] at E1
      have hbl : b < wr.heap.size := Nat.lt_of_lt_of_le hlt hbel.size
      have hct := common_take hg
      have hdn : g.dim.toNat = cg := by rw [hdim]; simp
      rw [hdn] at hct HC
      have hland := u8_land (common (gs.take t)) cg (common_le _ 3 (Nat.le_refl _)) hcg
      rw [← hct] at hland
      clear hcl hcell hob hbel hg hdim hct hdn
      generalize common (gs.take t) = ca at *
      generalize hcb : common (gs.take (t + 1)) = cb at *
      have HCB := Lib.hid hcb
      clear hcb
      go_wp2_with (go_at_call 82; (with_reducible refine (HC.out _).mono ?_); rintro e w3 ⟨rfl, hb⟩; have C1 := HG1.out.bel ((Bel.alloc1 _ _).trans hb); have HC1 := Lib.hid C1; have HB3 : Hid (Bel wr w3) := Lib.hid ((Bel.alloc1 _ _).trans hb); clear hb C1)
      go_roundw
      case rel => exact ⟨t + 1, by rw [HCB.out], by go_num, by omega, HBEL.out.trans HB3.out, HC1.out⟩
      case measure => simp [intOf]; omega
    · obtain rfl : t = n := by omega
      have hca : common (gs.take t) = common gs := by rw [List.take_of_length_le (by have := HN.out; omega)]
      rw [hca]
      have hcl3 := common_le gs 3 (Nat.le_refl _)
      have hcm : common gs ≤ 3 := hcl3
      clear hca hcl3
      generalize common gs = c' at *
      obtain ⟨w1, hw1⟩ : ∃ w1, w1 = wr := ⟨_, rfl⟩
      subst hw1
      obtain ⟨news, hnl, hnc, hnr, hn1⟩ := ((HR.out.keep (G := F) hbel.size (fun b _ hl => hbel.block b hl) fun _ _ h => h).cells (arr' := fun o => w1.cell? ⟨b, off + o, none⟩) fun o u ho => cell_kept hbel ho).flat
      have HNL : Hid (news.length = t * 2) := Lib.hid (by rw [hnl, HN.out])
      have HNC : Hid (∀ (j : Nat) (u : Value), news[j]? = some u → w1.cell? ((⟨b, off, none⟩ : Addr).add j) = some u) := Lib.hid fun j u hu => by rw [add_off]; exact hnc j u hu
      have HNR := Lib.hid hnr
      have HN1 := Lib.hid hn1
      have hbl : b < w1.heap.size := Nat.lt_of_lt_of_le hlt hbel.size
      clear hnl hnc hnr hn1
      have HSZ : Hid (w.heap.size + 1 ≤ w1.heap.size) := Lib.hid (HG1.out.lt)
      go_wp2_with (at_builtin; refine wpList_append_row _ rfl (.const (.slice none 0 0)) (.tmp 21) 66 rfl w1.heap.size 57 i0 _ 2 32 Tryz.underlying66 hi hz0 hz1 hz2 rfl (by decide) (.slice none 0 0) 0 [] rfl (World.ownsRow_nil _ _ _ _) ⟨b, off, none⟩ t cap news rfl HNL.out HNC.out HN1.out hpos (by unfold maxLen; omega) (by omega) (Nat.le_refl _) ?_; intro v' w2 ho2 hg2 hb2; have HO2 := Lib.hid ho2; have HB2 : Hid (Bel w1 w2) := Lib.hid (Bel.of_grown0 hg2); rcases ho2.2 with ⟨rfl, h0⟩ | ⟨g0, c0, arr0, rfl, hb0, hg0, hc0, hc1, hs0, htk⟩; (case inl => exact absurd h0 (by omega)); have HCE := Lib.hid (ho2.cells rfl); simp only [Nat.zero_add] at hc0 hc1; clear ho2 hg2 hb2 htk)
      simp only [Nat.zero_add, List.nil_append] at *
      have HG0 : Hid (Blk w2 g0 arr0 57) := Lib.hid hg0
      have HS0 := Lib.hid hs0
      have HGE := Lib.hid hb0
      have hrow0 : RowOb (fun b => (F b ∧ b < w.heap.size) ∨ g0 < b) w2 (fun o => arr0[o]?) 3 2 (mixed (force c') gs 0) := by
        have e0 : mixed (force c') gs 0 = gs := by simp [mixed]
        rw [e0]
        have h2 := (HR.out.keep (w' := w2) (G := fun b => (F b ∧ b < w.heap.size) ∨ g0 < b) (HBEL.out.trans HB2.out).size (fun b _ hl => (HBEL.out.trans HB2.out).block b hl) fun b hl hb => Or.inl ⟨hb, hl⟩)
        intro i g hg
        obtain ⟨cl, a1, a2, a3⟩ := HNR.out i g hg
        obtain ⟨cl', b1, b2, b3⟩ := h2 i g hg
        have ecl : cl = cl' := by
          apply List.ext_getElem?
          intro j
          rcases Nat.lt_or_ge j 2 with q | q
          · obtain ⟨u, hu⟩ : ∃ u, cl[j]? = some u := ⟨_, List.getElem?_eq_getElem (by omega)⟩
            obtain ⟨u', hu'⟩ : ∃ u, cl'[j]? = some u := ⟨_, List.getElem?_eq_getElem (by omega)⟩
            have q1 := HNC.out _ _ (a2 j u hu)
            rw [add_off] at q1
            have q2 := cell_kept HBEL.out (b2 j u' hu')
            rw [hu, hu']
            exact q1.symm.trans q2
          · rw [List.getElem?_eq_none (by omega), List.getElem?_eq_none (by omega)]
        refine ⟨cl, a1, fun j u hu => ?_, ecl ▸ b3⟩
        have q1 := HCE.out (i * 2 + j) u (a2 j u hu)
        rw [add_none] at q1
        exact (HG0.out.rules.1 _).symm.trans q1
      have HROW0 := Lib.hid hrow0
      have hb20 := (HG1.out.bel HB2.out)
      have HG20 := Lib.hid hb20
      have HB20 := Lib.hid (HBEL.out.trans HB2.out)
      clear hrow0 hb20 HNC HNL HN1 HNR hg0 hs0 hb0 HCE
      go_loopw [25] (fun iv wr => ∃ (j : Nat) (arr : Array Value), iv = .int .i64 j ∧ j ≤ t ∧ Bel w wr ∧ Blk wr w.heap.size #[.slice none 0 0, .int .u8 0] 68 ∧ Blk wr g0 arr 57 ∧ arr.size = c0 * 2 ∧ RowOb (fun b => (F b ∧ b < w.heap.size) ∨ g0 < b) wr (fun o => arr[o]?) 3 2 (mixed (force c') gs j)) (fun iv _ => t - (intOf iv).toNat)
      case atStart => exact ⟨0, arr0, rfl, Nat.zero_le _, HB20.out, HG20.out, HG0.out, HS0.out, HROW0.out⟩
      case round =>
        obtain ⟨j, arr, rfl, hj, hbel2, hz, hga, harr, hrow⟩ := hrel
        have HBEL2 := Lib.hid hbel2
        have HZ := Lib.hid hz
        have HGA := Lib.hid hga
        have HROW := Lib.hid hrow
        have l3 := hga.lt
        have z3 := hga.rules.2
        clear hrow
        by_cases hjt : j < t
        · obtain ⟨g, hg⟩ : ∃ g, gs[j]? = some g := ⟨_, List.getElem?_eq_getElem (by have := HN.out; omega)⟩
          obtain ⟨cl, hcl, hcell, hob⟩ := HROW.out j g (mixed_at hg)
          have HC : Hid (∀ W, Bel wr W → Calls Tryz.prog 49 #[.agg cl.toArray, .int .u8 c'] W (IsOb (fun b => (F b ∧ b < w.heap.size) ∨ g0 < b) W 3 (force c' g))) := Lib.hid fun W hW => polygonForce_any _ cl g c' hcm W (fun b hb => Or.inr (by have := hW.size; omega)) (hob.bel hW)
          obtain ⟨p0, q0, d0, gs0, hcs0, -⟩ := hob.sl (e := 2) (k := 2) rfl; cases hcs0; generalize gs0.length = n0 at *
          have D0 := (hga.rules.1 (j * 2)).trans (hcell 0 (.slice p0 n0 q0) rfl)
          have D1 := (hga.rules.1 (j * 2 + 1)).trans (hcell 1 (.int .u8 d0) rfl)
          have HG := Lib.hid hg
          clear hcl hcell hob hbel2 hg hz hga
          go_wp2_with (go_at_call 49; (with_reducible refine (HC.out _ (Bel.refl _)).mono ?_); rintro e w3 ⟨cs, rfl, ho, hb⟩; obtain ⟨p1, q1, d1, gs1, hcs1, -⟩ := ho.sl (e := 2) (k := 2) rfl; cases hcs1; generalize gs1.length = n1 at *; have C1 := HZ.out.bel hb; have C3 := HGA.out.bel hb; have HB3 := Lib.hid hb; have HC1 := Lib.hid C1; have HC3 := Lib.hid C3; have HO := Lib.hid ho; have k0 := cell_kept hb D0; have k1 := cell_kept hb D1; have t3 := C3.rules.2; have m3 := C3.lt; clear hb C1 C3 ho)
          go_roundw
          case rel =>
            have hs1 := HBEL2.out.size
            have hs3 := HB3.out.size
            have hge := HGE.out
            have hsz := HSZ.out
            refine ⟨j + 1, (arr.setIfInBounds (j * 2) (.slice p1 n1 q1)).setIfInBounds (j * 2 + 1) (.int .u8 d1), by go_num, by omega, ?_, ?_, ?_, by simp [harr], ?_⟩
            · have HB := HBEL2.out.trans HB3.out
              (repeat (first | with_reducible assumption | with_reducible exact Bel.refl _ | with_reducible apply Bel.alloc | with_reducible apply Bel.drew | with_reducible apply Bel.drewN | ((with_reducible apply Bel.setCellR); (simp <;> omega)) | with_reducible refine Bel.behind (by with_reducible assumption) ?_))
            · have HB := HC1.out
              (repeat (first | with_reducible assumption | with_reducible exact Blk.new _ _ _ | ((with_reducible refine Blk.new' _ _ _ ?_); (focus ((simp; done)))) | with_reducible apply Blk.drew | with_reducible apply Blk.drewN | with_reducible refine Blk.alloc ?_ _ | with_reducible apply Blk.same | (with_reducible refine Blk.bel ?_ (by with_reducible assumption)) | ((with_reducible refine Blk.otherR ?_ ?_); (focus ((simp <;> omega); done)))))
            · exact (HC3.out.set _ _).set _ _
            · refine RowOb.put (t := j) (cl := [.slice p1 n1 q1, .int .u8 d1]) (HROW.out.keep (by simp; omega) (fun b hb hl => ?_) fun b _ hb => hb) (mixed_put HG.out) (fun o u ho hu => ?_) rfl (fun i u hu => ?_) (HO.out.keep (by simp) (fun b hb hl => ?_) fun b _ hb => hb)
              · rw [Below.heap_setCell _ _ _ _ (by simp; omega), Below.heap_setCell _ _ _ _ (by simp; omega)]
                exact HB3.out.block b hl
              · show (_ : Array Value)[o]? = some u
                rw [Array.getElem?_setIfInBounds_ne (by omega), Array.getElem?_setIfInBounds_ne (by omega)]
                exact hu
              · have hlt2 := (List.getElem?_eq_some_iff.1 hu).1
                simp at hlt2
                show (_ : Array Value)[j * 2 + i]? = some u
                match i, hlt2 with
                | 0, _ =>
                  simp at hu
                  subst hu
                  rw [Array.getElem?_setIfInBounds_ne (by omega)]
                  exact Array.getElem?_setIfInBounds_self_of_lt (by omega)
                | 1, _ =>
                  simp at hu
                  subst hu
                  exact Array.getElem?_setIfInBounds_self_of_lt (by (try simp only [Array.size_setIfInBounds]); omega)
              · rw [Below.heap_setCell _ _ _ _ (by simp; omega), Below.heap_setCell _ _ _ _ (by simp; omega)]
          case measure => simp [intOf]; omega
        · obtain rfl : j = t := by omega
          have hfin := HROW.out
          have em : mixed (force c') gs j = gs.map (force c') := by
            unfold mixed
            rw [List.take_of_length_le (by have := HN.out; omega), List.drop_of_length_le (by have := HN.out; omega), List.append_nil]
          rw [em] at hfin
          have hge := HGE.out
          have hsz := HSZ.out
          have HFIN : Hid (ObSl (fun b => F b ∧ b ≠ w.heap.size) wr 3 2 (.slice (some ⟨g0, 0, none⟩) j c0) (gs.map (force c'))) := Lib.hid ⟨_, c0, by rw [List.length_map, HN.out], by rw [List.length_map, HN.out]; exact hc0, by unfold maxLen at hc1; omega, fun _ => ⟨g0, 0, rfl, l3, ⟨hF _ (by omega), by omega⟩, (hfin.keep (Nat.le_refl _) (fun _ _ _ => rfl) fun b _ hb => by
            rcases hb with hb | hb
            · exact ⟨hb.1, by omega⟩
            · exact ⟨hF _ (by omega), by omega⟩).cells fun o u ho => by
              rw [Nat.zero_add]
              exact (HGA.out.rules.1 o).trans ho⟩⟩
          clear hfin em
          obtain ⟨s2, t2, m2⟩ := HZ.out.facts
          go_wp2
          refine post_ret (results_one rfl (resIs_agg (n := 2) (cs := #[.slice (some ⟨g0, 0, none⟩) j c0, .int .u8 c']) (by rfl) Tryz.underlying68 (by kernel_rfl) (T := 68) ?_ rfl)) ⟨_, rfl, ObSl.ob ?_ rfl hcm (by rw [List.length_map, HN.out]; exact hn31), ?_⟩
          · have HB := HZ.out
            (apply Blk.cast; (repeat (first | with_reducible assumption | with_reducible apply Blk.set | ((with_reducible apply Blk.otherR); (focus ((simp <;> omega); done))) | with_reducible exact Blk.new _ _ _ | ((with_reducible apply Blk.new'); (focus (simp; done))) | with_reducible apply Blk.alloc | with_reducible apply Blk.drew | with_reducible apply Blk.drewN | (with_reducible refine Blk.bel ?_ (by with_reducible assumption)))); rfl)
          · exact HFIN.out.keep (by simp) (fun b hb hl => by rw [Below.heap_setCell _ _ _ _ (fun e => hb.2 e), Below.heap_setCell _ _ _ _ (fun e => hb.2 e)]) fun b _ hb => hb.1
          · have HB := HBEL2.out
            (repeat (first | with_reducible assumption | with_reducible exact Bel.refl _ | with_reducible apply Bel.alloc | with_reducible apply Bel.drew | with_reducible apply Bel.drewN | ((with_reducible apply Bel.setCellR); (simp <;> omega)) | with_reducible refine Bel.behind (by with_reducible assumption) ?_))
end Go.Proofs.YtpipehenfcbjbaaGreat
