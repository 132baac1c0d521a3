/-
  impl.line, polygon, multiPoint, multiLine, multiPolygon: plain data made to objects. No panic; what stood in memory has not turned.
-/
import Derived.Test.YtpipehenfcbjbaaGreatGf
set_option linter.unusedVariables false
namespace Go.Proofs.YtpipehenfcbjbaaGreat
open Go.ChangeShapes Go.WideShapes Go.ChangeAt Go.RowKit
theorem newOf_kind : ∀ (g : Gm), (newOf g).kind = kindOf g.kind
  | .mk k d ns ks => by
    show (newOf (.mk k d ns ks)).kind = kindOf k
    rw [newOf]
    by_cases h : kindOf k = 1 ∨ kindOf k = 2
    · rw [if_pos h]
      rfl
    · rw [if_neg h]
      by_cases h2 : (newAll (kidOf (kindOf k)) ks).isEmpty = true
      · rw [if_pos h2]
        rfl
      · rw [if_neg h2, force]
        rfl
theorem kindOf_eq {k s : Int} (h1 : 1 ≤ s) (h6 : s ≤ 6) : kindOf k = s ↔ k = s := by
  unfold kindOf
  split <;> omega
theorem newAll_snoc (want : Int) : ∀ (l : List Gm) (g : Gm), newAll want (l ++ [g]) = newAll want l ++ (if want < 0 ∨ want = (newOf g).kind then [newOf g] else [])
  | [], g => by
    simp only [List.nil_append, newAll]
  | a :: r, g => by
    simp only [List.cons_append, newAll]
    rw [newAll_snoc want r g]
    split <;> simp
theorem newAll_take {want : Int} {ks : List Gm} {i : Nat} {g : Gm} (h : ks[i]? = some g) : newAll want (ks.take (i + 1)) = newAll want (ks.take i) ++ (if want < 0 ∨ want = (newOf g).kind then [newOf g] else []) := by
  rw [List.take_add_one, h]
  exact newAll_snoc want _ _
theorem newAll_len (want : Int) : ∀ (l : List Gm), (newAll want l).length ≤ l.length
  | [] => by simp [newAll]
  | a :: r => by
    have := newAll_len want r
    simp only [newAll]
    split <;> simp <;> omega
theorem newOf_parts (g : Gm) (s : Nat) (h0 : kindOf g.kind = s) (h1 : s ≠ 1) (h2 : s ≠ 2) : newOf g = if (newAll (kidOf s) g.kids).isEmpty then .mk s (ct g.dim) [] [] else .mk s (common (newAll (kidOf s) g.kids)) [] ((newAll (kidOf s) g.kids).map (force (common (newAll (kidOf s) g.kids)))) := by
  cases g with
  | mk k d ns ks =>
    simp only [Gm.kind] at h0
    rw [newOf, h0, if_neg (by omega)]
    show _ = if (newAll (kidOf s) ks).isEmpty then Gm.mk s (ct d) [] [] else Gm.mk s (common (newAll (kidOf s) ks)) [] ((newAll (kidOf s) ks).map (force (common (newAll (kidOf s) ks))))
    by_cases h3 : (newAll (kidOf (s : Int)) ks).isEmpty = true
    · rw [if_pos h3, if_pos h3]
    · rw [if_neg h3, if_neg h3, force_parts h1 h2]
theorem own_obs {F : Nat → Prop} {w : World} {base n e k : Nat} {T : TypeId} {v : Value} {xs : List Value} {gs : List Gm} (h : w.ownsRow base T k v n xs) (hr : RowOb F w (fun o => xs[o]?) e k gs) (hn : gs.length = n) (hF : ∀ b, v.ownBlock = some b → F b) : ObSl F w e k v gs := by
  subst hn
  have hc := fun (g : Nat) (hg : v.ownBlock = some g) => h.cells hg
  rcases h.2 with ⟨rfl, h0⟩ | ⟨g, cap, cur, rfl, hb, hg, h1, h2, _⟩
  · exact ⟨none, 0, by rw [h0], by omega, by omega, fun hn => absurd (List.length_eq_zero_iff.1 h0) hn⟩
  · refine ⟨_, cap, rfl, h1, by unfold maxLen at h2; omega, fun _ => ⟨g, 0, rfl, (Array.getElem?_eq_some_iff.1 hg).1, hF g rfl, hr.cells fun o u ho => ?_⟩⟩
    have := hc g rfl o u ho
    rw [add_none] at this
    rw [Nat.zero_add]
    exact this
theorem lineOb_any (F : Nat → Prop) (g : Gm) (hk : g.kind = 2) (hsz : g.size ≤ 1048576) (pn : Option Addr) (nn cn : Nat) (pk : Option Addr) (nk ck : Nat) (w : World) (hF : New F w) (hN : FlSl F w (.slice pn nn cn) g.nums) (hK : GmSl F w (.slice pk nk ck) g.kids) :
    Calls Tryz.prog 23 #[.agg #[.int .i64 2, .int .i64 g.dim, .slice pn nn cn, .slice pk nk ck]] w (IsOb F w 2 (newOf g)) := by
  have hnl := hN.len.1
  have hs := g.size_eq
  have h0 := wd_bd (ct g.dim)
  have hc := ct_le g.dim
  refine (line_any F pn nn cn g.nums g.dim pk nk ck w hF hN (by omega)).mono ?_
  rintro e w1 ⟨p, n, cap, rfl, hf, hb⟩
  have hl := hf.len.1
  have hw : (wholeNums (ct g.dim) g.nums).length = g.nums.length - g.nums.length % wd (ct g.dim) := by
    unfold wholeNums
    rw [List.length_take]
    omega
  have hd := Nat.div_add_mod g.nums.length (wd (ct g.dim))
  have e1 : g.nums.length - g.nums.length % wd (ct g.dim) = g.nums.length / wd (ct g.dim) * wd (ct g.dim) := by rw [Nat.mul_comm]; omega
  have he : newOf g = .mk 2 (ct g.dim) (wholeNums (ct g.dim) g.nums) [] := by
    cases g with
    | mk k d ns ks =>
      simp only [Gm.kind] at hk
      subst hk
      have hk2 : kindOf 2 = 2 := by decide
      rw [newOf, hk2, if_pos (Or.inr rfl), if_neg (by decide)]
      unfold wholeNums
      simp only [Gm.nums, Gm.dim] at e1 ⊢
      rw [e1]
  rw [he]
  refine ⟨_, rfl, .line (ct g.dim) p n cap _ hc hf ?_ ?_, hb⟩
  · rw [← hl, hw, e1]
    exact Nat.mul_mod_left _ _
  · rw [← hl, hw, e1, Nat.mul_div_cancel _ (by omega)]
    exact Nat.le_trans (Nat.div_le_self _ _) (by omega)
theorem pointOb_any (F : Nat → Prop) (g : Gm) (hk : g.kind = 1) (hsz : g.size ≤ 1048576) (pn : Option Addr) (nn cn : Nat) (pk : Option Addr) (nk ck : Nat) (w : World) (hF : New F w) (hN : FlSl F w (.slice pn nn cn) g.nums) (hK : GmSl F w (.slice pk nk ck) g.kids) :
    Calls Tryz.prog 21 #[.agg #[.int .i64 1, .int .i64 g.dim, .slice pn nn cn, .slice pk nk ck]] w (IsOb F w 1 (newOf g)) := by
  have hnl := hN.len.1
  have hs := g.size_eq
  have he : newOf g = newPt (ct g.dim) g.nums := by
    cases g with
    | mk k d ns ks =>
      simp only [Gm.kind] at hk
      subst hk
      have hk2 : kindOf 1 = 1 := by decide
      rw [newOf, hk2, if_pos (Or.inl rfl), if_pos rfl]
      rfl
  rw [he]
  exact point_any F g.dim pn nn cn g.nums pk nk ck w hF hN (by omega)
theorem Ob.ofSl {F : Nat → Prop} {w : World} {s e k c : Nat} {cs : List Value} {g : Gm} (h : Ob F w s cs g) (he : partOf s = some (e, k)) : ∃ (p : Option Addr) (n cap c : Nat), cs = [.slice p n cap, .int .u8 c] := by
  obtain ⟨p, cap, c, gs, rfl, _⟩ := h.sl he
  exact ⟨p, _, cap, c, rfl⟩
set_option maxHeartbeats 8000000 in
set_option maxRecDepth 100000 in
theorem polygonOb_any (F : Nat → Prop) (g : Gm) (hk : g.kind = 3) (hsz : g.size ≤ 1048576) (pn : Option Addr) (nn cn : Nat) (pk : Option Addr) (nk ck : Nat) (w : World) (hF : New F w) (hN : FlSl F w (.slice pn nn cn) g.nums) (hK : GmSl F w (.slice pk nk ck) g.kids) :
    Calls Tryz.prog 25 #[.agg #[.int .i64 3, .int .i64 g.dim, .slice pn nn cn, .slice pk nk ck]] w (IsOb F w 3 (newOf g)) := by
  have hnew := newOf_parts g 3 (by rw [hk]; decide) (by decide) (by decide)
  have hko : kidOf (3 : Nat) = 2 := by decide
  rw [hko] at hnew
  have HNEW := Lib.hid hnew
  obtain ⟨_, _, hve, hkl, hkc⟩ := hK.isSlice
  cases hve
  have hszq := g.size_eq
  have hlen := Gm.len_sizes g.kids
  have HK := Lib.hid hK
  have HKS : Hid (∀ k ∈ g.kids, k.size ≤ 1048576) := Lib.hid fun k hk => by
    have := Gm.size_mem hk
    omega
  have hm31 : g.kids.length ≤ 1048576 := by omega
  have HDO := Lib.hid (dimOf_any g.dim)
  have hct := ct_le g.dim
  clear hN hK hnew hko hszq hlen hsz
  generalize hdd : ct g.dim = cd at *
  generalize hdim : g.dim = dim at *
  generalize hks : g.kids = ks at *
  have HNW : Hid (newOf g = if (newAll 2 ks).isEmpty then .mk 3 cd [] [] else .mk 3 (common (newAll 2 ks)) [] ((newAll 2 ks).map (force (common (newAll 2 ks))))) := HNEW
  clear HNEW hks hdim hk
  generalize hm : ks.length = m at *
  have HM := Lib.hid hm
  clear hm
  obtain ⟨i0, hi, hz0, hz1, hz2⟩ := info_parts infoLn
  go_enter Tryz.func25, Tryz.ntmps25
  go_wp2
  go_loopw [3, 9] (fun rv iv wr => ∃ (i t : Nat) (pr : Option Addr) (cr : Nat) (xs : List Value), rv = .slice pr t cr ∧ iv = .int .i64 i ∧ i ≤ m ∧ t ≤ i ∧ (newAll 2 (ks.take i)).length = t ∧ Bel w wr ∧ w.heap.size + 2 ≤ wr.heap.size ∧ Blk wr w.heap.size #[.int .i64 3, .int .i64 dim, .slice pn nn cn, .slice pk m ck] 25 ∧ Blk wr (w.heap.size + 1) #[.slice none 0 0, .int .u8 0] 57 ∧ wr.ownsRow (w.heap.size + 2) 53 2 (.slice pr t cr) t xs ∧ RowOb (fun b => ((F b ∧ b < w.heap.size) ∨ w.heap.size + 2 ≤ b) ∧ Value.ownBlock (.slice pr t cr) ≠ some b) wr (fun o => xs[o]?) 2 2 (newAll 2 (ks.take i))) (fun _ iv _ => m - (intOf iv).toNat)
  case atStart => exact ⟨0, 0, none, 0, [], rfl, rfl, Nat.zero_le _, Nat.le_refl _, by simp [newAll], by (repeat (first | with_reducible assumption | with_reducible exact Bel.refl _ | with_reducible apply Bel.alloc | with_reducible apply Bel.drew | with_reducible apply Bel.drewN | ((with_reducible apply Bel.setCellR); (simp <;> omega)) | with_reducible refine Bel.behind (by with_reducible assumption) ?_)), by simp, by (repeat (first | with_reducible assumption | with_reducible exact Blk.new _ _ _ | ((with_reducible refine Blk.new' _ _ _ ?_); (focus ((simp; done)))) | with_reducible apply Blk.drew | with_reducible apply Blk.drewN | with_reducible refine Blk.alloc ?_ _ | with_reducible apply Blk.same | (with_reducible refine Blk.bel ?_ (by with_reducible assumption)) | ((with_reducible refine Blk.otherR ?_ ?_); (focus ((simp <;> omega); done))))), by (repeat (first | with_reducible assumption | with_reducible exact Blk.new _ _ _ | ((with_reducible refine Blk.new' _ _ _ ?_); (focus ((simp; done)))) | with_reducible apply Blk.drew | with_reducible apply Blk.drewN | with_reducible refine Blk.alloc ?_ _ | with_reducible apply Blk.same | (with_reducible refine Blk.bel ?_ (by with_reducible assumption)) | ((with_reducible refine Blk.otherR ?_ ?_); (focus ((simp <;> omega); done))))), World.ownsRow_nil _ _ _ _, fun i g hg => by simp [newAll] at hg⟩
  case round =>
    obtain ⟨i, t, pr, cr, xs, rfl, rfl, hi', hti, hlt', hbel, hgrow, hb1, hb2, hown, hrow⟩ := hrel
    have HBEL := Lib.hid hbel
    have HGROW := Lib.hid hgrow
    have HG1 := Lib.hid hb1
    have HG2 := Lib.hid hb2
    have HOWN := Lib.hid hown
    have HROW := Lib.hid hrow
    have HLT := Lib.hid hlt'
    obtain ⟨r1, z1, l1⟩ := hb1.facts
    obtain ⟨r2, z2, l2⟩ := hb2.facts
    clear hb1 hb2 hown hrow hlt'
    by_cases him : i < m
    · obtain ⟨kd, hkd⟩ : ∃ kd, ks[i]? = some kd := ⟨_, List.getElem?_eq_getElem (by have := HM.out; omega)⟩
      have hmem : kd ∈ ks := List.mem_iff_getElem?.2 ⟨i, hkd⟩
      obtain ⟨b, off, pn', nn', cn', pk', nk', ck', rfl, hlt, -, d0, d1, d2, d3, hf, hg'⟩ := HK.out.at hkd
      have D0 := cell_kept hbel d0
      have D1 := cell_kept hbel d1
      have D2 := cell_kept hbel d2
      have D3 := cell_kept hbel d3
      have hbl : b < wr.heap.size := Nat.lt_of_lt_of_le hlt hbel.size
      have hsn := newAll_take (want := 2) hkd
      have hnk := newOf_kind kd
      have HCE : Hid (kd.kind = 2 → ∀ W, Bel w W → Calls Tryz.prog 23 #[.agg #[.int .i64 2, .int .i64 kd.dim, .slice pn' nn' cn', .slice pk' nk' ck']] W (IsOb (fun b => W.heap.size ≤ b ∨ (F b ∧ b < w.heap.size)) W 2 (newOf kd))) := Lib.hid fun hkk W hW => lineOb_any _ kd hkk (HKS.out kd hmem) pn' nn' cn' pk' nk' ck' W (fun b hb => Or.inl hb) ((hf.keep hW.size (fun b _ hl => hW.block b hl) fun b hl hb => Or.inr ⟨hb, hl⟩)) ((hg'.keep hW.size (fun b _ hl => hW.block b hl) fun b hl hb => Or.inr ⟨hb, hl⟩))
      by_cases hkk : kd.kind = 2
      · have hsn2 : newAll 2 (ks.take (i + 1)) = newAll 2 (ks.take i) ++ [newOf kd] := by
          rw [hsn, if_pos (Or.inr (by rw [hnk, hkk]; decide))]
        have HSN := Lib.hid hsn2
        have HC := Lib.hid (HCE.out hkk)
        rw [hkk] at D0
        clear hmem d0 d1 d2 d3 hf hg' hbel hkd hsn hnk hsn2 HCE hkk
        generalize kd.dim = kdim at *
        go_wp2_with (first
          | (go_at_call 23; (with_reducible refine (HC.out _ ?hb).mono ?_); (case hb => exact HBEL.out.alloc _); rintro e w3 ⟨cs, rfl, ho, hb3⟩; have HO := Lib.hid ho; obtain ⟨d1, p1, n1, q1, xs1, hcs1, -⟩ := ho.ln; cases hcs1; have HB3 : Hid (Bel wr w3) := Lib.hid ((Bel.alloc1 wr _).trans hb3); have C1 := HG1.out.bel HB3.out; have C2 := HG2.out.bel HB3.out; have HC1 := Lib.hid C1; have HC2 := Lib.hid C2; clear hb3 ho C1 C2)
          | (at_builtin; refine wpList_append_row _ rfl (.tmp 21) (.tmp 24) 55 rfl (w.heap.size + 2) 53 i0 _ 2 32 Tryz.underlying55 hi hz0 hz1 hz2 rfl (by decide) (.slice pr t cr) t xs rfl (own_kept HOWN.out (show Bel wr _ by (have HB := HB3.out; (repeat (first | with_reducible assumption | with_reducible exact Bel.refl _ | with_reducible apply Bel.alloc | with_reducible apply Bel.drew | with_reducible apply Bel.drewN | ((with_reducible apply Bel.setCellR); (simp <;> omega)) | with_reducible refine Bel.behind (by with_reducible assumption) ?_))))) ⟨w3.heap.size, 0, none⟩ 1 1 [.int .u8 d1, .slice p1 n1 q1] rfl rfl (blk_arr (cs := #[.int .u8 d1, .slice p1 n1 q1]) (t := 53) (by (repeat (first | with_reducible assumption | with_reducible exact Blk.new _ _ _ | ((with_reducible refine Blk.new' _ _ _ ?_); (focus ((simp; done)))) | with_reducible apply Blk.drew | with_reducible apply Blk.drewN | with_reducible refine Blk.alloc ?_ _ | with_reducible apply Blk.same | (with_reducible refine Blk.bel ?_ (by with_reducible assumption)) | ((with_reducible refine Blk.otherR ?_ ?_); (focus ((simp <;> omega); done))))))) (by simp [Value.oneCell']) (by decide) (by unfold maxLen; omega) (by omega) (by have := HGROW.out; have := HB3.out.size; simp; omega) ?_; intro v' w6 ho6 hg6 hb6; obtain ⟨p6, c6, rfl⟩ := ho6.isSlice; have HO6 := Lib.hid ho6; have HG6 := Lib.hid hg6; have HB6 := Lib.hid hb6; have E1 := grownBy_blk hg6 (show Blk _ w.heap.size #[.int .i64 3, .int .i64 dim, .slice pn nn cn, .slice (some ⟨b, off, none⟩) m ck] 25 by (have HB := HC1.out; (repeat (first | with_reducible assumption | with_reducible exact Blk.new _ _ _ | ((with_reducible refine Blk.new' _ _ _ ?_); (focus ((simp; done)))) | with_reducible apply Blk.drew | with_reducible apply Blk.drewN | with_reducible refine Blk.alloc ?_ _ | with_reducible apply Blk.same | (with_reducible refine Blk.bel ?_ (by with_reducible assumption)) | ((with_reducible refine Blk.otherR ?_ ?_); (focus ((simp <;> omega); done))))))) (HOWN.out.ne_of_lt (by omega)); have E2 := grownBy_blk hg6 (show Blk _ (w.heap.size + 1) #[.slice none 0 0, .int .u8 0] 57 by (have HB := HC2.out; (repeat (first | with_reducible assumption | with_reducible exact Blk.new _ _ _ | ((with_reducible refine Blk.new' _ _ _ ?_); (focus ((simp; done)))) | with_reducible apply Blk.drew | with_reducible apply Blk.drewN | with_reducible refine Blk.alloc ?_ _ | with_reducible apply Blk.same | (with_reducible refine Blk.bel ?_ (by with_reducible assumption)) | ((with_reducible refine Blk.otherR ?_ ?_); (focus ((simp <;> omega); done))))))) (HOWN.out.ne_of_lt (by omega)); have HE1 := Lib.hid E1; have HE2 := Lib.hid E2; clear ho6 hg6 hb6 E1 E2))
        go_roundw
        case rel =>
          have hs3 := HB3.out.size
          have hs6 := HG6.out.size
          have hgr := HGROW.out
          simp at hs6
          refine ⟨i + 1, t + 1, p6, c6, _, rfl, by go_num, by omega, by omega, by rw [HSN.out, List.length_append, HLT.out]; rfl, ?_, ?_, HE1.out, HE2.out, HO6.out, ?_⟩
          · exact (show Bel w _ from HBEL.out.trans (show Bel wr _ by (have HB := HB3.out; (repeat (first | with_reducible assumption | with_reducible exact Bel.refl _ | with_reducible apply Bel.alloc | with_reducible apply Bel.drew | with_reducible apply Bel.drewN | ((with_reducible apply Bel.setCellR); (simp <;> omega)) | with_reducible refine Bel.behind (by with_reducible assumption) ?_))))).of_row HG6.out (fun g hg => by have := (HOWN.out.lt g hg).1; omega)
          · omega
          · rw [HSN.out]
            have hne : ∀ b, b < w3.heap.size → Value.ownBlock (.slice pr t cr) ≠ some b → Value.ownBlock (.slice p6 (t + 1) c6) ≠ some b := fun b hb hn => by
              rcases HB6.out with h | h
              · rw [h]
                exact hn
              · rw [h]
                intro e
                have := Option.some.inj e
                simp at this
                omega
            have hblk : ∀ b, b < w3.heap.size → Value.ownBlock (.slice pr t cr) ≠ some b → w6.heap[b]? = w3.heap[b]? := fun b hb hn => by
              rw [HG6.out.block b (by simp; omega) (fun e => hn e.symm)]
              exact Below.heap_alloc _ _ _ (by simpa using hb)
            refine RowOb.push (t := t) (cl := [.int .u8 d1, .slice p1 n1 q1]) (HROW.out.keep (by omega) (fun b hb hl => ?_) fun b hl hb => ⟨hb.1, hne b (by omega) hb.2⟩) HLT.out (fun o u ho hu => ?_) rfl (fun j u hu => ?_) (HO.out.keep (by omega) (fun b hb hl => ?_) fun b hl hb => ⟨?_, ?_⟩)
            · rw [hblk b (by omega) hb.2]
              exact HB3.out.block b hl
            · show (xs ++ _)[o]? = some u
              rw [List.getElem?_append_left (List.getElem?_eq_some_iff.1 hu).1]
              exact hu
            · show (xs ++ _)[t * 2 + j]? = some u
              have hxl : xs.length = t * 2 := HOWN.out.1
              rw [List.getElem?_append_right (by omega), hxl, Nat.add_sub_cancel_left]
              exact hu
            · refine hblk b hl (fun e => ?_)
              have := HOWN.out.lt b e
              rcases hb with hb | hb
              · simp at hb
                omega
              · omega
            · rcases hb with hb | hb
              · exact Or.inr (by simp at hb; omega)
              · exact Or.inl hb
            · refine hne b hl (fun e => ?_)
              have := HOWN.out.lt b e
              rcases hb with hb | hb
              · simp at hb
                omega
              · omega
        case measure => simp [intOf]; omega
      · have hsn2 : newAll 2 (ks.take (i + 1)) = newAll 2 (ks.take i) := by
          rw [hsn, if_neg (by
            rw [hnk]
            intro h
            rcases h with h | h
            · omega
            · exact hkk ((kindOf_eq (by decide) (by decide)).1 h.symm)), List.append_nil]
        have HSN := Lib.hid hsn2
        have hk0 : (kd.kind == 2) = false := by simpa using hkk
        clear hmem d0 d1 d2 d3 hf hg' hbel hkd hsn hnk hsn2 HCE hkk
        generalize kd.dim = kdim at *
        generalize kd.kind = kkind at *
        go_wp2
        go_roundw
        case rel =>
          have hgr := HGROW.out
          refine ⟨i + 1, t, pr, cr, xs, rfl, by go_num, by omega, by omega, by rw [HSN.out]; exact HLT.out, HBEL.out.alloc _, by simp; omega, HG1.out.alloc _, HG2.out.alloc _, own_kept HOWN.out (Bel.alloc1 _ _), ?_⟩
          rw [HSN.out]
          exact HROW.out.keep (by simp) (fun b _ hl => (Bel.alloc1 wr _).block b hl) fun b _ hb => hb
        case measure => simp [intOf]; omega
    · obtain rfl : i = m := by omega
      have hall : ks.take i = ks := List.take_of_length_le (by have := HM.out; omega)
      rw [hall] at HLT HROW
      have hgr := HGROW.out
      have HSL : Hid (ObSl (fun b => (F b ∧ b < w.heap.size) ∨ w.heap.size + 2 ≤ b) wr 2 2 (.slice pr t cr) (newAll 2 ks)) := Lib.hid (own_obs HOWN.out (HROW.out.keep (Nat.le_refl _) (fun _ _ _ => rfl) fun b _ hb => hb.1) HLT.out fun b hb => Or.inr (HOWN.out.lt b hb).1)
      clear hall hbel
      by_cases ht0 : t = 0
      · subst ht0
        have hnil : newAll 2 ks = [] := List.length_eq_zero_iff.1 HLT.out
        have HR : Hid (newOf g = .mk 3 cd [] []) := Lib.hid (by rw [HNW.out, hnil]; rfl)
        have HFC : Hid (∀ W, Bel wr W → Calls Tryz.prog 49 #[.agg #[.slice none 0 0, .int .u8 0], .int .u8 cd] W (IsOb (fun b => W.heap.size ≤ b) W 3 (newOf g))) := Lib.hid fun W hW => by
          have h := polygonForce_any (fun b => W.heap.size ≤ b) [.slice none 0 0, .int .u8 0] (.mk 3 0 [] []) cd hct W (fun b hb => hb) (.parts 3 2 2 0 none 0 [] (fun _ => []) rfl (by decide) (Nat.zero_le _) (by decide) (by decide) (fun h => absurd rfl h) (fun i g h => by simp at h) (fun i g h => by simp at h))
          have e : force cd (.mk 3 0 [] []) = newOf g := by
            rw [HR.out]
            exact force_parts (s := 3) (by decide) (by decide) 0 cd []
          rw [e] at h
          exact h
        clear hnil
        go_wp2_with (first
          | (go_at_call 45; refine (HDO.out _).mono ?_; rintro e w' ⟨rfl, rfl⟩)
          | (go_at_call 49; (with_reducible refine (HFC.out _ (Bel.refl _)).mono ?_); rintro e w4 ⟨cs, rfl, ho, hb4⟩; have HO := Lib.hid ho; obtain ⟨p9, n9, q9, d9, hcs9⟩ := ho.ofSl (c := 0) (e := 2) (k := 2) rfl; cases hcs9; have C2 := HG2.out.bel hb4; have HC2 := Lib.hid C2; obtain ⟨s2, t2, m2⟩ := C2.facts; have HB4 : Hid (Bel w w4) := Lib.hid (HBEL.out.trans hb4); clear hb4 ho C2))
        refine post_ret (results_one rfl (resIs_agg (n := 2) (cs := #[.slice p9 n9 q9, .int .u8 d9]) (by rfl) Tryz.underlying57 (by kernel_rfl) (T := 57) ?_ rfl)) ⟨_, rfl, HO.out.keep (by simp) (fun b hb hl => ?_) (fun b _ hb => hF b (by omega)), ?_⟩
        · have HB := HC2.out
          (apply Blk.cast; (repeat (first | with_reducible assumption | with_reducible apply Blk.set | ((with_reducible apply Blk.otherR); (focus ((simp <;> omega); done))) | with_reducible exact Blk.new _ _ _ | ((with_reducible apply Blk.new'); (focus (simp; done))) | with_reducible apply Blk.alloc | with_reducible apply Blk.drew | with_reducible apply Blk.drewN | (with_reducible refine Blk.bel ?_ (by with_reducible assumption)))); rfl)
        · rw [Below.heap_setCell _ _ _ _ (by simp; omega), Below.heap_setCell _ _ _ _ (by simp; omega)]
        · have HB := HB4.out
          (repeat (first | with_reducible assumption | with_reducible exact Bel.refl _ | with_reducible apply Bel.alloc | with_reducible apply Bel.drew | with_reducible apply Bel.drewN | ((with_reducible apply Bel.setCellR); (simp <;> omega)) | with_reducible refine Bel.behind (by with_reducible assumption) ?_))
      · have htz : ((t : Int) == 0) = false := by simp; omega
        have hne : (newAll 2 ks).isEmpty = false := by
          have := HLT.out
          cases hq : newAll 2 ks with
          | nil => rw [hq] at this; simp at this; omega
          | cons a r => rfl
        have HR : Hid (newOf g = .mk 3 (common (newAll 2 ks)) [] ((newAll 2 ks).map (force (common (newAll 2 ks))))) := Lib.hid (by rw [HNW.out, hne]; rfl)
        have HNC : Hid (Calls Tryz.prog 50 #[.slice pr t cr] wr (IsOb (fun b => (F b ∧ b < w.heap.size) ∨ w.heap.size + 2 ≤ b) wr 3 (newOf g))) := Lib.hid (by
          rw [HR.out]
          exact newPolygon_any _ pr t cr _ wr (fun b hb => Or.inr (by omega)) HSL.out (by omega) (by omega))
        clear hne
        go_wp2_with (go_at_call 50; (with_reducible refine HNC.out.mono ?_); rintro e w4 ⟨cs, rfl, ho, hb4⟩; have HO := Lib.hid ho; obtain ⟨p9, n9, q9, d9, hcs9⟩ := ho.ofSl (c := 0) (e := 2) (k := 2) rfl; cases hcs9; have C2 := HG2.out.bel hb4; have HC2 := Lib.hid C2; obtain ⟨s2, t2, m2⟩ := C2.facts; have HB4 : Hid (Bel w w4) := Lib.hid (HBEL.out.trans hb4); clear hb4 ho C2)
        refine post_ret (results_one rfl (resIs_agg (n := 2) (cs := #[.slice p9 n9 q9, .int .u8 d9]) (by rfl) Tryz.underlying57 (by kernel_rfl) (T := 57) ?_ rfl)) ⟨_, rfl, HO.out.keep (by simp) (fun b hb hl => ?_) (fun b _ hb => ?_), ?_⟩
        · have HB := HC2.out
          (apply Blk.cast; (repeat (first | with_reducible assumption | with_reducible apply Blk.set | ((with_reducible apply Blk.otherR); (focus ((simp <;> omega); done))) | with_reducible exact Blk.new _ _ _ | ((with_reducible apply Blk.new'); (focus (simp; done))) | with_reducible apply Blk.alloc | with_reducible apply Blk.drew | with_reducible apply Blk.drewN | (with_reducible refine Blk.bel ?_ (by with_reducible assumption)))); rfl)
        · rw [Below.heap_setCell _ _ _ _ (by simp; omega), Below.heap_setCell _ _ _ _ (by simp; omega)]
        · rcases hb with hb | hb
          · exact hb.1
          · exact hF b (by omega)
        · have HB := HB4.out
          (repeat (first | with_reducible assumption | with_reducible exact Bel.refl _ | with_reducible apply Bel.alloc | with_reducible apply Bel.drew | with_reducible apply Bel.drewN | ((with_reducible apply Bel.setCellR); (simp <;> omega)) | with_reducible refine Bel.behind (by with_reducible assumption) ?_))
set_option maxHeartbeats 8000000 in
set_option maxRecDepth 100000 in
theorem multiPointOb_any (F : Nat → Prop) (g : Gm) (hk : g.kind = 4) (hsz : g.size ≤ 1048576) (pn : Option Addr) (nn cn : Nat) (pk : Option Addr) (nk ck : Nat) (w : World) (hF : New F w) (hN : FlSl F w (.slice pn nn cn) g.nums) (hK : GmSl F w (.slice pk nk ck) g.kids) :
    Calls Tryz.prog 27 #[.agg #[.int .i64 4, .int .i64 g.dim, .slice pn nn cn, .slice pk nk ck]] w (IsOb F w 4 (newOf g)) := by
  have hnew := newOf_parts g 4 (by rw [hk]; decide) (by decide) (by decide)
  have hko : kidOf (4 : Nat) = 1 := by decide
  rw [hko] at hnew
  have HNEW := Lib.hid hnew
  obtain ⟨_, _, hve, hkl, hkc⟩ := hK.isSlice
  cases hve
  have hszq := g.size_eq
  have hlen := Gm.len_sizes g.kids
  have HK := Lib.hid hK
  have HKS : Hid (∀ k ∈ g.kids, k.size ≤ 1048576) := Lib.hid fun k hk => by
    have := Gm.size_mem hk
    omega
  have hm31 : g.kids.length ≤ 1048576 := by omega
  have HDO := Lib.hid (dimOf_any g.dim)
  have hct := ct_le g.dim
  clear hN hK hnew hko hszq hlen hsz
  generalize hdd : ct g.dim = cd at *
  generalize hdim : g.dim = dim at *
  generalize hks : g.kids = ks at *
  have HNW : Hid (newOf g = if (newAll 1 ks).isEmpty then .mk 4 cd [] [] else .mk 4 (common (newAll 1 ks)) [] ((newAll 1 ks).map (force (common (newAll 1 ks))))) := HNEW
  clear HNEW hks hdim hk
  generalize hm : ks.length = m at *
  have HM := Lib.hid hm
  clear hm
  obtain ⟨i0, hi, hz0, hz1, hz2⟩ := info_parts infoPt
  go_enter Tryz.func27, Tryz.ntmps27
  go_wp2
  go_loopw [3, 9] (fun rv iv wr => ∃ (i t : Nat) (pr : Option Addr) (cr : Nat) (xs : List Value), rv = .slice pr t cr ∧ iv = .int .i64 i ∧ i ≤ m ∧ t ≤ i ∧ (newAll 1 (ks.take i)).length = t ∧ Bel w wr ∧ w.heap.size + 2 ≤ wr.heap.size ∧ Blk wr w.heap.size #[.int .i64 4, .int .i64 dim, .slice pn nn cn, .slice pk m ck] 25 ∧ Blk wr (w.heap.size + 1) #[.slice none 0 0, .int .u8 0] 61 ∧ wr.ownsRow (w.heap.size + 2) 47 6 (.slice pr t cr) t xs ∧ RowOb (fun b => ((F b ∧ b < w.heap.size) ∨ w.heap.size + 2 ≤ b) ∧ Value.ownBlock (.slice pr t cr) ≠ some b) wr (fun o => xs[o]?) 1 6 (newAll 1 (ks.take i))) (fun _ iv _ => m - (intOf iv).toNat)
  case atStart => exact ⟨0, 0, none, 0, [], rfl, rfl, Nat.zero_le _, Nat.le_refl _, by simp [newAll], by (repeat (first | with_reducible assumption | with_reducible exact Bel.refl _ | with_reducible apply Bel.alloc | with_reducible apply Bel.drew | with_reducible apply Bel.drewN | ((with_reducible apply Bel.setCellR); (simp <;> omega)) | with_reducible refine Bel.behind (by with_reducible assumption) ?_)), by simp, by (repeat (first | with_reducible assumption | with_reducible exact Blk.new _ _ _ | ((with_reducible refine Blk.new' _ _ _ ?_); (focus ((simp; done)))) | with_reducible apply Blk.drew | with_reducible apply Blk.drewN | with_reducible refine Blk.alloc ?_ _ | with_reducible apply Blk.same | (with_reducible refine Blk.bel ?_ (by with_reducible assumption)) | ((with_reducible refine Blk.otherR ?_ ?_); (focus ((simp <;> omega); done))))), by (repeat (first | with_reducible assumption | with_reducible exact Blk.new _ _ _ | ((with_reducible refine Blk.new' _ _ _ ?_); (focus ((simp; done)))) | with_reducible apply Blk.drew | with_reducible apply Blk.drewN | with_reducible refine Blk.alloc ?_ _ | with_reducible apply Blk.same | (with_reducible refine Blk.bel ?_ (by with_reducible assumption)) | ((with_reducible refine Blk.otherR ?_ ?_); (focus ((simp <;> omega); done))))), World.ownsRow_nil _ _ _ _, fun i g hg => by simp [newAll] at hg⟩
  case round =>
    obtain ⟨i, t, pr, cr, xs, rfl, rfl, hi', hti, hlt', hbel, hgrow, hb1, hb2, hown, hrow⟩ := hrel
    have HBEL := Lib.hid hbel
    have HGROW := Lib.hid hgrow
    have HG1 := Lib.hid hb1
    have HG2 := Lib.hid hb2
    have HOWN := Lib.hid hown
    have HROW := Lib.hid hrow
    have HLT := Lib.hid hlt'
    obtain ⟨r1, z1, l1⟩ := hb1.facts
    obtain ⟨r2, z2, l2⟩ := hb2.facts
    clear hb1 hb2 hown hrow hlt'
    by_cases him : i < m
    · obtain ⟨kd, hkd⟩ : ∃ kd, ks[i]? = some kd := ⟨_, List.getElem?_eq_getElem (by have := HM.out; omega)⟩
      have hmem : kd ∈ ks := List.mem_iff_getElem?.2 ⟨i, hkd⟩
      obtain ⟨b, off, pn', nn', cn', pk', nk', ck', rfl, hlt, -, d0, d1, d2, d3, hf, hg'⟩ := HK.out.at hkd
      have D0 := cell_kept hbel d0
      have D1 := cell_kept hbel d1
      have D2 := cell_kept hbel d2
      have D3 := cell_kept hbel d3
      have hbl : b < wr.heap.size := Nat.lt_of_lt_of_le hlt hbel.size
      have hsn := newAll_take (want := 1) hkd
      have hnk := newOf_kind kd
      have HCE : Hid (kd.kind = 1 → ∀ W, Bel w W → Calls Tryz.prog 21 #[.agg #[.int .i64 1, .int .i64 kd.dim, .slice pn' nn' cn', .slice pk' nk' ck']] W (IsOb (fun b => W.heap.size ≤ b ∨ (F b ∧ b < w.heap.size)) W 1 (newOf kd))) := Lib.hid fun hkk W hW => pointOb_any _ kd hkk (HKS.out kd hmem) pn' nn' cn' pk' nk' ck' W (fun b hb => Or.inl hb) ((hf.keep hW.size (fun b _ hl => hW.block b hl) fun b hl hb => Or.inr ⟨hb, hl⟩)) ((hg'.keep hW.size (fun b _ hl => hW.block b hl) fun b hl hb => Or.inr ⟨hb, hl⟩))
      by_cases hkk : kd.kind = 1
      · have hsn2 : newAll 1 (ks.take (i + 1)) = newAll 1 (ks.take i) ++ [newOf kd] := by
          rw [hsn, if_pos (Or.inr (by rw [hnk, hkk]; decide))]
        have HSN := Lib.hid hsn2
        have HC := Lib.hid (HCE.out hkk)
        rw [hkk] at D0
        clear hmem d0 d1 d2 d3 hf hg' hbel hkd hsn hnk hsn2 HCE hkk
        generalize kd.dim = kdim at *
        go_wp2_with (first
          | (go_at_call 21; (with_reducible refine (HC.out _ ?hb).mono ?_); (case hb => exact HBEL.out.alloc _); rintro e w3 ⟨cs, rfl, ho, hb3⟩; have HO := Lib.hid ho; obtain ⟨x1, y1, a1, m1, d1, f1, hcs1, -⟩ := ho.pt; cases hcs1; have HB3 : Hid (Bel wr w3) := Lib.hid ((Bel.alloc1 wr _).trans hb3); have C1 := HG1.out.bel HB3.out; have C2 := HG2.out.bel HB3.out; have HC1 := Lib.hid C1; have HC2 := Lib.hid C2; clear hb3 ho C1 C2)
          | (at_builtin; refine wpList_append_row _ rfl (.tmp 21) (.tmp 24) 59 rfl (w.heap.size + 2) 47 i0 _ 6 48 Tryz.underlying59 hi hz0 hz1 hz2 rfl (by decide) (.slice pr t cr) t xs rfl (own_kept HOWN.out (show Bel wr _ by (have HB := HB3.out; (repeat (first | with_reducible assumption | with_reducible exact Bel.refl _ | with_reducible apply Bel.alloc | with_reducible apply Bel.drew | with_reducible apply Bel.drewN | ((with_reducible apply Bel.setCellR); (simp <;> omega)) | with_reducible refine Bel.behind (by with_reducible assumption) ?_))))) ⟨w3.heap.size, 0, none⟩ 1 1 [.float .f64 x1, .float .f64 y1, .float .f64 a1, .float .f64 m1, .int .u8 d1, .bool f1] rfl rfl (blk_arr (cs := #[.float .f64 x1, .float .f64 y1, .float .f64 a1, .float .f64 m1, .int .u8 d1, .bool f1]) (t := 47) (by (repeat (first | with_reducible assumption | with_reducible exact Blk.new _ _ _ | ((with_reducible refine Blk.new' _ _ _ ?_); (focus ((simp; done)))) | with_reducible apply Blk.drew | with_reducible apply Blk.drewN | with_reducible refine Blk.alloc ?_ _ | with_reducible apply Blk.same | (with_reducible refine Blk.bel ?_ (by with_reducible assumption)) | ((with_reducible refine Blk.otherR ?_ ?_); (focus ((simp <;> omega); done))))))) (by simp [Value.oneCell']) (by decide) (by unfold maxLen; omega) (by omega) (by have := HGROW.out; have := HB3.out.size; simp; omega) ?_; intro v' w6 ho6 hg6 hb6; obtain ⟨p6, c6, rfl⟩ := ho6.isSlice; have HO6 := Lib.hid ho6; have HG6 := Lib.hid hg6; have HB6 := Lib.hid hb6; have E1 := grownBy_blk hg6 (show Blk _ w.heap.size #[.int .i64 4, .int .i64 dim, .slice pn nn cn, .slice (some ⟨b, off, none⟩) m ck] 25 by (have HB := HC1.out; (repeat (first | with_reducible assumption | with_reducible exact Blk.new _ _ _ | ((with_reducible refine Blk.new' _ _ _ ?_); (focus ((simp; done)))) | with_reducible apply Blk.drew | with_reducible apply Blk.drewN | with_reducible refine Blk.alloc ?_ _ | with_reducible apply Blk.same | (with_reducible refine Blk.bel ?_ (by with_reducible assumption)) | ((with_reducible refine Blk.otherR ?_ ?_); (focus ((simp <;> omega); done))))))) (HOWN.out.ne_of_lt (by omega)); have E2 := grownBy_blk hg6 (show Blk _ (w.heap.size + 1) #[.slice none 0 0, .int .u8 0] 61 by (have HB := HC2.out; (repeat (first | with_reducible assumption | with_reducible exact Blk.new _ _ _ | ((with_reducible refine Blk.new' _ _ _ ?_); (focus ((simp; done)))) | with_reducible apply Blk.drew | with_reducible apply Blk.drewN | with_reducible refine Blk.alloc ?_ _ | with_reducible apply Blk.same | (with_reducible refine Blk.bel ?_ (by with_reducible assumption)) | ((with_reducible refine Blk.otherR ?_ ?_); (focus ((simp <;> omega); done))))))) (HOWN.out.ne_of_lt (by omega)); have HE1 := Lib.hid E1; have HE2 := Lib.hid E2; clear ho6 hg6 hb6 E1 E2))
        go_roundw
        case rel =>
          have hs3 := HB3.out.size
          have hs6 := HG6.out.size
          have hgr := HGROW.out
          simp at hs6
          refine ⟨i + 1, t + 1, p6, c6, _, rfl, by go_num, by omega, by omega, by rw [HSN.out, List.length_append, HLT.out]; rfl, ?_, ?_, HE1.out, HE2.out, HO6.out, ?_⟩
          · exact (show Bel w _ from HBEL.out.trans (show Bel wr _ by (have HB := HB3.out; (repeat (first | with_reducible assumption | with_reducible exact Bel.refl _ | with_reducible apply Bel.alloc | with_reducible apply Bel.drew | with_reducible apply Bel.drewN | ((with_reducible apply Bel.setCellR); (simp <;> omega)) | with_reducible refine Bel.behind (by with_reducible assumption) ?_))))).of_row HG6.out (fun g hg => by have := (HOWN.out.lt g hg).1; omega)
          · omega
          · rw [HSN.out]
            have hne : ∀ b, b < w3.heap.size → Value.ownBlock (.slice pr t cr) ≠ some b → Value.ownBlock (.slice p6 (t + 1) c6) ≠ some b := fun b hb hn => by
              rcases HB6.out with h | h
              · rw [h]
                exact hn
              · rw [h]
                intro e
                have := Option.some.inj e
                simp at this
                omega
            have hblk : ∀ b, b < w3.heap.size → Value.ownBlock (.slice pr t cr) ≠ some b → w6.heap[b]? = w3.heap[b]? := fun b hb hn => by
              rw [HG6.out.block b (by simp; omega) (fun e => hn e.symm)]
              exact Below.heap_alloc _ _ _ (by simpa using hb)
            refine RowOb.push (t := t) (cl := [.float .f64 x1, .float .f64 y1, .float .f64 a1, .float .f64 m1, .int .u8 d1, .bool f1]) (HROW.out.keep (by omega) (fun b hb hl => ?_) fun b hl hb => ⟨hb.1, hne b (by omega) hb.2⟩) HLT.out (fun o u ho hu => ?_) rfl (fun j u hu => ?_) (HO.out.keep (by omega) (fun b hb hl => ?_) fun b hl hb => ⟨?_, ?_⟩)
            · rw [hblk b (by omega) hb.2]
              exact HB3.out.block b hl
            · show (xs ++ _)[o]? = some u
              rw [List.getElem?_append_left (List.getElem?_eq_some_iff.1 hu).1]
              exact hu
            · show (xs ++ _)[t * 6 + j]? = some u
              have hxl : xs.length = t * 6 := HOWN.out.1
              rw [List.getElem?_append_right (by omega), hxl, Nat.add_sub_cancel_left]
              exact hu
            · refine hblk b hl (fun e => ?_)
              have := HOWN.out.lt b e
              rcases hb with hb | hb
              · simp at hb
                omega
              · omega
            · rcases hb with hb | hb
              · exact Or.inr (by simp at hb; omega)
              · exact Or.inl hb
            · refine hne b hl (fun e => ?_)
              have := HOWN.out.lt b e
              rcases hb with hb | hb
              · simp at hb
                omega
              · omega
        case measure => simp [intOf]; omega
      · have hsn2 : newAll 1 (ks.take (i + 1)) = newAll 1 (ks.take i) := by
          rw [hsn, if_neg (by
            rw [hnk]
            intro h
            rcases h with h | h
            · omega
            · exact hkk ((kindOf_eq (by decide) (by decide)).1 h.symm)), List.append_nil]
        have HSN := Lib.hid hsn2
        have hk0 : (kd.kind == 1) = false := by simpa using hkk
        clear hmem d0 d1 d2 d3 hf hg' hbel hkd hsn hnk hsn2 HCE hkk
        generalize kd.dim = kdim at *
        generalize kd.kind = kkind at *
        go_wp2
        go_roundw
        case rel =>
          have hgr := HGROW.out
          refine ⟨i + 1, t, pr, cr, xs, rfl, by go_num, by omega, by omega, by rw [HSN.out]; exact HLT.out, HBEL.out.alloc _, by simp; omega, HG1.out.alloc _, HG2.out.alloc _, own_kept HOWN.out (Bel.alloc1 _ _), ?_⟩
          rw [HSN.out]
          exact HROW.out.keep (by simp) (fun b _ hl => (Bel.alloc1 wr _).block b hl) fun b _ hb => hb
        case measure => simp [intOf]; omega
    · obtain rfl : i = m := by omega
      have hall : ks.take i = ks := List.take_of_length_le (by have := HM.out; omega)
      rw [hall] at HLT HROW
      have hgr := HGROW.out
      have HSL : Hid (ObSl (fun b => (F b ∧ b < w.heap.size) ∨ w.heap.size + 2 ≤ b) wr 1 6 (.slice pr t cr) (newAll 1 ks)) := Lib.hid (own_obs HOWN.out (HROW.out.keep (Nat.le_refl _) (fun _ _ _ => rfl) fun b _ hb => hb.1) HLT.out fun b hb => Or.inr (HOWN.out.lt b hb).1)
      clear hall hbel
      by_cases ht0 : t = 0
      · subst ht0
        have hnil : newAll 1 ks = [] := List.length_eq_zero_iff.1 HLT.out
        have HR : Hid (newOf g = .mk 4 cd [] []) := Lib.hid (by rw [HNW.out, hnil]; rfl)
        have HFC : Hid (∀ W, Bel wr W → Calls Tryz.prog 51 #[.agg #[.slice none 0 0, .int .u8 0], .int .u8 cd] W (IsOb (fun b => W.heap.size ≤ b) W 4 (newOf g))) := Lib.hid fun W hW => by
          have h := multiPointForce_any (fun b => W.heap.size ≤ b) [.slice none 0 0, .int .u8 0] (.mk 4 0 [] []) cd hct W (fun b hb => hb) (.parts 4 1 6 0 none 0 [] (fun _ => []) rfl (by decide) (Nat.zero_le _) (by decide) (by decide) (fun h => absurd rfl h) (fun i g h => by simp at h) (fun i g h => by simp at h))
          have e : force cd (.mk 4 0 [] []) = newOf g := by
            rw [HR.out]
            exact force_parts (s := 4) (by decide) (by decide) 0 cd []
          rw [e] at h
          exact h
        clear hnil
        go_wp2_with (first
          | (go_at_call 45; refine (HDO.out _).mono ?_; rintro e w' ⟨rfl, rfl⟩)
          | (go_at_call 51; (with_reducible refine (HFC.out _ (Bel.refl _)).mono ?_); rintro e w4 ⟨cs, rfl, ho, hb4⟩; have HO := Lib.hid ho; obtain ⟨p9, n9, q9, d9, hcs9⟩ := ho.ofSl (c := 0) (e := 1) (k := 6) rfl; cases hcs9; have C2 := HG2.out.bel hb4; have HC2 := Lib.hid C2; obtain ⟨s2, t2, m2⟩ := C2.facts; have HB4 : Hid (Bel w w4) := Lib.hid (HBEL.out.trans hb4); clear hb4 ho C2))
        refine post_ret (results_one rfl (resIs_agg (n := 2) (cs := #[.slice p9 n9 q9, .int .u8 d9]) (by rfl) Tryz.underlying61 (by kernel_rfl) (T := 61) ?_ rfl)) ⟨_, rfl, HO.out.keep (by simp) (fun b hb hl => ?_) (fun b _ hb => hF b (by omega)), ?_⟩
        · have HB := HC2.out
          (apply Blk.cast; (repeat (first | with_reducible assumption | with_reducible apply Blk.set | ((with_reducible apply Blk.otherR); (focus ((simp <;> omega); done))) | with_reducible exact Blk.new _ _ _ | ((with_reducible apply Blk.new'); (focus (simp; done))) | with_reducible apply Blk.alloc | with_reducible apply Blk.drew | with_reducible apply Blk.drewN | (with_reducible refine Blk.bel ?_ (by with_reducible assumption)))); rfl)
        · rw [Below.heap_setCell _ _ _ _ (by simp; omega), Below.heap_setCell _ _ _ _ (by simp; omega)]
        · have HB := HB4.out
          (repeat (first | with_reducible assumption | with_reducible exact Bel.refl _ | with_reducible apply Bel.alloc | with_reducible apply Bel.drew | with_reducible apply Bel.drewN | ((with_reducible apply Bel.setCellR); (simp <;> omega)) | with_reducible refine Bel.behind (by with_reducible assumption) ?_))
      · have htz : ((t : Int) == 0) = false := by simp; omega
        have hne : (newAll 1 ks).isEmpty = false := by
          have := HLT.out
          cases hq : newAll 1 ks with
          | nil => rw [hq] at this; simp at this; omega
          | cons a r => rfl
        have HR : Hid (newOf g = .mk 4 (common (newAll 1 ks)) [] ((newAll 1 ks).map (force (common (newAll 1 ks))))) := Lib.hid (by rw [HNW.out, hne]; rfl)
        have HNC : Hid (Calls Tryz.prog 52 #[.slice pr t cr] wr (IsOb (fun b => (F b ∧ b < w.heap.size) ∨ w.heap.size + 2 ≤ b) wr 4 (newOf g))) := Lib.hid (by
          rw [HR.out]
          exact newMultiPoint_any _ pr t cr _ wr (fun b hb => Or.inr (by omega)) HSL.out (by omega) (by omega))
        clear hne
        go_wp2_with (go_at_call 52; (with_reducible refine HNC.out.mono ?_); rintro e w4 ⟨cs, rfl, ho, hb4⟩; have HO := Lib.hid ho; obtain ⟨p9, n9, q9, d9, hcs9⟩ := ho.ofSl (c := 0) (e := 1) (k := 6) rfl; cases hcs9; have C2 := HG2.out.bel hb4; have HC2 := Lib.hid C2; obtain ⟨s2, t2, m2⟩ := C2.facts; have HB4 : Hid (Bel w w4) := Lib.hid (HBEL.out.trans hb4); clear hb4 ho C2)
        refine post_ret (results_one rfl (resIs_agg (n := 2) (cs := #[.slice p9 n9 q9, .int .u8 d9]) (by rfl) Tryz.underlying61 (by kernel_rfl) (T := 61) ?_ rfl)) ⟨_, rfl, HO.out.keep (by simp) (fun b hb hl => ?_) (fun b _ hb => ?_), ?_⟩
        · have HB := HC2.out
          (apply Blk.cast; (repeat (first | with_reducible assumption | with_reducible apply Blk.set | ((with_reducible apply Blk.otherR); (focus ((simp <;> omega); done))) | with_reducible exact Blk.new _ _ _ | ((with_reducible apply Blk.new'); (focus (simp; done))) | with_reducible apply Blk.alloc | with_reducible apply Blk.drew | with_reducible apply Blk.drewN | (with_reducible refine Blk.bel ?_ (by with_reducible assumption)))); rfl)
        · rw [Below.heap_setCell _ _ _ _ (by simp; omega), Below.heap_setCell _ _ _ _ (by simp; omega)]
        · rcases hb with hb | hb
          · exact hb.1
          · exact hF b (by omega)
        · have HB := HB4.out
          (repeat (first | with_reducible assumption | with_reducible exact Bel.refl _ | with_reducible apply Bel.alloc | with_reducible apply Bel.drew | with_reducible apply Bel.drewN | ((with_reducible apply Bel.setCellR); (simp <;> omega)) | with_reducible refine Bel.behind (by with_reducible assumption) ?_))
set_option maxHeartbeats 8000000 in
set_option maxRecDepth 100000 in
theorem multiLineOb_any (F : Nat → Prop) (g : Gm) (hk : g.kind = 5) (hsz : g.size ≤ 1048576) (pn : Option Addr) (nn cn : Nat) (pk : Option Addr) (nk ck : Nat) (w : World) (hF : New F w) (hN : FlSl F w (.slice pn nn cn) g.nums) (hK : GmSl F w (.slice pk nk ck) g.kids) :
    Calls Tryz.prog 29 #[.agg #[.int .i64 5, .int .i64 g.dim, .slice pn nn cn, .slice pk nk ck]] w (IsOb F w 5 (newOf g)) := by
  have hnew := newOf_parts g 5 (by rw [hk]; decide) (by decide) (by decide)
  have hko : kidOf (5 : Nat) = 2 := by decide
  rw [hko] at hnew
  have HNEW := Lib.hid hnew
  obtain ⟨_, _, hve, hkl, hkc⟩ := hK.isSlice
  cases hve
  have hszq := g.size_eq
  have hlen := Gm.len_sizes g.kids
  have HK := Lib.hid hK
  have HKS : Hid (∀ k ∈ g.kids, k.size ≤ 1048576) := Lib.hid fun k hk => by
    have := Gm.size_mem hk
    omega
  have hm31 : g.kids.length ≤ 1048576 := by omega
  have HDO := Lib.hid (dimOf_any g.dim)
  have hct := ct_le g.dim
  clear hN hK hnew hko hszq hlen hsz
  generalize hdd : ct g.dim = cd at *
  generalize hdim : g.dim = dim at *
  generalize hks : g.kids = ks at *
  have HNW : Hid (newOf g = if (newAll 2 ks).isEmpty then .mk 5 cd [] [] else .mk 5 (common (newAll 2 ks)) [] ((newAll 2 ks).map (force (common (newAll 2 ks))))) := HNEW
  clear HNEW hks hdim hk
  generalize hm : ks.length = m at *
  have HM := Lib.hid hm
  clear hm
  obtain ⟨i0, hi, hz0, hz1, hz2⟩ := info_parts infoLn
  go_enter Tryz.func29, Tryz.ntmps29
  go_wp2
  go_loopw [3, 9] (fun rv iv wr => ∃ (i t : Nat) (pr : Option Addr) (cr : Nat) (xs : List Value), rv = .slice pr t cr ∧ iv = .int .i64 i ∧ i ≤ m ∧ t ≤ i ∧ (newAll 2 (ks.take i)).length = t ∧ Bel w wr ∧ w.heap.size + 2 ≤ wr.heap.size ∧ Blk wr w.heap.size #[.int .i64 5, .int .i64 dim, .slice pn nn cn, .slice pk m ck] 25 ∧ Blk wr (w.heap.size + 1) #[.slice none 0 0, .int .u8 0] 64 ∧ wr.ownsRow (w.heap.size + 2) 53 2 (.slice pr t cr) t xs ∧ RowOb (fun b => ((F b ∧ b < w.heap.size) ∨ w.heap.size + 2 ≤ b) ∧ Value.ownBlock (.slice pr t cr) ≠ some b) wr (fun o => xs[o]?) 2 2 (newAll 2 (ks.take i))) (fun _ iv _ => m - (intOf iv).toNat)
  case atStart => exact ⟨0, 0, none, 0, [], rfl, rfl, Nat.zero_le _, Nat.le_refl _, by simp [newAll], by (repeat (first | with_reducible assumption | with_reducible exact Bel.refl _ | with_reducible apply Bel.alloc | with_reducible apply Bel.drew | with_reducible apply Bel.drewN | ((with_reducible apply Bel.setCellR); (simp <;> omega)) | with_reducible refine Bel.behind (by with_reducible assumption) ?_)), by simp, by (repeat (first | with_reducible assumption | with_reducible exact Blk.new _ _ _ | ((with_reducible refine Blk.new' _ _ _ ?_); (focus ((simp; done)))) | with_reducible apply Blk.drew | with_reducible apply Blk.drewN | with_reducible refine Blk.alloc ?_ _ | with_reducible apply Blk.same | (with_reducible refine Blk.bel ?_ (by with_reducible assumption)) | ((with_reducible refine Blk.otherR ?_ ?_); (focus ((simp <;> omega); done))))), by (repeat (first | with_reducible assumption | with_reducible exact Blk.new _ _ _ | ((with_reducible refine Blk.new' _ _ _ ?_); (focus ((simp; done)))) | with_reducible apply Blk.drew | with_reducible apply Blk.drewN | with_reducible refine Blk.alloc ?_ _ | with_reducible apply Blk.same | (with_reducible refine Blk.bel ?_ (by with_reducible assumption)) | ((with_reducible refine Blk.otherR ?_ ?_); (focus ((simp <;> omega); done))))), World.ownsRow_nil _ _ _ _, fun i g hg => by simp [newAll] at hg⟩
  case round =>
    obtain ⟨i, t, pr, cr, xs, rfl, rfl, hi', hti, hlt', hbel, hgrow, hb1, hb2, hown, hrow⟩ := hrel
    have HBEL := Lib.hid hbel
    have HGROW := Lib.hid hgrow
    have HG1 := Lib.hid hb1
    have HG2 := Lib.hid hb2
    have HOWN := Lib.hid hown
    have HROW := Lib.hid hrow
    have HLT := Lib.hid hlt'
    obtain ⟨r1, z1, l1⟩ := hb1.facts
    obtain ⟨r2, z2, l2⟩ := hb2.facts
    clear hb1 hb2 hown hrow hlt'
    by_cases him : i < m
    · obtain ⟨kd, hkd⟩ : ∃ kd, ks[i]? = some kd := ⟨_, List.getElem?_eq_getElem (by have := HM.out; omega)⟩
      have hmem : kd ∈ ks := List.mem_iff_getElem?.2 ⟨i, hkd⟩
      obtain ⟨b, off, pn', nn', cn', pk', nk', ck', rfl, hlt, -, d0, d1, d2, d3, hf, hg'⟩ := HK.out.at hkd
      have D0 := cell_kept hbel d0
      have D1 := cell_kept hbel d1
      have D2 := cell_kept hbel d2
      have D3 := cell_kept hbel d3
      have hbl : b < wr.heap.size := Nat.lt_of_lt_of_le hlt hbel.size
      have hsn := newAll_take (want := 2) hkd
      have hnk := newOf_kind kd
      have HCE : Hid (kd.kind = 2 → ∀ W, Bel w W → Calls Tryz.prog 23 #[.agg #[.int .i64 2, .int .i64 kd.dim, .slice pn' nn' cn', .slice pk' nk' ck']] W (IsOb (fun b => W.heap.size ≤ b ∨ (F b ∧ b < w.heap.size)) W 2 (newOf kd))) := Lib.hid fun hkk W hW => lineOb_any _ kd hkk (HKS.out kd hmem) pn' nn' cn' pk' nk' ck' W (fun b hb => Or.inl hb) ((hf.keep hW.size (fun b _ hl => hW.block b hl) fun b hl hb => Or.inr ⟨hb, hl⟩)) ((hg'.keep hW.size (fun b _ hl => hW.block b hl) fun b hl hb => Or.inr ⟨hb, hl⟩))
      by_cases hkk : kd.kind = 2
      · have hsn2 : newAll 2 (ks.take (i + 1)) = newAll 2 (ks.take i) ++ [newOf kd] := by
          rw [hsn, if_pos (Or.inr (by rw [hnk, hkk]; decide))]
        have HSN := Lib.hid hsn2
        have HC := Lib.hid (HCE.out hkk)
        rw [hkk] at D0
        clear hmem d0 d1 d2 d3 hf hg' hbel hkd hsn hnk hsn2 HCE hkk
        generalize kd.dim = kdim at *
        go_wp2_with (first
          | (go_at_call 23; (with_reducible refine (HC.out _ ?hb).mono ?_); (case hb => exact HBEL.out.alloc _); rintro e w3 ⟨cs, rfl, ho, hb3⟩; have HO := Lib.hid ho; obtain ⟨d1, p1, n1, q1, xs1, hcs1, -⟩ := ho.ln; cases hcs1; have HB3 : Hid (Bel wr w3) := Lib.hid ((Bel.alloc1 wr _).trans hb3); have C1 := HG1.out.bel HB3.out; have C2 := HG2.out.bel HB3.out; have HC1 := Lib.hid C1; have HC2 := Lib.hid C2; clear hb3 ho C1 C2)
          | (at_builtin; refine wpList_append_row _ rfl (.tmp 21) (.tmp 24) 55 rfl (w.heap.size + 2) 53 i0 _ 2 32 Tryz.underlying55 hi hz0 hz1 hz2 rfl (by decide) (.slice pr t cr) t xs rfl (own_kept HOWN.out (show Bel wr _ by (have HB := HB3.out; (repeat (first | with_reducible assumption | with_reducible exact Bel.refl _ | with_reducible apply Bel.alloc | with_reducible apply Bel.drew | with_reducible apply Bel.drewN | ((with_reducible apply Bel.setCellR); (simp <;> omega)) | with_reducible refine Bel.behind (by with_reducible assumption) ?_))))) ⟨w3.heap.size, 0, none⟩ 1 1 [.int .u8 d1, .slice p1 n1 q1] rfl rfl (blk_arr (cs := #[.int .u8 d1, .slice p1 n1 q1]) (t := 53) (by (repeat (first | with_reducible assumption | with_reducible exact Blk.new _ _ _ | ((with_reducible refine Blk.new' _ _ _ ?_); (focus ((simp; done)))) | with_reducible apply Blk.drew | with_reducible apply Blk.drewN | with_reducible refine Blk.alloc ?_ _ | with_reducible apply Blk.same | (with_reducible refine Blk.bel ?_ (by with_reducible assumption)) | ((with_reducible refine Blk.otherR ?_ ?_); (focus ((simp <;> omega); done))))))) (by simp [Value.oneCell']) (by decide) (by unfold maxLen; omega) (by omega) (by have := HGROW.out; have := HB3.out.size; simp; omega) ?_; intro v' w6 ho6 hg6 hb6; obtain ⟨p6, c6, rfl⟩ := ho6.isSlice; have HO6 := Lib.hid ho6; have HG6 := Lib.hid hg6; have HB6 := Lib.hid hb6; have E1 := grownBy_blk hg6 (show Blk _ w.heap.size #[.int .i64 5, .int .i64 dim, .slice pn nn cn, .slice (some ⟨b, off, none⟩) m ck] 25 by (have HB := HC1.out; (repeat (first | with_reducible assumption | with_reducible exact Blk.new _ _ _ | ((with_reducible refine Blk.new' _ _ _ ?_); (focus ((simp; done)))) | with_reducible apply Blk.drew | with_reducible apply Blk.drewN | with_reducible refine Blk.alloc ?_ _ | with_reducible apply Blk.same | (with_reducible refine Blk.bel ?_ (by with_reducible assumption)) | ((with_reducible refine Blk.otherR ?_ ?_); (focus ((simp <;> omega); done))))))) (HOWN.out.ne_of_lt (by omega)); have E2 := grownBy_blk hg6 (show Blk _ (w.heap.size + 1) #[.slice none 0 0, .int .u8 0] 64 by (have HB := HC2.out; (repeat (first | with_reducible assumption | with_reducible exact Blk.new _ _ _ | ((with_reducible refine Blk.new' _ _ _ ?_); (focus ((simp; done)))) | with_reducible apply Blk.drew | with_reducible apply Blk.drewN | with_reducible refine Blk.alloc ?_ _ | with_reducible apply Blk.same | (with_reducible refine Blk.bel ?_ (by with_reducible assumption)) | ((with_reducible refine Blk.otherR ?_ ?_); (focus ((simp <;> omega); done))))))) (HOWN.out.ne_of_lt (by omega)); have HE1 := Lib.hid E1; have HE2 := Lib.hid E2; clear ho6 hg6 hb6 E1 E2))
        go_roundw
        case rel =>
          have hs3 := HB3.out.size
          have hs6 := HG6.out.size
          have hgr := HGROW.out
          simp at hs6
          refine ⟨i + 1, t + 1, p6, c6, _, rfl, by go_num, by omega, by omega, by rw [HSN.out, List.length_append, HLT.out]; rfl, ?_, ?_, HE1.out, HE2.out, HO6.out, ?_⟩
          · exact (show Bel w _ from HBEL.out.trans (show Bel wr _ by (have HB := HB3.out; (repeat (first | with_reducible assumption | with_reducible exact Bel.refl _ | with_reducible apply Bel.alloc | with_reducible apply Bel.drew | with_reducible apply Bel.drewN | ((with_reducible apply Bel.setCellR); (simp <;> omega)) | with_reducible refine Bel.behind (by with_reducible assumption) ?_))))).of_row HG6.out (fun g hg => by have := (HOWN.out.lt g hg).1; omega)
          · omega
          · rw [HSN.out]
            have hne : ∀ b, b < w3.heap.size → Value.ownBlock (.slice pr t cr) ≠ some b → Value.ownBlock (.slice p6 (t + 1) c6) ≠ some b := fun b hb hn => by
              rcases HB6.out with h | h
              · rw [h]
                exact hn
              · rw [h]
                intro e
                have := Option.some.inj e
                simp at this
                omega
            have hblk : ∀ b, b < w3.heap.size → Value.ownBlock (.slice pr t cr) ≠ some b → w6.heap[b]? = w3.heap[b]? := fun b hb hn => by
              rw [HG6.out.block b (by simp; omega) (fun e => hn e.symm)]
              exact Below.heap_alloc _ _ _ (by simpa using hb)
            refine RowOb.push (t := t) (cl := [.int .u8 d1, .slice p1 n1 q1]) (HROW.out.keep (by omega) (fun b hb hl => ?_) fun b hl hb => ⟨hb.1, hne b (by omega) hb.2⟩) HLT.out (fun o u ho hu => ?_) rfl (fun j u hu => ?_) (HO.out.keep (by omega) (fun b hb hl => ?_) fun b hl hb => ⟨?_, ?_⟩)
            · rw [hblk b (by omega) hb.2]
              exact HB3.out.block b hl
            · show (xs ++ _)[o]? = some u
              rw [List.getElem?_append_left (List.getElem?_eq_some_iff.1 hu).1]
              exact hu
            · show (xs ++ _)[t * 2 + j]? = some u
              have hxl : xs.length = t * 2 := HOWN.out.1
              rw [List.getElem?_append_right (by omega), hxl, Nat.add_sub_cancel_left]
              exact hu
            · refine hblk b hl (fun e => ?_)
              have := HOWN.out.lt b e
              rcases hb with hb | hb
              · simp at hb
                omega
              · omega
            · rcases hb with hb | hb
              · exact Or.inr (by simp at hb; omega)
              · exact Or.inl hb
            · refine hne b hl (fun e => ?_)
              have := HOWN.out.lt b e
              rcases hb with hb | hb
              · simp at hb
                omega
              · omega
        case measure => simp [intOf]; omega
      · have hsn2 : newAll 2 (ks.take (i + 1)) = newAll 2 (ks.take i) := by
          rw [hsn, if_neg (by
            rw [hnk]
            intro h
            rcases h with h | h
            · omega
            · exact hkk ((kindOf_eq (by decide) (by decide)).1 h.symm)), List.append_nil]
        have HSN := Lib.hid hsn2
        have hk0 : (kd.kind == 2) = false := by simpa using hkk
        clear hmem d0 d1 d2 d3 hf hg' hbel hkd hsn hnk hsn2 HCE hkk
        generalize kd.dim = kdim at *
        generalize kd.kind = kkind at *
        go_wp2
        go_roundw
        case rel =>
          have hgr := HGROW.out
          refine ⟨i + 1, t, pr, cr, xs, rfl, by go_num, by omega, by omega, by rw [HSN.out]; exact HLT.out, HBEL.out.alloc _, by simp; omega, HG1.out.alloc _, HG2.out.alloc _, own_kept HOWN.out (Bel.alloc1 _ _), ?_⟩
          rw [HSN.out]
          exact HROW.out.keep (by simp) (fun b _ hl => (Bel.alloc1 wr _).block b hl) fun b _ hb => hb
        case measure => simp [intOf]; omega
    · obtain rfl : i = m := by omega
      have hall : ks.take i = ks := List.take_of_length_le (by have := HM.out; omega)
      rw [hall] at HLT HROW
      have hgr := HGROW.out
      have HSL : Hid (ObSl (fun b => (F b ∧ b < w.heap.size) ∨ w.heap.size + 2 ≤ b) wr 2 2 (.slice pr t cr) (newAll 2 ks)) := Lib.hid (own_obs HOWN.out (HROW.out.keep (Nat.le_refl _) (fun _ _ _ => rfl) fun b _ hb => hb.1) HLT.out fun b hb => Or.inr (HOWN.out.lt b hb).1)
      clear hall hbel
      by_cases ht0 : t = 0
      · subst ht0
        have hnil : newAll 2 ks = [] := List.length_eq_zero_iff.1 HLT.out
        have HR : Hid (newOf g = .mk 5 cd [] []) := Lib.hid (by rw [HNW.out, hnil]; rfl)
        have HFC : Hid (∀ W, Bel wr W → Calls Tryz.prog 53 #[.agg #[.slice none 0 0, .int .u8 0], .int .u8 cd] W (IsOb (fun b => W.heap.size ≤ b) W 5 (newOf g))) := Lib.hid fun W hW => by
          have h := multiLineForce_any (fun b => W.heap.size ≤ b) [.slice none 0 0, .int .u8 0] (.mk 5 0 [] []) cd hct W (fun b hb => hb) (.parts 5 2 2 0 none 0 [] (fun _ => []) rfl (by decide) (Nat.zero_le _) (by decide) (by decide) (fun h => absurd rfl h) (fun i g h => by simp at h) (fun i g h => by simp at h))
          have e : force cd (.mk 5 0 [] []) = newOf g := by
            rw [HR.out]
            exact force_parts (s := 5) (by decide) (by decide) 0 cd []
          rw [e] at h
          exact h
        clear hnil
        go_wp2_with (first
          | (go_at_call 45; refine (HDO.out _).mono ?_; rintro e w' ⟨rfl, rfl⟩)
          | (go_at_call 53; (with_reducible refine (HFC.out _ (Bel.refl _)).mono ?_); rintro e w4 ⟨cs, rfl, ho, hb4⟩; have HO := Lib.hid ho; obtain ⟨p9, n9, q9, d9, hcs9⟩ := ho.ofSl (c := 0) (e := 2) (k := 2) rfl; cases hcs9; have C2 := HG2.out.bel hb4; have HC2 := Lib.hid C2; obtain ⟨s2, t2, m2⟩ := C2.facts; have HB4 : Hid (Bel w w4) := Lib.hid (HBEL.out.trans hb4); clear hb4 ho C2))
        refine post_ret (results_one rfl (resIs_agg (n := 2) (cs := #[.slice p9 n9 q9, .int .u8 d9]) (by rfl) Tryz.underlying64 (by kernel_rfl) (T := 64) ?_ rfl)) ⟨_, rfl, HO.out.keep (by simp) (fun b hb hl => ?_) (fun b _ hb => hF b (by omega)), ?_⟩
        · have HB := HC2.out
          (apply Blk.cast; (repeat (first | with_reducible assumption | with_reducible apply Blk.set | ((with_reducible apply Blk.otherR); (focus ((simp <;> omega); done))) | with_reducible exact Blk.new _ _ _ | ((with_reducible apply Blk.new'); (focus (simp; done))) | with_reducible apply Blk.alloc | with_reducible apply Blk.drew | with_reducible apply Blk.drewN | (with_reducible refine Blk.bel ?_ (by with_reducible assumption)))); rfl)
        · rw [Below.heap_setCell _ _ _ _ (by simp; omega), Below.heap_setCell _ _ _ _ (by simp; omega)]
        · have HB := HB4.out
          (repeat (first | with_reducible assumption | with_reducible exact Bel.refl _ | with_reducible apply Bel.alloc | with_reducible apply Bel.drew | with_reducible apply Bel.drewN | ((with_reducible apply Bel.setCellR); (simp <;> omega)) | with_reducible refine Bel.behind (by with_reducible assumption) ?_))
      · have htz : ((t : Int) == 0) = false := by simp; omega
        have hne : (newAll 2 ks).isEmpty = false := by
          have := HLT.out
          cases hq : newAll 2 ks with
          | nil => rw [hq] at this; simp at this; omega
          | cons a r => rfl
        have HR : Hid (newOf g = .mk 5 (common (newAll 2 ks)) [] ((newAll 2 ks).map (force (common (newAll 2 ks))))) := Lib.hid (by rw [HNW.out, hne]; rfl)
        have HNC : Hid (Calls Tryz.prog 54 #[.slice pr t cr] wr (IsOb (fun b => (F b ∧ b < w.heap.size) ∨ w.heap.size + 2 ≤ b) wr 5 (newOf g))) := Lib.hid (by
          rw [HR.out]
          exact newMultiLine_any _ pr t cr _ wr (fun b hb => Or.inr (by omega)) HSL.out (by omega) (by omega))
        clear hne
        go_wp2_with (go_at_call 54; (with_reducible refine HNC.out.mono ?_); rintro e w4 ⟨cs, rfl, ho, hb4⟩; have HO := Lib.hid ho; obtain ⟨p9, n9, q9, d9, hcs9⟩ := ho.ofSl (c := 0) (e := 2) (k := 2) rfl; cases hcs9; have C2 := HG2.out.bel hb4; have HC2 := Lib.hid C2; obtain ⟨s2, t2, m2⟩ := C2.facts; have HB4 : Hid (Bel w w4) := Lib.hid (HBEL.out.trans hb4); clear hb4 ho C2)
        refine post_ret (results_one rfl (resIs_agg (n := 2) (cs := #[.slice p9 n9 q9, .int .u8 d9]) (by rfl) Tryz.underlying64 (by kernel_rfl) (T := 64) ?_ rfl)) ⟨_, rfl, HO.out.keep (by simp) (fun b hb hl => ?_) (fun b _ hb => ?_), ?_⟩
        · have HB := HC2.out
          (apply Blk.cast; (repeat (first | with_reducible assumption | with_reducible apply Blk.set | ((with_reducible apply Blk.otherR); (focus ((simp <;> omega); done))) | with_reducible exact Blk.new _ _ _ | ((with_reducible apply Blk.new'); (focus (simp; done))) | with_reducible apply Blk.alloc | with_reducible apply Blk.drew | with_reducible apply Blk.drewN | (with_reducible refine Blk.bel ?_ (by with_reducible assumption)))); rfl)
        · rw [Below.heap_setCell _ _ _ _ (by simp; omega), Below.heap_setCell _ _ _ _ (by simp; omega)]
        · rcases hb with hb | hb
          · exact hb.1
          · exact hF b (by omega)
        · have HB := HB4.out
          (repeat (first | with_reducible assumption | with_reducible exact Bel.refl _ | with_reducible apply Bel.alloc | with_reducible apply Bel.drew | with_reducible apply Bel.drewN | ((with_reducible apply Bel.setCellR); (simp <;> omega)) | with_reducible refine Bel.behind (by with_reducible assumption) ?_))
set_option maxHeartbeats 8000000 in
set_option maxRecDepth 100000 in
theorem multiPolygonOb_any (F : Nat → Prop) (g : Gm) (hk : g.kind = 6) (hsz : g.size ≤ 1048576) (pn : Option Addr) (nn cn : Nat) (pk : Option Addr) (nk ck : Nat) (w : World) (hF : New F w) (hN : FlSl F w (.slice pn nn cn) g.nums) (hK : GmSl F w (.slice pk nk ck) g.kids) :
    Calls Tryz.prog 31 #[.agg #[.int .i64 6, .int .i64 g.dim, .slice pn nn cn, .slice pk nk ck]] w (IsOb F w 6 (newOf g)) := by
  have hnew := newOf_parts g 6 (by rw [hk]; decide) (by decide) (by decide)
  have hko : kidOf (6 : Nat) = 3 := by decide
  rw [hko] at hnew
  have HNEW := Lib.hid hnew
  obtain ⟨_, _, hve, hkl, hkc⟩ := hK.isSlice
  cases hve
  have hszq := g.size_eq
  have hlen := Gm.len_sizes g.kids
  have HK := Lib.hid hK
  have HKS : Hid (∀ k ∈ g.kids, k.size ≤ 1048576) := Lib.hid fun k hk => by
    have := Gm.size_mem hk
    omega
  have hm31 : g.kids.length ≤ 1048576 := by omega
  have HDO := Lib.hid (dimOf_any g.dim)
  have hct := ct_le g.dim
  clear hN hK hnew hko hszq hlen hsz
  generalize hdd : ct g.dim = cd at *
  generalize hdim : g.dim = dim at *
  generalize hks : g.kids = ks at *
  have HNW : Hid (newOf g = if (newAll 3 ks).isEmpty then .mk 6 cd [] [] else .mk 6 (common (newAll 3 ks)) [] ((newAll 3 ks).map (force (common (newAll 3 ks))))) := HNEW
  clear HNEW hks hdim hk
  generalize hm : ks.length = m at *
  have HM := Lib.hid hm
  clear hm
  obtain ⟨i0, hi, hz0, hz1, hz2⟩ := info_parts infoPg
  go_enter Tryz.func31, Tryz.ntmps31
  go_wp2
  go_loopw [3, 9] (fun rv iv wr => ∃ (i t : Nat) (pr : Option Addr) (cr : Nat) (xs : List Value), rv = .slice pr t cr ∧ iv = .int .i64 i ∧ i ≤ m ∧ t ≤ i ∧ (newAll 3 (ks.take i)).length = t ∧ Bel w wr ∧ w.heap.size + 2 ≤ wr.heap.size ∧ Blk wr w.heap.size #[.int .i64 6, .int .i64 dim, .slice pn nn cn, .slice pk m ck] 25 ∧ Blk wr (w.heap.size + 1) #[.slice none 0 0, .int .u8 0] 68 ∧ wr.ownsRow (w.heap.size + 2) 57 2 (.slice pr t cr) t xs ∧ RowOb (fun b => ((F b ∧ b < w.heap.size) ∨ w.heap.size + 2 ≤ b) ∧ Value.ownBlock (.slice pr t cr) ≠ some b) wr (fun o => xs[o]?) 3 2 (newAll 3 (ks.take i))) (fun _ iv _ => m - (intOf iv).toNat)
  case atStart => exact ⟨0, 0, none, 0, [], rfl, rfl, Nat.zero_le _, Nat.le_refl _, by simp [newAll], by (repeat (first | with_reducible assumption | with_reducible exact Bel.refl _ | with_reducible apply Bel.alloc | with_reducible apply Bel.drew | with_reducible apply Bel.drewN | ((with_reducible apply Bel.setCellR); (simp <;> omega)) | with_reducible refine Bel.behind (by with_reducible assumption) ?_)), by simp, by (repeat (first | with_reducible assumption | with_reducible exact Blk.new _ _ _ | ((with_reducible refine Blk.new' _ _ _ ?_); (focus ((simp; done)))) | with_reducible apply Blk.drew | with_reducible apply Blk.drewN | with_reducible refine Blk.alloc ?_ _ | with_reducible apply Blk.same | (with_reducible refine Blk.bel ?_ (by with_reducible assumption)) | ((with_reducible refine Blk.otherR ?_ ?_); (focus ((simp <;> omega); done))))), by (repeat (first | with_reducible assumption | with_reducible exact Blk.new _ _ _ | ((with_reducible refine Blk.new' _ _ _ ?_); (focus ((simp; done)))) | with_reducible apply Blk.drew | with_reducible apply Blk.drewN | with_reducible refine Blk.alloc ?_ _ | with_reducible apply Blk.same | (with_reducible refine Blk.bel ?_ (by with_reducible assumption)) | ((with_reducible refine Blk.otherR ?_ ?_); (focus ((simp <;> omega); done))))), World.ownsRow_nil _ _ _ _, fun i g hg => by simp [newAll] at hg⟩
  case round =>
    obtain ⟨i, t, pr, cr, xs, rfl, rfl, hi', hti, hlt', hbel, hgrow, hb1, hb2, hown, hrow⟩ := hrel
    have HBEL := Lib.hid hbel
    have HGROW := Lib.hid hgrow
    have HG1 := Lib.hid hb1
    have HG2 := Lib.hid hb2
    have HOWN := Lib.hid hown
    have HROW := Lib.hid hrow
    have HLT := Lib.hid hlt'
    obtain ⟨r1, z1, l1⟩ := hb1.facts
    obtain ⟨r2, z2, l2⟩ := hb2.facts
    clear hb1 hb2 hown hrow hlt'
    by_cases him : i < m
    · obtain ⟨kd, hkd⟩ : ∃ kd, ks[i]? = some kd := ⟨_, List.getElem?_eq_getElem (by have := HM.out; omega)⟩
      have hmem : kd ∈ ks := List.mem_iff_getElem?.2 ⟨i, hkd⟩
      obtain ⟨b, off, pn', nn', cn', pk', nk', ck', rfl, hlt, -, d0, d1, d2, d3, hf, hg'⟩ := HK.out.at hkd
      have D0 := cell_kept hbel d0
      have D1 := cell_kept hbel d1
      have D2 := cell_kept hbel d2
      have D3 := cell_kept hbel d3
      have hbl : b < wr.heap.size := Nat.lt_of_lt_of_le hlt hbel.size
      have hsn := newAll_take (want := 3) hkd
      have hnk := newOf_kind kd
      have HCE : Hid (kd.kind = 3 → ∀ W, Bel w W → Calls Tryz.prog 25 #[.agg #[.int .i64 3, .int .i64 kd.dim, .slice pn' nn' cn', .slice pk' nk' ck']] W (IsOb (fun b => W.heap.size ≤ b ∨ (F b ∧ b < w.heap.size)) W 3 (newOf kd))) := Lib.hid fun hkk W hW => polygonOb_any _ kd hkk (HKS.out kd hmem) pn' nn' cn' pk' nk' ck' W (fun b hb => Or.inl hb) ((hf.keep hW.size (fun b _ hl => hW.block b hl) fun b hl hb => Or.inr ⟨hb, hl⟩)) ((hg'.keep hW.size (fun b _ hl => hW.block b hl) fun b hl hb => Or.inr ⟨hb, hl⟩))
      by_cases hkk : kd.kind = 3
      · have hsn2 : newAll 3 (ks.take (i + 1)) = newAll 3 (ks.take i) ++ [newOf kd] := by
          rw [hsn, if_pos (Or.inr (by rw [hnk, hkk]; decide))]
        have HSN := Lib.hid hsn2
        have HC := Lib.hid (HCE.out hkk)
        rw [hkk] at D0
        clear hmem d0 d1 d2 d3 hf hg' hbel hkd hsn hnk hsn2 HCE hkk
        generalize kd.dim = kdim at *
        go_wp2_with (first
          | (go_at_call 25; (with_reducible refine (HC.out _ ?hb).mono ?_); (case hb => exact HBEL.out.alloc _); rintro e w3 ⟨cs, rfl, ho, hb3⟩; have HO := Lib.hid ho; obtain ⟨p1, n1, q1, d1, hcs1⟩ := ho.ofSl (c := 0) (e := 2) (k := 2) rfl; cases hcs1; have HB3 : Hid (Bel wr w3) := Lib.hid ((Bel.alloc1 wr _).trans hb3); have C1 := HG1.out.bel HB3.out; have C2 := HG2.out.bel HB3.out; have HC1 := Lib.hid C1; have HC2 := Lib.hid C2; clear hb3 ho C1 C2)
          | (at_builtin; refine wpList_append_row _ rfl (.tmp 21) (.tmp 24) 66 rfl (w.heap.size + 2) 57 i0 _ 2 32 Tryz.underlying66 hi hz0 hz1 hz2 rfl (by decide) (.slice pr t cr) t xs rfl (own_kept HOWN.out (show Bel wr _ by (have HB := HB3.out; (repeat (first | with_reducible assumption | with_reducible exact Bel.refl _ | with_reducible apply Bel.alloc | with_reducible apply Bel.drew | with_reducible apply Bel.drewN | ((with_reducible apply Bel.setCellR); (simp <;> omega)) | with_reducible refine Bel.behind (by with_reducible assumption) ?_))))) ⟨w3.heap.size, 0, none⟩ 1 1 [.slice p1 n1 q1, .int .u8 d1] rfl rfl (blk_arr (cs := #[.slice p1 n1 q1, .int .u8 d1]) (t := 57) (by (repeat (first | with_reducible assumption | with_reducible exact Blk.new _ _ _ | ((with_reducible refine Blk.new' _ _ _ ?_); (focus ((simp; done)))) | with_reducible apply Blk.drew | with_reducible apply Blk.drewN | with_reducible refine Blk.alloc ?_ _ | with_reducible apply Blk.same | (with_reducible refine Blk.bel ?_ (by with_reducible assumption)) | ((with_reducible refine Blk.otherR ?_ ?_); (focus ((simp <;> omega); done))))))) (by simp [Value.oneCell']) (by decide) (by unfold maxLen; omega) (by omega) (by have := HGROW.out; have := HB3.out.size; simp; omega) ?_; intro v' w6 ho6 hg6 hb6; obtain ⟨p6, c6, rfl⟩ := ho6.isSlice; have HO6 := Lib.hid ho6; have HG6 := Lib.hid hg6; have HB6 := Lib.hid hb6; have E1 := grownBy_blk hg6 (show Blk _ w.heap.size #[.int .i64 6, .int .i64 dim, .slice pn nn cn, .slice (some ⟨b, off, none⟩) m ck] 25 by (have HB := HC1.out; (repeat (first | with_reducible assumption | with_reducible exact Blk.new _ _ _ | ((with_reducible refine Blk.new' _ _ _ ?_); (focus ((simp; done)))) | with_reducible apply Blk.drew | with_reducible apply Blk.drewN | with_reducible refine Blk.alloc ?_ _ | with_reducible apply Blk.same | (with_reducible refine Blk.bel ?_ (by with_reducible assumption)) | ((with_reducible refine Blk.otherR ?_ ?_); (focus ((simp <;> omega); done))))))) (HOWN.out.ne_of_lt (by omega)); have E2 := grownBy_blk hg6 (show Blk _ (w.heap.size + 1) #[.slice none 0 0, .int .u8 0] 68 by (have HB := HC2.out; (repeat (first | with_reducible assumption | with_reducible exact Blk.new _ _ _ | ((with_reducible refine Blk.new' _ _ _ ?_); (focus ((simp; done)))) | with_reducible apply Blk.drew | with_reducible apply Blk.drewN | with_reducible refine Blk.alloc ?_ _ | with_reducible apply Blk.same | (with_reducible refine Blk.bel ?_ (by with_reducible assumption)) | ((with_reducible refine Blk.otherR ?_ ?_); (focus ((simp <;> omega); done))))))) (HOWN.out.ne_of_lt (by omega)); have HE1 := Lib.hid E1; have HE2 := Lib.hid E2; clear ho6 hg6 hb6 E1 E2))
        go_roundw
        case rel =>
          have hs3 := HB3.out.size
          have hs6 := HG6.out.size
          have hgr := HGROW.out
          simp at hs6
          refine ⟨i + 1, t + 1, p6, c6, _, rfl, by go_num, by omega, by omega, by rw [HSN.out, List.length_append, HLT.out]; rfl, ?_, ?_, HE1.out, HE2.out, HO6.out, ?_⟩
          · exact (show Bel w _ from HBEL.out.trans (show Bel wr _ by (have HB := HB3.out; (repeat (first | with_reducible assumption | with_reducible exact Bel.refl _ | with_reducible apply Bel.alloc | with_reducible apply Bel.drew | with_reducible apply Bel.drewN | ((with_reducible apply Bel.setCellR); (simp <;> omega)) | with_reducible refine Bel.behind (by with_reducible assumption) ?_))))).of_row HG6.out (fun g hg => by have := (HOWN.out.lt g hg).1; omega)
          · omega
          · rw [HSN.out]
            have hne : ∀ b, b < w3.heap.size → Value.ownBlock (.slice pr t cr) ≠ some b → Value.ownBlock (.slice p6 (t + 1) c6) ≠ some b := fun b hb hn => by
              rcases HB6.out with h | h
              · rw [h]
                exact hn
              · rw [h]
                intro e
                have := Option.some.inj e
                simp at this
                omega
            have hblk : ∀ b, b < w3.heap.size → Value.ownBlock (.slice pr t cr) ≠ some b → w6.heap[b]? = w3.heap[b]? := fun b hb hn => by
              rw [HG6.out.block b (by simp; omega) (fun e => hn e.symm)]
              exact Below.heap_alloc _ _ _ (by simpa using hb)
            refine RowOb.push (t := t) (cl := [.slice p1 n1 q1, .int .u8 d1]) (HROW.out.keep (by omega) (fun b hb hl => ?_) fun b hl hb => ⟨hb.1, hne b (by omega) hb.2⟩) HLT.out (fun o u ho hu => ?_) rfl (fun j u hu => ?_) (HO.out.keep (by omega) (fun b hb hl => ?_) fun b hl hb => ⟨?_, ?_⟩)
            · rw [hblk b (by omega) hb.2]
              exact HB3.out.block b hl
            · show (xs ++ _)[o]? = some u
              rw [List.getElem?_append_left (List.getElem?_eq_some_iff.1 hu).1]
              exact hu
            · show (xs ++ _)[t * 2 + j]? = some u
              have hxl : xs.length = t * 2 := HOWN.out.1
              rw [List.getElem?_append_right (by omega), hxl, Nat.add_sub_cancel_left]
              exact hu
            · refine hblk b hl (fun e => ?_)
              have := HOWN.out.lt b e
              rcases hb with hb | hb
              · simp at hb
                omega
              · omega
            · rcases hb with hb | hb
              · exact Or.inr (by simp at hb; omega)
              · exact Or.inl hb
            · refine hne b hl (fun e => ?_)
              have := HOWN.out.lt b e
              rcases hb with hb | hb
              · simp at hb
                omega
              · omega
        case measure => simp [intOf]; omega
      · have hsn2 : newAll 3 (ks.take (i + 1)) = newAll 3 (ks.take i) := by
          rw [hsn, if_neg (by
            rw [hnk]
            intro h
            rcases h with h | h
            · omega
            · exact hkk ((kindOf_eq (by decide) (by decide)).1 h.symm)), List.append_nil]
        have HSN := Lib.hid hsn2
        have hk0 : (kd.kind == 3) = false := by simpa using hkk
        clear hmem d0 d1 d2 d3 hf hg' hbel hkd hsn hnk hsn2 HCE hkk
        generalize kd.dim = kdim at *
        generalize kd.kind = kkind at *
        go_wp2
        go_roundw
        case rel =>
          have hgr := HGROW.out
          refine ⟨i + 1, t, pr, cr, xs, rfl, by go_num, by omega, by omega, by rw [HSN.out]; exact HLT.out, HBEL.out.alloc _, by simp; omega, HG1.out.alloc _, HG2.out.alloc _, own_kept HOWN.out (Bel.alloc1 _ _), ?_⟩
          rw [HSN.out]
          exact HROW.out.keep (by simp) (fun b _ hl => (Bel.alloc1 wr _).block b hl) fun b _ hb => hb
        case measure => simp [intOf]; omega
    · obtain rfl : i = m := by omega
      have hall : ks.take i = ks := List.take_of_length_le (by have := HM.out; omega)
      rw [hall] at HLT HROW
      have hgr := HGROW.out
      have HSL : Hid (ObSl (fun b => (F b ∧ b < w.heap.size) ∨ w.heap.size + 2 ≤ b) wr 3 2 (.slice pr t cr) (newAll 3 ks)) := Lib.hid (own_obs HOWN.out (HROW.out.keep (Nat.le_refl _) (fun _ _ _ => rfl) fun b _ hb => hb.1) HLT.out fun b hb => Or.inr (HOWN.out.lt b hb).1)
      clear hall hbel
      by_cases ht0 : t = 0
      · subst ht0
        have hnil : newAll 3 ks = [] := List.length_eq_zero_iff.1 HLT.out
        have HR : Hid (newOf g = .mk 6 cd [] []) := Lib.hid (by rw [HNW.out, hnil]; rfl)
        have HFC : Hid (∀ W, Bel wr W → Calls Tryz.prog 55 #[.agg #[.slice none 0 0, .int .u8 0], .int .u8 cd] W (IsOb (fun b => W.heap.size ≤ b) W 6 (newOf g))) := Lib.hid fun W hW => by
          have h := multiPolygonForce_any (fun b => W.heap.size ≤ b) [.slice none 0 0, .int .u8 0] (.mk 6 0 [] []) cd hct W (fun b hb => hb) (.parts 6 3 2 0 none 0 [] (fun _ => []) rfl (by decide) (Nat.zero_le _) (by decide) (by decide) (fun h => absurd rfl h) (fun i g h => by simp at h) (fun i g h => by simp at h))
          have e : force cd (.mk 6 0 [] []) = newOf g := by
            rw [HR.out]
            exact force_parts (s := 6) (by decide) (by decide) 0 cd []
          rw [e] at h
          exact h
        clear hnil
        go_wp2_with (first
          | (go_at_call 45; refine (HDO.out _).mono ?_; rintro e w' ⟨rfl, rfl⟩)
          | (go_at_call 55; (with_reducible refine (HFC.out _ (Bel.refl _)).mono ?_); rintro e w4 ⟨cs, rfl, ho, hb4⟩; have HO := Lib.hid ho; obtain ⟨p9, n9, q9, d9, hcs9⟩ := ho.ofSl (c := 0) (e := 3) (k := 2) rfl; cases hcs9; have C2 := HG2.out.bel hb4; have HC2 := Lib.hid C2; obtain ⟨s2, t2, m2⟩ := C2.facts; have HB4 : Hid (Bel w w4) := Lib.hid (HBEL.out.trans hb4); clear hb4 ho C2))
        refine post_ret (results_one rfl (resIs_agg (n := 2) (cs := #[.slice p9 n9 q9, .int .u8 d9]) (by rfl) Tryz.underlying68 (by kernel_rfl) (T := 68) ?_ rfl)) ⟨_, rfl, HO.out.keep (by simp) (fun b hb hl => ?_) (fun b _ hb => hF b (by omega)), ?_⟩
        · have HB := HC2.out
          (apply Blk.cast; (repeat (first | with_reducible assumption | with_reducible apply Blk.set | ((with_reducible apply Blk.otherR); (focus ((simp <;> omega); done))) | with_reducible exact Blk.new _ _ _ | ((with_reducible apply Blk.new'); (focus (simp; done))) | with_reducible apply Blk.alloc | with_reducible apply Blk.drew | with_reducible apply Blk.drewN | (with_reducible refine Blk.bel ?_ (by with_reducible assumption)))); rfl)
        · rw [Below.heap_setCell _ _ _ _ (by simp; omega), Below.heap_setCell _ _ _ _ (by simp; omega)]
        · have HB := HB4.out
          (repeat (first | with_reducible assumption | with_reducible exact Bel.refl _ | with_reducible apply Bel.alloc | with_reducible apply Bel.drew | with_reducible apply Bel.drewN | ((with_reducible apply Bel.setCellR); (simp <;> omega)) | with_reducible refine Bel.behind (by with_reducible assumption) ?_))
      · have htz : ((t : Int) == 0) = false := by simp; omega
        have hne : (newAll 3 ks).isEmpty = false := by
          have := HLT.out
          cases hq : newAll 3 ks with
          | nil => rw [hq] at this; simp at this; omega
          | cons a r => rfl
        have HR : Hid (newOf g = .mk 6 (common (newAll 3 ks)) [] ((newAll 3 ks).map (force (common (newAll 3 ks))))) := Lib.hid (by rw [HNW.out, hne]; rfl)
        have HNC : Hid (Calls Tryz.prog 56 #[.slice pr t cr] wr (IsOb (fun b => (F b ∧ b < w.heap.size) ∨ w.heap.size + 2 ≤ b) wr 6 (newOf g))) := Lib.hid (by
          rw [HR.out]
          exact newMultiPolygon_any _ pr t cr _ wr (fun b hb => Or.inr (by omega)) HSL.out (by omega) (by omega))
        clear hne
        go_wp2_with (go_at_call 56; (with_reducible refine HNC.out.mono ?_); rintro e w4 ⟨cs, rfl, ho, hb4⟩; have HO := Lib.hid ho; obtain ⟨p9, n9, q9, d9, hcs9⟩ := ho.ofSl (c := 0) (e := 3) (k := 2) rfl; cases hcs9; have C2 := HG2.out.bel hb4; have HC2 := Lib.hid C2; obtain ⟨s2, t2, m2⟩ := C2.facts; have HB4 : Hid (Bel w w4) := Lib.hid (HBEL.out.trans hb4); clear hb4 ho C2)
        refine post_ret (results_one rfl (resIs_agg (n := 2) (cs := #[.slice p9 n9 q9, .int .u8 d9]) (by rfl) Tryz.underlying68 (by kernel_rfl) (T := 68) ?_ rfl)) ⟨_, rfl, HO.out.keep (by simp) (fun b hb hl => ?_) (fun b _ hb => ?_), ?_⟩
        · have HB := HC2.out
          (apply Blk.cast; (repeat (first | with_reducible assumption | with_reducible apply Blk.set | ((with_reducible apply Blk.otherR); (focus ((simp <;> omega); done))) | with_reducible exact Blk.new _ _ _ | ((with_reducible apply Blk.new'); (focus (simp; done))) | with_reducible apply Blk.alloc | with_reducible apply Blk.drew | with_reducible apply Blk.drewN | (with_reducible refine Blk.bel ?_ (by with_reducible assumption)))); rfl)
        · rw [Below.heap_setCell _ _ _ _ (by simp; omega), Below.heap_setCell _ _ _ _ (by simp; omega)]
        · rcases hb with hb | hb
          · exact hb.1
          · exact hF b (by omega)
        · have HB := HB4.out
          (repeat (first | with_reducible assumption | with_reducible exact Bel.refl _ | with_reducible apply Bel.alloc | with_reducible apply Bel.drew | with_reducible apply Bel.drewN | ((with_reducible apply Bel.setCellR); (simp <;> omega)) | with_reducible refine Bel.behind (by with_reducible assumption) ?_))
end Go.Proofs.YtpipehenfcbjbaaGreat
