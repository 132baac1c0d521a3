/-
  impl.geometries, impl.collection, impl.geometry: plain data made to geometries. No panic; what stood in memory has not turned.
-/
import Derived.Test.YtpipehenfcbjbaaGreatCv
set_option linter.unusedVariables false
namespace Go.Proofs.YtpipehenfcbjbaaGreat
open Go.ChangeShapes Go.WideShapes Go.ChangeAt Go.RowKit
def GeoMade (g : Gm) : Prop := ∀ (F : Nat → Prop) (pn : Option Addr) (nn cn : Nat) (pk : Option Addr) (nk ck : Nat) (w : World), New F w → FlSl F w (.slice pn nn cn) g.nums → GmSl F w (.slice pk nk ck) g.kids →
    Calls Tryz.prog 13 #[.agg #[.int .i64 g.kind, .int .i64 g.dim, .slice pn nn cn, .slice pk nk ck]] w (IsOb F w 7 (newOf g))
theorem newAll_all : ∀ l : List Gm, newAll (-1) l = l.map newOf
  | [] => rfl
  | a :: r => by
    rw [newAll, if_pos (Or.inl (by decide)), newAll_all r, List.map_cons]
set_option maxHeartbeats 4000000 in
set_option maxRecDepth 100000 in
theorem geometries_any (F : Nat → Prop) (ks : List Gm) (pk : Option Addr) (m ck : Nat) (w : World) (hF : New F w) (hK : GmSl F w (.slice pk m ck) ks) (hm31 : ks.length ≤ 1048576) (hih : ∀ k ∈ ks, GeoMade k) : Calls Tryz.prog 59 #[.slice pk m ck] w (IsObs F w 7 2 m (ks.map newOf)) := by
  obtain ⟨_, _, hve, hkl, hkc⟩ := hK.isSlice
  cases hve
  have HK := Lib.hid hK
  have HIH := Lib.hid hih
  clear hK hih
  generalize hn : ks.length = n at *
  have HN := Lib.hid hn
  clear hn
  obtain ⟨i0, hi, hz0, hz1, hz2⟩ := info_parts infoGe
  go_enter Tryz.func59, Tryz.ntmps59
  go_wp2_with (at_make; refine wpList_make_full _ rfl (.tmp 7) (.tmp 7) 70 rfl w.heap.size 36 i0 (.agg #[.int .i64 0, .nilIface]) 2 Tryz.underlying70 hi hz0 hz1 .i64 .i64 _ _ n rfl rfl rfl rfl ?b2 ?b3 ?b4 ?_; (case b2 => (rw [hz2]; omega)); (case b3 => (unfold maxLen; omega)); (case b4 => simp); intro w1 hown hgrow; obtain ⟨arr0, hB0, hs0⟩ := hown.blk; have HW1 := Lib.hid (Bel.of_grown0 hgrow); have HP0 := Lib.hid hB0; have HS0 := Lib.hid hs0; clear hown hgrow hB0 hs0)
  go_loopw [11] (fun iv wr => ∃ (t : Nat) (arr : Array Value), iv = .int .i64 t ∧ t ≤ n ∧ Bel w wr ∧ Blk wr w.heap.size arr 36 ∧ arr.size = n * 2 ∧ RowOb (fun b => (F b ∧ b < w.heap.size) ∨ w.heap.size + 1 ≤ b) wr (fun o => arr[o]?) 7 2 ((ks.take t).map newOf)) (fun iv _ => n - (intOf iv).toNat)
  case atStart => exact ⟨0, arr0, rfl, Nat.zero_le _, HW1.out, HP0.out, HS0.out, fun i g hg => by simp at hg⟩
  case round =>
    obtain ⟨t, arr, rfl, ht, hbel, hb3, harr, hrow⟩ := hrel
    have HBEL := Lib.hid hbel
    have HG3 := Lib.hid hb3
    have HROW := Lib.hid hrow
    have l3 := hb3.lt
    clear hrow hb3
    by_cases htn : t < n
    · obtain ⟨kd, hkd⟩ : ∃ kd, ks[t]? = some kd := ⟨_, List.getElem?_eq_getElem (by have := HN.out; omega)⟩
      have hmem : kd ∈ ks := List.mem_iff_getElem?.2 ⟨t, hkd⟩
      obtain ⟨b, off, pn', nn', cn', pk', nk', ck', rfl, hlt, -, d0, d1, d2, d3, hf, hg'⟩ := HK.out.at hkd
      have D0 := cell_kept hbel d0
      have D1 := cell_kept hbel d1
      have D2 := cell_kept hbel d2
      have D3 := cell_kept hbel d3
      have hbl : b < wr.heap.size := Nat.lt_of_lt_of_le hlt hbel.size
      have HKD := Lib.hid hkd
      have HC : Hid (∀ W, Bel w W → Calls Tryz.prog 13 #[.agg #[.int .i64 kd.kind, .int .i64 kd.dim, .slice pn' nn' cn', .slice pk' nk' ck']] W (IsOb (fun b => (F b ∧ b < w.heap.size) ∨ W.heap.size ≤ b) W 7 (newOf kd))) := Lib.hid fun W hW => HIH.out kd hmem _ pn' nn' cn' pk' nk' ck' W (fun b hb => Or.inr hb) ((hf.keep hW.size (fun b _ hl => hW.block b hl) fun b hl hb => Or.inl ⟨hb, hl⟩)) ((hg'.keep hW.size (fun b _ hl => hW.block b hl) fun b hl hb => Or.inl ⟨hb, hl⟩))
      clear hmem d0 d1 d2 d3 hf hg' hbel hkd
      generalize kd.dim = kdim at *
      generalize kd.kind = kkind at *
      go_wp2_with (go_at_call 13; (with_reducible refine (HC.out _ ?hb).mono ?_); (case hb => exact HBEL.out.alloc _); rintro e w3 ⟨cs, rfl, ho, hb⟩; have HO := Lib.hid ho; obtain ⟨s1, b1, cl1, hcs1, -⟩ := ho.gi; cases hcs1; have C3 := HG3.out.bel ((Bel.alloc1 _ _).trans hb); have HB3 : Hid (Bel wr w3) := Lib.hid ((Bel.alloc1 _ _).trans hb); have HC3 := Lib.hid C3; obtain ⟨e0, k0⟩ : ∃ u, w3.cell? ⟨w.heap.size, t * 2, none⟩ = some u := ⟨arr[t * 2], (C3.rules.1 _).trans (Array.getElem?_eq_getElem (by omega))⟩; obtain ⟨e1, k1⟩ : ∃ u, w3.cell? ⟨w.heap.size, t * 2 + 1, none⟩ = some u := ⟨arr[t * 2 + 1], (C3.rules.1 _).trans (Array.getElem?_eq_getElem (by omega))⟩; have t3 := C3.rules.2; have m3 := C3.lt; have HSZ3 : Hid (wr.heap.size + 1 ≤ w3.heap.size) := Lib.hid (by have := hb.size; simp at this; exact this); clear hb C3 ho)
      go_roundw
      case rel =>
        have hs1 := HBEL.out.size
        have hs3 := HB3.out.size
        refine ⟨t + 1, (arr.setIfInBounds (t * 2) (.int .i64 s1)).setIfInBounds (t * 2 + 1) (.iface (ptrT s1) (.pointer (some ⟨b1, 0, none⟩))), by go_num, by omega, ?_, ?_, by simp [harr], ?_⟩
        · have HB := HBEL.out.trans HB3.out
          (repeat (first | with_reducible assumption | with_reducible exact Bel.refl _ | with_reducible apply Bel.alloc | with_reducible apply Bel.drew | with_reducible apply Bel.drewN | ((with_reducible apply Bel.setCellR); (simp <;> omega)) | with_reducible refine Bel.behind (by with_reducible assumption) ?_))
        · exact (HC3.out.set _ _).set _ _
        · have e1 : (ks.take (t + 1)).map newOf = (ks.take t).map newOf ++ [newOf kd] := by
            rw [List.take_add_one, HKD.out]
            simp
          rw [e1]
          refine RowOb.push (t := t) (cl := [.int .i64 s1, .iface (ptrT s1) (.pointer (some ⟨b1, 0, none⟩))]) (HROW.out.keep (by simp; omega) (fun b hb hl => ?_) fun b _ hb => hb) (by rw [List.length_map, List.length_take]; have := HN.out; omega) (fun o u ho hu => ?_) rfl (fun j u hu => ?_) (HO.out.keep (by simp) (fun b hb hl => ?_) fun b _ hb => ?_)
          · rw [Below.heap_setCell _ _ _ _ (by simp; omega), Below.heap_setCell _ _ _ _ (by simp; omega)]
            exact HB3.out.block b hl
          · show (_ : Array Value)[o]? = some u
            rw [Array.getElem?_setIfInBounds_ne (by omega), Array.getElem?_setIfInBounds_ne (by omega)]
            exact hu
          · have hlt2 := (List.getElem?_eq_some_iff.1 hu).1
            simp at hlt2
            show (_ : Array Value)[t * 2 + j]? = some u
            match j, hlt2 with
            | 0, _ =>
              simp at hu
              subst hu
              rw [Array.getElem?_setIfInBounds_ne (by omega)]
              exact Array.getElem?_setIfInBounds_self_of_lt (by omega)
            | 1, _ =>
              simp at hu
              subst hu
              exact Array.getElem?_setIfInBounds_self_of_lt (by (try simp only [Array.size_setIfInBounds]); omega)
          · rw [Below.heap_setCell _ _ _ _ (by simp; simp at hb; omega), Below.heap_setCell _ _ _ _ (by simp; simp at hb; omega)]
          · rcases hb with hb | hb
            · exact Or.inl hb
            · exact Or.inr (by simp at hb; omega)
      case measure => simp [intOf]; omega
    · obtain rfl : t = n := by omega
      have hfin := HROW.out
      rw [List.take_of_length_le (by have := HN.out; omega)] at hfin
      have HFIN : Hid (ObSl F wr 7 2 (.slice (some ⟨w.heap.size, 0, none⟩) t t) (ks.map newOf)) := Lib.hid ⟨_, t, by rw [List.length_map, HN.out], Nat.le_of_eq (by rw [List.length_map, HN.out]), by omega, fun _ => ⟨w.heap.size, 0, rfl, l3, hF _ (Nat.le_refl _), (hfin.keep (Nat.le_refl _) (fun _ _ _ => rfl) fun b _ hb => by
          rcases hb with hb | hb
          · exact hb.1
          · exact hF b (by omega)).cells fun o u ho => by
          rw [Nat.zero_add]
          exact (HG3.out.rules.1 o).trans ho⟩⟩
      clear hfin
      go_wp2
      go_ret
      exact ⟨_, _, rfl, HFIN.out, HBEL.out⟩
set_option maxHeartbeats 4000000 in
set_option maxRecDepth 100000 in
theorem collectionOb_any (F : Nat → Prop) (g : Gm) (hk : kindOf g.kind = 0) (hsz : g.size ≤ 1048576) (pn : Option Addr) (nn cn : Nat) (pk : Option Addr) (nk ck : Nat) (w : World) (hF : New F w) (hK : GmSl F w (.slice pk nk ck) g.kids) (hih : ∀ k ∈ g.kids, GeoMade k) :
    Calls Tryz.prog 33 #[.agg #[.int .i64 g.kind, .int .i64 g.dim, .slice pn nn cn, .slice pk nk ck]] w (IsOb F w 0 (newOf g)) := by
  have hnew := newOf_parts g 0 hk (by decide) (by decide)
  have hko : kidOf ((0 : Nat) : Int) = -1 := by decide
  rw [hko, newAll_all] at hnew
  have HNEW := Lib.hid hnew
  obtain ⟨_, _, hve, hkl, hkc⟩ := hK.isSlice
  cases hve
  have hszq := g.size_eq
  have hlen := Gm.len_sizes g.kids
  have hm31 : g.kids.length ≤ 1048576 := by omega
  have HDO := Lib.hid (dimOf_any g.dim)
  have hct := ct_le g.dim
  have HGS : Hid (∀ W, Bel w W → Calls Tryz.prog 59 #[.slice pk g.kids.length ck] W (IsObs (fun b => (F b ∧ b < w.heap.size) ∨ W.heap.size ≤ b) W 7 2 g.kids.length (g.kids.map newOf))) := Lib.hid fun W hW => geometries_any _ g.kids pk _ ck W (fun b hb => Or.inr hb) (hK.keep hW.size (fun b _ hl => hW.block b hl) fun b hl hb => Or.inl ⟨hb, hl⟩) hm31 hih
  clear hK hih hnew hko hszq hlen hsz hk
  generalize ct g.dim = cd at *
  generalize g.dim = dim at *
  generalize g.kind = kind at *
  generalize hks : g.kids = ks at *
  generalize hm : ks.length = m at *
  have HM := Lib.hid hm
  clear hm
  by_cases hm0 : m = 0
  · subst hm0
    have hnil : ks = [] := List.length_eq_zero_iff.1 HM.out
    have HR : Hid (newOf g = .mk 0 cd [] []) := Lib.hid (by rw [HNEW.out, hnil]; rfl)
    have HFC : Hid (∀ W, Calls Tryz.prog 57 #[.agg #[.slice none 0 0, .int .u8 0], .int .u8 cd] W (IsOb (fun b => W.heap.size ≤ b) W 0 (newOf g))) := Lib.hid fun W => by
      have h := collForce_any (fun b => W.heap.size ≤ b) [.slice none 0 0, .int .u8 0] (.mk 0 0 [] []) cd hct W (fun b hb => hb) (.parts 0 7 2 0 none 0 [] (fun _ => []) rfl (by decide) (Nat.zero_le _) (by decide) (by decide) (fun h => absurd rfl h) (fun i g h => by simp at h) (fun i g h => by simp at h)) (fun k hk => by simp [Gm.kids] at hk)
      have e : force cd (.mk 0 0 [] []) = newOf g := by
        rw [HR.out]
        exact force_parts (s := 0) (by decide) (by decide) 0 cd []
      rw [e] at h
      exact h
    clear hnil hks
    go_enter Tryz.func33, Tryz.ntmps33
    go_wp2_with (first
      | (go_at_call 45; refine (HDO.out _).mono ?_; rintro e w' ⟨rfl, rfl⟩)
      | (go_at_call 57; (with_reducible refine (HFC.out _).mono ?_); rintro e w4 ⟨cs, rfl, ho, hb4⟩; have HO := Lib.hid ho; obtain ⟨p9, n9, q9, d9, hcs9⟩ := ho.ofSl (c := 0) (e := 7) (k := 2) rfl; cases hcs9; have C2 := (Blk.new' (w.alloc (.cells #[.int .i64 kind, .int .i64 dim, .slice pn nn cn, .slice pk 0 ck] 25)) #[.slice none 0 0, .int .u8 0] 72 (b := w.heap.size + 1) (by simp)).bel hb4; have HC2 := Lib.hid C2; obtain ⟨s2, t2, m2⟩ := C2.facts; have HB4 : Hid (Bel w w4) := Lib.hid (((Bel.alloc1 w _).alloc _).trans hb4); clear hb4 ho C2))
    refine post_ret (results_one rfl (resIs_agg (n := 2) (cs := #[.slice p9 n9 q9, .int .u8 d9]) (by rfl) Tryz.underlying72 (by kernel_rfl) (T := 72) ?_ rfl)) ⟨_, rfl, HO.out.keep (by simp) (fun b hb hl => ?_) (fun b _ hb => hF b (by simp at hb; omega)), ?_⟩
    · have HB := HC2.out
      (apply Blk.cast; (repeat (first | with_reducible assumption | with_reducible apply Blk.set | ((with_reducible apply Blk.otherR); (focus ((simp <;> omega); done))) | with_reducible exact Blk.new _ _ _ | ((with_reducible apply Blk.new'); (focus (simp; done))) | with_reducible apply Blk.alloc | with_reducible apply Blk.drew | with_reducible apply Blk.drewN | (with_reducible refine Blk.bel ?_ (by with_reducible assumption)))); rfl)
    · rw [Below.heap_setCell _ _ _ _ (by simp; simp at hb; omega), Below.heap_setCell _ _ _ _ (by simp; simp at hb; omega)]
    · have HB := HB4.out
      (repeat (first | with_reducible assumption | with_reducible exact Bel.refl _ | with_reducible apply Bel.alloc | with_reducible apply Bel.drew | with_reducible apply Bel.drewN | ((with_reducible apply Bel.setCellR); (simp <;> omega)) | with_reducible refine Bel.behind (by with_reducible assumption) ?_))
  · have hmz : ((m : Int) == 0) = false := by simp; omega
    have hne : (ks.map newOf).isEmpty = false := by
      have := HM.out
      cases hq : ks with
      | nil => rw [hq] at this; simp at this; omega
      | cons a r => rfl
    have HR : Hid (newOf g = .mk 0 (common (ks.map newOf)) [] ((ks.map newOf).map (force (common (ks.map newOf))))) := Lib.hid (by rw [HNEW.out, hne]; rfl)
    have HNC : Hid (∀ (F' : Nat → Prop) (p : Option Addr) (cap : Nat) (W : World), New F' W → ObSl F' W 7 2 (.slice p m cap) (ks.map newOf) → Calls Tryz.prog 58 #[.slice p m cap] W (IsOb F' W 0 (newOf g))) := Lib.hid fun F' p cap W hF' hsl => by
      rw [HR.out]
      exact newColl_any F' p m cap _ W hF' hsl (by omega) hm31
    clear hne hks
    go_enter Tryz.func33, Tryz.ntmps33
    go_wp2_with (first
      | (go_at_call 59; (with_reducible refine (HGS.out _ ?hb).mono ?_); (case hb => (repeat (first | with_reducible assumption | with_reducible exact Bel.refl _ | with_reducible apply Bel.alloc | with_reducible apply Bel.drew | with_reducible apply Bel.drewN | ((with_reducible apply Bel.setCellR); (simp <;> omega)) | with_reducible refine Bel.behind (by with_reducible assumption) ?_))); rintro e w3 ⟨p3, c3, rfl, ho3, hb3⟩; have HO3 := Lib.hid ho3; have C2 := (Blk.new' (w.alloc (.cells #[.int .i64 kind, .int .i64 dim, .slice pn nn cn, .slice pk m ck] 25)) #[.slice none 0 0, .int .u8 0] 72 (b := w.heap.size + 1) (by simp)).bel hb3; have HC2 := Lib.hid C2; have HB3 : Hid (Bel w w3) := Lib.hid (((Bel.alloc1 w _).alloc _).trans hb3); have HSZ3 : Hid (w.heap.size + 2 ≤ w3.heap.size) := Lib.hid (by have := hb3.size; simp at this; omega); clear hb3 ho3 C2)
      | (go_at_call 58; (with_reducible refine (HNC.out (fun b => (F b ∧ b < w.heap.size) ∨ w.heap.size + 2 ≤ b) _ _ _ ?hn ?ho).mono ?_); (case hn => exact fun b hb => Or.inr (by have := HSZ3.out; omega)); (case ho => exact HO3.out.keep (Nat.le_refl _) (fun _ _ _ => rfl) (fun b _ hb => by rcases hb with hb | hb; exact Or.inl hb; exact Or.inr (by simp at hb; omega))); rintro e w4 ⟨cs, rfl, ho, hb4⟩; have HO := Lib.hid ho; obtain ⟨p9, n9, q9, d9, hcs9⟩ := ho.ofSl (c := 0) (e := 7) (k := 2) rfl; cases hcs9; have C2 := HC2.out.bel hb4; have HC4 := Lib.hid C2; obtain ⟨s2, t2, m2⟩ := C2.facts; have HB4 : Hid (Bel w w4) := Lib.hid (HB3.out.trans hb4); clear hb4 ho C2))
    refine post_ret (results_one rfl (resIs_agg (n := 2) (cs := #[.slice p9 n9 q9, .int .u8 d9]) (by rfl) Tryz.underlying72 (by kernel_rfl) (T := 72) ?_ rfl)) ⟨_, rfl, HO.out.keep (by simp) (fun b hb hl => ?_) (fun b _ hb => ?_), ?_⟩
    · have HB := HC4.out
      (apply Blk.cast; (repeat (first | with_reducible assumption | with_reducible apply Blk.set | ((with_reducible apply Blk.otherR); (focus ((simp <;> omega); done))) | with_reducible exact Blk.new _ _ _ | ((with_reducible apply Blk.new'); (focus (simp; done))) | with_reducible apply Blk.alloc | with_reducible apply Blk.drew | with_reducible apply Blk.drewN | (with_reducible refine Blk.bel ?_ (by with_reducible assumption)))); rfl)
    · rw [Below.heap_setCell _ _ _ _ (by simp; omega), Below.heap_setCell _ _ _ _ (by simp; omega)]
    · rcases hb with hb | hb
      · exact hb.1
      · exact hF b (by omega)
    · have HB := HB4.out
      (repeat (first | with_reducible assumption | with_reducible exact Bel.refl _ | with_reducible apply Bel.alloc | with_reducible apply Bel.drew | with_reducible apply Bel.drewN | ((with_reducible apply Bel.setCellR); (simp <;> omega)) | with_reducible refine Bel.behind (by with_reducible assumption) ?_))
set_option maxHeartbeats 8000000 in
set_option maxRecDepth 100000 in
theorem geometry_ind : ∀ (n : Nat) (g : Gm), g.size ≤ n → g.size ≤ 1048576 → GeoMade g := by
  intro n
  induction n with
  | zero => exact fun g h => absurd h (by have := g.size_pos; omega)
  | succ n ih =>
    intro g hsz hbig F pn nn cn pk nk ck w hF hN hK
    have HIH : Hid (∀ k ∈ g.kids, GeoMade k) := Lib.hid fun k hk => ih k (by
      have := g.size_eq
      have := Gm.size_mem hk
      omega) (by
      have := g.size_eq
      have := Gm.size_mem hk
      omega)
    have HFN : Hid (∀ W, Bel w W → FlSl (fun b => W.heap.size ≤ b ∨ (F b ∧ b < w.heap.size)) W (.slice pn nn cn) g.nums) := Lib.hid fun W hW => hN.keep hW.size (fun b _ hl => hW.block b hl) fun b hl hb => Or.inr ⟨hb, hl⟩
    have HFK : Hid (∀ W, Bel w W → GmSl (fun b => W.heap.size ≤ b ∨ (F b ∧ b < w.heap.size)) W (.slice pk nk ck) g.kids) := Lib.hid fun W hW => hK.keep hW.size (fun b _ hl => hW.block b hl) fun b hl hb => Or.inr ⟨hb, hl⟩
    clear ih hN hK hsz
    by_cases h6 : 1 ≤ g.kind ∧ g.kind ≤ 6
    · have h7 : g.kind = 1 ∨ g.kind = 2 ∨ g.kind = 3 ∨ g.kind = 4 ∨ g.kind = 5 ∨ g.kind = 6 := by omega
      clear h6
      rcases h7 with hk | hk | hk | hk | hk | hk
      · have HC : Hid (∀ W, Bel w W → Calls Tryz.prog 21 #[.agg #[.int .i64 1, .int .i64 g.dim, .slice pn nn cn, .slice pk nk ck]] W (IsOb (fun b => W.heap.size ≤ b ∨ (F b ∧ b < w.heap.size)) W 1 (newOf g))) := Lib.hid fun W hW => pointOb_any _ g hk hbig pn nn cn pk nk ck W (fun b hb => Or.inl hb) (HFN.out W hW) (HFK.out W hW)
        rw [hk]
        clear HFN HFK HIH hk
        generalize g.dim = dim at *
        go_enter Tryz.func13, Tryz.ntmps13
        go_wp2_with (first
          | (go_at_call 21; (with_reducible refine (HC.out _ ?hb).mono ?_); (case hb => (repeat (first | with_reducible assumption | with_reducible exact Bel.refl _ | with_reducible apply Bel.alloc | with_reducible apply Bel.drew | with_reducible apply Bel.drewN | ((with_reducible apply Bel.setCellR); (simp <;> omega)) | with_reducible refine Bel.behind (by with_reducible assumption) ?_))); rintro e w2 ⟨cs2, rfl, ho2, hb2⟩; have HO2 := Lib.hid ho2; have HB2 : Hid (Bel w w2) := Lib.hid (((Bel.alloc1 w _).alloc _).trans hb2); have B2 := (Blk.new' (w.alloc (.cells #[.int .i64 1, .int .i64 dim, .slice pn nn cn, .slice pk nk ck] 25)) #[.int .i64 0, .nilIface] 36 (b := w.heap.size + 1) (by simp)).bel hb2; have HP3 := Lib.hid B2; have HSZ2 : Hid (w.heap.size + 2 ≤ w2.heap.size) := Lib.hid (by have := hb2.size; simp at this; omega); clear ho2 hb2 B2)
          | (go_at_call 22; (with_reducible refine (asGeo_1 (fun b => w.heap.size + 2 ≤ b ∨ (F b ∧ b < w.heap.size)) cs2 (newOf g) _ ?hn ?ho).mono ?_); (case hn => exact fun b hb => Or.inl (by have := HSZ2.out; omega)); (case ho => exact HO2.out.keep (Nat.le_refl _) (fun _ _ _ => rfl) (fun b _ hb => by rcases hb with hb | hb; exact Or.inl (by simp at hb; omega); exact Or.inr hb)); rintro e w3 ⟨cs3, rfl, ho3, hb3⟩; have HO3 := Lib.hid ho3; obtain ⟨s1, b1, cl1, hcs1, -⟩ := ho3.gi; cases hcs1; have B2 := HP3.out.bel hb3; have HP4 := Lib.hid B2; obtain ⟨r2, z2, l2⟩ := B2.facts; have HB3 : Hid (Bel w w3) := Lib.hid (HB2.out.trans hb3); clear ho3 hb3 B2))
        refine post_ret (results_one rfl (resIs_agg (n := 2) (cs := #[.int .i64 s1, .iface (ptrT s1) (.pointer (some ⟨b1, 0, none⟩))]) (by rfl) Tryz.underlying36 (by kernel_rfl) (T := 36) ?_ rfl)) ⟨_, rfl, HO3.out.keep (by simp) (fun b hb hl => ?_) (fun b _ hb => ?_), ?_⟩
        · have HB := HP4.out
          (apply Blk.cast; (repeat (first | with_reducible assumption | with_reducible apply Blk.set | ((with_reducible apply Blk.otherR); (focus ((simp <;> omega); done))) | with_reducible exact Blk.new _ _ _ | ((with_reducible apply Blk.new'); (focus (simp; done))) | with_reducible apply Blk.alloc | with_reducible apply Blk.drew | with_reducible apply Blk.drewN | (with_reducible refine Blk.bel ?_ (by with_reducible assumption)))); rfl)
        · rw [Below.heap_setCell _ _ _ _ (by simp; omega), Below.heap_setCell _ _ _ _ (by simp; omega)]
        · rcases hb with hb | hb
          · exact hF b (by omega)
          · exact hb.1
        · have HB := HB3.out
          (repeat (first | with_reducible assumption | with_reducible exact Bel.refl _ | with_reducible apply Bel.alloc | with_reducible apply Bel.drew | with_reducible apply Bel.drewN | ((with_reducible apply Bel.setCellR); (simp <;> omega)) | with_reducible refine Bel.behind (by with_reducible assumption) ?_))
      · have HC : Hid (∀ W, Bel w W → Calls Tryz.prog 23 #[.agg #[.int .i64 2, .int .i64 g.dim, .slice pn nn cn, .slice pk nk ck]] W (IsOb (fun b => W.heap.size ≤ b ∨ (F b ∧ b < w.heap.size)) W 2 (newOf g))) := Lib.hid fun W hW => lineOb_any _ g hk hbig pn nn cn pk nk ck W (fun b hb => Or.inl hb) (HFN.out W hW) (HFK.out W hW)
        rw [hk]
        clear HFN HFK HIH hk
        generalize g.dim = dim at *
        go_enter Tryz.func13, Tryz.ntmps13
        go_wp2_with (first
          | (go_at_call 23; (with_reducible refine (HC.out _ ?hb).mono ?_); (case hb => (repeat (first | with_reducible assumption | with_reducible exact Bel.refl _ | with_reducible apply Bel.alloc | with_reducible apply Bel.drew | with_reducible apply Bel.drewN | ((with_reducible apply Bel.setCellR); (simp <;> omega)) | with_reducible refine Bel.behind (by with_reducible assumption) ?_))); rintro e w2 ⟨cs2, rfl, ho2, hb2⟩; have HO2 := Lib.hid ho2; have HB2 : Hid (Bel w w2) := Lib.hid (((Bel.alloc1 w _).alloc _).trans hb2); have B2 := (Blk.new' (w.alloc (.cells #[.int .i64 2, .int .i64 dim, .slice pn nn cn, .slice pk nk ck] 25)) #[.int .i64 0, .nilIface] 36 (b := w.heap.size + 1) (by simp)).bel hb2; have HP3 := Lib.hid B2; have HSZ2 : Hid (w.heap.size + 2 ≤ w2.heap.size) := Lib.hid (by have := hb2.size; simp at this; omega); clear ho2 hb2 B2)
          | (go_at_call 24; (with_reducible refine (asGeo_2 (fun b => w.heap.size + 2 ≤ b ∨ (F b ∧ b < w.heap.size)) cs2 (newOf g) _ ?hn ?ho).mono ?_); (case hn => exact fun b hb => Or.inl (by have := HSZ2.out; omega)); (case ho => exact HO2.out.keep (Nat.le_refl _) (fun _ _ _ => rfl) (fun b _ hb => by rcases hb with hb | hb; exact Or.inl (by simp at hb; omega); exact Or.inr hb)); rintro e w3 ⟨cs3, rfl, ho3, hb3⟩; have HO3 := Lib.hid ho3; obtain ⟨s1, b1, cl1, hcs1, -⟩ := ho3.gi; cases hcs1; have B2 := HP3.out.bel hb3; have HP4 := Lib.hid B2; obtain ⟨r2, z2, l2⟩ := B2.facts; have HB3 : Hid (Bel w w3) := Lib.hid (HB2.out.trans hb3); clear ho3 hb3 B2))
        refine post_ret (results_one rfl (resIs_agg (n := 2) (cs := #[.int .i64 s1, .iface (ptrT s1) (.pointer (some ⟨b1, 0, none⟩))]) (by rfl) Tryz.underlying36 (by kernel_rfl) (T := 36) ?_ rfl)) ⟨_, rfl, HO3.out.keep (by simp) (fun b hb hl => ?_) (fun b _ hb => ?_), ?_⟩
        · have HB := HP4.out
          (apply Blk.cast; (repeat (first | with_reducible assumption | with_reducible apply Blk.set | ((with_reducible apply Blk.otherR); (focus ((simp <;> omega); done))) | with_reducible exact Blk.new _ _ _ | ((with_reducible apply Blk.new'); (focus (simp; done))) | with_reducible apply Blk.alloc | with_reducible apply Blk.drew | with_reducible apply Blk.drewN | (with_reducible refine Blk.bel ?_ (by with_reducible assumption)))); rfl)
        · rw [Below.heap_setCell _ _ _ _ (by simp; omega), Below.heap_setCell _ _ _ _ (by simp; omega)]
        · rcases hb with hb | hb
          · exact hF b (by omega)
          · exact hb.1
        · have HB := HB3.out
          (repeat (first | with_reducible assumption | with_reducible exact Bel.refl _ | with_reducible apply Bel.alloc | with_reducible apply Bel.drew | with_reducible apply Bel.drewN | ((with_reducible apply Bel.setCellR); (simp <;> omega)) | with_reducible refine Bel.behind (by with_reducible assumption) ?_))
      · have HC : Hid (∀ W, Bel w W → Calls Tryz.prog 25 #[.agg #[.int .i64 3, .int .i64 g.dim, .slice pn nn cn, .slice pk nk ck]] W (IsOb (fun b => W.heap.size ≤ b ∨ (F b ∧ b < w.heap.size)) W 3 (newOf g))) := Lib.hid fun W hW => polygonOb_any _ g hk hbig pn nn cn pk nk ck W (fun b hb => Or.inl hb) (HFN.out W hW) (HFK.out W hW)
        rw [hk]
        clear HFN HFK HIH hk
        generalize g.dim = dim at *
        go_enter Tryz.func13, Tryz.ntmps13
        go_wp2_with (first
          | (go_at_call 25; (with_reducible refine (HC.out _ ?hb).mono ?_); (case hb => (repeat (first | with_reducible assumption | with_reducible exact Bel.refl _ | with_reducible apply Bel.alloc | with_reducible apply Bel.drew | with_reducible apply Bel.drewN | ((with_reducible apply Bel.setCellR); (simp <;> omega)) | with_reducible refine Bel.behind (by with_reducible assumption) ?_))); rintro e w2 ⟨cs2, rfl, ho2, hb2⟩; have HO2 := Lib.hid ho2; have HB2 : Hid (Bel w w2) := Lib.hid (((Bel.alloc1 w _).alloc _).trans hb2); have B2 := (Blk.new' (w.alloc (.cells #[.int .i64 3, .int .i64 dim, .slice pn nn cn, .slice pk nk ck] 25)) #[.int .i64 0, .nilIface] 36 (b := w.heap.size + 1) (by simp)).bel hb2; have HP3 := Lib.hid B2; have HSZ2 : Hid (w.heap.size + 2 ≤ w2.heap.size) := Lib.hid (by have := hb2.size; simp at this; omega); clear ho2 hb2 B2)
          | (go_at_call 26; (with_reducible refine (asGeo_3 (fun b => w.heap.size + 2 ≤ b ∨ (F b ∧ b < w.heap.size)) cs2 (newOf g) _ ?hn ?ho).mono ?_); (case hn => exact fun b hb => Or.inl (by have := HSZ2.out; omega)); (case ho => exact HO2.out.keep (Nat.le_refl _) (fun _ _ _ => rfl) (fun b _ hb => by rcases hb with hb | hb; exact Or.inl (by simp at hb; omega); exact Or.inr hb)); rintro e w3 ⟨cs3, rfl, ho3, hb3⟩; have HO3 := Lib.hid ho3; obtain ⟨s1, b1, cl1, hcs1, -⟩ := ho3.gi; cases hcs1; have B2 := HP3.out.bel hb3; have HP4 := Lib.hid B2; obtain ⟨r2, z2, l2⟩ := B2.facts; have HB3 : Hid (Bel w w3) := Lib.hid (HB2.out.trans hb3); clear ho3 hb3 B2))
        refine post_ret (results_one rfl (resIs_agg (n := 2) (cs := #[.int .i64 s1, .iface (ptrT s1) (.pointer (some ⟨b1, 0, none⟩))]) (by rfl) Tryz.underlying36 (by kernel_rfl) (T := 36) ?_ rfl)) ⟨_, rfl, HO3.out.keep (by simp) (fun b hb hl => ?_) (fun b _ hb => ?_), ?_⟩
        · have HB := HP4.out
          (apply Blk.cast; (repeat (first | with_reducible assumption | with_reducible apply Blk.set | ((with_reducible apply Blk.otherR); (focus ((simp <;> omega); done))) | with_reducible exact Blk.new _ _ _ | ((with_reducible apply Blk.new'); (focus (simp; done))) | with_reducible apply Blk.alloc | with_reducible apply Blk.drew | with_reducible apply Blk.drewN | (with_reducible refine Blk.bel ?_ (by with_reducible assumption)))); rfl)
        · rw [Below.heap_setCell _ _ _ _ (by simp; omega), Below.heap_setCell _ _ _ _ (by simp; omega)]
        · rcases hb with hb | hb
          · exact hF b (by omega)
          · exact hb.1
        · have HB := HB3.out
          (repeat (first | with_reducible assumption | with_reducible exact Bel.refl _ | with_reducible apply Bel.alloc | with_reducible apply Bel.drew | with_reducible apply Bel.drewN | ((with_reducible apply Bel.setCellR); (simp <;> omega)) | with_reducible refine Bel.behind (by with_reducible assumption) ?_))
      · have HC : Hid (∀ W, Bel w W → Calls Tryz.prog 27 #[.agg #[.int .i64 4, .int .i64 g.dim, .slice pn nn cn, .slice pk nk ck]] W (IsOb (fun b => W.heap.size ≤ b ∨ (F b ∧ b < w.heap.size)) W 4 (newOf g))) := Lib.hid fun W hW => multiPointOb_any _ g hk hbig pn nn cn pk nk ck W (fun b hb => Or.inl hb) (HFN.out W hW) (HFK.out W hW)
        rw [hk]
        clear HFN HFK HIH hk
        generalize g.dim = dim at *
        go_enter Tryz.func13, Tryz.ntmps13
        go_wp2_with (first
          | (go_at_call 27; (with_reducible refine (HC.out _ ?hb).mono ?_); (case hb => (repeat (first | with_reducible assumption | with_reducible exact Bel.refl _ | with_reducible apply Bel.alloc | with_reducible apply Bel.drew | with_reducible apply Bel.drewN | ((with_reducible apply Bel.setCellR); (simp <;> omega)) | with_reducible refine Bel.behind (by with_reducible assumption) ?_))); rintro e w2 ⟨cs2, rfl, ho2, hb2⟩; have HO2 := Lib.hid ho2; have HB2 : Hid (Bel w w2) := Lib.hid (((Bel.alloc1 w _).alloc _).trans hb2); have B2 := (Blk.new' (w.alloc (.cells #[.int .i64 4, .int .i64 dim, .slice pn nn cn, .slice pk nk ck] 25)) #[.int .i64 0, .nilIface] 36 (b := w.heap.size + 1) (by simp)).bel hb2; have HP3 := Lib.hid B2; have HSZ2 : Hid (w.heap.size + 2 ≤ w2.heap.size) := Lib.hid (by have := hb2.size; simp at this; omega); clear ho2 hb2 B2)
          | (go_at_call 28; (with_reducible refine (asGeo_4 (fun b => w.heap.size + 2 ≤ b ∨ (F b ∧ b < w.heap.size)) cs2 (newOf g) _ ?hn ?ho).mono ?_); (case hn => exact fun b hb => Or.inl (by have := HSZ2.out; omega)); (case ho => exact HO2.out.keep (Nat.le_refl _) (fun _ _ _ => rfl) (fun b _ hb => by rcases hb with hb | hb; exact Or.inl (by simp at hb; omega); exact Or.inr hb)); rintro e w3 ⟨cs3, rfl, ho3, hb3⟩; have HO3 := Lib.hid ho3; obtain ⟨s1, b1, cl1, hcs1, -⟩ := ho3.gi; cases hcs1; have B2 := HP3.out.bel hb3; have HP4 := Lib.hid B2; obtain ⟨r2, z2, l2⟩ := B2.facts; have HB3 : Hid (Bel w w3) := Lib.hid (HB2.out.trans hb3); clear ho3 hb3 B2))
        refine post_ret (results_one rfl (resIs_agg (n := 2) (cs := #[.int .i64 s1, .iface (ptrT s1) (.pointer (some ⟨b1, 0, none⟩))]) (by rfl) Tryz.underlying36 (by kernel_rfl) (T := 36) ?_ rfl)) ⟨_, rfl, HO3.out.keep (by simp) (fun b hb hl => ?_) (fun b _ hb => ?_), ?_⟩
        · have HB := HP4.out
          (apply Blk.cast; (repeat (first | with_reducible assumption | with_reducible apply Blk.set | ((with_reducible apply Blk.otherR); (focus ((simp <;> omega); done))) | with_reducible exact Blk.new _ _ _ | ((with_reducible apply Blk.new'); (focus (simp; done))) | with_reducible apply Blk.alloc | with_reducible apply Blk.drew | with_reducible apply Blk.drewN | (with_reducible refine Blk.bel ?_ (by with_reducible assumption)))); rfl)
        · rw [Below.heap_setCell _ _ _ _ (by simp; omega), Below.heap_setCell _ _ _ _ (by simp; omega)]
        · rcases hb with hb | hb
          · exact hF b (by omega)
          · exact hb.1
        · have HB := HB3.out
          (repeat (first | with_reducible assumption | with_reducible exact Bel.refl _ | with_reducible apply Bel.alloc | with_reducible apply Bel.drew | with_reducible apply Bel.drewN | ((with_reducible apply Bel.setCellR); (simp <;> omega)) | with_reducible refine Bel.behind (by with_reducible assumption) ?_))
      · have HC : Hid (∀ W, Bel w W → Calls Tryz.prog 29 #[.agg #[.int .i64 5, .int .i64 g.dim, .slice pn nn cn, .slice pk nk ck]] W (IsOb (fun b => W.heap.size ≤ b ∨ (F b ∧ b < w.heap.size)) W 5 (newOf g))) := Lib.hid fun W hW => multiLineOb_any _ g hk hbig pn nn cn pk nk ck W (fun b hb => Or.inl hb) (HFN.out W hW) (HFK.out W hW)
        rw [hk]
        clear HFN HFK HIH hk
        generalize g.dim = dim at *
        go_enter Tryz.func13, Tryz.ntmps13
        go_wp2_with (first
          | (go_at_call 29; (with_reducible refine (HC.out _ ?hb).mono ?_); (case hb => (repeat (first | with_reducible assumption | with_reducible exact Bel.refl _ | with_reducible apply Bel.alloc | with_reducible apply Bel.drew | with_reducible apply Bel.drewN | ((with_reducible apply Bel.setCellR); (simp <;> omega)) | with_reducible refine Bel.behind (by with_reducible assumption) ?_))); rintro e w2 ⟨cs2, rfl, ho2, hb2⟩; have HO2 := Lib.hid ho2; have HB2 : Hid (Bel w w2) := Lib.hid (((Bel.alloc1 w _).alloc _).trans hb2); have B2 := (Blk.new' (w.alloc (.cells #[.int .i64 5, .int .i64 dim, .slice pn nn cn, .slice pk nk ck] 25)) #[.int .i64 0, .nilIface] 36 (b := w.heap.size + 1) (by simp)).bel hb2; have HP3 := Lib.hid B2; have HSZ2 : Hid (w.heap.size + 2 ≤ w2.heap.size) := Lib.hid (by have := hb2.size; simp at this; omega); clear ho2 hb2 B2)
          | (go_at_call 30; (with_reducible refine (asGeo_5 (fun b => w.heap.size + 2 ≤ b ∨ (F b ∧ b < w.heap.size)) cs2 (newOf g) _ ?hn ?ho).mono ?_); (case hn => exact fun b hb => Or.inl (by have := HSZ2.out; omega)); (case ho => exact HO2.out.keep (Nat.le_refl _) (fun _ _ _ => rfl) (fun b _ hb => by rcases hb with hb | hb; exact Or.inl (by simp at hb; omega); exact Or.inr hb)); rintro e w3 ⟨cs3, rfl, ho3, hb3⟩; have HO3 := Lib.hid ho3; obtain ⟨s1, b1, cl1, hcs1, -⟩ := ho3.gi; cases hcs1; have B2 := HP3.out.bel hb3; have HP4 := Lib.hid B2; obtain ⟨r2, z2, l2⟩ := B2.facts; have HB3 : Hid (Bel w w3) := Lib.hid (HB2.out.trans hb3); clear ho3 hb3 B2))
        refine post_ret (results_one rfl (resIs_agg (n := 2) (cs := #[.int .i64 s1, .iface (ptrT s1) (.pointer (some ⟨b1, 0, none⟩))]) (by rfl) Tryz.underlying36 (by kernel_rfl) (T := 36) ?_ rfl)) ⟨_, rfl, HO3.out.keep (by simp) (fun b hb hl => ?_) (fun b _ hb => ?_), ?_⟩
        · have HB := HP4.out
          (apply Blk.cast; (repeat (first | with_reducible assumption | with_reducible apply Blk.set | ((with_reducible apply Blk.otherR); (focus ((simp <;> omega); done))) | with_reducible exact Blk.new _ _ _ | ((with_reducible apply Blk.new'); (focus (simp; done))) | with_reducible apply Blk.alloc | with_reducible apply Blk.drew | with_reducible apply Blk.drewN | (with_reducible refine Blk.bel ?_ (by with_reducible assumption)))); rfl)
        · rw [Below.heap_setCell _ _ _ _ (by simp; omega), Below.heap_setCell _ _ _ _ (by simp; omega)]
        · rcases hb with hb | hb
          · exact hF b (by omega)
          · exact hb.1
        · have HB := HB3.out
          (repeat (first | with_reducible assumption | with_reducible exact Bel.refl _ | with_reducible apply Bel.alloc | with_reducible apply Bel.drew | with_reducible apply Bel.drewN | ((with_reducible apply Bel.setCellR); (simp <;> omega)) | with_reducible refine Bel.behind (by with_reducible assumption) ?_))
      · have HC : Hid (∀ W, Bel w W → Calls Tryz.prog 31 #[.agg #[.int .i64 6, .int .i64 g.dim, .slice pn nn cn, .slice pk nk ck]] W (IsOb (fun b => W.heap.size ≤ b ∨ (F b ∧ b < w.heap.size)) W 6 (newOf g))) := Lib.hid fun W hW => multiPolygonOb_any _ g hk hbig pn nn cn pk nk ck W (fun b hb => Or.inl hb) (HFN.out W hW) (HFK.out W hW)
        rw [hk]
        clear HFN HFK HIH hk
        generalize g.dim = dim at *
        go_enter Tryz.func13, Tryz.ntmps13
        go_wp2_with (first
          | (go_at_call 31; (with_reducible refine (HC.out _ ?hb).mono ?_); (case hb => (repeat (first | with_reducible assumption | with_reducible exact Bel.refl _ | with_reducible apply Bel.alloc | with_reducible apply Bel.drew | with_reducible apply Bel.drewN | ((with_reducible apply Bel.setCellR); (simp <;> omega)) | with_reducible refine Bel.behind (by with_reducible assumption) ?_))); rintro e w2 ⟨cs2, rfl, ho2, hb2⟩; have HO2 := Lib.hid ho2; have HB2 : Hid (Bel w w2) := Lib.hid (((Bel.alloc1 w _).alloc _).trans hb2); have B2 := (Blk.new' (w.alloc (.cells #[.int .i64 6, .int .i64 dim, .slice pn nn cn, .slice pk nk ck] 25)) #[.int .i64 0, .nilIface] 36 (b := w.heap.size + 1) (by simp)).bel hb2; have HP3 := Lib.hid B2; have HSZ2 : Hid (w.heap.size + 2 ≤ w2.heap.size) := Lib.hid (by have := hb2.size; simp at this; omega); clear ho2 hb2 B2)
          | (go_at_call 32; (with_reducible refine (asGeo_6 (fun b => w.heap.size + 2 ≤ b ∨ (F b ∧ b < w.heap.size)) cs2 (newOf g) _ ?hn ?ho).mono ?_); (case hn => exact fun b hb => Or.inl (by have := HSZ2.out; omega)); (case ho => exact HO2.out.keep (Nat.le_refl _) (fun _ _ _ => rfl) (fun b _ hb => by rcases hb with hb | hb; exact Or.inl (by simp at hb; omega); exact Or.inr hb)); rintro e w3 ⟨cs3, rfl, ho3, hb3⟩; have HO3 := Lib.hid ho3; obtain ⟨s1, b1, cl1, hcs1, -⟩ := ho3.gi; cases hcs1; have B2 := HP3.out.bel hb3; have HP4 := Lib.hid B2; obtain ⟨r2, z2, l2⟩ := B2.facts; have HB3 : Hid (Bel w w3) := Lib.hid (HB2.out.trans hb3); clear ho3 hb3 B2))
        refine post_ret (results_one rfl (resIs_agg (n := 2) (cs := #[.int .i64 s1, .iface (ptrT s1) (.pointer (some ⟨b1, 0, none⟩))]) (by rfl) Tryz.underlying36 (by kernel_rfl) (T := 36) ?_ rfl)) ⟨_, rfl, HO3.out.keep (by simp) (fun b hb hl => ?_) (fun b _ hb => ?_), ?_⟩
        · have HB := HP4.out
          (apply Blk.cast; (repeat (first | with_reducible assumption | with_reducible apply Blk.set | ((with_reducible apply Blk.otherR); (focus ((simp <;> omega); done))) | with_reducible exact Blk.new _ _ _ | ((with_reducible apply Blk.new'); (focus (simp; done))) | with_reducible apply Blk.alloc | with_reducible apply Blk.drew | with_reducible apply Blk.drewN | (with_reducible refine Blk.bel ?_ (by with_reducible assumption)))); rfl)
        · rw [Below.heap_setCell _ _ _ _ (by simp; omega), Below.heap_setCell _ _ _ _ (by simp; omega)]
        · rcases hb with hb | hb
          · exact hF b (by omega)
          · exact hb.1
        · have HB := HB3.out
          (repeat (first | with_reducible assumption | with_reducible exact Bel.refl _ | with_reducible apply Bel.alloc | with_reducible apply Bel.drew | with_reducible apply Bel.drewN | ((with_reducible apply Bel.setCellR); (simp <;> omega)) | with_reducible refine Bel.behind (by with_reducible assumption) ?_))
    · have hk0 : kindOf g.kind = 0 := by unfold kindOf; split <;> omega
      have HC : Hid (∀ W, Bel w W → Calls Tryz.prog 33 #[.agg #[.int .i64 g.kind, .int .i64 g.dim, .slice pn nn cn, .slice pk nk ck]] W (IsOb (fun b => W.heap.size ≤ b ∨ (F b ∧ b < w.heap.size)) W 0 (newOf g))) := Lib.hid fun W hW => collectionOb_any _ g hk0 hbig pn nn cn pk nk ck W (fun b hb => Or.inl hb) (HFK.out W hW) HIH.out
      have q1 : (g.kind == 1) = false := by simp; omega
      have q2 : (g.kind == 2) = false := by simp; omega
      have q3 : (g.kind == 3) = false := by simp; omega
      have q4 : (g.kind == 4) = false := by simp; omega
      have q5 : (g.kind == 5) = false := by simp; omega
      have q6 : (g.kind == 6) = false := by simp; omega
      clear HFN HFK HIH hk0 h6
      generalize g.dim = dim at *
      generalize g.kind = kind at *
      go_enter Tryz.func13, Tryz.ntmps13
      go_wp2_with (first
        | (go_at_call 33; (with_reducible refine (HC.out _ ?hb).mono ?_); (case hb => (repeat (first | with_reducible assumption | with_reducible exact Bel.refl _ | with_reducible apply Bel.alloc | with_reducible apply Bel.drew | with_reducible apply Bel.drewN | ((with_reducible apply Bel.setCellR); (simp <;> omega)) | with_reducible refine Bel.behind (by with_reducible assumption) ?_))); rintro e w2 ⟨cs2, rfl, ho2, hb2⟩; have HO2 := Lib.hid ho2; have HB2 : Hid (Bel w w2) := Lib.hid (((Bel.alloc1 w _).alloc _).trans hb2); have B2 := (Blk.new' (w.alloc (.cells #[.int .i64 kind, .int .i64 dim, .slice pn nn cn, .slice pk nk ck] 25)) #[.int .i64 0, .nilIface] 36 (b := w.heap.size + 1) (by simp)).bel hb2; have HP3 := Lib.hid B2; have HSZ2 : Hid (w.heap.size + 2 ≤ w2.heap.size) := Lib.hid (by have := hb2.size; simp at this; omega); clear ho2 hb2 B2)
        | (go_at_call 34; (with_reducible refine (asGeo_0 (fun b => w.heap.size + 2 ≤ b ∨ (F b ∧ b < w.heap.size)) cs2 (newOf g) _ ?hn ?ho).mono ?_); (case hn => exact fun b hb => Or.inl (by have := HSZ2.out; omega)); (case ho => exact HO2.out.keep (Nat.le_refl _) (fun _ _ _ => rfl) (fun b _ hb => by rcases hb with hb | hb; exact Or.inl (by simp at hb; omega); exact Or.inr hb)); rintro e w3 ⟨cs3, rfl, ho3, hb3⟩; have HO3 := Lib.hid ho3; obtain ⟨s1, b1, cl1, hcs1, -⟩ := ho3.gi; cases hcs1; have B2 := HP3.out.bel hb3; have HP4 := Lib.hid B2; obtain ⟨r2, z2, l2⟩ := B2.facts; have HB3 : Hid (Bel w w3) := Lib.hid (HB2.out.trans hb3); clear ho3 hb3 B2))
      refine post_ret (results_one rfl (resIs_agg (n := 2) (cs := #[.int .i64 s1, .iface (ptrT s1) (.pointer (some ⟨b1, 0, none⟩))]) (by rfl) Tryz.underlying36 (by kernel_rfl) (T := 36) ?_ rfl)) ⟨_, rfl, HO3.out.keep (by simp) (fun b hb hl => ?_) (fun b _ hb => ?_), ?_⟩
      · have HB := HP4.out
        (apply Blk.cast; (repeat (first | with_reducible assumption | with_reducible apply Blk.set | ((with_reducible apply Blk.otherR); (focus ((simp <;> omega); done))) | with_reducible exact Blk.new _ _ _ | ((with_reducible apply Blk.new'); (focus (simp; done))) | with_reducible apply Blk.alloc | with_reducible apply Blk.drew | with_reducible apply Blk.drewN | (with_reducible refine Blk.bel ?_ (by with_reducible assumption)))); rfl)
      · rw [Below.heap_setCell _ _ _ _ (by simp; omega), Below.heap_setCell _ _ _ _ (by simp; omega)]
      · rcases hb with hb | hb
        · exact hF b (by omega)
        · exact hb.1
      · have HB := HB3.out
        (repeat (first | with_reducible assumption | with_reducible exact Bel.refl _ | with_reducible apply Bel.alloc | with_reducible apply Bel.drew | with_reducible apply Bel.drewN | ((with_reducible apply Bel.setCellR); (simp <;> omega)) | with_reducible refine Bel.behind (by with_reducible assumption) ?_))
theorem geometry_any (g : Gm) (h : g.size ≤ 1048576) : GeoMade g := geometry_ind g.size g (Nat.le_refl _) h
end Go.Proofs.YtpipehenfcbjbaaGreat
