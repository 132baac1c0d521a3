/-
  The dimension of geometries, the highest one of what is not empty. No panic; what stood in memory has not turned.
-/
import Derived.Test.YtpipehenfcbjbaaGreatEm
set_option linter.unusedVariables false
namespace Go.Proofs.YtpipehenfcbjbaaGreat
open Go.ChangeShapes Go.WideShapes Go.ChangeAt Go.RowKit
mutual
def dimG : Gm → Int
  | .mk k _ _ ks => if k = 2 ∨ k = 5 then 1 else if k = 3 ∨ k = 6 then 2 else dimAll ks
def dimAll : List Gm → Int
  | [] => 0
  | g :: r => max (dimG g) (dimAll r)
end
mutual
def highOf : Gm → Int
  | .mk k d ns ks => if emptyOf (.mk k d ns ks) = true then 0 else if k = 0 then highAll ks else dimG (.mk k d ns ks)
def highAll : List Gm → Int
  | [] => 0
  | g :: r => max (highOf g) (highAll r)
end
theorem dimAll_bd : ∀ (ks : List Gm), (∀ k ∈ ks, 0 ≤ dimG k ∧ dimG k ≤ 2) → 0 ≤ dimAll ks ∧ dimAll ks ≤ 2
  | [], _ => by simp [dimAll]
  | g :: r, h => by
    have h1 := dimAll_bd r fun k hk => h k (by simp [hk])
    have h2 := h g (by simp)
    simp only [dimAll]
    omega
theorem dimG_bd : ∀ (n : Nat) (g : Gm), g.size ≤ n → 0 ≤ dimG g ∧ dimG g ≤ 2
  | 0, g, h => absurd h (by have := g.size_pos; omega)
  | n + 1, .mk k d ns ks, h => by
    have hk := dimAll_bd ks fun g hg => dimG_bd n g (by
      have := Gm.size_mem hg
      simp only [Gm.size] at h
      omega)
    simp only [dimG]
    split
    · omega
    · split <;> omega
theorem highAll_bd : ∀ (ks : List Gm), (∀ k ∈ ks, 0 ≤ highOf k ∧ highOf k ≤ 2) → 0 ≤ highAll ks ∧ highAll ks ≤ 2
  | [], _ => by simp [highAll]
  | g :: r, h => by
    have h1 := highAll_bd r fun k hk => h k (by simp [hk])
    have h2 := h g (by simp)
    simp only [highAll]
    omega
theorem highOf_bd : ∀ (n : Nat) (g : Gm), g.size ≤ n → 0 ≤ highOf g ∧ highOf g ≤ 2
  | 0, g, h => absurd h (by have := g.size_pos; omega)
  | n + 1, .mk k d ns ks, h => by
    have hk := highAll_bd ks fun g hg => highOf_bd n g (by
      have := Gm.size_mem hg
      simp only [Gm.size] at h
      omega)
    have hd := dimG_bd (n + 1) (.mk k d ns ks) h
    rw [highOf]
    split
    · omega
    · split <;> omega
theorem highAll_take {gs : List Gm} {t : Nat} {g : Gm} (h : gs[t]? = some g) : highAll (gs.take (t + 1)) = max (highAll (gs.take t)) (highOf g) := by
  have key : ∀ (l : List Gm) (a : Gm), highAll (l ++ [a]) = max (highAll l) (highOf a) := fun l a => by
    induction l with
    | nil =>
      have := highOf_bd a.size a (Nat.le_refl _)
      simp only [List.nil_append, highAll]
      omega
    | cons x r ih =>
      simp only [List.cons_append, highAll, ih]
      omega
  rw [List.take_add_one, h]
  exact key _ _
theorem dimAll_take {gs : List Gm} {t : Nat} {g : Gm} (h : gs[t]? = some g) : dimAll (gs.take (t + 1)) = max (dimAll (gs.take t)) (dimG g) := by
  have key : ∀ (l : List Gm) (a : Gm), dimAll (l ++ [a]) = max (dimAll l) (dimG a) := fun l a => by
    induction l with
    | nil =>
      have := dimG_bd a.size a (Nat.le_refl _)
      simp only [List.nil_append, dimAll]
      omega
    | cons x r ih =>
      simp only [List.cons_append, dimAll, ih]
      omega
  rw [List.take_add_one, h]
  exact key _ _
theorem max_any (a b : Int) (w : World) : Calls Tryz.prog 41 #[.int .i64 a, .int .i64 b] w fun e w' => e = .returned (.int .i64 (max a b)) ∧ w = w' := by
  by_cases h : b < a
  · have hm : max a b = a := by omega
    rw [hm]
    go_enter Tryz.func41, Tryz.ntmps41
    go_wp2
    go_ret
    exact ⟨rfl, rfl⟩
  · have hm : max a b = b := by omega
    rw [hm]
    go_enter Tryz.func41, Tryz.ntmps41
    go_wp2
    go_ret
    exact ⟨rfl, rfl⟩
theorem isColl_any (s : Int) (v : Value) (w : World) : Calls Tryz.prog 38 #[.agg #[.int .i64 s, v]] w fun e w' => e = .returned (.bool (s == 0)) ∧ Bel w w' := by
  go_enter Tryz.func38, Tryz.ntmps38
  go_wp2
  go_ret
  exact ⟨rfl, by (repeat (first | with_reducible assumption | with_reducible exact Bel.refl _ | with_reducible apply Bel.alloc | with_reducible apply Bel.drew | with_reducible apply Bel.drewN | ((with_reducible apply Bel.setCellR); (simp <;> omega)) | with_reducible refine Bel.behind (by with_reducible assumption) ?_))⟩
def dimKind (s : Nat) : Int := if s = 2 ∨ s = 5 then 1 else if s = 3 ∨ s = 6 then 2 else 0
set_option maxHeartbeats 2000000 in
theorem geoDim_any (s : Nat) (h1 : 1 ≤ s) (h6 : s ≤ 6) (v : Value) (w : World) : Calls Tryz.prog 39 #[.agg #[.int .i64 s, v]] w fun e w' => e = .returned (.int .i64 (dimKind s)) ∧ Bel w w' := by
  have h7 : s = 1 ∨ s = 2 ∨ s = 3 ∨ s = 4 ∨ s = 5 ∨ s = 6 := by omega
  rcases h7 with rfl | rfl | rfl | rfl | rfl | rfl
  all_goals
    go_enter Tryz.func39, Tryz.ntmps39
    go_wp2
    go_ret
    exact ⟨rfl, by (repeat (first | with_reducible assumption | with_reducible exact Bel.refl _ | with_reducible apply Bel.alloc | with_reducible apply Bel.drew | with_reducible apply Bel.drewN | ((with_reducible apply Bel.setCellR); (simp <;> omega)) | with_reducible refine Bel.behind (by with_reducible assumption) ?_))⟩
theorem Ob.dimg {F : Nat → Prop} {w : World} {s : Nat} {cs : List Value} {g : Gm} (h : Ob F w s cs g) (h1 : 1 ≤ s) (h6 : s ≤ 6) : dimG g = dimKind s ∧ g.kind = s := by
  refine ⟨?_, h.kind (by omega)⟩
  have h7 : s = 1 ∨ s = 2 ∨ s = 3 ∨ s = 4 ∨ s = 5 ∨ s = 6 := by omega
  rcases h7 with rfl | rfl | rfl | rfl | rfl | rfl
  · obtain ⟨x, y, z, m, c, full, -, -, rfl⟩ := h.pt
    simp [dimG, dimKind, dimAll]
  · obtain ⟨c, p, n, cap, xs, -, -, rfl, -⟩ := h.ln
    simp [dimG, dimKind]
  · obtain ⟨p, cap, c, gs, -, -, rfl, -⟩ := h.sl (e := 2) (k := 2) rfl
    simp [dimG, dimKind]
  · obtain ⟨p, cap, c, gs, -, -, rfl, -, hsl⟩ := h.sl (e := 1) (k := 6) rfl
    have hz : ∀ k ∈ gs, dimG k = 0 := fun k hk => by
      obtain ⟨i, hi⟩ := List.mem_iff_getElem?.1 hk
      obtain ⟨_, _, _, _, _, hq⟩ := hsl
      obtain ⟨b, off, _, _, _, hr⟩ := hq (by intro e; rw [e] at hi; simp at hi)
      obtain ⟨cl, _, _, hob⟩ := hr i k hi
      obtain ⟨x, y, z, m, c, full, -, -, rfl⟩ := hob.pt
      simp [dimG, dimAll]
    have hall : ∀ l : List Gm, (∀ k ∈ l, dimG k = 0) → dimAll l = 0 := fun l => by
      induction l with
      | nil => exact fun _ => rfl
      | cons a r ih =>
        intro h
        simp only [dimAll]
        rw [h a (by simp), ih fun k hk => h k (by simp [hk])]
        rfl
    simp [dimG, dimKind, hall gs hz]
  · obtain ⟨p, cap, c, gs, -, -, rfl, -⟩ := h.sl (e := 2) (k := 2) rfl
    simp [dimG, dimKind]
  · obtain ⟨p, cap, c, gs, -, -, rfl, -⟩ := h.sl (e := 3) (k := 2) rfl
    simp [dimG, dimKind]
theorem highOf_empty {g : Gm} (h : emptyOf g = true) : highOf g = 0 := by
  cases g
  rw [highOf, if_pos h]
theorem highOf_leaf {g : Gm} (h : emptyOf g = false) (hk : g.kind ≠ 0) : highOf g = dimG g := by
  cases g with
  | mk k d ns ks =>
    rw [highOf, if_neg (by rw [h]; decide), if_neg (show ¬ k = 0 from hk)]
theorem highOf_coll {g : Gm} (h : emptyOf g = false) (hk : g.kind = 0) : highOf g = highAll g.kids := by
  cases g with
  | mk k d ns ks =>
    rw [highOf, if_neg (by rw [h]; decide), if_pos (show k = 0 from hk)]
    rfl
def GeoHigh (g : Gm) : Prop := ∀ (F : Nat → Prop) (cs : List Value) (w : World), Ob F w 7 cs g → Calls Tryz.prog 20 #[.agg cs.toArray] w fun e w' => e = .returned (.int .i64 (highOf g)) ∧ Bel w w'
set_option maxHeartbeats 8000000 in
set_option maxRecDepth 100000 in
theorem geoHigh_ind : ∀ (n : Nat) (g : Gm), g.size ≤ n → GeoHigh g := by
  intro n
  induction n with
  | zero => exact fun g h => absurd h (by have := g.size_pos; omega)
  | succ n ih =>
    intro g hsz F cs w h
    have HH := Lib.hid h
    obtain ⟨s, b, cl, rfl, hs6, hlt, hFb, hc, ho⟩ := h.gi
    have HE : Hid (∀ W, Bel w W → Calls Tryz.prog 37 #[.agg #[.int .i64 s, .iface (ptrT s) (.pointer (some ⟨b, 0, none⟩))]] W fun e w' => e = .returned (.bool (emptyOf g)) ∧ Bel W w') := Lib.hid fun W hW => geoEmpty_any g F _ W (HH.out.bel hW)
    clear h
    show Calls Tryz.prog 20 #[.agg #[.int .i64 s, .iface (ptrT s) (.pointer (some ⟨b, 0, none⟩))]] w _
    rcases Bool.eq_false_or_eq_true (emptyOf g) with he | he
    · rw [highOf_empty he]
      rw [he] at HE
      clear ih hsz hc ho HH hFb he
      generalize ptrT s = T at *
      go_enter Tryz.func20, Tryz.ntmps20
      go_wp2_with (go_at_call 37; (with_reducible refine (HE.out _ ?hb).mono ?_); (case hb => (repeat (first | with_reducible assumption | with_reducible exact Bel.refl _ | with_reducible apply Bel.alloc | with_reducible apply Bel.drew | with_reducible apply Bel.drewN | ((with_reducible apply Bel.setCellR); (simp <;> omega)) | with_reducible refine Bel.behind (by with_reducible assumption) ?_))); rintro e w1 ⟨rfl, hb1⟩; have HB1 : Hid (Bel w w1) := Lib.hid ((Bel.alloc1 w _).trans hb1); clear hb1)
      go_ret
      exact ⟨rfl, HB1.out⟩
    · by_cases hs0 : s = 0
      · subst hs0
        obtain ⟨p, cap, c, gs, hcl, -, hge, -, hsl⟩ := ho.sl (e := 7) (k := 2) rfl
        subst hcl
        have hr : highOf g = highAll gs := by
          rw [highOf_coll he (by rw [hge]; rfl), hge]
          rfl
        rw [hr]
        rw [he] at HE
        have HIH : Hid (∀ k ∈ gs, GeoHigh k) := Lib.hid fun k hk => ih k (by
          have h1 := g.size_eq
          rw [hge] at h1
          have h2 := Gm.size_mem hk
          simp only [Gm.nums, Gm.kids, List.length_nil] at h1
          rw [← hge] at h1
          omega)
        have HBD : Hid (∀ l : List Gm, 0 ≤ highAll l ∧ highAll l ≤ 2) := Lib.hid fun l => highAll_bd l fun k _ => highOf_bd k.size k (Nat.le_refl _)
        have HSL := Lib.hid hsl
        have HM : Hid (∀ W, Bel w W → Calls Tryz.prog 40 #[.agg #[.int .i64 0, .iface 105 (.pointer (some ⟨b, 0, none⟩))]] W fun e w' => e = .returned (.agg #[.slice p gs.length cap, .int .u8 c]) ∧ Bel W w') := Lib.hid fun W hW => mustAs_0 _ _ _ _ b W (cell_kept hW (hc 0 _ rfl)) (cell_kept hW (hc 1 _ rfl))
        have HC0 := Lib.hid (fun w => isColl_any 0 (.iface 105 (.pointer (some ⟨b, 0, none⟩))) w)
        clear ih hsz hc ho HH hFb he hr hsl hge
        show Calls Tryz.prog 20 #[.agg #[.int .i64 0, .iface 105 (.pointer (some ⟨b, 0, none⟩))]] w _
        have HE2 : Hid (∀ W, Bel w W → Calls Tryz.prog 37 #[.agg #[.int .i64 0, .iface 105 (.pointer (some ⟨b, 0, none⟩))]] W fun e w' => e = .returned (.bool false) ∧ Bel W w') := HE
        clear HE
        generalize hn : gs.length = n at *
        have HN := Lib.hid hn
        clear hn
        go_enter Tryz.func20, Tryz.ntmps20
        go_wp2_with (first
          | (go_at_call 37; (with_reducible refine (HE2.out _ ?hb).mono ?_); (case hb => (repeat (first | with_reducible assumption | with_reducible exact Bel.refl _ | with_reducible apply Bel.alloc | with_reducible apply Bel.drew | with_reducible apply Bel.drewN | ((with_reducible apply Bel.setCellR); (simp <;> omega)) | with_reducible refine Bel.behind (by with_reducible assumption) ?_))); rintro e w1 ⟨rfl, hb1⟩; have HB1 : Hid (Bel w w1) := Lib.hid ((Bel.alloc1 w _).trans hb1); have B1 := (Blk.new w #[.int .i64 0, .iface 105 (.pointer (some ⟨b, 0, none⟩))] 36).bel hb1; obtain ⟨r1, z1, l1⟩ := B1.facts; have HP1 := Lib.hid B1; clear hb1 B1)
          | (go_at_call 38; refine (HC0.out _).mono ?_; rintro e w2 ⟨rfl, hb2⟩; have HB2 : Hid (Bel w w2) := Lib.hid (HB1.out.trans hb2); have B1 := HP1.out.bel hb2; obtain ⟨r2, z2, l2⟩ := B1.facts; clear hb2 B1)
          | (go_at_call 40; (with_reducible refine (HM.out _ HB2.out).mono ?_); rintro e w3 ⟨rfl, hb3⟩; have HB3 : Hid (Bel w w3) := Lib.hid (HB2.out.trans hb3); clear hb3))
        go_loopw [4, 19] (fun dv iv wr => ∃ t : Nat, dv = .int .i64 (highAll (gs.take t)) ∧ iv = .int .i64 t ∧ t ≤ n ∧ Bel w wr) (fun _ iv _ => n - (intOf iv).toNat)
        case atStart => exact ⟨0, by simp [highAll], rfl, Nat.zero_le _, by (have HB := HB3.out; (repeat (first | with_reducible assumption | with_reducible exact Bel.refl _ | with_reducible apply Bel.alloc | with_reducible apply Bel.drew | with_reducible apply Bel.drewN | ((with_reducible apply Bel.setCellR); (simp <;> omega)) | with_reducible refine Bel.behind (by with_reducible assumption) ?_)))⟩
        case round =>
          obtain ⟨t, rfl, rfl, ht, hbel⟩ := hrel
          have HBEL := Lib.hid hbel
          by_cases htn : t < n
          · obtain ⟨kd, hkd⟩ : ∃ g, gs[t]? = some g := ⟨_, List.getElem?_eq_getElem (by have := HN.out; omega)⟩
            obtain ⟨_, _, hve, _, _, hq⟩ := HSL.out
            cases hve
            obtain ⟨b2, off, rfl, hlt2, -, hr⟩ := hq (by intro e; rw [e] at hkd; simp at hkd)
            obtain ⟨cl, hcl, hcell, hob⟩ := hr t kd hkd
            have HC : Hid (∀ W, Bel w W → Calls Tryz.prog 20 #[.agg cl.toArray] W fun e w' => e = .returned (.int .i64 (highOf kd)) ∧ Bel W w') := Lib.hid fun W hW => HIH.out kd (List.mem_iff_getElem?.2 ⟨t, hkd⟩) F cl W (hob.bel hW)
            obtain ⟨s0, b0, cl0, hcs0, -⟩ := hob.gi
            cases hcs0
            have D0 := cell_kept hbel (hcell 0 (.int .i64 s0) rfl)
            have D1 := cell_kept hbel (hcell 1 (.iface (ptrT s0) (.pointer (some ⟨b0, 0, none⟩))) rfl)
            simp only [Nat.add_zero] at D0
            have E1 := D1
            rw [← Nat.add_assoc] at E1
            have hbl : b2 < wr.heap.size := Nat.lt_of_lt_of_le hlt2 hbel.size
            have HTK := Lib.hid (highAll_take hkd)
            have hb1 := HBD.out (gs.take t)
            clear hq hr hcell hob hcl hbel hkd
            generalize highOf kd = hv at *
            generalize highAll (gs.take t) = ha at *
            go_wp2_with (first
              | (go_at_call 20; (with_reducible refine (HC.out _ ?hb).mono ?_); (case hb => exact HBEL.out.alloc _); rintro e w4 ⟨rfl, hb⟩; have HB4 : Hid (Bel wr w4) := Lib.hid ((Bel.alloc1 _ _).trans hb); clear hb)
              | (go_at_call 41; refine (max_any _ _ _).mono ?_; rintro e w' ⟨rfl, rfl⟩))
            go_roundw
            case rel => exact ⟨t + 1, by rw [HTK.out], by go_num, by omega, HBEL.out.trans HB4.out⟩
            case measure => simp [intOf]; omega
          · obtain rfl : t = n := by omega
            have hx : gs.take t = gs := List.take_of_length_le (by have := HN.out; omega)
            rw [hx]
            clear hx hbel
            go_wp2
            go_ret
            exact ⟨rfl, HBEL.out⟩
      · have hdk := ho.dimg (by omega) hs6
        have hr : highOf g = dimKind s := by rw [highOf_leaf he (by rw [hdk.2]; omega), hdk.1]
        rw [hr]
        rw [he] at HE
        have hz : ((s : Int) == 0) = false := by simp; omega
        have HC0 := Lib.hid (fun w => isColl_any s (.iface (ptrT s) (.pointer (some ⟨b, 0, none⟩))) w)
        rw [hz] at HC0
        have HD := Lib.hid (fun w => geoDim_any s (by omega) hs6 (.iface (ptrT s) (.pointer (some ⟨b, 0, none⟩))) w)
        clear ih hsz hc ho HH hFb he hr hdk hz
        generalize ptrT s = T at *
        generalize dimKind s = dk at *
        go_enter Tryz.func20, Tryz.ntmps20
        go_wp2_with (first
          | (go_at_call 37; (with_reducible refine (HE.out _ ?hb).mono ?_); (case hb => (repeat (first | with_reducible assumption | with_reducible exact Bel.refl _ | with_reducible apply Bel.alloc | with_reducible apply Bel.drew | with_reducible apply Bel.drewN | ((with_reducible apply Bel.setCellR); (simp <;> omega)) | with_reducible refine Bel.behind (by with_reducible assumption) ?_))); rintro e w1 ⟨rfl, hb1⟩; have HB1 : Hid (Bel w w1) := Lib.hid ((Bel.alloc1 w _).trans hb1); have B1 := (Blk.new w #[.int .i64 s, .iface T (.pointer (some ⟨b, 0, none⟩))] 36).bel hb1; obtain ⟨r1, z1, l1⟩ := B1.facts; have HP1 := Lib.hid B1; clear hb1 B1)
          | (go_at_call 38; refine (HC0.out _).mono ?_; rintro e w2 ⟨rfl, hb2⟩; have HB2 : Hid (Bel w w2) := Lib.hid (HB1.out.trans hb2); have B1 := HP1.out.bel hb2; obtain ⟨r2, z2, l2⟩ := B1.facts; clear hb2 B1)
          | (go_at_call 39; (with_reducible refine (HD.out _).mono ?_); rintro e w3 ⟨rfl, hb3⟩; have HB3 : Hid (Bel w w3) := Lib.hid (HB2.out.trans hb3); clear hb3))
        go_ret
        exact ⟨rfl, HB3.out⟩
theorem geoHigh_any (g : Gm) : GeoHigh g := geoHigh_ind g.size g (Nat.le_refl _)
end Go.Proofs.YtpipehenfcbjbaaGreat
