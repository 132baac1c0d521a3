/-
  BulkLoad, tree, Count, Extent. No panic; what stood in memory has not turned.
-/
import Derived.Test.YtdfamnlmhikolaaDoorTi
namespace Go.Proofs.YtdfamnlmhikolaaDoor
open Go.ChangeShapes Go.WideShapes Go.ChangeAt Go.RowKit
/-- A tree of items in memory. -/
def TreeAt (w : World) (p : Nat) (L : List It) : Prop :=
  ∃ root, w.cell? ⟨p, 0, none⟩ = some (.pointer root) ∧ w.cell? ⟨p, 1, none⟩ = some (.int .i64 L.length) ∧ ((L = [] ∧ root = none) ∨ (0 < L.length ∧ ∃ k, root = some ⟨k, 0, none⟩ ∧ IsNode 0 w (treeOf L) k))
theorem TreeAt.bel {w w' : World} (hb : Bel w w') {p : Nat} {L : List It} (h : TreeAt w p L) : TreeAt w' p L := by
  obtain ⟨root, h1, h2, h3⟩ := h
  refine ⟨root, cell_kept hb h1, cell_kept hb h2, ?_⟩
  rcases h3 with h3 | ⟨h3, k, h4, h5⟩
  · exact Or.inl h3
  · exact Or.inr ⟨h3, k, h4, h5.bel hb⟩
/-- The same, with all of its blocks from B on. -/
def TreeUp (B : Nat) (w : World) (p : Nat) (L : List It) : Prop :=
  B ≤ p ∧ ∃ root, w.cell? ⟨p, 0, none⟩ = some (.pointer root) ∧ w.cell? ⟨p, 1, none⟩ = some (.int .i64 L.length) ∧ ((L = [] ∧ root = none) ∨ (0 < L.length ∧ ∃ k, root = some ⟨k, 0, none⟩ ∧ IsNode B w (treeOf L) k))
theorem TreeUp.tree {B : Nat} {w : World} {p : Nat} {L : List It} (h : TreeUp B w p L) : TreeAt w p L := by
  obtain ⟨_, root, h1, h2, h3⟩ := h
  refine ⟨root, h1, h2, ?_⟩
  rcases h3 with h3 | ⟨h3, k, h4, h5⟩
  · exact Or.inl h3
  · exact Or.inr ⟨h3, k, h4, h5.mono (Nat.zero_le _)⟩
theorem TreeUp.abv {B : Nat} {w w' : World} (hb : Abv B w w') {p : Nat} {L : List It} (h : TreeUp B w p L) : TreeUp B w' p L := by
  obtain ⟨h0, root, h1, h2, h3⟩ := h
  refine ⟨h0, root, hb.cell h0 h1, hb.cell h0 h2, ?_⟩
  rcases h3 with h3 | ⟨h3, k, h4, h5⟩
  · exact Or.inl h3
  · exact Or.inr ⟨h3, k, h4, h5.abv hb⟩
def IsTr (L : List It) (w : World) (e : Ending) (w' : World) : Prop := ∃ p, e = .returned (.pointer (some ⟨p, 0, none⟩)) ∧ TreeUp w.heap.size w' p L ∧ Bel w w'
/-- As far as the row of items is new. -/
theorem Bel.of_new {w0 w w' : World} {g : Nat} (h : Bel w0 w) (hg : w.grownBy w' (some g)) (hn : w0.heap.size ≤ g) : Bel w0 w' := Below.grown h hg (Below.size h) (fun k hk => by cases hk; exact hn)

set_option maxRecDepth 100000 in
theorem load_any (g cap : Nat) (L : List It) (h31 : L.length ≤ 100000) (hcap : L.length ≤ cap) (hcap2 : cap ≤ 9223372036854775807) (hm : ∀ t ∈ L, t.b.Small 1048576) (w0 w : World) (hw : Bel w0 w) (hg0 : w0.heap.size ≤ g) (hL : ItBlk w g L) :
    Calls Tryd.prog 18 #[.slice (some ⟨g, 0, none⟩) L.length cap] w (IsTr L w0) := by
  by_cases h0 : 0 < L.length
  · have hi : Hid (Calls Tryd.prog 25 #[.slice (some ⟨g, 0, none⟩) L.length cap] w (IsIns g [] [] L.length (treeOf L) w)) := by
      have := insert_any L.length L (Nat.le_refl _) h0 h31 g 0 cap [] [] w rfl hcap hcap2 (by simpa using hm) (by simpa using hL)
      rw [Nat.zero_mul] at this
      exact Lib.hid this
    generalize hT : treeOf L = T at *
    have HT := Lib.hid hT
    have n0 : ¬ L.length = 0 := by omega
    clear hL hm hT
    generalize hn : L.length = n at *
    have HN := Lib.hid hn
    clear hn
    go_enter Tryd.func18, Tryd.ntmps18
    go_wp2_with (go_at_call 25; (with_reducible refine hi.out.mono ?_); rintro e w1 ⟨k, l', rfl, hg1, _, _, _, hn1⟩; have HG1 := Lib.hid hg1; have HN1 := Lib.hid hn1; clear hg1 hn1)
    go_ret
    have hb : Bel w0 w1 := hw.of_new HG1.out hg0
    refine ⟨w1.heap.size, rfl, ⟨hb.size, some ⟨k, 0, none⟩, ?_, ?_, Or.inr ⟨by rw [HN.out]; exact h0, k, rfl, ?_⟩⟩, hb.alloc _⟩
    · exact ((Blk.new w1 _ _).rules.1 0).trans rfl
    · rw [HN.out]
      exact ((Blk.new w1 _ _).rules.1 1).trans rfl
    · rw [HT.out]
      exact (HN1.out.mono hw.size).bel (Bel.alloc1 _ _)
  · have e : L = [] := List.length_eq_zero_iff.1 (by omega)
    subst e
    simp only [List.length_nil] at *
    clear hL
    go_enter Tryd.func18, Tryd.ntmps18
    go_wp2
    go_ret
    refine ⟨w.heap.size, rfl, ⟨hw.size, none, ?_, ?_, Or.inl ⟨rfl, rfl⟩⟩, hw.alloc _⟩
    · exact ((Blk.new w _ _).rules.1 0).trans rfl
    · exact ((Blk.new w _ _).rules.1 1).trans rfl

/-! ### Items as they came in -/
structure Raw where
  a : Nat
  b : Nat
  c : Nat
  d : Nat
  id : Int
def Raw.Is (x : Raw) (t : It) : Prop := BxB x.a x.b x.c x.d t.b ∧ t.id = x.id
/-- A slice of items, read. -/
def RawSl (w : World) (v : Value) (xs : List Raw) : Prop :=
  ∃ p cap, v = .slice p xs.length cap ∧ xs.length ≤ cap ∧ cap ≤ 9223372036854775807 ∧
    (xs ≠ [] → ∃ b off, p = some ⟨b, off, none⟩ ∧ b < w.heap.size ∧ ∀ (i : Nat) (x : Raw), xs[i]? = some x → w.cell? ⟨b, off + i * 5, none⟩ = some (.float .f64 x.a) ∧ w.cell? ⟨b, off + i * 5 + 1, none⟩ = some (.float .f64 x.b) ∧ w.cell? ⟨b, off + i * 5 + 2, none⟩ = some (.float .f64 x.c) ∧ w.cell? ⟨b, off + i * 5 + 3, none⟩ = some (.float .f64 x.d) ∧ w.cell? ⟨b, off + i * 5 + 4, none⟩ = some (.int .i64 x.id))
theorem RawSl.bel {w w' : World} {v : Value} {xs : List Raw} (h : RawSl w v xs) (hb : Bel w w') : RawSl w' v xs := by
  obtain ⟨p, cap, hv, hl, hc, h⟩ := h
  refine ⟨p, cap, hv, hl, hc, fun hn => ?_⟩
  obtain ⟨b, off, hp, hlt, hq⟩ := h hn
  exact ⟨b, off, hp, Nat.lt_of_lt_of_le hlt hb.size, fun i x hi => ⟨(hb.cell hlt).trans (hq i x hi).1, (hb.cell hlt).trans (hq i x hi).2.1, (hb.cell hlt).trans (hq i x hi).2.2.1, (hb.cell hlt).trans (hq i x hi).2.2.2.1, (hb.cell hlt).trans (hq i x hi).2.2.2.2⟩⟩
/-- The first i cells of a row of items stand. -/
def ItPre (cs : Array Value) (L : List It) (i : Nat) : Prop := cs.size = L.length * 5 ∧ ∀ (j : Nat) (t : It), j < i → L[j]? = some t → ∃ a b c d, cs[j * 5]? = some (.float .f64 a) ∧ cs[j * 5 + 1]? = some (.float .f64 b) ∧ cs[j * 5 + 2]? = some (.float .f64 c) ∧ cs[j * 5 + 3]? = some (.float .f64 d) ∧ cs[j * 5 + 4]? = some (.int .i64 t.id) ∧ BxB a b c d t.b
theorem ItPre.all {cs : Array Value} {L : List It} (h : ItPre cs L L.length) : ItCells cs L := ⟨h.1, fun i t ht => h.2 i t (List.getElem?_eq_some_iff.1 ht).1 ht⟩
theorem ItPre.step {cs : Array Value} {L : List It} {i : Nat} (h : ItPre cs L i) {a b c d : Nat} {t : It} (ht : L[i]? = some t) (hq : BxB a b c d t.b) :
    ItPre (((((cs.setIfInBounds (i * 5) (.float .f64 a)).setIfInBounds (i * 5 + 1) (.float .f64 b)).setIfInBounds (i * 5 + 2) (.float .f64 c)).setIfInBounds (i * 5 + 3) (.float .f64 d)).setIfInBounds (i * 5 + 4) (.int .i64 t.id)) L (i + 1) := by
  obtain ⟨hs, h⟩ := h
  have hi := (List.getElem?_eq_some_iff.1 ht).1
  refine ⟨by simpa using hs, fun k s hk hks => ?_⟩
  by_cases e : k = i
  · subst e
    obtain rfl : t = s := Option.some.inj (ht.symm.trans hks)
    refine ⟨a, b, c, d, ?_, ?_, ?_, ?_, ?_, hq⟩ <;> simp (disch := (first | omega | (simp only [Array.size_setIfInBounds]; omega))) only [Array.getElem?_setIfInBounds_ne, Array.getElem?_setIfInBounds_self_of_lt]
  · obtain ⟨a', b', c', d', k0, k1, k2, k3, k4, kq⟩ := h k s (by omega) hks
    refine ⟨a', b', c', d', ?_, ?_, ?_, ?_, ?_, kq⟩ <;> (simp (disch := omega) only [Array.getElem?_setIfInBounds_ne]) <;> assumption
theorem infoBI : (Tryd.prog.info? 54).map (fun i => (i.zero, i.size, i.bytes)) = some (some (.agg #[.float .f64 0, .float .f64 0, .float .f64 0, .float .f64 0, .int .i64 0]), 5, 40) := by kernel_rfl
set_option maxHeartbeats 2000000 in
set_option maxRecDepth 100000 in
theorem tree_any (v : Value) (xs : List Raw) (L : List It) (hx : L.length = xs.length) (hx2 : ∀ (i : Nat) (x : Raw) (t : It), xs[i]? = some x → L[i]? = some t → x.Is t) (h31 : L.length ≤ 100000) (hm : ∀ t ∈ L, t.b.Small 1048576) (w : World) (h : RawSl w v xs) :
    Calls Tryd.prog 13 #[v] w (IsTr L w) := by
  obtain ⟨p, cap, rfl, hl, hc, h⟩ := h
  have HX2 := Lib.hid hx2
  have HX := Lib.hid hx
  have HM := Lib.hid hm
  have HR := Lib.hid h
  rw [← hx]
  rw [← hx] at hl
  obtain ⟨i0, hi, hz0, hz1, hz2⟩ := info_parts infoBI
  generalize hn : L.length = n at *
  have HN := Lib.hid hn
  clear hx2 hx hm h hn
  go_enter Tryd.func13, Tryd.ntmps13
  go_wp2_with (first
    | (at_make; refine wpList_make_full _ rfl (.tmp 7) (.tmp 7) 50 rfl w.heap.size 54 i0 (.agg #[.float .f64 0, .float .f64 0, .float .f64 0, .float .f64 0, .int .i64 0]) 5 Tryd.underlying50 hi hz0 hz1 .i64 .i64 _ _ n rfl rfl rfl rfl ?b2 ?b3 ?b4 ?_; (case b2 => (rw [hz2]; omega)); (case b3 => (unfold maxLen; omega)); (case b4 => simp); intro w1 hown hgrow; obtain ⟨cs0, hB0, hs0⟩ := hown.blk; have HB0 := Lib.hid hB0; have HS0 := Lib.hid hs0; have HW1 : Hid (Bel w w1) := Lib.hid (Bel.of_grown0 hgrow); clear hown hgrow hB0 hs0))
  go_loopw [11] (fun iv wr => ∃ (i : Nat) (cs : Array Value), iv = .int .i64 i ∧ i ≤ n ∧ Bel w wr ∧ Blk wr w.heap.size cs 54 ∧ ItPre cs L i) (fun iv _ => n - (intOf iv).toNat)
  case atStart => exact ⟨0, cs0, rfl, Nat.zero_le _, HW1.out, HB0.out, by rw [HS0.out, HN.out], fun j t hj => absurd hj (by omega)⟩
  case round =>
    obtain ⟨i, cs, rfl, hi', hbel, hb, hcs⟩ := hrel
    have HBEL := Lib.hid hbel
    have HB := Lib.hid hb
    have HCS := Lib.hid hcs
    clear HB0 HS0 HW1
    by_cases hin : i < n
    · have hxl : i < xs.length := by have := HX.out; omega
      obtain ⟨b, off, rfl, hlt, hq⟩ := HR.out (by intro e; rw [e] at hxl; simp at hxl)
      obtain ⟨x, hx⟩ : ∃ x, xs[i]? = some x := ⟨_, List.getElem?_eq_getElem hxl⟩
      obtain ⟨t, ht⟩ : ∃ t, L[i]? = some t := ⟨_, List.getElem?_eq_getElem (by have := HN.out; omega)⟩
      obtain ⟨d0, d1, d2, d3, d4⟩ := hq i x hx
      have D0 := cell_kept hbel d0
      have D1 := cell_kept hbel d1
      have D2 := cell_kept hbel d2
      have D3 := cell_kept hbel d3
      have D4 := cell_kept hbel d4
      have hIs := HX2.out i x t hx ht
      have ISB := Lib.hid hIs.1
      have ISI := Lib.hid hIs.2
      have HT := Lib.hid ht
      have hsz : cs.size = n * 5 := by rw [hcs.1, HN.out]
      have hbl : b < wr.heap.size := Nat.lt_of_lt_of_le hlt hbel.size
      obtain ⟨r1, z1, l1⟩ := hb.facts
      obtain ⟨v0, hv0⟩ : ∃ v, cs[i * 5]? = some v := ⟨_, Array.getElem?_eq_getElem (by omega)⟩
      obtain ⟨v1, hv1⟩ : ∃ v, cs[i * 5 + 1]? = some v := ⟨_, Array.getElem?_eq_getElem (by omega)⟩
      obtain ⟨v2, hv2⟩ : ∃ v, cs[i * 5 + 2]? = some v := ⟨_, Array.getElem?_eq_getElem (by omega)⟩
      obtain ⟨v3, hv3⟩ : ∃ v, cs[i * 5 + 3]? = some v := ⟨_, Array.getElem?_eq_getElem (by omega)⟩
      obtain ⟨v4, hv4⟩ : ∃ v, cs[i * 5 + 4]? = some v := ⟨_, Array.getElem?_eq_getElem (by omega)⟩
      have V0 := Lib.hid hv0
      have V1 := Lib.hid hv1
      have V2 := Lib.hid hv2
      have V3 := Lib.hid hv3
      have V4 := Lib.hid hv4
      clear hq d0 d1 d2 d3 d4 hIs hx ht hbel hb hcs hsz r1 z1 hv0 hv1 hv2 hv3 hv4
      go_wp2
      go_region_with (first
        | (go_at_call 17; (with_reducible refine (box_any _ _ _ _ _).mono ?_); rintro e w3 ⟨rfl, hb3⟩; have HB3 : Hid (Bel wr w3) := Lib.hid (by (repeat (first | with_reducible assumption | with_reducible exact Bel.refl _ | with_reducible apply Bel.alloc | with_reducible apply Bel.drew | with_reducible apply Bel.drewN | ((with_reducible apply Bel.setCellR); (simp <;> omega)) | with_reducible refine Bel.behind (by with_reducible assumption) ?_))); have HB4 := Lib.hid hb3; have B3 := Lib.hid (HB.out.bel HB3.out); obtain ⟨r3, z3, l3⟩ := B3.out.facts; have c0 := (r3 (i * 5)).trans V0.out; have c1 := (r3 (i * 5 + 1)).trans V1.out; have c2 := (r3 (i * 5 + 2)).trans V2.out; have c3 := (r3 (i * 5 + 3)).trans V3.out; have c4 := (r3 (i * 5 + 4)).trans V4.out; have B4 := ((Blk.new wr #[.float .f64 x.a, .float .f64 x.b, .float .f64 x.c, .float .f64 x.d, .int .i64 x.id] 32).bel (Bel.refl _).drew).bel hb3; obtain ⟨r4, z4, l4⟩ := B4.facts; clear r3 hb3))
      all_goals
        go_wp2
        go_roundw
        case rel =>
          refine ⟨i + 1, _, by go_num, by omega, ((((((HBEL.out.trans HB3.out).setCell (by simp) _).setCell (by simp) _).setCell (by simp) _).setCell (by simp) _).setCell (by simp) _), ((((B3.out.set _ _).set _ _).set _ _).set _ _).set _ _, ?_⟩
          rw [← ISI.out]
          exact HCS.out.step HT.out ISB.out
        case measure => simp [intOf]; omega
    · obtain rfl : i = n := by omega
      have hall : ItBlk wr w.heap.size L := ⟨cs, hb, ItPre.all (by rw [HN.out]; exact hcs)⟩
      have HLOAD : Hid (Calls Tryd.prog 18 #[.slice (some ⟨w.heap.size, 0, none⟩) i i] wr (IsTr L w)) := by
        have := load_any w.heap.size i L (by rw [HN.out]; exact h31) (by rw [HN.out]; exact Nat.le_refl _) (by omega) HM.out w wr hbel (Nat.le_refl _) hall
        rw [HN.out] at this
        exact Lib.hid this
      clear hbel hb hcs hall
      go_wp2_with (go_at_call 18; (with_reducible refine HLOAD.out.mono ?_); rintro e w4 ⟨q, rfl, ht4, hb4⟩; have HT4 := Lib.hid ht4; have HB4 := Lib.hid hb4; clear ht4 hb4)
      go_ret
      exact ⟨q, rfl, HT4.out, HB4.out⟩
set_option maxRecDepth 100000 in
theorem count_any (p : Nat) (L : List It) (w : World) (h : TreeAt w p L) : Calls Tryd.prog 24 #[.pointer (some ⟨p, 0, none⟩)] w fun e w' => e = .returned (.int .i64 L.length) ∧ w = w' := by
  obtain ⟨root, h1, h2, _⟩ := h
  go_enter Tryd.func24, Tryd.ntmps24
  go_wp2
  go_ret
  exact ⟨rfl, rfl⟩
/-- What comes back is a box, and whether there is one. -/
def IsExt (L : List It) (w : World) (e : Ending) (w' : World) : Prop := ∃ x y z u, e = .returned (.tuple #[.agg #[.float .f64 x, .float .f64 y, .float .f64 z, .float .f64 u], .bool (decide (0 < L.length))]) ∧ (0 < L.length → BxB x y z u (treeOf L).bound) ∧ (L.length = 0 → BxB x y z u ⟨0, 0, 0, 0⟩) ∧ Bel w w'
set_option maxRecDepth 100000 in
theorem extent_any (p : Nat) (L : List It) (w : World) (h : TreeAt w p L) : Calls Tryd.prog 23 #[.pointer (some ⟨p, 0, none⟩)] w (IsExt L w) := by
  obtain ⟨root, h1, _, h3⟩ := h
  rcases h3 with ⟨rfl, rfl⟩ | ⟨h0, k, rfl, hn⟩
  · have hl := World.block_lt_of_cell? w _ h1
    simp only at hl
    go_enter Tryd.func23, Tryd.ntmps23
    go_wp2
    refine post_ret (results_two rfl (resIs_agg (n := 4) (cs := #[.float .f64 0, .float .f64 0, .float .f64 0, .float .f64 0]) (by rfl) Tryd.underlying51 (by kernel_rfl) (T := 51) ?_ rfl) (resIs_tmp (by rfl))) ⟨0, 0, 0, 0, rfl, by simp, fun _ => ⟨Is.zero, Is.zero, Is.zero, Is.zero⟩, ?_⟩
    · (apply Blk.cast; (repeat (first | with_reducible assumption | with_reducible apply Blk.set | ((with_reducible apply Blk.otherR); (focus ((simp <;> omega); done))) | with_reducible exact Blk.new _ _ _ | ((with_reducible apply Blk.new'); (focus (simp; done))) | with_reducible apply Blk.alloc | with_reducible apply Blk.drew | with_reducible apply Blk.drewN | (with_reducible refine Blk.bel ?_ (by with_reducible assumption)))); rfl)
    · (repeat (first | with_reducible assumption | with_reducible exact Bel.refl _ | with_reducible apply Bel.alloc | with_reducible apply Bel.drew | with_reducible apply Bel.drewN | ((with_reducible apply Bel.setCellR); (simp <;> omega)) | with_reducible refine Bel.behind (by with_reducible assumption) ?_))
  · have hnum := hn.num
    have hl := World.block_lt_of_cell? w _ h1
    have hk := World.block_lt_of_cell? w _ hnum
    simp only at hl hk
    have hpos := hn.pos
    have n0 : ¬ (treeOf L).len = 0 := by omega
    have HN := Lib.hid hn
    clear hn hpos
    generalize hT : treeOf L = T at *
    have HT := Lib.hid hT
    clear hT
    go_enter Tryd.func23, Tryd.ntmps23
    go_wp2_with (go_at_call 33; (with_reducible refine (bound_any 0 T k _ (HN.out.bel ?hb)).mono ?_); (case hb => (repeat (first | with_reducible assumption | with_reducible exact Bel.refl _ | with_reducible apply Bel.alloc | with_reducible apply Bel.drew | with_reducible apply Bel.drewN | ((with_reducible apply Bel.setCellR); (simp <;> omega)) | with_reducible refine Bel.behind (by with_reducible assumption) ?_))); rintro e w1 ⟨x, y, z, u, rfl, hq1, hb1⟩; have HB1 := Lib.hid hb1; have HQ1 := Lib.hid hq1; have B1 := (Blk.new w #[.float .f64 0, .float .f64 0, .float .f64 0, .float .f64 0] 51).bel hb1; obtain ⟨r1, z1, l1⟩ := B1.facts; clear hq1)
    refine post_ret (results_two rfl (resIs_agg (n := 4) (cs := #[.float .f64 x, .float .f64 y, .float .f64 z, .float .f64 u]) (by rfl) Tryd.underlying51 (by kernel_rfl) (T := 51) ?_ rfl) (resIs_tmp (by rfl))) ⟨x, y, z, u, ?_, fun _ => ?_, fun h => absurd h (by omega), ?_⟩
    · exact (((B1.set 0 _).set 1 _).set 2 _).set 3 _
    · rw [decide_eq_true h0]
      rfl
    · rw [HT.out]
      exact HQ1.out
    · exact ((((((Bel.refl w).alloc _).trans HB1.out).setCell (by simp) _).setCell (by simp) _).setCell (by simp) _).setCell (by simp) _
end Go.Proofs.YtdfamnlmhikolaaDoor
