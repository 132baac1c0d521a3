/-
  splitBulkItems2Ways, bulkNode, bulkInsert, BulkLoad, tree: the tree that is made of a row of items. No panic; nothing but the row of items has turned.
-/
import Derived.Test.YtdfamnlmhikolaaDoorTq2
import Derived.Test.YtdfamnlmhikolaaDoorTn
namespace Go.Proofs.YtdfamnlmhikolaaDoor
open Go.ChangeShapes Go.WideShapes Go.ChangeAt Go.RowKit
set_option maxHeartbeats 1000000 in
set_option maxRecDepth 100000 in
theorem split_any (g lo n cap : Nat) (A l C : List It) (hA : A.length = lo) (hl : l.length = n) (hpos : 2 ≤ n) (hn : n ≤ 100000) (hcap : n ≤ cap) (hcap2 : cap ≤ 9223372036854775807) (hm : ∀ t ∈ A ++ l ++ C, t.b.Small 1048576) (w : World) (hL : ItBlk w g (A ++ l ++ C)) :
    Calls Tryd.prog 34 #[.slice (some ⟨g, lo * 5, none⟩) n cap] w fun e w' => e = .returned (.tuple #[.slice (some ⟨g, lo * 5, none⟩) (n / 2) cap, .slice (some ⟨g, (lo + n / 2) * 5, none⟩) (n - n / 2) (cap - n / 2)]) ∧ w.grownBy w' (some g) ∧ ItBlk w' g (A ++ (half1 l ++ half2 l) ++ C) := by
  have hp : half1 l ++ half2 l = qp (itLt (horiz l)) n 0 (n - 1) (n / 2) 0 l := by
    unfold half1 half2
    rw [List.take_append_drop]
    unfold parted
    rw [hl]
  rw [hp]
  clear hp
  have HM := Lib.hid hm
  have HL := Lib.hid hL
  have HA := Lib.hid hA
  have HLL := Lib.hid hl
  clear hm hL hA hl
  have hhz : Hid (∀ w' : World, ItBlk w' g (A ++ l ++ C) → Calls Tryd.prog 41 #[.slice (some ⟨g, lo * 5, none⟩) n cap] w' fun e w'' => e = .returned (.bool (horiz l)) ∧ Bel w' w'') :=
    Lib.hid fun w' hL' => horiz_any g lo n cap A l C HA.out HLL.out hpos hn hcap HM.out w' hL'
  generalize horiz l = hz at *
  have hq : ((n : Int) / 2) = ((n / 2 : Nat) : Int) := by omega
  have hq1 : n / 2 < n := by omega
  have hq0 : 0 < n / 2 := by omega
  have e5 : (lo + n / 2) * 5 = lo * 5 + n / 2 * 5 := by omega
  rw [e5]
  clear e5
  generalize hS : n / 2 = s at *
  have HS := Lib.hid hS
  clear hS
  have b1 : (s : Int) ≤ (cap : Int) := by omega
  have b2 : (s : Int) ≤ (n : Int) := by omega
  have b3 : ¬ cap - s = 0 := by omega
  have b4 : (n : Int) ≤ (cap : Int) := by omega
  go_enter Tryd.func34, Tryd.ntmps34
  go_wp2_with (first
    | (go_at_call 41; (with_reducible refine (hhz.out _ HL.out).mono ?_); rintro e w1 ⟨rfl, hb1⟩; have HB1 := Lib.hid hb1; clear hb1)
    | (go_at_call 42; (with_reducible refine (quick_any g lo n cap s hz A l C HA.out HLL.out ?hk hn HM.out _ (HL.out.bel HB1.out)).mono ?_); (case hk => omega); rintro e w2 ⟨rfl, hg2, hr2⟩; have HG2 := Lib.hid hg2; have HR2 := Lib.hid hr2; clear hg2 hr2))
  go_quiet (fail)
  go_wp2
  refine post_ret (results_two rfl (resIs_tmp (by rfl)) (resIs_tmp (by rfl))) ⟨rfl, ?_, ?_⟩
  · exact ((World.grownBy.of_bel HB1.out _).trans HG2.out).trans (World.grownBy.of_bel ((Bel.refl _).drewN _) _)
  · exact HR2.out.bel ((Bel.refl _).drewN _)

/-- What comes back is a tree; nothing but the row of items has turned. -/
def IsIns (g : Nat) (A C : List It) (n : Nat) (t : Tr) (w : World) (e : Ending) (w' : World) : Prop :=
  ∃ k l', e = .returned (.pointer (some ⟨k, 0, none⟩)) ∧ w.grownBy w' (some g) ∧ ItBlk w' g (A ++ l' ++ C) ∧ l'.length = n ∧ (∀ x ∈ l', x.b.Small 1048576) ∧ IsNode w.heap.size w' t k
/-- The contract of bulkInsert at a row of items. -/
def InsAt (l : List It) : Prop := ∀ (g lo cap : Nat) (A C : List It) (w : World), A.length = lo → l.length ≤ cap → cap ≤ 9223372036854775807 → (∀ t ∈ A ++ l ++ C, t.b.Small 1048576) → ItBlk w g (A ++ l ++ C) →
  Calls Tryd.prog 25 #[.slice (some ⟨g, lo * 5, none⟩) l.length cap] w (IsIns g A C l.length (treeOf l) w)
/-- The parts of the row, as they are handed over. -/
def PartsAt (w : World) (pb g lo : Nat) (Ls : List (List It)) : Prop := ∀ (i : Nat) (l : List It), Ls[i]? = some l → ∃ cap, w.cell? ⟨pb, i, none⟩ = some (.slice (some ⟨g, (lo + (Ls.take i).flatten.length) * 5, none⟩) l.length cap) ∧ l.length ≤ cap ∧ cap ≤ 9223372036854775807
/-- The node under way. -/
structure NSt (w wr : World) (g lo : Nat) (A C : List It) (Ls : List (List It)) (i : Nat) (cs : Array Value) : Prop where
  grown : w.grownBy wr (some g)
  row : ∃ D, D.length = (Ls.take i).flatten.length ∧ ItBlk wr g (A ++ D ++ ((Ls.drop i).flatten ++ C)) ∧ ∀ x ∈ A ++ D ++ ((Ls.drop i).flatten ++ C), x.b.Small 1048576
  blk : Blk wr w.heap.size cs 80
  sub : SubCs (w.heap.size + 1) wr cs Ls.length ((Ls.take i).map treeOf)
/-- The same behind the call that makes the part's own tree. -/
structure NMid (w wr : World) (g lo : Nat) (A C : List It) (Ls : List (List It)) (i : Nat) (cs : Array Value) (l : List It) (k : Nat) : Prop where
  grown : w.grownBy wr (some g)
  row : ∃ D, D.length = (Ls.take (i + 1)).flatten.length ∧ ItBlk wr g (A ++ D ++ ((Ls.drop (i + 1)).flatten ++ C)) ∧ ∀ x ∈ A ++ D ++ ((Ls.drop (i + 1)).flatten ++ C), x.b.Small 1048576
  blk : Blk wr w.heap.size cs 80
  sub : SubCs (w.heap.size + 1) wr cs Ls.length ((Ls.take i).map treeOf)
  node : IsNode (w.heap.size + 1) wr (treeOf l) k
theorem take_flat (Ls : List (List It)) (i : Nat) (l : List It) (h : Ls[i]? = some l) : (Ls.take (i + 1)).flatten = (Ls.take i).flatten ++ l ∧ (Ls.drop i).flatten = l ++ (Ls.drop (i + 1)).flatten ∧ (Ls.take (i + 1)).map treeOf = (Ls.take i).map treeOf ++ [treeOf l] := by
  obtain ⟨hk, he⟩ := List.getElem?_eq_some_iff.1 h
  subst he
  refine ⟨?_, ?_, ?_⟩
  · rw [List.take_succ_eq_append_getElem hk, List.flatten_append]
    simp only [List.flatten_cons, List.flatten_nil, List.append_nil]
  · rw [List.drop_eq_getElem_cons hk]
    rfl
  · rw [List.take_succ_eq_append_getElem hk, List.map_append]
    rfl
theorem NSt.call {w wr : World} {g lo : Nat} {A C : List It} {Ls : List (List It)} {i : Nat} {cs : Array Value} (h : NSt w wr g lo A C Ls i cs) (hA : A.length = lo) (hg : g < w.heap.size) {l : List It} (hl : Ls[i]? = some l) (ih : InsAt l) (cap : Nat) (hc : l.length ≤ cap) (hc2 : cap ≤ 9223372036854775807) :
    Calls Tryd.prog 25 #[.slice (some ⟨g, (lo + (Ls.take i).flatten.length) * 5, none⟩) l.length cap] wr fun e w1 => ∃ k, e = .returned (.pointer (some ⟨k, 0, none⟩)) ∧ NMid w w1 g lo A C Ls i cs l k := by
  obtain ⟨e1, e2, _⟩ := take_flat Ls i l hl
  obtain ⟨D, hD, hrow, hsm⟩ := h.row
  have eq : A ++ D ++ ((Ls.drop i).flatten ++ C) = (A ++ D) ++ l ++ ((Ls.drop (i + 1)).flatten ++ C) := by
    rw [e2]
    simp [List.append_assoc]
  rw [eq] at hrow hsm
  refine (ih g _ cap (A ++ D) ((Ls.drop (i + 1)).flatten ++ C) wr (by rw [List.length_append, hA, hD]) hc hc2 hsm hrow).mono ?_
  rintro e w1 ⟨k, l', rfl, hg1, hr1, hl1, hs1, hn1⟩
  have hlt := h.blk.lt
  refine ⟨k, rfl, h.grown.trans hg1, ⟨D ++ l', ?_, ?_, ?_⟩, grownBy_blk hg1 h.blk (by simp; omega), h.sub.abv (Abv.grown hg1 (by omega)), hn1.mono (by omega)⟩
  · rw [e1, List.length_append, List.length_append, hD, hl1]
  · rw [← List.append_assoc A]
    exact hr1
  · intro x hx
    have : x ∈ A ++ D ++ l ++ ((Ls.drop (i + 1)).flatten ++ C) ∨ x ∈ l' := by
      simp only [List.mem_append] at hx ⊢
      rcases hx with ((hx | (hx | hx)) | hx)
      · exact Or.inl (Or.inl (Or.inl (Or.inl hx)))
      · exact Or.inl (Or.inl (Or.inl (Or.inr hx)))
      · exact Or.inr hx
      · exact Or.inl (Or.inr hx)
    rcases this with k | k
    · exact hsm x k
    · exact hs1 x k
theorem NMid.bel {w wr w' : World} {g lo : Nat} {A C : List It} {Ls : List (List It)} {i : Nat} {cs : Array Value} {l : List It} {k : Nat} (h : NMid w wr g lo A C Ls i cs l k) (hb : Bel wr w') : NMid w w' g lo A C Ls i cs l k := by
  obtain ⟨D, h1, h2, h3⟩ := h.row
  exact ⟨h.grown.trans (World.grownBy.of_bel hb _), ⟨D, h1, h2.bel hb, h3⟩, h.blk.bel hb, h.sub.abv (Abv.bel hb), h.node.bel hb⟩
theorem set_kept {w a : World} {g b o : Nat} (h : w.grownBy a (some g)) (hb : w.heap.size ≤ b) (v : Value) : w.grownBy (a.setCell ⟨b, o, none⟩ v) (some g) :=
  ⟨h.os, h.tape, h.output, by simpa using h.size, fun k hk hne => by
    rw [Below.heap_setCell _ _ _ _ (by simp; omega)]
    exact h.block k hk hne⟩
theorem ItBlk.other {w : World} {g : Nat} {L : List It} (h : ItBlk w g L) {b o : Nat} (hb : g ≠ b) (v : Value) : ItBlk (w.setCell ⟨b, o, none⟩ v) g L := by
  obtain ⟨cs, h1, h2⟩ := h
  exact ⟨cs, h1.other (by simpa using hb) v, h2⟩
/-- The round's end: the box's four cells are stored behind the child's pointer. -/
theorem NMid.done {w w1 w3 : World} {g lo : Nat} {A C : List It} {Ls : List (List It)} {i : Nat} {cs : Array Value} {l : List It} {k : Nat} (h : NMid w w1 g lo A C Ls i cs l k) (hg : g < w.heap.size) (hl : Ls[i]? = some l) (hi : i < 4)
    (hb : Bel (w1.setCell ⟨w.heap.size, i * 6 + 4, none⟩ (.pointer (some ⟨k, 0, none⟩))) w3) {x y z u : Nat} (hq : BxB x y z u (treeOf l).bound) :
    NSt w ((((w3.setCell ⟨w.heap.size, i * 6, none⟩ (.float .f64 x)).setCell ⟨w.heap.size, i * 6 + 1, none⟩ (.float .f64 y)).setCell ⟨w.heap.size, i * 6 + 2, none⟩ (.float .f64 z)).setCell ⟨w.heap.size, i * 6 + 3, none⟩ (.float .f64 u)) g lo A C Ls (i + 1)
      (((((cs.setIfInBounds (i * 6 + 4) (.pointer (some ⟨k, 0, none⟩))).setIfInBounds (i * 6) (.float .f64 x)).setIfInBounds (i * 6 + 1) (.float .f64 y)).setIfInBounds (i * 6 + 2) (.float .f64 z)).setIfInBounds (i * 6 + 3) (.float .f64 u)) := by
  obtain ⟨_, _, e3⟩ := take_flat Ls i l hl
  obtain ⟨D, h1, h2, h3⟩ := h.row
  have hlen : ((Ls.take i).map treeOf).length = i := by
    have := (List.getElem?_eq_some_iff.1 hl).1
    simp
    omega
  have hw3 : w.grownBy w3 (some g) := (set_kept h.grown (Nat.le_refl _) _).trans (World.grownBy.of_bel hb _)
  have hrow3 : ItBlk w3 g (A ++ D ++ ((Ls.drop (i + 1)).flatten ++ C)) := (h2.other (b := w.heap.size) (by omega) _).bel hb
  have habv : Abv (w.heap.size + 1) w1 ((((w3.setCell ⟨w.heap.size, i * 6, none⟩ (.float .f64 x)).setCell ⟨w.heap.size, i * 6 + 1, none⟩ (.float .f64 y)).setCell ⟨w.heap.size, i * 6 + 2, none⟩ (.float .f64 z)).setCell ⟨w.heap.size, i * 6 + 3, none⟩ (.float .f64 u)) := by
    intro b hb1 hb2
    rw [Below.heap_setCell _ _ _ _ (by simp; omega), Below.heap_setCell _ _ _ _ (by simp; omega), Below.heap_setCell _ _ _ _ (by simp; omega), Below.heap_setCell _ _ _ _ (by simp; omega), hb.block b (by simpa using hb2), Below.heap_setCell _ _ _ _ (by simp; omega)]
  refine ⟨set_kept (set_kept (set_kept (set_kept hw3 (Nat.le_refl _) _) (Nat.le_refl _) _) (Nat.le_refl _) _) (Nat.le_refl _) _, ⟨D, h1, (((hrow3.other (b := w.heap.size) (by omega) _).other (b := w.heap.size) (by omega) _).other (b := w.heap.size) (by omega) _).other (b := w.heap.size) (by omega) _, h3⟩,
    (((((h.blk.set _ _).bel hb).set _ _).set _ _).set _ _).set _ _, ?_⟩
  rw [e3]
  have := (h.sub.abv habv).step (by rw [hlen]; exact hi) (h.node.abv habv) hq
  rw [hlen] at this
  exact this

set_option maxHeartbeats 2000000 in
set_option maxRecDepth 100000 in
theorem node_any (g lo pb capP n : Nat) (A C : List It) (Ls : List (List It)) (hA : A.length = lo) (hn : Ls.length = n) (h4 : n ≤ 4) (h0 : 0 < n) (hcp : n ≤ capP) (hih : ∀ l ∈ Ls, InsAt l) (w : World) (hpb : pb ≠ g) (hpl : pb < w.heap.size)
    (hP : PartsAt w pb g lo Ls) (hm : ∀ t ∈ A ++ Ls.flatten ++ C, t.b.Small 1048576) (hL : ItBlk w g (A ++ Ls.flatten ++ C)) :
    Calls Tryd.prog 35 #[.slice (some ⟨pb, 0, none⟩) n capP] w (IsIns g A C Ls.flatten.length (nodeOf (Ls.map treeOf)) w) := by
  have hg := hL.lt
  have HN := Lib.hid hn
  have HP := Lib.hid hP
  have HIH := Lib.hid hih
  have HA := Lib.hid hA
  have H0 : Hid (∀ w1 : World, Bel (w.alloc (.cells #[.float .f64 0, .float .f64 0, .float .f64 0, .float .f64 0, .pointer none, .int .i64 0, .float .f64 0, .float .f64 0, .float .f64 0, .float .f64 0, .pointer none, .int .i64 0, .float .f64 0, .float .f64 0, .float .f64 0, .float .f64 0, .pointer none, .int .i64 0, .float .f64 0, .float .f64 0, .float .f64 0, .float .f64 0, .pointer none, .int .i64 0, .int .i64 n] 80)) w1 → NSt w w1 g lo A C Ls 0 #[.float .f64 0, .float .f64 0, .float .f64 0, .float .f64 0, .pointer none, .int .i64 0, .float .f64 0, .float .f64 0, .float .f64 0, .float .f64 0, .pointer none, .int .i64 0, .float .f64 0, .float .f64 0, .float .f64 0, .float .f64 0, .pointer none, .int .i64 0, .float .f64 0, .float .f64 0, .float .f64 0, .float .f64 0, .pointer none, .int .i64 0, .int .i64 n]) := by
    refine Lib.hid fun w1 hb => ⟨World.grownBy.of_bel ((Bel.alloc1 w _).trans hb) _, ⟨[], by simp, ?_, ?_⟩, (Blk.new w _ _).bel hb, ⟨by rfl, by rw [hn]; rfl, fun j t ht => by simp at ht, fun j _ hj => ?_⟩⟩
    · simp only [List.drop_zero, List.append_nil]
      rw [← List.append_assoc]
      exact hL.bel ((Bel.alloc1 w _).trans hb)
    · simp only [List.drop_zero, List.append_nil]
      rw [← List.append_assoc]
      exact hm
    · rcases j with _ | _ | _ | _ | j
      · rfl
      · rfl
      · rfl
      · rfl
      · omega
  clear hn hP hih hA hm hL
  go_enter Tryd.func35, Tryd.ntmps35
  go_wp2
  go_loopw [13] (fun iv wr => ∃ (i : Nat) (cs : Array Value), iv = .int .i64 i ∧ i ≤ n ∧ NSt w wr g lo A C Ls i cs) (fun iv _ => n - (intOf iv).toNat)
  case atStart => exact ⟨0, _, rfl, Nat.zero_le _, H0.out _ (by (repeat (first | with_reducible assumption | with_reducible exact Bel.refl _ | with_reducible apply Bel.alloc | with_reducible apply Bel.drew | with_reducible apply Bel.drewN | ((with_reducible apply Bel.setCellR); (simp <;> omega)) | with_reducible refine Bel.behind (by with_reducible assumption) ?_)))⟩
  case round =>
    obtain ⟨i, cs, rfl, hi, hst⟩ := hrel
    have HST := Lib.hid hst
    clear H0
    by_cases hin : i < n
    · obtain ⟨l, hl⟩ : ∃ l, Ls[i]? = some l := ⟨_, List.getElem?_eq_getElem (by rw [HN.out]; exact hin)⟩
      have HLL := Lib.hid hl
      obtain ⟨cap, hc, hc1, hc2⟩ := HP.out i l hl
      have hc' : wr.cell? ⟨pb, i, none⟩ = some (.slice (some ⟨g, (lo + (Ls.take i).flatten.length) * 5, none⟩) l.length cap) := hst.grown.cell hc (by simp; omega)
      have IH := Lib.hid (HIH.out l (List.mem_of_getElem? hl))
      have hsz : cs.size = 25 := hst.sub.size
      have hi4 : (i : Int) < 4 := by omega
      have hi4n : i < 4 := by omega
      obtain ⟨v4, hv4⟩ : ∃ v, cs[i * 6 + 4]? = some v := ⟨_, Array.getElem?_eq_getElem (by omega)⟩
      have HV4 := Lib.hid hv4
      have HSZ := Lib.hid hsz
      clear hl hc hst hv4 hsz
      generalize hO : (lo + (Ls.take i).flatten.length) * 5 = O at *
      have HO := Lib.hid hO
      clear hO
      have hcall : Hid (Calls Tryd.prog 25 #[.slice (some ⟨g, O, none⟩) l.length cap] wr fun e w1 => ∃ k, e = .returned (.pointer (some ⟨k, 0, none⟩)) ∧ NMid w w1 g lo A C Ls i cs l k) := by
        have := HST.out.call HA.out hg HLL.out IH.out cap hc1 hc2
        rw [HO.out] at this
        exact Lib.hid this
      go_wp2_with (first
        | (go_at_call 25; (with_reducible refine hcall.out.mono ?_); rintro e w1 ⟨k, rfl, hm1⟩; have HM1 := Lib.hid hm1; obtain ⟨r1, z1, l1⟩ := hm1.blk.facts; have d4 := (r1 (i * 6 + 4)).trans HV4.out; clear hm1 r1 hcall))
      generalize hW2 : w1.setCell ⟨w.heap.size, i * 6 + 4, none⟩ (.pointer (some ⟨k, 0, none⟩)) = w2
      have HW2 := Lib.hid hW2
      have N2 : Hid (IsNode (w.heap.size + 1) w2 (treeOf l) k) := Lib.hid (hW2 ▸ HM1.out.node.abv (Abv.set _ (by simp)))
      have B2 : Hid (Blk w2 w.heap.size (cs.setIfInBounds (i * 6 + 4) (.pointer (some ⟨k, 0, none⟩))) 80) := Lib.hid (hW2 ▸ HM1.out.blk.set _ _)
      obtain ⟨r2, z2, l2⟩ := B2.out.facts
      clear hW2 r2 d4 z1 l1
      generalize hCS : cs.setIfInBounds (i * 6 + 4) (.pointer (some ⟨k, 0, none⟩)) = cs2 at *
      have HCS := Lib.hid hCS
      have hsz2 : cs2.size = 25 := by rw [← hCS]; simpa using HSZ.out
      obtain ⟨v0, hv0⟩ : ∃ v, cs2[i * 6]? = some v := ⟨_, Array.getElem?_eq_getElem (by omega)⟩
      obtain ⟨v1, hv1⟩ : ∃ v, cs2[i * 6 + 1]? = some v := ⟨_, Array.getElem?_eq_getElem (by omega)⟩
      obtain ⟨v2, hv2⟩ : ∃ v, cs2[i * 6 + 2]? = some v := ⟨_, Array.getElem?_eq_getElem (by omega)⟩
      obtain ⟨v3, hv3⟩ : ∃ v, cs2[i * 6 + 3]? = some v := ⟨_, Array.getElem?_eq_getElem (by omega)⟩
      have V0 := Lib.hid hv0
      have V1 := Lib.hid hv1
      have V2 := Lib.hid hv2
      have V3 := Lib.hid hv3
      clear hCS hv0 hv1 hv2 hv3 hsz2
      go_region_with (first
        | (go_at_call 33; (with_reducible refine (bound_any (w.heap.size + 1) (treeOf l) k _ (N2.out.bel ?hb)).mono ?_); (case hb => (repeat (first | with_reducible assumption | with_reducible exact Bel.refl _ | with_reducible apply Bel.alloc | with_reducible apply Bel.drew | with_reducible apply Bel.drewN | ((with_reducible apply Bel.setCellR); (simp <;> omega)) | with_reducible refine Bel.behind (by with_reducible assumption) ?_))); rintro e w3 ⟨x, y, z, u, rfl, hq3, hb3⟩; have Q3 := Lib.hid hq3; have HB3 : Hid (Bel w2 w3) := Lib.hid (by (repeat (first | with_reducible assumption | with_reducible exact Bel.refl _ | with_reducible apply Bel.alloc | with_reducible apply Bel.drew | with_reducible apply Bel.drewN | ((with_reducible apply Bel.setCellR); (simp <;> omega)) | with_reducible refine Bel.behind (by with_reducible assumption) ?_))); have B3 := Lib.hid (B2.out.bel HB3.out); obtain ⟨r3, z3, l3⟩ := B3.out.facts; have d0 := (r3 (i * 6)).trans V0.out; have d1 := (r3 (i * 6 + 1)).trans V1.out; have d2 := (r3 (i * 6 + 2)).trans V2.out; have d3 := (r3 (i * 6 + 3)).trans V3.out; clear r3 hq3 hb3))
      all_goals
        go_wp2
        go_roundw
        case rel =>
          refine ⟨i + 1, _, by go_num, by omega, HM1.out.done hg HLL.out hi4n (w3 := w3) ?_ Q3.out⟩
          rw [HW2.out]
          exact HB3.out
        case measure => simp [intOf]; omega
    · obtain rfl : i = n := by omega
      obtain ⟨D, hD, hr, hs⟩ := hst.row
      have hdr : Ls.drop i = [] := List.drop_of_length_le (by rw [HN.out]; exact Nat.le_refl _)
      have htk : Ls.take i = Ls := List.take_of_length_le (by rw [HN.out]; exact Nat.le_refl _)
      rw [hdr] at hr hs
      rw [htk] at hD
      simp only [List.flatten_nil, List.nil_append] at hr hs
      have hsub := hst.sub
      rw [htk, HN.out] at hsub
      have hnode := hsub.node (B' := w.heap.size) hst.blk (by rw [List.length_map]; exact HN.out) h4 h0 (by omega) (Nat.le_refl _)
      have FIN : Hid (IsIns g A C Ls.flatten.length (nodeOf (Ls.map treeOf)) w (.returned (.pointer (some ⟨w.heap.size, 0, none⟩))) wr) := Lib.hid ⟨_, D, rfl, hst.grown, hr, hD, fun x hx => hs x (by simp [hx]), hnode⟩
      clear hst hr hs hsub hnode hD hdr htk
      go_wp2
      go_ret
      exact FIN.out
end Go.Proofs.YtdfamnlmhikolaaDoor
