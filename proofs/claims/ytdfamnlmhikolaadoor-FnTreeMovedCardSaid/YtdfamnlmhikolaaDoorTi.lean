/-
  bulkInsert, BulkLoad, tree: the tree that is made of a row of items. No panic; nothing but the row of items has turned.
-/
import Derived.Test.YtdfamnlmhikolaaDoorTs
namespace Go.Proofs.YtdfamnlmhikolaaDoor
open Go.ChangeShapes Go.WideShapes Go.ChangeAt Go.RowKit
set_option maxHeartbeats 2000000 in
set_option maxRecDepth 100000 in
theorem insert_leaf (l : List It) (h0 : 0 < l.length) (h4 : l.length ≤ 4) : InsAt l := by
  intro g lo cap A C w hA hcap hcap2 hm hL
  have hg := hL.lt
  have HGET : Hid (∀ k t, l[k]? = some t → (A ++ l ++ C)[lo + k]? = some t) := Lib.hid (fun k t hk => by
    have hk2 := (List.getElem?_eq_some_iff.1 hk).1
    rw [← hA, mid_get _ _ _ hk2]
    exact hk)
  have ht : treeOf l = leafOf l := by
    unfold treeOf
    obtain ⟨f, hf⟩ : ∃ f, l.length = f + 1 := ⟨l.length - 1, by omega⟩
    rw [hf, bulk, if_pos h4]
  rw [ht]
  generalize hn : l.length = n at *
  have HN := Lib.hid hn
  have HL := Lib.hid hL
  have HM := Lib.hid hm
  have n0 : ¬ n = 0 := by omega
  have n4 : (n : Int) ≤ 4 := by omega
  clear hn hL hm hA ht
  go_enter Tryd.func25, Tryd.ntmps25
  go_wp2
  go_loopw [27] (fun iv wr => ∃ (i : Nat) (cs : Array Value), iv = .int .i64 i ∧ i ≤ n ∧ Bel w wr ∧ Blk wr w.heap.size cs 80 ∧ LeafCs cs n l i) (fun iv _ => n - (intOf iv).toNat)
  case atStart => 
    refine ⟨0, _, rfl, Nat.zero_le _, by (repeat (first | with_reducible assumption | with_reducible exact Bel.refl _ | with_reducible apply Bel.alloc | with_reducible apply Bel.drew | with_reducible apply Bel.drewN | ((with_reducible apply Bel.setCellR); (simp <;> omega)) | with_reducible refine Bel.behind (by with_reducible assumption) ?_)), Blk.new _ _ _, by rfl, by rfl, fun j t hj => absurd hj (by omega)⟩
  case round =>
    obtain ⟨i, cs, rfl, hi, hbel, hb, hcs⟩ := hrel
    have HBEL := Lib.hid hbel
    have HB := Lib.hid hb
    have HCS := Lib.hid hcs
    by_cases hin : i < n
    · obtain ⟨t, hl⟩ : ∃ t, l[i]? = some t := ⟨_, List.getElem?_eq_getElem (by rw [HN.out]; exact hin)⟩
      obtain ⟨p, q, s, v, d0, d1, d2, d3, d4, q2⟩ := (HL.out.bel hbel).at (HGET.out i t hl)
      have Q2 := Lib.hid q2
      have HT := Lib.hid hl
      have hsz := hcs.1
      have hi4 : (i : Int) < 4 := by omega
      have hg2 : g < wr.heap.size := Nat.lt_of_lt_of_le hg hbel.size
      obtain ⟨r1, z1, l1⟩ := hb.facts
      obtain ⟨v0, hv0⟩ : ∃ v, cs[i * 6]? = some v := ⟨_, Array.getElem?_eq_getElem (by omega)⟩
      obtain ⟨v1, hv1⟩ : ∃ v, cs[i * 6 + 1]? = some v := ⟨_, Array.getElem?_eq_getElem (by omega)⟩
      obtain ⟨v2, hv2⟩ : ∃ v, cs[i * 6 + 2]? = some v := ⟨_, Array.getElem?_eq_getElem (by omega)⟩
      obtain ⟨v3, hv3⟩ : ∃ v, cs[i * 6 + 3]? = some v := ⟨_, Array.getElem?_eq_getElem (by omega)⟩
      obtain ⟨v4, hv4⟩ : ∃ v, cs[i * 6 + 4]? = some v := ⟨_, Array.getElem?_eq_getElem (by omega)⟩
      obtain ⟨v5, hv5⟩ : ∃ v, cs[i * 6 + 5]? = some v := ⟨_, Array.getElem?_eq_getElem (by omega)⟩
      have c0 := (r1 _).trans hv0
      have c1 := (r1 _).trans hv1
      have c2 := (r1 _).trans hv2
      have c3 := (r1 _).trans hv3
      have c4 := (r1 _).trans hv4
      have c5 := (r1 _).trans hv5
      clear q2 hl hbel hb hcs hsz r1 hv0 hv1 hv2 hv3 hv4 hv5
      go_wp2
      go_region
      go_wp2
      go_roundw
      case rel =>
        refine ⟨i + 1, put6 cs (i * 6) _ _ _ _ _ _, by go_num, by omega, ?_, ?_, HCS.out.step (by omega) HT.out Q2.out⟩
        · exact (((((((HBEL.out.setCell (by simp) _).setCell (by simp) _).setCell (by simp) _).setCell (by simp) _).setCell (by simp) _).setCell (by simp) _).alloc _).drew
        · exact (((((((HB.out.set _ _).set _ _).set _ _).set _ _).set _ _).set _ _).alloc _).drew
      case measure => simp [intOf]; omega
    · obtain rfl : i = n := by omega
      have hnode := hcs.node (B := w.heap.size) hb HN.out h4 h0 (Nat.le_refl _)
      have FIN : Hid (IsIns g A C i (leafOf l) w (.returned (.pointer (some ⟨w.heap.size, 0, none⟩))) wr) := Lib.hid ⟨_, l, rfl, World.grownBy.of_bel hbel _, HL.out.bel hbel, HN.out, fun x hx => HM.out x (by simp [hx]), hnode⟩
      clear hnode hcs hb hbel
      go_wp2
      go_ret
      exact FIN.out
/-- The parts' cells in a new block. -/
theorem parts_two {w : World} {g lo : Nat} {l1 l2 : List It} {c1 c2 : Nat} {T : TypeId} (h1 : l1.length ≤ c1) (h2 : l2.length ≤ c2) (k1 : c1 ≤ 9223372036854775807) (k2 : c2 ≤ 9223372036854775807) {pb : Nat}
    (hB : Blk w pb #[.slice (some ⟨g, lo * 5, none⟩) l1.length c1, .slice (some ⟨g, (lo + l1.length) * 5, none⟩) l2.length c2] T) : PartsAt w pb g lo [l1, l2] := by
  intro i l hl
  match i, hl with
  | 0, hl =>
    obtain rfl := Option.some.inj hl
    exact ⟨c1, by rw [hB.rules.1]; rfl, h1, k1⟩
  | 1, hl =>
    obtain rfl := Option.some.inj hl
    refine ⟨c2, ?_, h2, k2⟩
    rw [hB.rules.1]
    simp
theorem parts_four {w : World} {g lo : Nat} {l1 l2 l3 l4 : List It} {c1 c2 c3 c4 : Nat} {T : TypeId} (h1 : l1.length ≤ c1) (h2 : l2.length ≤ c2) (h3 : l3.length ≤ c3) (h4 : l4.length ≤ c4) (k1 : c1 ≤ 9223372036854775807) (k2 : c2 ≤ 9223372036854775807) (k3 : c3 ≤ 9223372036854775807) (k4 : c4 ≤ 9223372036854775807) {pb : Nat}
    (hB : Blk w pb #[.slice (some ⟨g, lo * 5, none⟩) l1.length c1, .slice (some ⟨g, (lo + l1.length) * 5, none⟩) l2.length c2, .slice (some ⟨g, (lo + (l1.length + l2.length)) * 5, none⟩) l3.length c3, .slice (some ⟨g, (lo + (l1.length + l2.length + l3.length)) * 5, none⟩) l4.length c4] T) : PartsAt w pb g lo [l1, l2, l3, l4] := by
  intro i l hl
  match i, hl with
  | 0, hl =>
    obtain rfl := Option.some.inj hl
    exact ⟨c1, by rw [hB.rules.1]; rfl, h1, k1⟩
  | 1, hl =>
    obtain rfl := Option.some.inj hl
    refine ⟨c2, ?_, h2, k2⟩
    rw [hB.rules.1]
    simp
  | 2, hl =>
    obtain rfl := Option.some.inj hl
    refine ⟨c3, ?_, h3, k3⟩
    rw [hB.rules.1]
    simp
  | 3, hl =>
    obtain rfl := Option.some.inj hl
    refine ⟨c4, ?_, h4, k4⟩
    rw [hB.rules.1]
    simp [Nat.add_assoc]
theorem IsIns.mono {g : Nat} {A C : List It} {n : Nat} {t : Tr} {w w1 : World} {e : Ending} {w' : World} (h : IsIns g A C n t w1 e w') (hg : w.grownBy w1 (some g)) : IsIns g A C n t w e w' := by
  obtain ⟨k, l', he, h1, h2, h3, h4, h5⟩ := h
  exact ⟨k, l', he, hg.trans h1, h2, h3, h4, h5.mono hg.size⟩
theorem half_mem {l : List It} {P : It → Prop} (h : ∀ t ∈ l, P t) : ∀ t ∈ half1 l ++ half2 l, P t := by
  have e : half1 l ++ half2 l = parted l := by
    unfold half1 half2
    exact List.take_append_drop _ _
  rw [e]
  exact qp_mem _ _ _ _ _ _ _ h
theorem half_len (l : List It) : (half1 l ++ half2 l).length = l.length := by
  rw [List.length_append, half1_len, half2_len]
  omega
theorem treeOf_two (l : List It) (h5 : 4 < l.length) (h8 : l.length ≤ 8) : treeOf l = nodeOf ([half1 l, half2 l].map treeOf) := by
  have h1 := half1_len l
  have h2 := half2_len l
  unfold treeOf
  obtain ⟨f, hf⟩ : ∃ f, l.length = f + 1 := ⟨l.length - 1, by omega⟩
  rw [hf, bulk, if_neg (by omega), if_pos h8]
  simp only [List.map_cons, List.map_nil]
  rw [bulk_fuel f (half1 l).length (half1 l) (by omega) (Nat.le_refl _) (by omega), bulk_fuel f (half2 l).length (half2 l) (by omega) (Nat.le_refl _) (by omega)]
theorem treeOf_four (l : List It) (h8 : 8 < l.length) : treeOf l = nodeOf ([half1 (half1 l), half2 (half1 l), half1 (half2 l), half2 (half2 l)].map treeOf) := by
  have h1 := half1_len l
  have h2 := half2_len l
  have h11 := half1_len (half1 l)
  have h12 := half2_len (half1 l)
  have h21 := half1_len (half2 l)
  have h22 := half2_len (half2 l)
  unfold treeOf
  obtain ⟨f, hf⟩ : ∃ f, l.length = f + 1 := ⟨l.length - 1, by omega⟩
  rw [hf, bulk, if_neg (by omega), if_neg (by omega)]
  simp only [List.map_cons, List.map_nil]
  rw [bulk_fuel f (half1 (half1 l)).length (half1 (half1 l)) (by omega) (Nat.le_refl _) (by omega), bulk_fuel f (half2 (half1 l)).length (half2 (half1 l)) (by omega) (Nat.le_refl _) (by omega),
    bulk_fuel f (half1 (half2 l)).length (half1 (half2 l)) (by omega) (Nat.le_refl _) (by omega), bulk_fuel f (half2 (half2 l)).length (half2 (half2 l)) (by omega) (Nat.le_refl _) (by omega)]

set_option maxHeartbeats 2000000 in
set_option maxRecDepth 100000 in
theorem insert_two (l : List It) (h5 : 4 < l.length) (h8 : l.length ≤ 8) (ih : ∀ l' : List It, 0 < l'.length → l'.length < l.length → InsAt l') : InsAt l := by
  intro g lo cap A C w hA hcap hcap2 hm hL
  have hg := hL.lt
  rw [treeOf_two l h5 h8]
  have e1 := half1_len l
  have e2 := half2_len l
  have i1 := ih (half1 l) (by omega) (by omega)
  have i2 := ih (half2 l) (by omega) (by omega)
  have IH : Hid (∀ x ∈ [half1 l, half2 l], InsAt x) := Lib.hid (by
    intro x hx
    simp only [List.mem_cons, List.not_mem_nil, or_false] at hx
    rcases hx with rfl | rfl
    · exact i1
    · exact i2)
  have HM2 : Hid (∀ t ∈ A ++ (half1 l ++ half2 l) ++ C, t.b.Small 1048576) := Lib.hid (by
    intro t ht
    simp only [List.mem_append] at ht
    rcases ht with (ht | ht) | ht
    · exact hm t (by simp [ht])
    · exact half_mem (l := l) (fun s hs => hm s (by simp [hs])) t (by simpa using ht)
    · exact hm t (by simp [ht]))
  have hflat : [half1 l, half2 l].flatten = half1 l ++ half2 l := by simp
  have hlen : [half1 l, half2 l].flatten.length = l.length := by rw [hflat, half_len]
  have HS : Hid (Calls Tryd.prog 34 #[.slice (some ⟨g, lo * 5, none⟩) l.length cap] w fun e w' => e = .returned (.tuple #[.slice (some ⟨g, lo * 5, none⟩) (l.length / 2) cap, .slice (some ⟨g, (lo + l.length / 2) * 5, none⟩) (l.length - l.length / 2) (cap - l.length / 2)]) ∧ w.grownBy w' (some g) ∧ ItBlk w' g (A ++ (half1 l ++ half2 l) ++ C)) :=
    Lib.hid (split_any g lo l.length cap A l C hA rfl (by omega) (by omega) hcap hcap2 hm w hL)
  have HFL := Lib.hid hflat
  have HLEN := Lib.hid hlen
  have HA := Lib.hid hA
  have E1 := Lib.hid e1
  have E2 := Lib.hid e2
  have HNODE : Hid (∀ (w1 : World) (pb : Nat), pb ≠ g → ItBlk w1 g (A ++ (half1 l ++ half2 l) ++ C) → Blk w1 pb #[.slice (some ⟨g, lo * 5, none⟩) (l.length / 2) cap, .slice (some ⟨g, (lo + l.length / 2) * 5, none⟩) (l.length - l.length / 2) (cap - l.length / 2)] 50 →
      Calls Tryd.prog 35 #[.slice (some ⟨pb, 0, none⟩) 2 2] w1 (IsIns g A C l.length (nodeOf [treeOf (half1 l), treeOf (half2 l)]) w1)) := by
    refine Lib.hid fun w1 pb hne hL1 hB1 => ?_
    rw [← e2, ← e1] at hB1
    have hP := parts_two (l1 := half1 l) (l2 := half2 l) (by omega) (by omega) hcap2 (by omega) hB1
    have := node_any g lo pb 2 2 A C [half1 l, half2 l] hA rfl (by omega) (by omega) (by omega) IH.out w1 hne hB1.lt hP (by rw [hflat]; exact HM2.out) (by rw [hflat]; exact hL1)
    rw [hlen] at this
    exact this
  clear hm hL hA i1 i2 ih hflat hlen e1 e2
  generalize hn : l.length = n at *
  have n0 : ¬ n = 0 := by omega
  have n4 : ¬ (n : Int) ≤ 4 := by omega
  have n8 : (n : Int) ≤ 8 := by omega
  go_enter Tryd.func25, Tryd.ntmps25
  go_wp2_with (first
    | (go_at_call 34; (with_reducible refine HS.out.mono ?_); rintro e w1 ⟨rfl, hg1, hr1⟩; have HG1 := Lib.hid hg1; have HR1 := Lib.hid hr1; clear hg1 hr1)
    | (go_at_call 35; (with_reducible refine (HNODE.out _ _ ?hne ?hL ?hB).mono ?_); (case hne => (have := HG1.out.size; omega)); (case hL => exact HR1.out.bel (Bel.alloc1 _ _)); (case hB => exact Blk.new _ _ _); rintro e w2 hins; obtain ⟨k, l', rfl, hg2, hr2, hl2, hs2, hn2⟩ := hins; have FIN : Hid (IsIns g A C n (nodeOf [treeOf (half1 l), treeOf (half2 l)]) w (.returned (.pointer (some ⟨k, 0, none⟩))) w2) := Lib.hid (IsIns.mono ⟨k, l', rfl, hg2, hr2, hl2, hs2, hn2⟩ (HG1.out.trans (World.grownBy.of_bel (Bel.alloc1 _ _) _))); clear hg2 hr2 hl2 hs2 hn2))
  go_ret
  exact FIN.out

set_option maxHeartbeats 2000000 in
set_option maxRecDepth 100000 in
theorem insert_four (l : List It) (h8 : 8 < l.length) (h31 : l.length ≤ 100000) (ih : ∀ l' : List It, 0 < l'.length → l'.length < l.length → InsAt l') : InsAt l := by
  intro g lo cap A C w hA hcap hcap2 hm hL
  have hg := hL.lt
  rw [treeOf_four l h8]
  have e1 := half1_len l
  have e2 := half2_len l
  have e11 := half1_len (half1 l)
  have e12 := half2_len (half1 l)
  have e21 := half1_len (half2 l)
  have e22 := half2_len (half2 l)
  have hh := half_len l
  have IH : Hid (∀ x ∈ [half1 (half1 l), half2 (half1 l), half1 (half2 l), half2 (half2 l)], InsAt x) := Lib.hid (by
    intro x hx
    simp only [List.mem_cons, List.not_mem_nil, or_false] at hx
    rcases hx with rfl | rfl | rfl | rfl
    · exact ih _ (by omega) (by omega)
    · exact ih _ (by omega) (by omega)
    · exact ih _ (by omega) (by omega)
    · exact ih _ (by omega) (by omega))
  have s0 : ∀ t ∈ l, t.b.Small 1048576 := fun t ht => hm t (by simp [ht])
  have sA : ∀ t ∈ A, t.b.Small 1048576 := fun t ht => hm t (by simp [ht])
  have sC : ∀ t ∈ C, t.b.Small 1048576 := fun t ht => hm t (by simp [ht])
  have s1 : ∀ t ∈ half1 l, t.b.Small 1048576 := fun t ht => half_mem s0 t (by simp [ht])
  have s2 : ∀ t ∈ half2 l, t.b.Small 1048576 := fun t ht => half_mem s0 t (by simp [ht])
  have s3 := half_mem s1
  have s4 := half_mem s2
  have join : ∀ {X Y Z : List It}, (∀ t ∈ X, t.b.Small 1048576) → (∀ t ∈ Y, t.b.Small 1048576) → (∀ t ∈ Z, t.b.Small 1048576) → ∀ t ∈ X ++ Y ++ Z, t.b.Small 1048576 := by
    intro X Y Z hX hY hZ t ht
    simp only [List.mem_append] at ht
    rcases ht with (ht | ht) | ht
    · exact hX t ht
    · exact hY t ht
    · exact hZ t ht
  have two : ∀ {X Y : List It}, (∀ t ∈ X, t.b.Small 1048576) → (∀ t ∈ Y, t.b.Small 1048576) → ∀ t ∈ X ++ Y, t.b.Small 1048576 := by
    intro X Y hX hY t ht
    rcases List.mem_append.1 ht with ht | ht
    · exact hX t ht
    · exact hY t ht
  have hflat : [half1 (half1 l), half2 (half1 l), half1 (half2 l), half2 (half2 l)].flatten = (half1 (half1 l) ++ half2 (half1 l)) ++ (half1 (half2 l) ++ half2 (half2 l)) := by simp
  have hlen : [half1 (half1 l), half2 (half1 l), half1 (half2 l), half2 (half2 l)].flatten.length = l.length := by
    rw [hflat, List.length_append, half_len, half_len]
    omega
  have HS : Hid (Calls Tryd.prog 34 #[.slice (some ⟨g, lo * 5, none⟩) l.length cap] w fun e w' => e = .returned (.tuple #[.slice (some ⟨g, lo * 5, none⟩) (l.length / 2) cap, .slice (some ⟨g, (lo + l.length / 2) * 5, none⟩) (l.length - l.length / 2) (cap - l.length / 2)]) ∧ w.grownBy w' (some g) ∧ ItBlk w' g (A ++ (half1 l ++ half2 l) ++ C)) :=
    Lib.hid (split_any g lo l.length cap A l C hA rfl (by omega) h31 hcap hcap2 hm w hL)
  have HS1 : Hid (∀ w1 : World, ItBlk w1 g (A ++ (half1 l ++ half2 l) ++ C) → Calls Tryd.prog 34 #[.slice (some ⟨g, lo * 5, none⟩) (l.length / 2) cap] w1 fun e w' => e = .returned (.tuple #[.slice (some ⟨g, lo * 5, none⟩) (l.length / 2 / 2) cap, .slice (some ⟨g, (lo + l.length / 2 / 2) * 5, none⟩) (l.length / 2 - l.length / 2 / 2) (cap - l.length / 2 / 2)]) ∧ w1.grownBy w' (some g) ∧ ItBlk w' g ((A ++ (half1 (half1 l) ++ half2 (half1 l))) ++ half2 l ++ C)) := by
    refine Lib.hid fun w1 h1 => ?_
    have eq : A ++ (half1 l ++ half2 l) ++ C = A ++ half1 l ++ (half2 l ++ C) := by simp [List.append_assoc]
    rw [eq] at h1
    refine (split_any g lo (l.length / 2) cap A (half1 l) (half2 l ++ C) hA e1 (by omega) (by omega) (by omega) hcap2 (join sA s1 (two s2 sC)) w1 h1).mono fun e w' h => ⟨h.1, h.2.1, ?_⟩
    have eq2 : (A ++ (half1 (half1 l) ++ half2 (half1 l))) ++ half2 l ++ C = A ++ (half1 (half1 l) ++ half2 (half1 l)) ++ (half2 l ++ C) := by simp [List.append_assoc]
    rw [eq2]
    exact h.2.2
  have HS2 : Hid (∀ w1 : World, ItBlk w1 g ((A ++ (half1 (half1 l) ++ half2 (half1 l))) ++ half2 l ++ C) → Calls Tryd.prog 34 #[.slice (some ⟨g, (lo + l.length / 2) * 5, none⟩) (l.length - l.length / 2) (cap - l.length / 2)] w1 fun e w' => e = .returned (.tuple #[.slice (some ⟨g, (lo + l.length / 2) * 5, none⟩) ((l.length - l.length / 2) / 2) (cap - l.length / 2), .slice (some ⟨g, (lo + l.length / 2 + (l.length - l.length / 2) / 2) * 5, none⟩) (l.length - l.length / 2 - (l.length - l.length / 2) / 2) (cap - l.length / 2 - (l.length - l.length / 2) / 2)]) ∧ w1.grownBy w' (some g) ∧ ItBlk w' g (A ++ [half1 (half1 l), half2 (half1 l), half1 (half2 l), half2 (half2 l)].flatten ++ C)) := by
    refine Lib.hid fun w1 h1 => ?_
    refine (split_any g (lo + l.length / 2) (l.length - l.length / 2) (cap - l.length / 2) (A ++ (half1 (half1 l) ++ half2 (half1 l))) (half2 l) C ?_ e2 (by omega) (by omega) (by omega) (by omega) (join (two sA s3) s2 sC) w1 h1).mono fun e w' h => ⟨h.1, h.2.1, ?_⟩
    · rw [List.length_append, hA, half_len, e1]
    · rw [hflat, ← List.append_assoc A]
      exact h.2.2
  have HNODE : Hid (∀ (w1 : World) (pb : Nat), pb ≠ g → ItBlk w1 g (A ++ [half1 (half1 l), half2 (half1 l), half1 (half2 l), half2 (half2 l)].flatten ++ C) → Blk w1 pb #[.slice (some ⟨g, lo * 5, none⟩) (l.length / 2 / 2) cap, .slice (some ⟨g, (lo + l.length / 2 / 2) * 5, none⟩) (l.length / 2 - l.length / 2 / 2) (cap - l.length / 2 / 2), .slice (some ⟨g, (lo + l.length / 2) * 5, none⟩) ((l.length - l.length / 2) / 2) (cap - l.length / 2), .slice (some ⟨g, (lo + l.length / 2 + (l.length - l.length / 2) / 2) * 5, none⟩) (l.length - l.length / 2 - (l.length - l.length / 2) / 2) (cap - l.length / 2 - (l.length - l.length / 2) / 2)] 50 →
      Calls Tryd.prog 35 #[.slice (some ⟨pb, 0, none⟩) 4 4] w1 (IsIns g A C l.length (nodeOf [treeOf (half1 (half1 l)), treeOf (half2 (half1 l)), treeOf (half1 (half2 l)), treeOf (half2 (half2 l))]) w1)) := by
    refine Lib.hid fun w1 pb hne hL1 hB1 => ?_
    have f1 : (half1 (half1 l)).length = l.length / 2 / 2 := by rw [e11, e1]
    have f2 : (half2 (half1 l)).length = l.length / 2 - l.length / 2 / 2 := by rw [e12, e1]
    have f3 : (half1 (half2 l)).length = (l.length - l.length / 2) / 2 := by rw [e21, e2]
    have f4 : (half2 (half2 l)).length = l.length - l.length / 2 - (l.length - l.length / 2) / 2 := by rw [e22, e2]
    have g2 : lo + l.length / 2 = lo + ((half1 (half1 l)).length + (half2 (half1 l)).length) := by omega
    have g3 : lo + l.length / 2 + (l.length - l.length / 2) / 2 = lo + ((half1 (half1 l)).length + (half2 (half1 l)).length + (half1 (half2 l)).length) := by omega
    rw [g3, g2, ← f4, ← f3, ← f2, ← f1] at hB1
    have hP := parts_four (l1 := half1 (half1 l)) (l2 := half2 (half1 l)) (l3 := half1 (half2 l)) (l4 := half2 (half2 l)) (by omega) (by omega) (by omega) (by omega) hcap2 (by omega) (by omega) (by omega) hB1
    have := node_any g lo pb 4 4 A C [half1 (half1 l), half2 (half1 l), half1 (half2 l), half2 (half2 l)] hA rfl (by omega) (by omega) (by omega) IH.out w1 hne hB1.lt hP (by rw [hflat]; exact join sA (two s3 s4) sC) hL1
    rw [hlen] at this
    exact this
  have HFL := Lib.hid hflat
  clear hm hL hA ih hflat hlen e1 e2 e11 e12 e21 e22 hh s0 s1 s2 s3 s4 sA sC join two
  generalize hn : l.length = n at *
  have n0 : ¬ n = 0 := by omega
  have n4 : ¬ (n : Int) ≤ 4 := by omega
  have n8 : ¬ (n : Int) ≤ 8 := by omega
  generalize hh1 : n / 2 = m1 at *
  generalize hh2 : m1 / 2 = m2 at *
  generalize hh3 : (n - m1) / 2 = m3 at *
  clear hh1 hh2 hh3 hn
  go_enter Tryd.func25, Tryd.ntmps25
  go_wp2_with (first
    | (go_at_call 34; (with_reducible refine HS.out.mono ?_); rintro e w1 ⟨rfl, hg1, hr1⟩; have HG1 := Lib.hid hg1; have HR1 := Lib.hid hr1; clear hg1 hr1)
    | (go_at_call 34; (with_reducible refine (HS1.out _ HR1.out).mono ?_); rintro e w2 ⟨rfl, hg1, hr1⟩; have HG2 := Lib.hid hg1; have HR2 := Lib.hid hr1; clear hg1 hr1)
    | (go_at_call 34; (with_reducible refine (HS2.out _ HR2.out).mono ?_); rintro e w3 ⟨rfl, hg1, hr1⟩; have HG3 := Lib.hid hg1; have HR3 := Lib.hid hr1; clear hg1 hr1)
    | (go_at_call 35; (with_reducible refine (HNODE.out _ _ ?hne ?hL ?hB).mono ?_); (case hne => (have h1 := HG1.out.size; have h2 := HG2.out.size; have h3 := HG3.out.size; omega)); (case hL => exact HR3.out.bel (Bel.alloc1 _ _)); (case hB => exact Blk.new _ _ _); rintro e w4 hins; obtain ⟨k, l', rfl, hg2, hr2, hl2, hs2, hn2⟩ := hins; have FIN : Hid (IsIns g A C n (nodeOf [treeOf (half1 (half1 l)), treeOf (half2 (half1 l)), treeOf (half1 (half2 l)), treeOf (half2 (half2 l))]) w (.returned (.pointer (some ⟨k, 0, none⟩))) w4) := Lib.hid (IsIns.mono ⟨k, l', rfl, hg2, hr2, hl2, hs2, hn2⟩ (((HG1.out.trans HG2.out).trans HG3.out).trans (World.grownBy.of_bel (Bel.alloc1 _ _) _))); clear hg2 hr2 hl2 hs2 hn2))
  go_ret
  exact FIN.out
theorem insert_any : ∀ (n : Nat) (l : List It), l.length ≤ n → 0 < l.length → l.length ≤ 100000 → InsAt l
  | 0, l, h, h0, _ => by omega
  | n + 1, l, h, h0, h31 => by
    by_cases h4 : l.length ≤ 4
    · exact insert_leaf l h0 h4
    · have ih : ∀ l' : List It, 0 < l'.length → l'.length < l.length → InsAt l' := fun l' k0 k => insert_any n l' (by omega) k0 (by omega)
      by_cases h8 : l.length ≤ 8
      · exact insert_two l (by omega) h8 ih
      · exact insert_four l (by omega) h31 ih
end Go.Proofs.YtdfamnlmhikolaaDoor
