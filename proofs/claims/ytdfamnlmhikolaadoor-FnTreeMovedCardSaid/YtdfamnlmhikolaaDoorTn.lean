/-
  Nodes that are made: the cells of a node, entry by entry. No condition.
-/
import Derived.Test.YtdfamnlmhikolaaDoorTb
namespace Go.Proofs.YtdfamnlmhikolaaDoor
open Go.ChangeShapes Go.WideShapes Go.ChangeAt Go.RowKit
/-- Entry j of the cells of a node. -/
def EntCs (cs : Array Value) (j : Nat) (b : Bx) (kid : Option Nat) (id : Int) : Prop :=
  ∃ x y z u, cs[j * 6]? = some (.float .f64 x) ∧ cs[j * 6 + 1]? = some (.float .f64 y) ∧ cs[j * 6 + 2]? = some (.float .f64 z) ∧ cs[j * 6 + 3]? = some (.float .f64 u) ∧
    cs[j * 6 + 4]? = some (.pointer (kid.map fun c => ⟨c, 0, none⟩)) ∧ cs[j * 6 + 5]? = some (.int .i64 id) ∧ BxB x y z u b
theorem EntCs.at {w : World} {k : Nat} {cs : Array Value} {T : TypeId} (hb : Blk w k cs T) {j : Nat} {b : Bx} {kid : Option Nat} {id : Int} (h : EntCs cs j b kid id) : EntAt w k j b kid id := by
  obtain ⟨x, y, z, u, h0, h1, h2, h3, h4, h5, hq⟩ := h
  exact ⟨x, y, z, u, (hb.rules.1 _).trans h0, (hb.rules.1 _).trans h1, (hb.rules.1 _).trans h2, (hb.rules.1 _).trans h3, (hb.rules.1 _).trans h4, (hb.rules.1 _).trans h5, hq⟩
theorem EntCs.other {cs cs' : Array Value} {j : Nat} {b : Bx} {kid : Option Nat} {id : Int} (h : EntCs cs j b kid id) (he : ∀ o, j * 6 ≤ o → o ≤ j * 6 + 5 → cs'[o]? = cs[o]?) : EntCs cs' j b kid id := by
  obtain ⟨x, y, z, u, h0, h1, h2, h3, h4, h5, hq⟩ := h
  exact ⟨x, y, z, u, (he _ (by omega) (by omega)).trans h0, (he _ (by omega) (by omega)).trans h1, (he _ (by omega) (by omega)).trans h2, (he _ (by omega) (by omega)).trans h3, (he _ (by omega) (by omega)).trans h4, (he _ (by omega) (by omega)).trans h5, hq⟩
def put6 (cs : Array Value) (o : Nat) (a b c d e f : Value) : Array Value := (((((cs.setIfInBounds o a).setIfInBounds (o + 1) b).setIfInBounds (o + 2) c).setIfInBounds (o + 3) d).setIfInBounds (o + 4) e).setIfInBounds (o + 5) f
theorem put6_size (cs : Array Value) (o : Nat) (a b c d e f : Value) : (put6 cs o a b c d e f).size = cs.size := by simp [put6]
theorem put6_other (cs : Array Value) (o : Nat) (a b c d e f : Value) (i : Nat) (h : i < o ∨ o + 5 < i) : (put6 cs o a b c d e f)[i]? = cs[i]? := by
  unfold put6
  simp (disch := omega) only [Array.getElem?_setIfInBounds_ne]
theorem put6_ent (cs : Array Value) (j : Nat) {x y z u : Nat} {kid : Option Nat} {id : Int} {b : Bx} (hs : j * 6 + 5 < cs.size) (hq : BxB x y z u b) :
    EntCs (put6 cs (j * 6) (.float .f64 x) (.float .f64 y) (.float .f64 z) (.float .f64 u) (.pointer (kid.map fun c => ⟨c, 0, none⟩)) (.int .i64 id)) j b kid id := by
  unfold put6
  refine ⟨x, y, z, u, ?_, ?_, ?_, ?_, ?_, ?_, hq⟩ <;> simp (disch := (first | omega | (simp only [Array.size_setIfInBounds]; omega))) only [Array.getElem?_setIfInBounds_ne, Array.getElem?_setIfInBounds_self_of_lt]

/-- A node of items: the first i entries stand. -/
def LeafCs (cs : Array Value) (n : Nat) (l : List It) (i : Nat) : Prop := cs.size = 25 ∧ cs[24]? = some (.int .i64 n) ∧ ∀ (j : Nat) (t : It), j < i → l[j]? = some t → EntCs cs j t.b none t.id
theorem LeafCs.step {cs : Array Value} {n : Nat} {l : List It} {i : Nat} (h : LeafCs cs n l i) (hi : i < 4) {t : It} (ht : l[i]? = some t) {x y z u : Nat} (hq : BxB x y z u t.b) :
    LeafCs (put6 cs (i * 6) (.float .f64 x) (.float .f64 y) (.float .f64 z) (.float .f64 u) (.pointer none) (.int .i64 t.id)) n l (i + 1) := by
  obtain ⟨hs, hn, h⟩ := h
  refine ⟨by rw [put6_size, hs], by rw [put6_other _ _ _ _ _ _ _ _ _ (by omega)]; exact hn, fun j s hj hs' => ?_⟩
  by_cases e : j = i
  · subst e
    obtain rfl : t = s := Option.some.inj (ht.symm.trans hs')
    exact put6_ent cs j (kid := none) (by omega) hq
  · exact (h j s (by omega) hs').other fun o h1 h2 => put6_other _ _ _ _ _ _ _ _ _ (by omega)
theorem leaf_at {B : Nat} {w : World} {k : Nat} : ∀ (l : List It) (j : Nat), (∀ (i : Nat) (t : It), l[i]? = some t → EntAt w k (j + i) t.b none t.id) → NodeAt B w (leafOf l) k j
  | [], _, _ => trivial
  | t :: r, j, h => ⟨h 0 t rfl, leaf_at r (j + 1) fun i s hs => by
      have := h (i + 1) s hs
      rwa [show j + 1 + i = j + (i + 1) by omega]⟩
theorem LeafCs.node {B : Nat} {w : World} {k : Nat} {cs : Array Value} {T : TypeId} {l : List It} {n : Nat} (h : LeafCs cs n l n) (hb : Blk w k cs T) (hn : l.length = n) (h4 : n ≤ 4) (h0 : 0 < n) (hB : B ≤ k) : IsNode B w (leafOf l) k := by
  obtain ⟨_, h24, h⟩ := h
  refine ⟨(hb.rules.1 _).trans (by rw [leafOf_len, hn]; exact h24), by rw [leafOf_len]; omega, by rw [leafOf_len]; omega, hB, leaf_at l 0 fun i t ht => ?_⟩
  rw [Nat.zero_add]
  exact (h i t (by have := (List.getElem?_eq_some_iff.1 ht).1; omega) ht).at hb

/-- A node of nodes: the first i entries stand, the others are empty. -/
structure SubCs (B : Nat) (w : World) (cs : Array Value) (n : Nat) (ts : List Tr) : Prop where
  size : cs.size = 25
  num : cs[24]? = some (.int .i64 n)
  ents : ∀ (j : Nat) (t : Tr), ts[j]? = some t → ∃ c, EntCs cs j t.bound (some c) 0 ∧ IsNode B w t c
  rest : ∀ j, ts.length ≤ j → j < 4 → cs[j * 6 + 5]? = some (.int .i64 0)
theorem SubCs.abv {B : Nat} {w w' : World} {cs : Array Value} {n : Nat} {ts : List Tr} (h : SubCs B w cs n ts) (hb : Abv B w w') : SubCs B w' cs n ts :=
  ⟨h.size, h.num, fun j t ht => by
    obtain ⟨c, h1, h2⟩ := h.ents j t ht
    exact ⟨c, h1, h2.abv hb⟩, h.rest⟩
theorem SubCs.step {B : Nat} {w : World} {cs : Array Value} {n : Nat} {ts : List Tr} (h : SubCs B w cs n ts) (hi : ts.length < 4) {t : Tr} {c : Nat} (hc : IsNode B w t c) {x y z u : Nat} (hq : BxB x y z u t.bound) :
    SubCs B w (((((cs.setIfInBounds (ts.length * 6 + 4) (.pointer (some ⟨c, 0, none⟩))).setIfInBounds (ts.length * 6) (.float .f64 x)).setIfInBounds (ts.length * 6 + 1) (.float .f64 y)).setIfInBounds (ts.length * 6 + 2) (.float .f64 z)).setIfInBounds (ts.length * 6 + 3) (.float .f64 u)) n (ts ++ [t]) := by
  have hs := h.size
  refine ⟨by simpa using h.size, ?_, fun j s hs' => ?_, fun j h1 h2 => ?_⟩
  · simp (disch := omega) only [Array.getElem?_setIfInBounds_ne]
    exact h.num
  · by_cases e : j < ts.length
    · rw [List.getElem?_append_left e] at hs'
      obtain ⟨c', k1, k2⟩ := h.ents j s hs'
      refine ⟨c', k1.other fun o o1 o2 => ?_, k2⟩
      simp (disch := omega) only [Array.getElem?_setIfInBounds_ne]
    · rw [List.getElem?_append_right (by omega)] at hs'
      have hj : j = ts.length := by
        have := (List.getElem?_eq_some_iff.1 hs').1
        simp at this
        omega
      subst hj
      simp at hs'
      subst hs'
      refine ⟨c, ⟨x, y, z, u, ?_, ?_, ?_, ?_, ?_, ?_, hq⟩, hc⟩
      · simp (disch := (first | omega | (simp only [Array.size_setIfInBounds]; omega))) only [Array.getElem?_setIfInBounds_ne, Array.getElem?_setIfInBounds_self_of_lt]
      · simp (disch := (first | omega | (simp only [Array.size_setIfInBounds]; omega))) only [Array.getElem?_setIfInBounds_ne, Array.getElem?_setIfInBounds_self_of_lt]
      · simp (disch := (first | omega | (simp only [Array.size_setIfInBounds]; omega))) only [Array.getElem?_setIfInBounds_ne, Array.getElem?_setIfInBounds_self_of_lt]
      · simp (disch := (first | omega | (simp only [Array.size_setIfInBounds]; omega))) only [Array.getElem?_setIfInBounds_ne, Array.getElem?_setIfInBounds_self_of_lt]
      · simp (disch := (first | omega | (simp only [Array.size_setIfInBounds]; omega))) only [Array.getElem?_setIfInBounds_ne, Array.getElem?_setIfInBounds_self_of_lt]
        rfl
      · simp (disch := omega) only [Array.getElem?_setIfInBounds_ne]
        exact h.rest _ (Nat.le_refl _) hi
  · simp at h1
    simp (disch := omega) only [Array.getElem?_setIfInBounds_ne]
    exact h.rest j (by omega) h2
theorem node_at {B : Nat} {w : World} {k : Nat} : ∀ (ts : List Tr) (j : Nat), (∀ (i : Nat) (t : Tr), ts[i]? = some t → ∃ c, EntAt w k (j + i) t.bound (some c) 0 ∧ IsNode B w t c) → NodeAt B w (nodeOf ts) k j
  | [], _, _ => trivial
  | t :: r, j, h => by
    obtain ⟨c, h1, h2⟩ := h 0 t rfl
    exact ⟨⟨c, h2.at_, h1, h2.num, h2.le, h2.pos, h2.ents⟩, node_at r (j + 1) fun i s hs => by
      have := h (i + 1) s hs
      rwa [show j + 1 + i = j + (i + 1) by omega]⟩
theorem SubCs.node {B : Nat} {w : World} {k : Nat} {cs : Array Value} {T : TypeId} {ts : List Tr} {n : Nat} (h : SubCs B w cs n ts) (hb : Blk w k cs T) (hn : ts.length = n) (h4 : n ≤ 4) (h0 : 0 < n) {B' : Nat} (hB' : B' ≤ B) (hB : B' ≤ k) : IsNode B' w (nodeOf ts) k := by
  refine ⟨(hb.rules.1 _).trans (by rw [nodeOf_len, hn]; exact h.num), by rw [nodeOf_len]; omega, by rw [nodeOf_len]; omega, hB, node_at ts 0 fun i t ht => ?_⟩
  obtain ⟨c, h1, h2⟩ := h.ents i t ht
  rw [Nat.zero_add]
  exact ⟨c, h1.at hb, h2.mono hB'⟩
end Go.Proofs.YtdfamnlmhikolaaDoor
