/-
  told by one contract: what a tree of few small items answers to a question. No panic; what stood in memory has not turned.
-/
import Derived.Test.YtdfamnlmhikolaaDoorTo3
set_option linter.unusedVariables false
namespace Go.Proofs.YtdfamnlmhikolaaDoor
open Go.ChangeShapes Go.WideShapes Go.ChangeAt Go.RowKit
theorem boundOn_small : ∀ (t : Tr) (b : Bx), b.Small 1048576 → t.Sm → (boundOn b t).Small 1048576
  | .nil, _, h, _ => h
  | .item b _ r, a, h, k => boundOn_small r _ (h.join k.1) k.2
  | .sub b _ r, a, h, k => boundOn_small r _ (h.join k.1) k.2.2
theorem bound_small {t : Tr} (h : t.Sm) (h0 : 0 < t.len) : t.bound.Small 1048576 := by
  cases t with
  | nil => simp [Tr.len] at h0
  | item b i r => exact boundOn_small r b h.1 h.2
  | sub b k r => exact boundOn_small r b h.1 h.2.2
theorem leafOf_sm : ∀ l : List It, (∀ t ∈ l, t.b.Small 1048576) → (leafOf l).Sm
  | [], _ => trivial
  | t :: r, h => ⟨h t (by simp), leafOf_sm r fun s hs => h s (by simp [hs])⟩
theorem leafOf_all : ∀ l : List It, (leafOf l).all = l.length
  | [] => rfl
  | t :: r => congrArg (· + 1) (leafOf_all r)
theorem nodeOf_sm : ∀ l : List Tr, (∀ t ∈ l, t.Sm ∧ 0 < t.len) → (nodeOf l).Sm
  | [], _ => trivial
  | t :: r, h => ⟨bound_small (h t (by simp)).1 (h t (by simp)).2, (h t (by simp)).1, nodeOf_sm r fun s hs => h s (by simp [hs])⟩
theorem half1_mem {l : List It} {P : It → Prop} (h : ∀ t ∈ l, P t) : ∀ t ∈ half1 l, P t := fun t ht => half_mem h t (by simp [ht])
theorem half2_mem {l : List It} {P : It → Prop} (h : ∀ t ∈ l, P t) : ∀ t ∈ half2 l, P t := fun t ht => half_mem h t (by simp [ht])
theorem bulk_sm : ∀ (f : Nat) (l : List It), l.length ≤ f → 0 < l.length → (∀ t ∈ l, t.b.Small 1048576) → (bulk f l).Sm ∧ (bulk f l).all ≤ 2 * l.length ∧ (2 ≤ l.length → (bulk f l).all + 2 ≤ 2 * l.length)
  | 0, l, h, k, _ => by omega
  | f + 1, l, h, k, hs => by
    have h1 := half1_len l
    have h2 := half2_len l
    have h11 := half1_len (half1 l)
    have h12 := half2_len (half1 l)
    have h21 := half1_len (half2 l)
    have h22 := half2_len (half2 l)
    unfold bulk
    repeat' split
    · refine ⟨leafOf_sm l hs, ?_, ?_⟩
      · rw [leafOf_all]
        omega
      · rw [leafOf_all]
        omega
    · obtain ⟨a1, b1, c1⟩ := bulk_sm f (half1 l) (by omega) (by omega) (half1_mem hs)
      obtain ⟨a2, b2, c2⟩ := bulk_sm f (half2 l) (by omega) (by omega) (half2_mem hs)
      refine ⟨nodeOf_sm _ fun t ht => ?_, ?_⟩
      · simp only [List.mem_cons, List.not_mem_nil, or_false] at ht
        rcases ht with rfl | rfl
        · exact ⟨a1, (bulk_len f _ (by omega) (by omega)).1⟩
        · exact ⟨a2, (bulk_len f _ (by omega) (by omega)).1⟩
      · have e : (nodeOf [bulk f (half1 l), bulk f (half2 l)]).all = (bulk f (half1 l)).all + ((bulk f (half2 l)).all + 0 + 1) + 1 := rfl
        have := c1 (by omega)
        have := c2 (by omega)
        omega
    · obtain ⟨a1, b1, c1⟩ := bulk_sm f (half1 (half1 l)) (by omega) (by omega) (half1_mem (half1_mem hs))
      obtain ⟨a2, b2, c2⟩ := bulk_sm f (half2 (half1 l)) (by omega) (by omega) (half2_mem (half1_mem hs))
      obtain ⟨a3, b3, c3⟩ := bulk_sm f (half1 (half2 l)) (by omega) (by omega) (half1_mem (half2_mem hs))
      obtain ⟨a4, b4, c4⟩ := bulk_sm f (half2 (half2 l)) (by omega) (by omega) (half2_mem (half2_mem hs))
      refine ⟨nodeOf_sm _ fun t ht => ?_, ?_⟩
      · simp only [List.mem_cons, List.not_mem_nil, or_false] at ht
        rcases ht with rfl | rfl | rfl | rfl
        · exact ⟨a1, (bulk_len f _ (by omega) (by omega)).1⟩
        · exact ⟨a2, (bulk_len f _ (by omega) (by omega)).1⟩
        · exact ⟨a3, (bulk_len f _ (by omega) (by omega)).1⟩
        · exact ⟨a4, (bulk_len f _ (by omega) (by omega)).1⟩
      · have e : (nodeOf [bulk f (half1 (half1 l)), bulk f (half2 (half1 l)), bulk f (half1 (half2 l)), bulk f (half2 (half2 l))]).all = (bulk f (half1 (half1 l))).all + ((bulk f (half2 (half1 l))).all + ((bulk f (half1 (half2 l))).all + ((bulk f (half2 (half2 l))).all + 0 + 1) + 1) + 1) + 1 := rfl
        have := c1 (by omega)
        have := c2 (by omega)
        have := c3 (by omega)
        have := c4 (by omega)
        omega
theorem treeOf_sm {l : List It} (hs : ∀ t ∈ l, t.b.Small 1048576) : (treeOf l).Sm ∧ (treeOf l).all ≤ 2 * l.length := by
  rcases Nat.eq_zero_or_pos l.length with h | h
  · obtain rfl := List.length_eq_zero_iff.1 h
    exact ⟨trivial, Nat.le_refl _⟩
  · have := bulk_sm l.length l (Nat.le_refl _) h hs
    exact ⟨this.1, this.2.1⟩
def prioRun (stop how : Int) (q : Bx) (T : Tr) : List Int × Ek := pr (tstep stop how) q (T.all + 1) (enqueue q T []) []
def toldOf (L : List It) (q : Bx) (dov stop how : Int) : Told :=
  if dov = 0 then ofRun (rg (tstep stop how) q (treeOf L) [])
  else if dov = 1 then ofRun (prioRun stop how q (treeOf L))
  else if dov = 2 then ⟨[], false, false, (nearOf q (treeOf L)).2, (nearOf q (treeOf L)).1, zeroBx, 0⟩
  else if dov = 3 then ⟨[], false, false, decide (0 < L.length), 0, if 0 < L.length then (treeOf L).bound else zeroBx, 0⟩
  else ⟨[], false, false, false, 0, zeroBx, (L.length : Int)⟩
theorem told_any (a : Addr) (w0 w : World) (x y z u : Nat) (q : Bx) (hq : BxB x y z u q) (hqs : q.Small 1048576) (p : Nat) (L : List It) (dov stop how : Int) (hd : 0 ≤ dov ∧ dov ≤ 4) (hL : L.length ≤ 100000) (hs : ∀ t ∈ L, t.b.Small 1048576)
    (hb : Below w0.heap.size w0 w) (hg : w0.cell? ⟨0, 0, none⟩ = some (.iface 128 (.pointer (some a)))) (ht : TreeAt w0 p L) :
    Calls Tryd.prog 14 #[.pointer (some ⟨p, 0, none⟩), .agg #[.int .i64 dov, .float .f64 x, .float .f64 y, .float .f64 z, .float .f64 u, .int .i64 stop, .int .i64 how]] w (IsTold (toldOf L q dov stop how) w) := by
  obtain ⟨hsm, hall⟩ := treeOf_sm hs
  have tree_at : ∀ w1, Bel w w1 → TreeAt w1 p L := fun w1 h1 => by
    have hsz := hb.size
    obtain ⟨root, k1, k2, k3⟩ := ht
    have up : ∀ {p v}, w0.cell? p = some v → w1.cell? p = some v := fun {p v} hc => cell_kept h1 ((hb.cell (World.block_lt_of_cell? w0 p hc)).trans hc)
    refine ⟨root, up k1, up k2, ?_⟩
    rcases k3 with k3 | ⟨k3, k, k4, k5⟩
    · exact Or.inl k3
    · exact Or.inr ⟨k3, k, k4, (k5.bel (w' := w1) ⟨h1.os.trans hb.os, h1.tape.trans hb.tape, h1.output.trans hb.output, Nat.le_trans hb.size h1.size, fun b hbb => (h1.block b (by omega)).trans (hb.block b hbb)⟩)⟩
  unfold toldOf
  by_cases d0 : dov = 0
  · subst d0
    rw [if_pos rfl]
    have HS := range_search (stop := stop) (how := how) (dov := .int .i64 0) hq hb hg ht (by omega)
    obtain ⟨ids, ek, hr⟩ : ∃ ids ek, rg (tstep stop how) q (treeOf L) [] = (ids, ek) := ⟨_, _, rfl⟩
    rw [hr] at HS ⊢
    cases ek
    · exact told_range_none a p x y z u stop how ids w (Lib.hid HS)
    · exact told_range_stop a p x y z u stop how ids w (Lib.hid HS)
    · exact told_range_wstop a p x y z u stop how ids w (Lib.hid HS)
    · exact told_range_own a p x y z u stop how ids w (Lib.hid HS)
    · exact told_range_wown a p x y z u stop how ids w (Lib.hid HS)
  · rw [if_neg d0]
    by_cases d1 : dov = 1
    · subst d1
      rw [if_pos rfl]
      have HS := prio_search (stop := stop) (how := how) (dov := .int .i64 1) hq hqs hb hg ht hsm (by omega)
      obtain ⟨ids, ek, hr⟩ : ∃ ids ek, prioRun stop how q (treeOf L) = (ids, ek) := ⟨_, _, rfl⟩
      have hr' : pr (tstep stop how) q ((treeOf L).all + 1) (enqueue q (treeOf L) []) [] = (ids, ek) := hr
      rw [hr'] at HS
      rw [hr]
      cases ek
      · exact told_prio_none a p x y z u stop how ids w (Lib.hid HS)
      · exact told_prio_stop a p x y z u stop how ids w (Lib.hid HS)
      · exact told_prio_wstop a p x y z u stop how ids w (Lib.hid HS)
      · exact told_prio_own a p x y z u stop how ids w (Lib.hid HS)
      · exact told_prio_wown a p x y z u stop how ids w (Lib.hid HS)
    · rw [if_neg d1]
      by_cases d2 : dov = 2
      · subst d2
        rw [if_pos rfl]
        exact told_near p x y z u stop how (nearOf q (treeOf L)) w (Lib.hid fun w1 h1 => nearest_any a w0 w1 x y z u q hq hqs p L (hb.trans (Below.mono h1 hb.size)) hg ht hsm (by omega))
      · rw [if_neg d2]
        by_cases d3 : dov = 3
        · subst d3
          rw [if_pos rfl]
          refine told_ext p x y z u stop how (decide (0 < L.length)) (if 0 < L.length then (treeOf L).bound else zeroBx) w (Lib.hid fun w1 h1 => (extent_any p L w1 (tree_at w1 h1)).mono ?_)
          rintro e w2 ⟨c0, c1, c2, c3, rfl, k1, k2, k3⟩
          refine ⟨c0, c1, c2, c3, rfl, ?_, k3⟩
          by_cases h : 0 < L.length
          · rw [if_pos h]
            exact Lib.hid (k1 h)
          · rw [if_neg h]
            exact Lib.hid (k2 (by omega))
        · rw [if_neg d3]
          obtain rfl : dov = 4 := by omega
          exact told_count p x y z u stop how L.length w (Lib.hid fun w1 h1 => count_any p L w1 (tree_at w1 h1))
end Go.Proofs.YtdfamnlmhikolaaDoor
