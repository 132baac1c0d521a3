/-
  Plain laws: what a tree of moved items answers to moved questions.
-/
import Derived.Test.YtdfamnlmhikolaaDoorTo4
set_option linter.unusedVariables false
namespace Go.Proofs.YtdfamnlmhikolaaDoor
theorem rg_mv {σ : Type} (step : σ → Int → σ × Ek) (x y : Int) (q : Bx) : ∀ (t : Tr) (s : σ), rg step (q.mv x y) (t.mv x y) s = rg step q t s
  | .nil, s => rfl
  | .item b id r, s => by
    show rg step (q.mv x y) (.item (b.mv x y) id (r.mv x y)) s = _
    unfold rg
    rw [Bx.meets_mv, rg_mv step x y q r s]
    obtain ⟨s2, ek, hs⟩ : ∃ s2 ek, step s id = (s2, ek) := ⟨_, _, rfl⟩
    rw [hs]
    cases ek
    · simp only [rg_mv step x y q r s2]
    all_goals rfl
  | .sub b k r, s => by
    show rg step (q.mv x y) (.sub (b.mv x y) (k.mv x y) (r.mv x y)) s = _
    unfold rg
    rw [Bx.meets_mv, rg_mv step x y q r s, rg_mv step x y q k s]
    obtain ⟨s2, ek, hs⟩ : ∃ s2 ek, rg step q k s = (s2, ek) := ⟨_, _, rfl⟩
    rw [hs]
    cases ek
    · simp only [rg_mv step x y q r s2]
    all_goals rfl
theorem pr_mv {σ : Type} (step : σ → Int → σ × Ek) (x y : Int) (o : Bx) : ∀ (f : Nat) (q : List En) (s : σ), pr step (o.mv x y) f (q.map (En.mv x y)) s = pr step o f q s
  | 0, _, _ => rfl
  | f + 1, q, s => by
    unfold pr
    rw [sunk_map (lt := enLt o) (En.mv x y) (enLt_mv x y o), List.length_map, List.getElem?_map]
    cases (sunk (enLt o) q)[q.length - 1]? with
    | none => rfl
    | some e =>
      obtain ⟨b, kid, i⟩ := e
      cases kid with
      | none =>
        obtain ⟨s2, ek, hs⟩ : ∃ s2 ek, step s i = (s2, ek) := ⟨_, _, rfl⟩
        show (match step s i with
          | (s', .none) => pr step (o.mv x y) f _ s'
          | (s', k) => if k.ends then (s', Ek.none) else (s', k)) = (match step s i with
          | (s', .none) => pr step o f _ s'
          | (s', k) => if k.ends then (s', Ek.none) else (s', k))
        rw [hs]
        cases ek
        · show pr step (o.mv x y) f _ s2 = pr step o f _ s2
          rw [← List.map_take, pr_mv step x y o f]
        all_goals rfl
      | some t =>
        show pr step (o.mv x y) f (enqueue (o.mv x y) (t.mv x y) _) s = pr step o f (enqueue o t _) s
        rw [← List.map_take, enqueue_mv, pr_mv step x y o f]
theorem prioAll_mv {σ : Type} (step : σ → Int → σ × Ek) (x y : Int) (o : Bx) (T : Tr) (s : σ) : pr step (o.mv x y) ((T.mv x y).all + 1) (enqueue (o.mv x y) (T.mv x y) []) s = pr step o (T.all + 1) (enqueue o T []) s := by
  rw [all_mv, ← pr_mv step x y o, ← enqueue_mv]
  rfl
def toldMv (x y dov : Int) (t : Told) : Told := { t with bx := if dov = 3 ∧ t.found = true then t.bx.mv x y else t.bx }
theorem treeOf_len {L : List It} (h : 0 < L.length) : 0 < (treeOf L).len := (bulk_len L.length L (Nat.le_refl _) h).1
theorem told_mv (x y : Int) (L : List It) (q : Bx) (dov stop how : Int) : toldOf (L.map (It.mv x y)) (q.mv x y) dov stop how = toldMv x y dov (toldOf L q dov stop how) := by
  unfold toldOf toldMv
  by_cases d0 : dov = 0
  · subst d0
    simp only [if_pos, treeOf_mv, rg_mv]
    rfl
  · simp only [if_neg d0]
    by_cases d1 : dov = 1
    · subst d1
      simp only [if_pos, treeOf_mv, prioRun, prioAll_mv]
      rfl
    · simp only [if_neg d1]
      by_cases d2 : dov = 2
      · subst d2
        simp only [if_pos, treeOf_mv, nearOf, prioAll_mv]
        rfl
      · simp only [if_neg d2]
        by_cases d3 : dov = 3
        · subst d3
          simp only [if_pos, List.length_map, treeOf_mv]
          by_cases h : 0 < L.length
          · simp only [if_pos h, bound_mv x y _ (treeOf_len h)]
            simp [h]
          · simp only [if_neg h]
            simp [h]
        · simp only [if_neg d3, List.length_map]
          simp [d3]
end Go.Proofs.YtdfamnlmhikolaaDoor
