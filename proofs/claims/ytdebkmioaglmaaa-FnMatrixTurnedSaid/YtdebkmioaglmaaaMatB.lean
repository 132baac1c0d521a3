/-
  Three rows of the call's own that grow side by side: what holds of them while new one-cell blocks are made and appended. No condition.
-/
import Derived.Test.YtdebkmioaglmaaaMatA
namespace Go.Proofs.Ytdebkmioaglmaaa
open Go.ChangeShapes Go.WideShapes Go.ChangeAt Go.RowKit
theorem grownBy_set (w : World) (g o : Nat) (v : Value) : w.grownBy (w.setCell ⟨g, o, none⟩ v) (some g) :=
  ⟨rfl, rfl, rfl, by simp, fun k hk hne => Below.heap_setCell w ⟨g, o, none⟩ v k (fun e => hne (congrArg some e))⟩
theorem grownBy_blk {w w' : World} {row : Option Nat} {g : Nat} {cs : Array Value} {t : TypeId} (h : w.grownBy w' row) (hb : Blk w g cs t) (hne : some g ≠ row) : Blk w' g cs t := by
  have hl := hb.lt
  unfold Blk at *
  rw [h.block g hl hne]
  exact hb
theorem cell_new {w : World} {g : Nat} {y : Value} {t : TypeId} (h : g = w.heap.size) : (w.alloc (.cells #[y] t)).cell? ⟨g, 0, none⟩ = some y := by
  subst h
  simp [go_sem]
def up {α : Type} (f : Nat → α) (i : Nat) (x : α) : Nat → α := fun j => if j = i then x else f j
theorem up_at {α : Type} (f : Nat → α) (i : Nat) (x : α) : up f i x i = x := if_pos rfl
theorem up_ne {α : Type} (f : Nat → α) {i j : Nat} (x : α) (h : j ≠ i) : up f i x j = f j := if_neg h

/-- The three rows: p tells how far each is (0: nothing, 1: its new element lies in a block of its own, 2: it is appended). -/
structure M (w0 : World) (B gs : Nat) (cs : Array Value) (E : Nat → TypeId) (n : Nat) (xs : Nat → List Value) (y : Nat → Value) (p : Nat → Nat) (b v : Nat → Value) (w : World) : Prop where
  bel : Bel w0 w
  base : B = w0.heap.size
  seen : Blk w gs cs 59
  row : ∀ i, i < 3 → w.ownsRow B (E i) 1 (v i) (if p i = 2 then n + 1 else n) (if p i = 2 then xs i ++ [y i] else xs i)
  one : ∀ i, i < 3 → p i = 1 → ∃ g, b i = .slice (some ⟨g, 0, none⟩) 1 1 ∧ w.cell? ⟨g, 0, none⟩ = some (y i)
  dif : ∀ i j, i < 3 → j < 3 → i ≠ j → Diff (v i) (v j)
  difs : ∀ i, i < 3 → Diff (v i) (.slice (some ⟨gs, 0, none⟩) 9 9)
  difb : ∀ i j, i < 3 → j < 3 → p j = 1 → Diff (v i) (b j)

variable {w0 w : World} {B gs n : Nat} {cs : Array Value} {E : Nat → TypeId} {xs : Nat → List Value} {y : Nat → Value} {p : Nat → Nat} {b v : Nat → Value}

theorem M.drew (h : M w0 B gs cs E n xs y p b v w) : M w0 B gs cs E n xs y p b v w.drew :=
  ⟨h.bel.drew, h.base, h.seen.drew, h.row, h.one, h.dif, h.difs, h.difb⟩

theorem M.build (h : M w0 B gs cs E n xs y p b v w) (i : Nat) (hi : i < 3) (hp : p i = 0) (t : TypeId) {g : Nat} (hg : g = w.heap.size) :
    M w0 B gs cs E n xs y (up p i 1) (up b i (.slice (some ⟨g, 0, none⟩) 1 1)) v (w.alloc (.cells #[y i] t)) := by
  refine ⟨h.bel.alloc _, h.base, h.seen.alloc _, fun j hj => ?_, fun j hj hpj => ?_, h.dif, h.difs, fun k j hk hj hpj => ?_⟩
  · have := (h.row j hj).alloc (.cells #[y i] t)
    by_cases e : j = i
    · subst e
      rw [up_at, if_neg (by decide), if_neg (by decide)]
      rw [hp, if_neg (by decide), if_neg (by decide)] at this
      exact this
    · rw [up_ne p _ e]
      exact this
  · by_cases e : j = i
    · subst e
      rw [up_at]
      exact ⟨g, rfl, cell_new hg⟩
    · rw [up_ne p _ e] at hpj
      rw [up_ne b _ e]
      obtain ⟨g', h1, h2⟩ := h.one j hj hpj
      exact ⟨g', h1, cell_alloc h2⟩
  · by_cases e : j = i
    · subst e
      rw [up_at]
      intro q hq eq
      have := ((h.row k hk).lt q hq).2
      simp only [Value.ownBlock, Option.some.injEq] at eq
      omega
    · rw [up_ne p _ e] at hpj
      rw [up_ne b _ e]
      exact h.difb k j hk hj hpj

theorem M.app (h : M w0 B gs cs E n xs y p b v w) (i : Nat) (hi : i < 3) (hp : p i = 1) {v' : Value} {w' : World} (ho : w'.ownsRow B (E i) 1 v' (n + 1) (xs i ++ [y i])) (hg : w.grownBy w' (v i).ownBlock) (hb : v'.ownBlock = (v i).ownBlock ∨ v'.ownBlock = some w.heap.size) :
    M w0 B gs cs E n xs y (up p i 2) b (up v i v') w' := by
  have hlt : ∀ j, j < 3 → ∀ g, (v j).ownBlock = some g → g < w.heap.size := fun j hj g e => ((h.row j hj).lt g e).2
  refine ⟨Bel.grown h.bel hg (fun k e => by have := ((h.row i hi).lt k e).1; rw [h.base] at this; exact this), h.base, grownBy_blk hg h.seen (fun e => h.difs i hi gs e.symm rfl), fun j hj => ?_, fun j hj hpj => ?_, fun j k hj hk hjk => ?_, fun j hj => ?_, fun k j hk hj hpj => ?_⟩
  · by_cases e : j = i
    · subst e
      rw [up_at, up_at, if_pos rfl, if_pos rfl]
      exact ho
    · rw [up_ne p _ e, up_ne v _ e]
      exact (h.row j hj).kept hg (h.dif j i hj hi e).ne
  · by_cases e : j = i
    · subst e
      rw [up_at] at hpj
      omega
    · rw [up_ne p _ e] at hpj
      obtain ⟨g', h1, h2⟩ := h.one j hj hpj
      refine ⟨g', h1, hg.cell h2 (fun q => h.difb i j hi hj hpj g' q.symm ?_)⟩
      rw [h1]
      rfl
  · by_cases e : j = i
    · subst e
      rw [up_at, up_ne v _ (fun q => hjk q.symm)]
      exact (h.dif j k hj hk hjk).left hb (hlt k hk) (Nat.le_refl _)
    · by_cases e2 : k = i
      · subst e2
        rw [up_at, up_ne v _ e]
        exact ((h.dif k j hk hj (fun q => hjk q.symm)).left hb (hlt j hj) (Nat.le_refl _)).symm
      · rw [up_ne v _ e, up_ne v _ e2]
        exact h.dif j k hj hk hjk
  · by_cases e : j = i
    · subst e
      rw [up_at]
      exact (h.difs j hj).left hb (fun g q => by cases q; exact h.seen.lt) (Nat.le_refl _)
    · rw [up_ne v _ e]
      exact h.difs j hj
  · by_cases e2 : j = i
    · subst e2
      rw [up_at] at hpj
      omega
    · rw [up_ne p _ e2] at hpj
      by_cases e : k = i
      · subst e
        rw [up_at]
        refine (h.difb k j hk hj hpj).left hb (fun g q => ?_) (Nat.le_refl _)
        obtain ⟨g', h1, h2⟩ := h.one j hj hpj
        rw [h1] at q
        cases q
        exact World.block_lt_of_cell? w _ h2
      · rw [up_ne v _ e]
        exact h.difb k j hk hj hpj

/-- Append, inside a region that draws its order. -/
theorem M.step {P : Program} {ops : Array Oper} {o : Oper} {a : Act} {K : Act → World → Prop} {Q : Exit → Act → World → Prop} (h : M w0 B gs cs E n xs y p b v w) (i : Nat) (hi : i < 3) (hp : p i = 1)
    (hgd : o.guard = none) (s x : Operand) (t : TypeId) (ho : o.op = .call { callee := .builtin .append, args := #[s, x], argTypes := #[t, t] })
    (ti : TypeInfo) (z : Value) (bytes : Nat) (ht : P.underlying t = some (.slice (E i))) (hti : P.info? (E i) = some ti) (hz : ti.zero = some z)
    (hsize : ti.size = 1) (hby : ti.bytes = bytes) (hzs : z.cells.size = 1) (hs : a.eval s = v i) (hx : a.eval x = b i) (h1 : (y i).oneCell' = true)
    (h63 : n + 1 ≤ maxLen) (hbytes : (n + 1) * bytes ≤ 140737488355328)
    (hK : ∀ v' w', M w0 B gs cs E n xs y (up p i 2) b (up v i v') w' → K (a.put o.dst v') w') :
    if Region.wanted o (yielded ops a.tmps) = true then o.wp P a w K Q else K (a.put o.dst undef) w := by
  obtain ⟨g, hb, hc⟩ := h.one i hi hp
  have hr := h.row i hi
  rw [hp, if_neg (by decide), if_neg (by decide)] at hr
  refine step_append_own2 w hgd s x t ho B (E i) ti z bytes ht hti hz hsize hby hzs (v i) n (xs i) hs hr g (y i) (hx.trans hb) hc h1 h63 hbytes (by rw [h.base]; exact h.bel.size) ?_
  intro v' w' g1 g2 g3
  exact hK v' w' (h.app i hi hp g1 g2 g3)
end Go.Proofs.Ytdebkmioaglmaaa
