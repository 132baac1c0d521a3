/-
  The tree of boxes in whole numbers, with no program in sight: how it is made of its items (quickPartition), what its searches go through, and that all of this goes with a move. No condition.
-/
set_option linter.unusedVariables false
namespace Go.Proofs.YtdfamnlmhikolaaDoor

structure Bx where
  x0 : Int
  y0 : Int
  x1 : Int
  y1 : Int
structure It where
  b : Bx
  id : Int
def Bx.join (a b : Bx) : Bx := ⟨min a.x0 b.x0, min a.y0 b.y0, max a.x1 b.x1, max a.y1 b.y1⟩
def Bx.mv (x y : Int) (b : Bx) : Bx := ⟨b.x0 + x, b.y0 + y, b.x1 + x, b.y1 + y⟩
def Bx.meets (a b : Bx) : Bool := decide (a.x0 ≤ b.x1 ∧ b.x0 ≤ a.x1 ∧ a.y0 ≤ b.y1 ∧ b.y0 ≤ a.y1)
def gap (a0 a1 b0 b1 : Int) : Int := max 0 (max (a0 - b1) (b0 - a1))
def Bx.far (a b : Bx) : Int := gap a.x0 a.x1 b.x0 b.x1 * gap a.x0 a.x1 b.x0 b.x1 + gap a.y0 a.y1 b.y0 b.y1 * gap a.y0 a.y1 b.y0 b.y1
def It.mv (x y : Int) (t : It) : It := ⟨t.b.mv x y, t.id⟩
/-- Whole ends from -m to m. -/
def Bx.Small (m : Int) (b : Bx) : Prop := (-m ≤ b.x0 ∧ b.x0 ≤ m) ∧ (-m ≤ b.y0 ∧ b.y0 ≤ m) ∧ (-m ≤ b.x1 ∧ b.x1 ≤ m) ∧ (-m ≤ b.y1 ∧ b.y1 ≤ m)
theorem Bx.Small.join {m : Int} {a b : Bx} (h : a.Small m) (k : b.Small m) : (a.join b).Small m := by
  unfold Bx.Small Bx.join at *
  dsimp only
  omega
theorem gap_mv (a b c d x : Int) : gap (a + x) (b + x) (c + x) (d + x) = gap a b c d := by unfold gap; omega
theorem Bx.far_mv (x y : Int) (a b : Bx) : (a.mv x y).far (b.mv x y) = a.far b := by
  unfold Bx.far Bx.mv
  simp only [gap_mv]
theorem Bx.meets_mv (x y : Int) (a b : Bx) : (a.mv x y).meets (b.mv x y) = a.meets b := by
  unfold Bx.meets Bx.mv
  simp only [Int.add_le_add_iff_right]
theorem Bx.join_mv (x y : Int) (a b : Bx) : (a.mv x y).join (b.mv x y) = (a.join b).mv x y := by
  unfold Bx.join Bx.mv
  simp only [Bx.mk.injEq]
  omega

section
variable {α β : Type}
/-! ### Rows: a comparison, an exchange -/
def swapAt (l : List α) (i j : Nat) : List α := match l[i]?, l[j]? with
  | some a, some b => (l.set i b).set j a
  | _, _ => l
def ltAt (lt : α → α → Bool) (l : List α) (i j : Nat) : Bool := match l[i]?, l[j]? with
  | some a, some b => lt a b
  | _, _ => false
theorem swapAt_len (l : List α) (i j : Nat) : (swapAt l i j).length = l.length := by
  unfold swapAt
  split <;> simp
theorem swapAt_mem {P : α → Prop} {l : List α} (i j : Nat) (h : ∀ a ∈ l, P a) : ∀ a ∈ swapAt l i j, P a := by
  unfold swapAt
  split
  · rename_i a b ha hb
    intro c hc
    rcases List.mem_or_eq_of_mem_set hc with hc | rfl
    · rcases List.mem_or_eq_of_mem_set hc with hc | rfl
      · exact h c hc
      · exact h _ (List.mem_of_getElem? hb)
    · exact h _ (List.mem_of_getElem? ha)
  · exact h
theorem swapAt_map (g : α → β) (l : List α) (i j : Nat) : swapAt (l.map g) i j = (swapAt l i j).map g := by
  unfold swapAt
  simp only [List.getElem?_map]
  cases l[i]? <;> cases l[j]? <;> simp
theorem swapAt_some {l : List α} {i j : Nat} {a b : α} (h : l[i]? = some a) (k : l[j]? = some b) : swapAt l i j = (l.set i b).set j a := by
  unfold swapAt
  rw [h, k]
theorem ltAt_some {lt : α → α → Bool} {l : List α} {i j : Nat} {a b : α} (h : l[i]? = some a) (k : l[j]? = some b) : ltAt lt l i j = lt a b := by
  unfold ltAt
  rw [h, k]
theorem ltAt_map {lt : α → α → Bool} {lt' : β → β → Bool} (g : α → β) (hg : ∀ a b, lt' (g a) (g b) = lt a b) (l : List α) (i j : Nat) : ltAt lt' (l.map g) i j = ltAt lt l i j := by
  unfold ltAt
  simp only [List.getElem?_map]
  cases l[i]? <;> cases l[j]? <;> simp [hg]

/-! ### quickPartition -/
def nextRnd (s : Nat) : Nat := (1664525 * s + 1013904223) % 4294967296
def pick (s n : Nat) : Nat := s * n / 4294967296
def parts (lt : α → α → Bool) (right : Nat) : Nat → Nat → Nat → List α → List α × Nat
  | 0, _, j, l => (l, j)
  | n + 1, i, j, l => if ltAt lt l i right then parts lt right n (i + 1) (j + 1) (swapAt l i j) else parts lt right n (i + 1) j l
def two (lt : α → α → Bool) (l : List α) (i j : Nat) : List α := if ltAt lt l i j then swapAt l i j else l
def three (lt : α → α → Bool) (l : List α) (left : Nat) : List α :=
  if ltAt lt (two lt l (left + 1) left) (left + 2) (left + 1) then two lt (swapAt (two lt l (left + 1) left) (left + 2) (left + 1)) (left + 1) left else two lt l (left + 1) left
def atPivot (l : List α) (left right r : Nat) : List α := if left + pick r (right - left + 1) = right then l else swapAt l (left + pick r (right - left + 1)) right
def qp (lt : α → α → Bool) : Nat → Nat → Nat → Nat → Nat → List α → List α
  | 0, _, _, _, _, l => l
  | f + 1, left, right, k, s, l =>
    if right = left + 1 then two lt l right left
    else if right = left + 2 then three lt l left
    else
      if (parts lt right (right - left) left left (atPivot l left right (nextRnd s))).2 - left < k then
        qp lt f ((parts lt right (right - left) left left (atPivot l left right (nextRnd s))).2 + 1) right (k - ((parts lt right (right - left) left left (atPivot l left right (nextRnd s))).2 - left + 1)) (nextRnd s)
          (swapAt (parts lt right (right - left) left left (atPivot l left right (nextRnd s))).1 right (parts lt right (right - left) left left (atPivot l left right (nextRnd s))).2)
      else if k < (parts lt right (right - left) left left (atPivot l left right (nextRnd s))).2 - left then
        qp lt f left ((parts lt right (right - left) left left (atPivot l left right (nextRnd s))).2 - 1) k (nextRnd s)
          (swapAt (parts lt right (right - left) left left (atPivot l left right (nextRnd s))).1 right (parts lt right (right - left) left left (atPivot l left right (nextRnd s))).2)
      else swapAt (parts lt right (right - left) left left (atPivot l left right (nextRnd s))).1 right (parts lt right (right - left) left left (atPivot l left right (nextRnd s))).2
/-- One round that goes on. -/
theorem qp_round (lt : α → α → Bool) (f left right k s : Nat) (l l2 : List α) (j : Nat) (h1 : right ≠ left + 1) (h2 : right ≠ left + 2) (hp : parts lt right (right - left) left left (atPivot l left right (nextRnd s)) = (l2, j)) :
    qp lt (f + 1) left right k s l = if j - left < k then qp lt f (j + 1) right (k - (j - left + 1)) (nextRnd s) (swapAt l2 right j) else if k < j - left then qp lt f left (j - 1) k (nextRnd s) (swapAt l2 right j) else swapAt l2 right j := by
  rw [qp, if_neg h1, if_neg h2, hp]
theorem parts_len (lt : α → α → Bool) (right : Nat) : ∀ (n i j : Nat) (l : List α), (parts lt right n i j l).1.length = l.length
  | 0, _, _, _ => rfl
  | n + 1, i, j, l => by
    unfold parts
    split
    · rw [parts_len lt right n, swapAt_len]
    · exact parts_len lt right n _ _ _
theorem parts_mem {P : α → Prop} (lt : α → α → Bool) (right : Nat) : ∀ (n i j : Nat) (l : List α), (∀ a ∈ l, P a) → ∀ a ∈ (parts lt right n i j l).1, P a
  | 0, _, _, _, h => h
  | n + 1, i, j, l, h => by
    unfold parts
    split
    · exact parts_mem lt right n _ _ _ (swapAt_mem _ _ h)
    · exact parts_mem lt right n _ _ _ h
theorem parts_map {lt : α → α → Bool} {lt' : β → β → Bool} (g : α → β) (hg : ∀ a b, lt' (g a) (g b) = lt a b) (right : Nat) : ∀ (n i j : Nat) (l : List α), parts lt' right n i j (l.map g) = ((parts lt right n i j l).1.map g, (parts lt right n i j l).2)
  | 0, _, _, _ => rfl
  | n + 1, i, j, l => by
    unfold parts
    rw [ltAt_map g hg]
    split
    · rw [swapAt_map, parts_map g hg right n]
    · rw [parts_map g hg right n]
theorem two_len (lt : α → α → Bool) (l : List α) (i j : Nat) : (two lt l i j).length = l.length := by
  unfold two
  split
  · exact swapAt_len _ _ _
  · rfl
theorem two_mem {P : α → Prop} (lt : α → α → Bool) (l : List α) (i j : Nat) (h : ∀ a ∈ l, P a) : ∀ a ∈ two lt l i j, P a := by
  unfold two
  split
  · exact swapAt_mem _ _ h
  · exact h
theorem two_map {lt : α → α → Bool} {lt' : β → β → Bool} (g : α → β) (hg : ∀ a b, lt' (g a) (g b) = lt a b) (l : List α) (i j : Nat) : two lt' (l.map g) i j = (two lt l i j).map g := by
  unfold two
  rw [ltAt_map g hg]
  split
  · exact swapAt_map _ _ _ _
  · rfl
theorem three_len (lt : α → α → Bool) (l : List α) (i : Nat) : (three lt l i).length = l.length := by
  unfold three
  split
  · rw [two_len, swapAt_len, two_len]
  · exact two_len _ _ _ _
theorem three_mem {P : α → Prop} (lt : α → α → Bool) (l : List α) (i : Nat) (h : ∀ a ∈ l, P a) : ∀ a ∈ three lt l i, P a := by
  unfold three
  split
  · exact two_mem _ _ _ _ (swapAt_mem _ _ (two_mem _ _ _ _ h))
  · exact two_mem _ _ _ _ h
theorem three_map {lt : α → α → Bool} {lt' : β → β → Bool} (g : α → β) (hg : ∀ a b, lt' (g a) (g b) = lt a b) (l : List α) (i : Nat) : three lt' (l.map g) i = (three lt l i).map g := by
  unfold three
  simp only [two_map g hg, ltAt_map g hg, swapAt_map]
  split <;> rfl
theorem atPivot_len (l : List α) (left right r : Nat) : (atPivot l left right r).length = l.length := by
  unfold atPivot
  split
  · rfl
  · exact swapAt_len _ _ _
theorem atPivot_mem {P : α → Prop} (l : List α) (left right r : Nat) (h : ∀ a ∈ l, P a) : ∀ a ∈ atPivot l left right r, P a := by
  unfold atPivot
  split
  · exact h
  · exact swapAt_mem _ _ h
theorem atPivot_map (g : α → β) (l : List α) (left right r : Nat) : atPivot (l.map g) left right r = (atPivot l left right r).map g := by
  unfold atPivot
  split
  · rfl
  · exact swapAt_map _ _ _ _
theorem qp_len (lt : α → α → Bool) : ∀ (f left right k s : Nat) (l : List α), (qp lt f left right k s l).length = l.length
  | 0, _, _, _, _, _ => rfl
  | f + 1, left, right, k, s, l => by
    unfold qp
    repeat' split
    · exact two_len _ _ _ _
    · exact three_len _ _ _
    · rw [qp_len lt f, swapAt_len, parts_len, atPivot_len]
    · rw [qp_len lt f, swapAt_len, parts_len, atPivot_len]
    · rw [swapAt_len, parts_len, atPivot_len]
theorem qp_mem {P : α → Prop} (lt : α → α → Bool) : ∀ (f left right k s : Nat) (l : List α), (∀ a ∈ l, P a) → ∀ a ∈ qp lt f left right k s l, P a
  | 0, _, _, _, _, _, h => h
  | f + 1, left, right, k, s, l, h => by
    unfold qp
    have := swapAt_mem right (parts lt right (right - left) left left (atPivot l left right (nextRnd s))).2 (parts_mem lt right (right - left) left left _ (atPivot_mem l left right (nextRnd s) h))
    repeat' split
    · exact two_mem _ _ _ _ h
    · exact three_mem _ _ _ h
    · exact qp_mem lt f _ _ _ _ _ this
    · exact qp_mem lt f _ _ _ _ _ this
    · exact this
theorem qp_map {lt : α → α → Bool} {lt' : β → β → Bool} (g : α → β) (hg : ∀ a b, lt' (g a) (g b) = lt a b) : ∀ (f left right k s : Nat) (l : List α), qp lt' f left right k s (l.map g) = (qp lt f left right k s l).map g
  | 0, _, _, _, _, _ => rfl
  | f + 1, left, right, k, s, l => by
    unfold qp
    simp only [two_map g hg, three_map g hg, atPivot_map, parts_map g hg, swapAt_map]
    repeat' split
    · rfl
    · rfl
    · exact qp_map g hg f _ _ _ _ _
    · exact qp_map g hg f _ _ _ _ _
    · rfl
/-- Where the partition ends. -/
theorem parts_at (lt : α → α → Bool) (right : Nat) : ∀ (n i j : Nat) (l : List α), j ≤ i → j ≤ (parts lt right n i j l).2 ∧ (parts lt right n i j l).2 ≤ i + n
  | 0, i, j, l, h => ⟨Nat.le_refl _, h⟩
  | n + 1, i, j, l, h => by
    unfold parts
    split
    · have := parts_at lt right n (i + 1) (j + 1) (swapAt l i j) (by omega)
      omega
    · have := parts_at lt right n (i + 1) j l (by omega)
      omega
/-- A round of the partition, seen from its start. -/
theorem parts_step (lt : α → α → Bool) (right n i j : Nat) (l : List α) : parts lt right (n + 1) i j l = if ltAt lt l i right then parts lt right n (i + 1) (j + 1) (swapAt l i j) else parts lt right n (i + 1) j l := rfl
end

/-! ### The tree -/
/-- The entries of a node: an item, or a node below; each with its box, and the entries behind it. -/
inductive Tr where
  | nil : Tr
  | item (b : Bx) (id : Int) (rest : Tr) : Tr
  | sub (b : Bx) (kid : Tr) (rest : Tr) : Tr
def Tr.len : Tr → Nat
  | .nil => 0
  | .item _ _ r => r.len + 1
  | .sub _ _ r => r.len + 1
/-- How many entries there are in all. -/
def Tr.all : Tr → Nat
  | .nil => 0
  | .item _ _ r => r.all + 1
  | .sub _ k r => k.all + r.all + 1
def Tr.mv (x y : Int) : Tr → Tr
  | .nil => .nil
  | .item b i r => .item (b.mv x y) i (r.mv x y)
  | .sub b k r => .sub (b.mv x y) (k.mv x y) (r.mv x y)
def boundOn : Bx → Tr → Bx
  | a, .nil => a
  | a, .item b _ r => boundOn (a.join b) r
  | a, .sub b _ r => boundOn (a.join b) r
def Tr.bound : Tr → Bx
  | .nil => ⟨0, 0, 0, 0⟩
  | .item b _ r => boundOn b r
  | .sub b _ r => boundOn b r
def leafOf : List It → Tr
  | [] => .nil
  | t :: r => .item t.b t.id (leafOf r)
def nodeOf : List Tr → Tr
  | [] => .nil
  | t :: r => .sub t.bound t (nodeOf r)
def itLt (h : Bool) (a b : It) : Bool := if h then decide (a.b.x0 + a.b.x1 < b.b.x0 + b.b.x1) else decide (a.b.y0 + a.b.y1 < b.b.y0 + b.b.y1)
def aroundOn (b : Bx) (l : List It) : Bx := l.foldl (fun b t => b.join t.b) b
def horiz : List It → Bool
  | [] => false
  | a :: r => decide ((aroundOn a.b r).y1 - (aroundOn a.b r).y0 < (aroundOn a.b r).x1 - (aroundOn a.b r).x0)
def parted (l : List It) : List It := qp (itLt (horiz l)) l.length 0 (l.length - 1) (l.length / 2) 0 l
def half1 (l : List It) : List It := (parted l).take (l.length / 2)
def half2 (l : List It) : List It := (parted l).drop (l.length / 2)
def bulk : Nat → List It → Tr
  | 0, _ => .nil
  | f + 1, l => if l.length ≤ 4 then leafOf l
    else if l.length ≤ 8 then nodeOf [bulk f (half1 l), bulk f (half2 l)]
    else nodeOf [bulk f (half1 (half1 l)), bulk f (half2 (half1 l)), bulk f (half1 (half2 l)), bulk f (half2 (half2 l))]
def treeOf (l : List It) : Tr := bulk l.length l

theorem itLt_mv (h : Bool) (x y : Int) (a b : It) : itLt h (a.mv x y) (b.mv x y) = itLt h a b := by
  unfold itLt It.mv Bx.mv
  dsimp only
  congr 1 <;> (simp only [decide_eq_decide]; omega)
theorem aroundOn_mv (x y : Int) : ∀ (l : List It) (b : Bx), aroundOn (b.mv x y) (l.map (It.mv x y)) = (aroundOn b l).mv x y
  | [], _ => rfl
  | t :: r, b => by
    show aroundOn ((b.mv x y).join (t.b.mv x y)) (r.map (It.mv x y)) = (aroundOn (b.join t.b) r).mv x y
    rw [Bx.join_mv, aroundOn_mv x y r]
theorem horiz_mv (x y : Int) (l : List It) : horiz (l.map (It.mv x y)) = horiz l := by
  cases l with
  | nil => rfl
  | cons a r =>
    show decide ((aroundOn (a.b.mv x y) (r.map (It.mv x y))).y1 - _ < _) = _
    have := aroundOn_mv x y r a.b
    unfold horiz It.mv at *
    dsimp only [List.map_cons]
    rw [this]
    unfold Bx.mv
    simp only [decide_eq_decide]
    omega
theorem parted_mv (x y : Int) (l : List It) : parted (l.map (It.mv x y)) = (parted l).map (It.mv x y) := by
  unfold parted
  rw [horiz_mv, List.length_map]
  exact qp_map _ (itLt_mv _ x y) _ _ _ _ _ _
theorem parted_len (l : List It) : (parted l).length = l.length := qp_len _ _ _ _ _ _ _
theorem half1_mv (x y : Int) (l : List It) : half1 (l.map (It.mv x y)) = (half1 l).map (It.mv x y) := by
  unfold half1
  rw [parted_mv, List.length_map, List.map_take]
theorem half2_mv (x y : Int) (l : List It) : half2 (l.map (It.mv x y)) = (half2 l).map (It.mv x y) := by
  unfold half2
  rw [parted_mv, List.length_map, List.map_drop]
theorem half1_len (l : List It) : (half1 l).length = l.length / 2 := by
  unfold half1
  rw [List.length_take, parted_len]
  omega
theorem half2_len (l : List It) : (half2 l).length = l.length - l.length / 2 := by
  unfold half2
  rw [List.length_drop, parted_len]
theorem leafOf_mv (x y : Int) : ∀ l : List It, leafOf (l.map (It.mv x y)) = (leafOf l).mv x y
  | [] => rfl
  | t :: r => congrArg (Tr.item _ _) (leafOf_mv x y r)
theorem boundOn_mv (x y : Int) : ∀ (t : Tr) (b : Bx), boundOn (b.mv x y) (t.mv x y) = (boundOn b t).mv x y
  | .nil, _ => rfl
  | .item b _ r, a => by
    show boundOn ((a.mv x y).join (b.mv x y)) (r.mv x y) = _
    rw [Bx.join_mv, boundOn_mv x y r]
    rfl
  | .sub b _ r, a => by
    show boundOn ((a.mv x y).join (b.mv x y)) (r.mv x y) = _
    rw [Bx.join_mv, boundOn_mv x y r]
    rfl
theorem bound_mv (x y : Int) (t : Tr) (h : 0 < t.len) : (t.mv x y).bound = t.bound.mv x y := by
  cases t with
  | nil => simp [Tr.len] at h
  | item b i r => exact boundOn_mv x y r b
  | sub b k r => exact boundOn_mv x y r b
theorem leafOf_len : ∀ l : List It, (leafOf l).len = l.length
  | [] => rfl
  | t :: r => congrArg (· + 1) (leafOf_len r)
theorem nodeOf_len : ∀ l : List Tr, (nodeOf l).len = l.length
  | [] => rfl
  | t :: r => congrArg (· + 1) (nodeOf_len r)
theorem nodeOf_mv (x y : Int) : ∀ l : List Tr, (∀ t ∈ l, 0 < t.len) → nodeOf (l.map (Tr.mv x y)) = (nodeOf l).mv x y
  | [], _ => rfl
  | t :: r, h => by
    show Tr.sub (t.mv x y).bound (t.mv x y) (nodeOf (r.map (Tr.mv x y))) = Tr.sub (t.bound.mv x y) (t.mv x y) ((nodeOf r).mv x y)
    rw [bound_mv x y t (h t (by simp)), nodeOf_mv x y r (fun t ht => h t (by simp [ht]))]
/-- A node has entries, as many as fit. -/
theorem bulk_len : ∀ (f : Nat) (l : List It), l.length ≤ f → 0 < l.length → 0 < (bulk f l).len ∧ (bulk f l).len ≤ 4
  | 0, l, h, k => by omega
  | f + 1, l, h, k => by
    unfold bulk
    repeat' split
    · rw [leafOf_len]; omega
    · rw [nodeOf_len]; simp
    · rw [nodeOf_len]; simp
theorem bulk_mv (x y : Int) : ∀ (f : Nat) (l : List It), l.length ≤ f → 0 < l.length → bulk f (l.map (It.mv x y)) = (bulk f l).mv x y
  | 0, l, h, k => by omega
  | f + 1, l, h, k => by
    have h1 := half1_len l
    have h2 := half2_len l
    have h11 := half1_len (half1 l)
    have h12 := half2_len (half1 l)
    have h21 := half1_len (half2 l)
    have h22 := half2_len (half2 l)
    unfold bulk
    rw [List.length_map]
    repeat' split
    · exact leafOf_mv x y l
    · rw [half1_mv, half2_mv, bulk_mv x y f _ (by omega) (by omega), bulk_mv x y f _ (by omega) (by omega)]
      refine nodeOf_mv x y [bulk f (half1 l), bulk f (half2 l)] ?_
      intro t ht
      simp only [List.mem_cons, List.not_mem_nil, or_false] at ht
      rcases ht with rfl | rfl
      · exact (bulk_len f _ (by omega) (by omega)).1
      · exact (bulk_len f _ (by omega) (by omega)).1
    · rw [half1_mv, half2_mv, half1_mv, half2_mv, half1_mv, half2_mv, bulk_mv x y f _ (by omega) (by omega), bulk_mv x y f _ (by omega) (by omega), bulk_mv x y f _ (by omega) (by omega), bulk_mv x y f _ (by omega) (by omega)]
      refine nodeOf_mv x y [bulk f (half1 (half1 l)), bulk f (half2 (half1 l)), bulk f (half1 (half2 l)), bulk f (half2 (half2 l))] ?_
      intro t ht
      simp only [List.mem_cons, List.not_mem_nil, or_false] at ht
      rcases ht with rfl | rfl | rfl | rfl <;> exact (bulk_len f _ (by omega) (by omega)).1
/-- The fuel does not matter. -/
theorem bulk_fuel : ∀ (f g : Nat) (l : List It), l.length ≤ f → l.length ≤ g → 0 < l.length → bulk f l = bulk g l
  | 0, g, l, h, _, k => by omega
  | f + 1, 0, l, _, h, k => by omega
  | f + 1, g + 1, l, h, h', k => by
    have h1 := half1_len l
    have h2 := half2_len l
    have h11 := half1_len (half1 l)
    have h12 := half2_len (half1 l)
    have h21 := half1_len (half2 l)
    have h22 := half2_len (half2 l)
    unfold bulk
    repeat' split
    · rfl
    · rw [bulk_fuel f g _ (by omega) (by omega) (by omega), bulk_fuel f g (half2 l) (by omega) (by omega) (by omega)]
    · rw [bulk_fuel f g (half1 (half1 l)) (by omega) (by omega) (by omega), bulk_fuel f g (half2 (half1 l)) (by omega) (by omega) (by omega), bulk_fuel f g (half1 (half2 l)) (by omega) (by omega) (by omega), bulk_fuel f g (half2 (half2 l)) (by omega) (by omega) (by omega)]
theorem treeOf_mv (x y : Int) (l : List It) : treeOf (l.map (It.mv x y)) = (treeOf l).mv x y := by
  unfold treeOf
  rw [List.length_map]
  cases l with
  | nil => rfl
  | cons a r => exact bulk_mv x y _ _ (Nat.le_refl _) (by simp)

/-! ### Searches -/
/-- What a search through a box goes through. -/
def Tr.range (q : Bx) : Tr → List Int
  | .nil => []
  | .item b i r => (if b.meets q then [i] else []) ++ r.range q
  | .sub b k r => (if b.meets q then k.range q else []) ++ r.range q
theorem range_mv (x y : Int) (q : Bx) : ∀ t : Tr, (t.mv x y).range (q.mv x y) = t.range q
  | .nil => rfl
  | .item b i r => by
    show (if (b.mv x y).meets (q.mv x y) then [i] else []) ++ (r.mv x y).range (q.mv x y) = _
    rw [Bx.meets_mv, range_mv x y q r]
    rfl
  | .sub b k r => by
    show (if (b.mv x y).meets (q.mv x y) then (k.mv x y).range (q.mv x y) else []) ++ (r.mv x y).range (q.mv x y) = _
    rw [Bx.meets_mv, range_mv x y q r, range_mv x y q k]
    rfl

section
variable {α β : Type}
def up (lt : α → α → Bool) : Nat → Nat → List α → List α
  | 0, _, l => l
  | f + 1, j, l => if (j - 1) / 2 = j then l else if ltAt lt l j ((j - 1) / 2) then up lt f ((j - 1) / 2) (swapAt l ((j - 1) / 2) j) else l
def kidAt (lt : α → α → Bool) (i n : Nat) (l : List α) : Nat := if 2 * i + 2 < n ∧ ltAt lt l (2 * i + 2) (2 * i + 1) = true then 2 * i + 2 else 2 * i + 1
def down (lt : α → α → Bool) : Nat → Nat → Nat → List α → List α
  | 0, _, _, l => l
  | f + 1, i, n, l => if n ≤ 2 * i + 1 then l else if ltAt lt l (kidAt lt i n l) i then down lt f (kidAt lt i n l) n (swapAt l i (kidAt lt i n l)) else l
def push (lt : α → α → Bool) (l : List α) (x : α) : List α := up lt (l.length + 1) l.length (l ++ [x])
def sunk (lt : α → α → Bool) (l : List α) : List α := down lt l.length 0 (l.length - 1) (swapAt l 0 (l.length - 1))
theorem up_len (lt : α → α → Bool) : ∀ (f j : Nat) (l : List α), (up lt f j l).length = l.length
  | 0, _, _ => rfl
  | f + 1, j, l => by
    unfold up
    repeat' split
    · rfl
    · rw [up_len lt f, swapAt_len]
    · rfl
theorem down_len (lt : α → α → Bool) : ∀ (f i n : Nat) (l : List α), (down lt f i n l).length = l.length
  | 0, _, _, _ => rfl
  | f + 1, i, n, l => by
    unfold down
    repeat' split
    · rfl
    · rw [down_len lt f, swapAt_len]
    · rfl
theorem push_len (lt : α → α → Bool) (l : List α) (x : α) : (push lt l x).length = l.length + 1 := by
  unfold push
  rw [up_len]
  simp
theorem sunk_len (lt : α → α → Bool) (l : List α) : (sunk lt l).length = l.length := by
  unfold sunk
  rw [down_len, swapAt_len]
theorem swapAt_perm (l : List α) (i j : Nat) : (swapAt l i j).Perm l := by
  unfold swapAt
  split
  · rename_i a b ha hb
    obtain ⟨h1, rfl⟩ := List.getElem?_eq_some_iff.1 ha
    obtain ⟨h2, rfl⟩ := List.getElem?_eq_some_iff.1 hb
    exact List.set_set_perm h1 h2
  · exact List.Perm.refl _
theorem up_perm (lt : α → α → Bool) : ∀ (f j : Nat) (l : List α), (up lt f j l).Perm l
  | 0, _, _ => List.Perm.refl _
  | f + 1, j, l => by
    unfold up
    repeat' split
    · exact List.Perm.refl _
    · exact (up_perm lt f _ _).trans (swapAt_perm _ _ _)
    · exact List.Perm.refl _
theorem down_perm (lt : α → α → Bool) : ∀ (f i n : Nat) (l : List α), (down lt f i n l).Perm l
  | 0, _, _, _ => List.Perm.refl _
  | f + 1, i, n, l => by
    unfold down
    repeat' split
    · exact List.Perm.refl _
    · exact (down_perm lt f _ _ _).trans (swapAt_perm _ _ _)
    · exact List.Perm.refl _
theorem push_perm (lt : α → α → Bool) (l : List α) (x : α) : (push lt l x).Perm (l ++ [x]) := up_perm _ _ _ _
theorem sunk_perm (lt : α → α → Bool) (l : List α) : (sunk lt l).Perm l := (down_perm _ _ _ _ _).trans (swapAt_perm _ _ _)
theorem up_map {lt : α → α → Bool} {lt' : β → β → Bool} (g : α → β) (hg : ∀ a b, lt' (g a) (g b) = lt a b) : ∀ (f j : Nat) (l : List α), up lt' f j (l.map g) = (up lt f j l).map g
  | 0, _, _ => rfl
  | f + 1, j, l => by
    unfold up
    rw [ltAt_map g hg, swapAt_map]
    repeat' split
    · rfl
    · exact up_map g hg f _ _
    · rfl
theorem kidAt_map {lt : α → α → Bool} {lt' : β → β → Bool} (g : α → β) (hg : ∀ a b, lt' (g a) (g b) = lt a b) (i n : Nat) (l : List α) : kidAt lt' i n (l.map g) = kidAt lt i n l := by
  unfold kidAt
  rw [ltAt_map g hg]
theorem down_map {lt : α → α → Bool} {lt' : β → β → Bool} (g : α → β) (hg : ∀ a b, lt' (g a) (g b) = lt a b) : ∀ (f i n : Nat) (l : List α), down lt' f i n (l.map g) = (down lt f i n l).map g
  | 0, _, _, _ => rfl
  | f + 1, i, n, l => by
    unfold down
    rw [kidAt_map g hg, ltAt_map g hg, swapAt_map]
    repeat' split
    · rfl
    · exact down_map g hg f _ _ _
    · rfl
theorem push_map {lt : α → α → Bool} {lt' : β → β → Bool} (g : α → β) (hg : ∀ a b, lt' (g a) (g b) = lt a b) (l : List α) (x : α) : push lt' (l.map g) (g x) = (push lt l x).map g := by
  unfold push
  rw [List.length_map, ← up_map g hg]
  simp
theorem sunk_map {lt : α → α → Bool} {lt' : β → β → Bool} (g : α → β) (hg : ∀ a b, lt' (g a) (g b) = lt a b) (l : List α) : sunk lt' (l.map g) = (sunk lt l).map g := by
  unfold sunk
  rw [List.length_map, swapAt_map, down_map g hg]
theorem sunk_mem {P : α → Prop} (lt : α → α → Bool) (l : List α) (h : ∀ a ∈ l, P a) : ∀ a ∈ sunk lt l, P a := fun a ha => h a ((sunk_perm lt l).mem_iff.1 ha)
theorem push_mem {P : α → Prop} (lt : α → α → Bool) (l : List α) (x : α) (h : ∀ a ∈ l, P a) (hx : P x) : ∀ a ∈ push lt l x, P a := fun a ha => by
  have := (push_perm lt l x).mem_iff.1 ha
  simp only [List.mem_append, List.mem_cons, List.not_mem_nil, or_false] at this
  rcases this with k | rfl
  · exact h a k
  · exact hx
end

/-- An entry that waits: an item, or a node. -/
structure En where
  b : Bx
  kid : Option Tr
  id : Int
def En.mv (x y : Int) (e : En) : En := ⟨e.b.mv x y, e.kid.map (Tr.mv x y), e.id⟩
def enLt (o : Bx) (a b : En) : Bool := decide (a.b.far o < b.b.far o)
theorem enLt_mv (x y : Int) (o : Bx) (a b : En) : enLt (o.mv x y) (a.mv x y) (b.mv x y) = enLt o a b := by
  unfold enLt En.mv
  simp only [Bx.far_mv]
def enqueue (o : Bx) : Tr → List En → List En
  | .nil, q => q
  | .item b i r, q => enqueue o r (push (enLt o) q ⟨b, none, i⟩)
  | .sub b k r, q => enqueue o r (push (enLt o) q ⟨b, some k, 0⟩)
def En.weight (e : En) : Nat := 1 + match e.kid with
  | none => 0
  | some t => t.all
def weights (q : List En) : Nat := (q.map En.weight).sum
theorem weights_perm {q q' : List En} (h : q.Perm q') : weights q = weights q' := (h.map En.weight).sum_nat
theorem weights_snoc (q : List En) (e : En) : weights (q ++ [e]) = weights q + e.weight := by
  unfold weights
  simp
theorem enqueue_weights (o : Bx) : ∀ (t : Tr) (q : List En), weights (enqueue o t q) = weights q + t.all
  | .nil, q => rfl
  | .item b i r, q => by
    show weights (enqueue o r _) = _
    rw [enqueue_weights o r, weights_perm (push_perm _ _ _), weights_snoc]
    simp only [En.weight, Tr.all]
    omega
  | .sub b k r, q => by
    show weights (enqueue o r _) = _
    rw [enqueue_weights o r, weights_perm (push_perm _ _ _), weights_snoc]
    simp only [En.weight, Tr.all]
    omega
/-- What a search by distance goes through. -/
def prio (o : Bx) : Nat → List En → List Int
  | 0, _ => []
  | f + 1, q => match (sunk (enLt o) q)[q.length - 1]? with
    | none => []
    | some e => match e.kid with
      | none => e.id :: prio o f ((sunk (enLt o) q).take (q.length - 1))
      | some t => prio o f (enqueue o t ((sunk (enLt o) q).take (q.length - 1)))
def Tr.prio (o : Bx) (t : Tr) : List Int := Go.Proofs.YtdfamnlmhikolaaDoor.prio o (t.all + 1) (enqueue o t [])
theorem enqueue_mv (x y : Int) (o : Bx) : ∀ (t : Tr) (q : List En), enqueue (o.mv x y) (t.mv x y) (q.map (En.mv x y)) = (enqueue o t q).map (En.mv x y)
  | .nil, q => rfl
  | .item b i r, q => by
    show enqueue (o.mv x y) (r.mv x y) (push (enLt (o.mv x y)) (q.map (En.mv x y)) ((⟨b, none, i⟩ : En).mv x y)) = _
    rw [push_map (lt := enLt o) (En.mv x y) (enLt_mv x y o), enqueue_mv x y o r]
    rfl
  | .sub b k r, q => by
    show enqueue (o.mv x y) (r.mv x y) (push (enLt (o.mv x y)) (q.map (En.mv x y)) ((⟨b, some k, 0⟩ : En).mv x y)) = _
    rw [push_map (lt := enLt o) (En.mv x y) (enLt_mv x y o), enqueue_mv x y o r]
    rfl
theorem prio_mv' (x y : Int) (o : Bx) : ∀ (f : Nat) (q : List En), prio (o.mv x y) f (q.map (En.mv x y)) = prio o f q
  | 0, _ => rfl
  | f + 1, q => by
    unfold prio
    rw [sunk_map (lt := enLt o) (En.mv x y) (enLt_mv x y o), List.length_map, List.getElem?_map]
    cases (sunk (enLt o) q)[q.length - 1]? with
    | none => rfl
    | some e =>
      obtain ⟨b, kid, i⟩ := e
      cases kid with
      | none =>
        show i :: prio (o.mv x y) f _ = i :: prio o f _
        rw [← List.map_take, prio_mv' x y o f]
      | some t =>
        show prio (o.mv x y) f (enqueue (o.mv x y) (t.mv x y) _) = prio o f (enqueue o t _)
        rw [← List.map_take, enqueue_mv, prio_mv' x y o f]
theorem all_mv (x y : Int) : ∀ t : Tr, (t.mv x y).all = t.all
  | .nil => rfl
  | .item _ _ r => congrArg (· + 1) (all_mv x y r)
  | .sub _ k r => by
    show (k.mv x y).all + (r.mv x y).all + 1 = k.all + r.all + 1
    rw [all_mv x y r, all_mv x y k]
theorem prio_mv (x y : Int) (o : Bx) (t : Tr) : (t.mv x y).prio (o.mv x y) = t.prio o := by
  unfold Tr.prio
  rw [all_mv, ← prio_mv' x y o, ← enqueue_mv]
  rfl
/-- A round, seen from its start. -/
theorem prio_item (o : Bx) (f : Nat) (q : List En) (e : En) (h : (sunk (enLt o) q)[q.length - 1]? = some e) (hk : e.kid = none) : prio o (f + 1) q = e.id :: prio o f ((sunk (enLt o) q).take (q.length - 1)) := by
  rw [prio, h]
  simp only [hk]
theorem prio_sub (o : Bx) (f : Nat) (q : List En) (e : En) (t : Tr) (h : (sunk (enLt o) q)[q.length - 1]? = some e) (hk : e.kid = some t) : prio o (f + 1) q = prio o f (enqueue o t ((sunk (enLt o) q).take (q.length - 1))) := by
  rw [prio, h]
  simp only [hk]
theorem prio_none (o : Bx) (f : Nat) : prio o f [] = [] := by
  cases f <;> rfl
end Go.Proofs.YtdfamnlmhikolaaDoor
