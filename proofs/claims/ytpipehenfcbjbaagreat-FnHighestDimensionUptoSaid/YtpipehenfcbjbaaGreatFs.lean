/-
  Slices of floats, as they came in or as a call has made them. No condition.
-/
import Derived.Test.YtpipehenfcbjbaaGreatBase
import Derived.Test.YtpipehenfcbjbaaGreatFlo
import Derived.Deep.RegionHeld3
import Derived.Deep.QuietTactic
import Derived.BigQuiet
import Derived.LoopTactic
import Derived.Deep.LoopGhost
import Derived.IntWalk
import Derived.Laws.CopyOwn
import Derived.Outline
namespace Go.Proofs.YtpipehenfcbjbaaGreat
open Go.ChangeShapes Go.WideShapes Go.ChangeAt Go.RowKit

/-- float64(n), its bits. -/
def fl (n : Int) : Nat := floatOfInt .f64 n
def flv (x : Nat) : Value := .float .f64 x

/-- Blocks that F lets, but for the k that were made from block s on. -/
def Loc (F : Nat → Prop) (s k : Nat) (b : Nat) : Prop := F b ∧ (b < s ∨ s + k ≤ b)
/-- F lets all new blocks. -/
def New (F : Nat → Prop) (w : World) : Prop := ∀ b, w.heap.size ≤ b → F b
theorem New.loc {F : Nat → Prop} {w w' : World} (h : New F w) {k : Nat} (hk : w.heap.size + k ≤ w'.heap.size) : New (Loc F w.heap.size k) w' :=
  fun b hb => ⟨h b (by omega), Or.inr (by omega)⟩
theorem New.bel {F : Nat → Prop} {w w' : World} (h : New F w) (hb : Bel w w') : New F w' := fun b k => h b (Nat.le_trans hb.size k)
theorem New.of_le {F : Nat → Prop} {w w' : World} (h : New F w) (hb : w.heap.size ≤ w'.heap.size) : New F w' := fun b k => h b (Nat.le_trans hb k)
theorem New.any (w : World) : New (fun _ => True) w := fun _ _ => trivial
theorem Loc.not {F : Nat → Prop} {s k g : Nat} (h1 : s ≤ g) (h2 : g < s + k) : ¬ Loc F s k g := fun h => by
  rcases h.2 with h | h <;> omega

/-- A slice of floats, read: its cells lie in a block that F lets. -/
def FlSl (F : Nat → Prop) (w : World) (v : Value) (xs : List Nat) : Prop :=
  ∃ p cap, v = .slice p xs.length cap ∧ xs.length ≤ cap ∧ cap ≤ 9223372036854775807 ∧
    (xs ≠ [] → ∃ b off, p = some ⟨b, off, none⟩ ∧ b < w.heap.size ∧ F b ∧ ∀ (i : Nat) (x : Nat), xs[i]? = some x → w.cell? ⟨b, off + i, none⟩ = some (.float .f64 x))

theorem FlSl.bel {F : Nat → Prop} {w w' : World} {v : Value} {xs : List Nat} (h : FlSl F w v xs) (hb : Bel w w') : FlSl F w' v xs := by
  obtain ⟨p, cap, hv, hl, hc, h⟩ := h
  refine ⟨p, cap, hv, hl, hc, fun hn => ?_⟩
  obtain ⟨b, off, hp, hlt, hF, hq⟩ := h hn
  exact ⟨b, off, hp, Nat.lt_of_lt_of_le hlt hb.size, hF, fun i x hi => (hb.cell hlt).trans (hq i x hi)⟩
theorem FlSl.set {F : Nat → Prop} {w : World} {v : Value} {xs : List Nat} (h : FlSl F w v xs) {g : Nat} (hg : ¬ F g) (o : Nat) (u : Value) : FlSl F (w.setCell ⟨g, o, none⟩ u) v xs := by
  obtain ⟨p, cap, hv, hl, hc, h⟩ := h
  refine ⟨p, cap, hv, hl, hc, fun hn => ?_⟩
  obtain ⟨b, off, hp, hlt, hF, hq⟩ := h hn
  have hne : b ≠ g := fun e => hg (e ▸ hF)
  exact ⟨b, off, hp, by simpa using hlt, hF, fun i x hi => cell_set_other hne (hq i x hi)⟩
theorem FlSl.mono {F G : Nat → Prop} {w : World} {v : Value} {xs : List Nat} (h : FlSl F w v xs) (hFG : ∀ b, b < w.heap.size → F b → G b) : FlSl G w v xs := by
  obtain ⟨p, cap, hv, hl, hc, h⟩ := h
  refine ⟨p, cap, hv, hl, hc, fun hn => ?_⟩
  obtain ⟨b, off, hp, hlt, hF, hq⟩ := h hn
  exact ⟨b, off, hp, hlt, hFG b hlt hF, hq⟩
theorem FlSl.loc {F : Nat → Prop} {w : World} {v : Value} {xs : List Nat} (h : FlSl F w v xs) (k : Nat) : FlSl (Loc F w.heap.size k) w v xs := h.mono fun _ hl hF => ⟨hF, Or.inl hl⟩
theorem FlSl.out {F : Nat → Prop} {w : World} {v : Value} {xs : List Nat} {s k : Nat} (h : FlSl (Loc F s k) w v xs) : FlSl F w v xs := h.mono fun _ _ hF => hF.1

theorem FlSl.isSlice {F : Nat → Prop} {w : World} {v : Value} {xs : List Nat} (h : FlSl F w v xs) : ∃ p n c, v = .slice p n c := by
  obtain ⟨p, cap, hv, _⟩ := h
  exact ⟨p, _, cap, hv⟩
theorem FlSl.len {F : Nat → Prop} {w : World} {p : Option Addr} {n c : Nat} {xs : List Nat} (h : FlSl F w (.slice p n c) xs) : xs.length = n ∧ n ≤ c ∧ c ≤ 9223372036854775807 := by
  obtain ⟨_, _, hv, h1, h2, _⟩ := h
  simp only [Value.slice.injEq] at hv
  obtain ⟨_, rfl, rfl⟩ := hv
  exact ⟨rfl, h1, h2⟩
/-- The cells of such a slice that is not empty. -/
theorem FlSl.cells {F : Nat → Prop} {w : World} {p : Option Addr} {n c : Nat} {xs : List Nat} (h : FlSl F w (.slice p n c) xs) (hn : 0 < n) :
    ∃ b off, p = some ⟨b, off, none⟩ ∧ b < w.heap.size ∧ F b ∧ ∀ (i : Nat) (x : Nat), xs[i]? = some x → w.cell? ⟨b, off + i, none⟩ = some (.float .f64 x) := by
  have hl := h.len.1
  obtain ⟨_, _, hv, _, _, h3⟩ := h
  simp only [Value.slice.injEq] at hv
  obtain ⟨rfl, _, rfl⟩ := hv
  exact h3 (fun e => by rw [e] at hl; simp at hl; omega)
theorem FlSl.nil (F : Nat → Prop) (w : World) : FlSl F w (.slice none 0 0) [] := ⟨none, 0, rfl, by simp, by simp, fun h => absurd rfl h⟩

theorem add_none (g j : Nat) : (⟨g, 0, none⟩ : Addr).add j = ⟨g, j, none⟩ := by cases j <;> simp [Addr.add]

theorem FlSl.of_owns {F : Nat → Prop} {w : World} {base n : Nat} {v : Value} {e : TypeId} {xs : List Nat} (h : w.ownsRow base e 1 v n (xs.map flv)) (hn : xs.length = n) (hF : ∀ b, base ≤ b → F b) : FlSl F w v xs := by
  subst hn
  have hc := fun (g : Nat) (hg : v.ownBlock = some g) => h.cells hg
  rcases h.2 with ⟨rfl, h0⟩ | ⟨g, cap, cur, rfl, hb, hg, h1, h2, _⟩
  · exact ⟨none, 0, by rw [h0], by omega, by omega, fun hn => absurd (List.length_eq_zero_iff.1 h0) hn⟩
  · refine ⟨_, cap, rfl, h1, by unfold maxLen at h2; omega, fun _ => ⟨g, 0, rfl, (Array.getElem?_eq_some_iff.1 hg).1, hF g hb, fun i q hq => ?_⟩⟩
    have c1 := hc g rfl i (.float .f64 q) (by rw [List.getElem?_map, hq]; rfl)
    rw [add_none] at c1
    rw [Nat.zero_add]
    exact c1

theorem FlSl.of_blk {F : Nat → Prop} {w : World} {g n : Nat} {t : TypeId} {xs : List Nat} (h : Blk w g (xs.map flv).toArray t) (hn : xs.length = n) (hm : n ≤ 9223372036854775807) (hF : F g) : FlSl F w (.slice (some ⟨g, 0, none⟩) n n) xs := by
  subst hn
  refine ⟨_, _, rfl, Nat.le_refl _, hm, fun _ => ⟨g, 0, rfl, h.lt, hF, fun i x hi => ?_⟩⟩
  rw [h.rules.1, Nat.zero_add]
  simp [hi]
  rfl
/-- What copy takes of such a slice. -/
theorem FlSl.src {F : Nat → Prop} {w : World} {p : Option Addr} {n c m : Nat} {xs : List Nat} (h : FlSl F w (.slice p n c) xs) (hn : 0 < ((xs.take m).map flv).length) :
    ∃ ad, p = some ad ∧ ∀ j v, ((xs.take m).map flv)[j]? = some v → w.cell? (ad.add j) = some v := by
  have hl := h.len.1
  obtain ⟨b, off, rfl, _, _, hq⟩ := h.cells (by
    rw [List.length_map, List.length_take] at hn
    omega)
  refine ⟨_, rfl, fun j v hj => ?_⟩
  rw [List.getElem?_map, Option.map_eq_some_iff] at hj
  obtain ⟨x, hx, rfl⟩ := hj
  rw [List.getElem?_take] at hx
  split at hx
  · have e : (⟨b, off, none⟩ : Addr).add j = ⟨b, off + j, none⟩ := by cases j <;> simp [Addr.add]
    rw [e]
    exact hq j x hx
  · cases hx
theorem flv_one (xs : List Nat) : ∀ v ∈ xs.map flv, v.oneCell' = true := by
  intro v hv
  obtain ⟨x, _, rfl⟩ := List.mem_map.1 hv
  rfl
theorem infoF1 : (Tryz.prog.info? 29).map (·.size) = some 1 := by kernel_rfl
theorem Blk.below {w w' : World} {b B : Nat} {cs : Array Value} {t : TypeId} (h : Blk w b cs t) (hb : Below B w w') (hlt : b < B) : Blk w' b cs t := by
  unfold Blk at *
  rw [Below.block hb b hlt]
  exact h
theorem Bel.below {w a w' : World} {B : Nat} (h : Bel w a) (k : Below B a w') (hB : w.heap.size ≤ B) : Bel w w' := Below.trans h (Below.mono k hB)
theorem add_off (b off j : Nat) : (⟨b, off, none⟩ : Addr).add j = ⟨b, off + j, none⟩ := by cases j <;> simp [Addr.add]
theorem _root_.Go.World.ownsRow.blk {w : World} {base g n size : Nat} {e : TypeId} {xs : List Value} (h : w.ownsRow base e size (.slice (some ⟨g, 0, none⟩) n n) n xs) : ∃ cs, Blk w g cs e ∧ cs.size = n * size := by
  rcases h.2 with ⟨h0, _⟩ | ⟨g', cap, cur, hv, _, hg, _, _, hs, _⟩
  · cases h0
  · simp only [Value.slice.injEq, Option.some.injEq, Addr.mk.injEq, and_true, true_and] at hv
    obtain ⟨rfl, rfl⟩ := hv
    exact ⟨cur, hg, hs⟩
theorem splice_all (cur cs : List Value) (h : cur.length = cs.length) : Go.splice cur 0 cs = cs := by
  simp [Go.splice, h]
theorem Bel.grown {w a w' : World} {row : Option Nat} (h : Bel w a) (hg : a.grownBy w' row) (hr : ∀ k, row = some k → w.heap.size ≤ k) : Bel w w' :=
  Below.grown h hg (Below.size h) hr

theorem Bel.of_grown0 {w w' : World} (h : w.grownBy w' none) : Bel w w' :=
  ⟨h.os, h.tape, h.output, h.size, fun k hk => h.block k hk (by simp)⟩

theorem grownBy_blk {w w' : World} {row : Option Nat} {g : Nat} {cs : Array Value} {t : TypeId} (h : w.grownBy w' row) (hb : Blk w g cs t) (hne : some g ≠ row) : Blk w' g cs t := by
  have hl := hb.lt
  unfold Blk at *
  rw [h.block g hl hne]
  exact hb
theorem grownBy_set (w : World) (g o : Nat) (v : Value) : w.grownBy (w.setCell ⟨g, o, none⟩ v) (some g) :=
  ⟨rfl, rfl, rfl, by simp, fun k hk hne => Below.heap_setCell w ⟨g, o, none⟩ v k (fun e => hne (congrArg some e))⟩

/-- The row is another block than those below its base. -/
theorem _root_.Go.World.ownsRow.ne_of_lt {w : World} {base n size : Nat} {v : Value} {e : TypeId} {xs : List Value} (h : w.ownsRow base e size v n xs) {g : Nat} (hg : g < base) : some g ≠ v.ownBlock := fun k => by
  have := (h.lt g k.symm).1
  omega
theorem _root_.Go.World.ownsRow.ne_of_lt' {w : World} {base n size : Nat} {v : Value} {e : TypeId} {xs : List Value} (h : w.ownsRow base e size v n xs) {g : Nat} (hg : g < base) : v.ownBlock = none ∨ v.ownBlock ≠ some g :=
  Or.inr fun k => h.ne_of_lt hg k.symm

theorem _root_.Go.World.ownsRow.isSlice {w : World} {base n size : Nat} {v : Value} {e : TypeId} {xs : List Value} (h : w.ownsRow base e size v n xs) : ∃ p c, v = .slice p n c := by
  rcases h.2 with ⟨rfl, h0⟩ | ⟨g, cap, cur, rfl, _⟩
  · exact ⟨none, 0, by rw [h0]⟩
  · exact ⟨_, _, rfl⟩
theorem take_map_snoc {α β : Type} (f : α → β) {l : List α} {k : Nat} {q : α} (hq : l[k]? = some q) : (l.take (k + 1)).map f = (l.take k).map f ++ [f q] := by
  obtain ⟨hk, he⟩ := List.getElem?_eq_some_iff.1 hq
  rw [List.take_succ_eq_append_getElem hk, List.map_append, he]
  rfl

theorem infoF : (Tryz.prog.info? 29).map (fun i => (i.zero, i.size, i.bytes)) = some (some (.float .f64 0), 1, 8) := by kernel_rfl

theorem cells_one (w : World) (a : Value) (t : TypeId) {n : Nat} (hn : n = w.heap.size) : ∀ j u, [a][j]? = some u → (w.alloc (.cells #[a] t)).cell? ((⟨n, 0, none⟩ : Addr).add j) = some u := by
  subst hn
  intro j u hj
  match j, hj with
  | 0, hj => simpa [Addr.add] using hj
theorem cells_pair (w : World) (a b : Value) (t : TypeId) {n : Nat} (hn : n = w.heap.size) : ∀ j u, [a, b][j]? = some u → (w.alloc (.cells #[a, b] t)).cell? ((⟨n, 0, none⟩ : Addr).add j) = some u := by
  subst hn
  intro j u hj
  match j, hj with
  | 0, hj => simpa [Addr.add] using hj
  | 1, hj => simpa [Addr.add] using hj
/-- An aggregate's result at the end of a body. -/
theorem resIs_agg {P : Program} {tmps : Array Value} {w : World} {p : Tmp} {ty : TypeId} {b n : Nat} {cs : Array Value} {T : TypeId} {fs : Array Field} (h : tmps.getD p undef = .pointer (some ⟨b, 0, none⟩)) (hu : P.underlying ty = some (.struct fs))
    (hi : (P.info? ty).map (·.size) = some n) (hB : Blk w b cs T) (hs : n = cs.size) : ResIs P tmps w (.cell p ty) (.agg cs) := resIs_blk h hu hi ⟨cs, hB, rfl⟩ hs
/-- What a region that draws its order holds on to: two cells that stood there, one block of the call's own. -/
theorem keepD2 {w w' : World} {p q : Addr} {x y : Value} {g : Nat} {cs : Array Value} {T : TypeId} (hp : p.block < w.heap.size) (hq : q.block < w.heap.size) (cx : w.cell? p = some x) (cy : w.cell? q = some y) (hB : Blk w' g cs T) (h : Bel w w') :
    w'.cell? p = some x ∧ w'.cell? q = some y ∧ (∀ o, w'.cell? ⟨g, o, none⟩ = cs[o]?) ∧ Blk w' g cs T ∧ Bel w w' := ⟨(h.cell hp).trans cx, (h.cell hq).trans cy, hB.rules.1, hB, h⟩
theorem keepD1 {w w' : World} {p : Addr} {x : Value} {g : Nat} {cs : Array Value} {T : TypeId} (hp : p.block < w.heap.size) (cx : w.cell? p = some x) (hB : Blk w' g cs T) (h : Bel w w') :
    w'.cell? p = some x ∧ (∀ o, w'.cell? ⟨g, o, none⟩ = cs[o]?) ∧ Blk w' g cs T ∧ Bel w w' := ⟨(h.cell hp).trans cx, hB.rules.1, hB, h⟩
theorem Blk.same {w : World} {b : Nat} {v : Value} {t : TypeId} (h : Blk w b #[v] t) : Blk (w.setCell ⟨b, 0, none⟩ v) b #[v] t := (h.set 0 v).cast (by simp)
theorem keepB {v w' : World} {b : Nat} {E : Array Value} {s : TypeId} (h0 : Blk v b E s) (hv : Bel v w') : (∀ o, w'.cell? ⟨b, o, none⟩ = E[o]?) ∧ Bel v w' := ⟨(h0.bel hv).rules.1, hv⟩
theorem Blk.drewN {w : World} {b : Nat} {cs : Array Value} {t : TypeId} (h : Blk w b cs t) (n : Nat) : Blk (w.drewN n) b cs t := h
end Go.Proofs.YtpipehenfcbjbaaGreat
