/-
  Lemmas that every law of this seat's claims uses: a frame for the row's step (the law answers true and nothing that stood in memory has turned), and small words on worlds that have only grown. No condition.
-/
import Derived.Test.YtpipehenfcbjbaaGreatRows
import Derived.WalkKit
import Derived.ProofKit
import Derived.OpenShut
import Derived.Defers
import Derived.Recover
import Derived.Laws.Pointers
import Derived.Carry
import Derived.WalkLawsBesides
import Derived.WalkSpells
import Derived.Lib.Hide
import Derived.Deep.Draws
namespace Go.Proofs.YtpipehenfcbjbaaGreat
open Go.ChangeShapes Go.WideShapes Go.ChangeAt Go.RowKit

/-- A store of a float: as of an integer. -/
@[go_sem] theorem run_store_float (P : Program) (w : World) (a : Addr) (m : Mode) (k : FloatKind) (b : Nat) : (store a (.float k b) m).run P w = stored P w a (.float k b) m := run_store P w a _ m rfl

theorem own : ownKnob Tryz.prog.godebug = none := by kernel_rfl
theorem laidOut : laidOutB Tryz.prog = true := by kernel_rfl

section
variable {H : Type} {enc : TypeId × Value → H} {P : Program}

/-- The arguments read as they did: nothing that stood in memory has turned. -/
theorem trodAll_below (hl : laidOutB P = true) : ∀ (ts : List TypeId) (vs : List Value) (ds : List (DataW H)) (ps : List MemPlace) (W W' : World),
    (∀ t ∈ ts, P.readableRec t = true ∧ t < P.types.size) → DataW.TrodAll enc P W 0 (fun _ => true) true ts vs ds ps → Below W.heap.size W W' → (∀ x ∈ ps, x.block < W.heap.size) →
    DataW.TrodAll enc P W' 0 (fun b => decide (b < W.heap.size)) true ts vs ds ps
  | [], [], [], ps, W, W', _, h, _, _ => h
  | t :: ts, v :: vs, d :: ds, ps, W, W', hr, h, hb, hlt => by
    obtain ⟨p, q, h1, h2, rfl⟩ := h
    exact ⟨p, q, Below.trod hl (hr t (by simp)).1 (hr t (by simp)).2 h1 hb (fun x hx => hlt x (by simp [hx])),
      trodAll_below hl ts vs ds q W W' (fun t' ht' => hr t' (by simp [ht'])) h2 hb (fun x hx => hlt x (by simp [hx])), rfl⟩
  | [], [], _ :: _, _, _, _, _, h, _, _ => h.elim
  | [], _ :: _, _, _, _, _, _, h, _, _ => h.elim
  | _ :: _, [], _, _, _, _, _, h, _, _ => h.elim
  | _ :: _, _ :: _, [], _, _, _, _, h, _, _ => h.elim

/-- A struct's field, read. -/
theorem field_of {w : World} {base : Nat} {sp : Nat → Bool} {held : Bool} {fuel : Nat} {t : TypeId} {cs : List Value} {x : DataW H × List MemPlace} {fs : Array Field} (ht : P.underlying t = some (.struct fs))
    (h : DataW.trod enc P w base sp held fuel t cs = some x) (i : Nat) (f : Field) (hf : fs[i]? = some f) :
    ∃ m y, DataW.trod enc P w base sp held m f.type ((cs.drop f.offset).take (P.cellsOf f.type)) = some y := by
  obtain ⟨xs, n, _, _, _, hl, hx⟩ := DataW.trod_struct ht h
  have hi : i < xs.length := by
    rw [hl]
    rcases Nat.lt_or_ge i fs.size with g | g
    · exact g
    · simp [Array.getElem?_eq_none g] at hf
  exact ⟨n, xs[i], (hx i f hf).trans (List.getElem?_eq_getElem hi)⟩

/-- A float, read. -/
theorem trod_float {w : World} {base : Nat} {sp : Nat → Bool} {held : Bool} {fuel : Nat} {t : TypeId} {cs : List Value} {x : DataW H × List MemPlace} {k : FloatKind} (ht : P.underlying t = some (.float k))
    (h : DataW.trod enc P w base sp held fuel t cs = some x) : ∃ b, cs = [.float k b] ∧ (Lit.float k b).wf = true := by
  cases fuel with
  | zero => simp [DataW.trod] at h
  | succ n =>
    unfold DataW.trod at h
    rw [ht] at h
    split at h <;> simp_all

/-- A law's end: it answers true, and below the heap's old size nothing has turned. -/
theorem law_post (hl : laidOutB P = true) {f : Func} {s : ChangeSpec} {W W' : World} {args : Array Value} {ds gs : List (DataW H)} {before : List MemPlace} {tb : TypeId}
    (hW : DataW.Whole enc P f.params.toList s.vars false W args.toList ds gs before) (hv : s.vars = [])
    (hspec : s.fn H (ds ++ gs) = { results := [.lit (.bool true)], args := ds })
    (hrt : f.resultTypes = #[tb]) (hub : P.underlying tb = some .bool)
    (hr : ∀ t ∈ f.params.toList, P.readableRec t = true ∧ t < P.types.size) (hb : Below W.heap.size W W') :
    s.post enc P f false true false false W args (.bool true) W' := by
  have hlt := hW.lt
  have hW0 := hW
  obtain ⟨p, q, h1, h2, rfl, _, _⟩ := hW
  rw [hv] at h2
  have hg : gs = [] ∧ q = [] := by
    cases gs with
    | nil => exact ⟨rfl, h2⟩
    | cons _ _ => exact h2.elim
  obtain ⟨rfl, rfl⟩ := hg
  refine ⟨ds, [], p ++ [], [], p, [], hW0, ?_, ?_, ?_, hb.frame _, fun h => by cases h⟩
  · rw [hspec, hrt]
    exact trodAll_mk1 (shut_bool hub true)
  · rw [hspec]
    exact trodAll_below hl _ _ _ _ _ _ hr h1 hb (fun x hx => hlt x (by simp [hx]))
  · rw [hspec, hv]
    rfl

/-- Old cells and old marks read as before. -/
theorem bcell {B : Nat} {W w1 : World} (hb : Below B W w1) :
    (∀ b o, b < B → w1.cell? ⟨b, o, none⟩ = W.cell? ⟨b, o, none⟩) ∧ (∀ b o, b < B → w1.frozen? ⟨b, o, none⟩ = W.frozen? ⟨b, o, none⟩) :=
  ⟨fun b o h => hb.cell (p := ⟨b, o, none⟩) h, fun b o h => hb.frozen (p := ⟨b, o, none⟩) h⟩

/-- The world has only grown: what stood there has not turned. -/
def Bel (w w' : World) : Prop := Below w.heap.size w w'

theorem Bel.refl (w : World) : Bel w w := Below.refl _ _
theorem Bel.size {a b : World} (h : Bel a b) : a.heap.size ≤ b.heap.size := Below.size h
theorem Bel.trans {a b c : World} (h : Bel a b) (k : Bel b c) : Bel a c := Below.trans h (Below.mono k (Below.size h))
theorem Bel.alloc {a b : World} (h : Bel a b) (o : Obj) : Bel a (b.alloc o) := Below.alloc h (Below.size h) o
theorem Bel.drew {a b : World} (h : Bel a b) : Bel a b.drew := Below.drew h
theorem Bel.drewN {a b : World} (h : Bel a b) (n : Nat) : Bel a (b.drewN n) :=
  Below.trans (B := a.heap.size) h ⟨rfl, rfl, rfl, Nat.le_refl _, fun _ _ => rfl⟩
theorem Bel.setCell {a b : World} (h : Bel a b) {p : Addr} (hp : a.heap.size ≤ p.block) (u : Value) : Bel a (b.setCell p u) := Below.setCell h hp u
theorem Bel.setCellR {a b : World} {p : Addr} {u : Value} (hp : a.heap.size ≤ p.block) (h : Bel a b) : Bel a (b.setCell p u) := h.setCell hp u
theorem Bel.behind {a b c : World} (k : Bel b c) (h : Bel a b) : Bel a c := h.trans k
theorem Bel.alloc1 (w : World) (o : Obj) : Bel w (w.alloc o) := (Bel.refl w).alloc o
/-- A cell that stood there reads as it did. -/
theorem Bel.cell {a b : World} (h : Bel a b) {p : Addr} (hp : p.block < a.heap.size) : b.cell? p = a.cell? p := Below.cell h hp
theorem Bel.frozen {a b : World} (h : Bel a b) {p : Addr} (hp : p.block < a.heap.size) : b.frozen? p = a.frozen? p := Below.frozen h hp

/-- The two cells that a deferred closure captures, behind a call. -/
theorem Bel.two {w w' : World} {a b : Value} {S T : TypeId} (h : Bel ((w.alloc (.cells #[a] S)).alloc (.cells #[b] T)) w') :
    w'.cell? ⟨w.heap.size, 0, none⟩ = some a ∧ w'.frozen? ⟨w.heap.size, 0, none⟩ = false ∧ w'.cell? ⟨w.heap.size + 1, 0, none⟩ = some b ∧ w'.frozen? ⟨w.heap.size + 1, 0, none⟩ = false ∧ w.heap.size + 1 < w'.heap.size ∧ Bel w w' := by
  have h0 := h.cell (p := ⟨w.heap.size, 0, none⟩) (by simp; omega)
  have h1 := h.cell (p := ⟨w.heap.size + 1, 0, none⟩) (by simp)
  have z0 := h.frozen (p := ⟨w.heap.size, 0, none⟩) (by simp; omega)
  have z1 := h.frozen (p := ⟨w.heap.size + 1, 0, none⟩) (by simp)
  have hs := h.size
  simp [go_sem] at h0 h1 z0 z1 hs
  exact ⟨h0, z0, h1, z1, by omega, (((Bel.refl w).alloc _).alloc _).trans h⟩

/-- Block b holds just these cells, none of them frozen. -/
def Blk (w : World) (b : Nat) (cs : Array Value) (t : TypeId) : Prop := w.heap[b]? = some (.cells cs t (0, 0))

theorem Blk.lt {w : World} {b : Nat} {cs : Array Value} {t : TypeId} (h : Blk w b cs t) : b < w.heap.size := by
  unfold Blk at h
  rcases Nat.lt_or_ge b w.heap.size with g | g
  · exact g
  · simp [Array.getElem?_eq_none g] at h

/-- The walk's rules on such a block. -/
theorem Blk.rules {w : World} {b : Nat} {cs : Array Value} {t : TypeId} (h : Blk w b cs t) :
    (∀ o, w.cell? ⟨b, o, none⟩ = cs[o]?) ∧ (∀ o, w.frozen? ⟨b, o, none⟩ = false) := by
  unfold Blk at h
  exact ⟨fun o => by simp [World.cell?, h], fun o => by simp [World.frozen?, h]⟩

/-- The walk's rules, and that the block is there. -/
theorem Blk.facts {w : World} {b : Nat} {cs : Array Value} {t : TypeId} (h : Blk w b cs t) :
    (∀ o, w.cell? ⟨b, o, none⟩ = cs[o]?) ∧ (∀ o, w.frozen? ⟨b, o, none⟩ = false) ∧ b < w.heap.size := ⟨h.rules.1, h.rules.2, h.lt⟩
theorem Blk.cast {w : World} {b : Nat} {cs cs' : Array Value} {t : TypeId} (h : Blk w b cs t) (hc : cs = cs') : Blk w b cs' t := hc ▸ h
theorem Blk.new (w : World) (cs : Array Value) (t : TypeId) : Blk (w.alloc (.cells cs t)) w.heap.size cs t := by
  show (w.heap.push _)[w.heap.size]? = _
  simp
/-- The same where the block's number is spelt otherwise. -/
theorem Blk.new' (w : World) (cs : Array Value) (t : TypeId) {b : Nat} (hb : b = w.heap.size) : Blk (w.alloc (.cells cs t)) b cs t := by
  subst hb
  exact Blk.new w cs t
theorem Blk.alloc {w : World} {b : Nat} {cs : Array Value} {t : TypeId} (h : Blk w b cs t) (o : Obj) : Blk (w.alloc o) b cs t := by
  have := h.lt
  unfold Blk at *
  rw [Below.heap_alloc w o b this]
  exact h
theorem Blk.drew {w : World} {b : Nat} {cs : Array Value} {t : TypeId} (h : Blk w b cs t) : Blk w.drew b cs t := h
theorem Blk.bel {w w' : World} {b : Nat} {cs : Array Value} {t : TypeId} (h : Blk w b cs t) (hb : Bel w w') : Blk w' b cs t := by
  unfold Blk at *
  rw [Below.block hb b (Blk.lt h)]
  exact h
theorem Blk.other {w : World} {b : Nat} {cs : Array Value} {t : TypeId} (h : Blk w b cs t) {a : Addr} (ha : b ≠ a.block) (v : Value) : Blk (w.setCell a v) b cs t := by
  unfold Blk at *
  rw [Below.heap_setCell w a v b ha]
  exact h
theorem cell_set_other {w : World} {p a : Addr} {u v : Value} (hne : p.block ≠ a.block) (h : w.cell? p = some v) : (w.setCell a u).cell? p = some v := by
  have e := Below.heap_setCell w a u p.block hne
  rw [World.cell?_of_block e]
  exact h
theorem cell_alloc {w : World} {p : Addr} {v : Value} {o : Obj} (h : w.cell? p = some v) : (w.alloc o).cell? p = some v := by
  have hlt : p.block < w.heap.size := by
    rcases Nat.lt_or_ge p.block w.heap.size with g | g
    · exact g
    · simp [World.cell?, Array.getElem?_eq_none g] at h
  rw [World.cell?_of_block (Below.heap_alloc w o p.block hlt)]
  exact h
theorem Blk.otherR {w : World} {b : Nat} {cs : Array Value} {t : TypeId} {a : Addr} {v : Value} (ha : b ≠ a.block) (h : Blk w b cs t) : Blk (w.setCell a v) b cs t := h.other ha v
theorem Blk.set {w : World} {b : Nat} {cs : Array Value} {t : TypeId} (h : Blk w b cs t) (o : Nat) (v : Value) : Blk (w.setCell ⟨b, o, none⟩ v) b (cs.setIfInBounds o v) t := by
  unfold Blk at *
  simp [World.setCell, Array.getElem?_modify, h]
end
/-! ### What a region that draws its order holds on to: one block, two blocks -/
theorem keep1 {v w w' : World} {b : Nat} {E : Array Value} {s : TypeId} (hb : Bel w w')
    (h : (∀ o, w.cell? ⟨b, o, none⟩ = E[o]?) ∧ Blk w b E s ∧ Bel v w) : (∀ o, w'.cell? ⟨b, o, none⟩ = E[o]?) ∧ Blk w' b E s ∧ Bel v w' :=
  ⟨(h.2.1.bel hb).rules.1, h.2.1.bel hb, h.2.2.trans hb⟩
theorem keep1i {v w' : World} {b : Nat} {E : Array Value} {s : TypeId} (h0 : Blk w' b E s) (hv : Bel v w') : (∀ o, w'.cell? ⟨b, o, none⟩ = E[o]?) ∧ Blk w' b E s ∧ Bel v w' :=
  ⟨h0.rules.1, h0, hv⟩
theorem keep1s {v w : World} {b : Nat} {E : Array Value} {s : TypeId} {a : Addr} {u : Value} (h0 : b ≠ a.block) (hv : v.heap.size ≤ a.block)
    (h : (∀ o, w.cell? ⟨b, o, none⟩ = E[o]?) ∧ Blk w b E s ∧ Bel v w) : (∀ o, (w.setCell a u).cell? ⟨b, o, none⟩ = E[o]?) ∧ Blk (w.setCell a u) b E s ∧ Bel v (w.setCell a u) :=
  ⟨(h.2.1.other h0 u).rules.1, h.2.1.other h0 u, h.2.2.setCell hv u⟩
theorem keep2 {v w w' : World} {b c : Nat} {E F : Array Value} {s t : TypeId} (hb : Bel w w')
    (h : (∀ o, w.cell? ⟨b, o, none⟩ = E[o]?) ∧ (∀ o, w.cell? ⟨c, o, none⟩ = F[o]?) ∧ Blk w b E s ∧ Blk w c F t ∧ Bel v w) :
    (∀ o, w'.cell? ⟨b, o, none⟩ = E[o]?) ∧ (∀ o, w'.cell? ⟨c, o, none⟩ = F[o]?) ∧ Blk w' b E s ∧ Blk w' c F t ∧ Bel v w' :=
  ⟨(h.2.2.1.bel hb).rules.1, (h.2.2.2.1.bel hb).rules.1, h.2.2.1.bel hb, h.2.2.2.1.bel hb, h.2.2.2.2.trans hb⟩
theorem keep2i {v w' : World} {b c : Nat} {E F : Array Value} {s t : TypeId} (h0 : Blk w' b E s) (h1 : Blk w' c F t) (hv : Bel v w') :
    (∀ o, w'.cell? ⟨b, o, none⟩ = E[o]?) ∧ (∀ o, w'.cell? ⟨c, o, none⟩ = F[o]?) ∧ Blk w' b E s ∧ Blk w' c F t ∧ Bel v w' :=
  ⟨h0.rules.1, h1.rules.1, h0, h1, hv⟩
theorem keep2s {v w : World} {b c : Nat} {E F : Array Value} {s t : TypeId} {a : Addr} {u : Value} (h0 : b ≠ a.block) (h1 : c ≠ a.block) (hv : v.heap.size ≤ a.block)
    (h : (∀ o, w.cell? ⟨b, o, none⟩ = E[o]?) ∧ (∀ o, w.cell? ⟨c, o, none⟩ = F[o]?) ∧ Blk w b E s ∧ Blk w c F t ∧ Bel v w) :
    (∀ o, (w.setCell a u).cell? ⟨b, o, none⟩ = E[o]?) ∧ (∀ o, (w.setCell a u).cell? ⟨c, o, none⟩ = F[o]?) ∧ Blk (w.setCell a u) b E s ∧ Blk (w.setCell a u) c F t ∧ Bel v (w.setCell a u) :=
  ⟨(h.2.2.1.other h0 u).rules.1, (h.2.2.2.1.other h1 u).rules.1, h.2.2.1.other h0 u, h.2.2.2.1.other h1 u, h.2.2.2.2.setCell hv u⟩

section
variable {P : Program} {tmps : Array Value} {w : World}

/-- What a result reads as at the end of a body. -/
def ResIs (P : Program) (tmps : Array Value) (w : World) : ResultVar → Value → Prop
  | .tmp t, v => tmps.getD t undef = v
  | .cell p ty, v => ∃ a, tmps.getD p undef = .pointer (some a) ∧ (loadVar ty a).run P w = .ok v w

theorem results_one {fn : Func} {r : ResultVar} {v : Value} (h : fn.results = #[r]) (h0 : ResIs P tmps w r v) : (results fn tmps).run P w = .ok v w := by
  cases r with
  | tmp t => simp only [ResIs] at h0; simp [results, h]; simpa using h0
  | cell p ty =>
    obtain ⟨a, h1, h2⟩ := h0
    simp only [Array.getD_eq_getD_getElem?] at h1
    simp [results, h, h1, asAddr, h2]

theorem results_two {fn : Func} {r s : ResultVar} {v u : Value} (h : fn.results = #[r, s]) (h0 : ResIs P tmps w r v) (h1 : ResIs P tmps w s u) : (results fn tmps).run P w = .ok (.tuple #[v, u]) w := by
  cases r <;> cases s <;> simp only [ResIs, Array.getD_eq_getD_getElem?] at h0 h1 <;> (try obtain ⟨_, h0, h0'⟩ := h0) <;> (try obtain ⟨_, h1, h1'⟩ := h1) <;> simp [results, asAddr, *]

theorem results_three {fn : Func} {r s t : ResultVar} {v u x : Value} (h : fn.results = #[r, s, t]) (h0 : ResIs P tmps w r v) (h1 : ResIs P tmps w s u) (h2 : ResIs P tmps w t x) :
    (results fn tmps).run P w = .ok (.tuple #[v, u, x]) w := by
  cases r <;> cases s <;> cases t <;> simp only [ResIs, Array.getD_eq_getD_getElem?] at h0 h1 h2 <;> (try obtain ⟨_, h0, h0'⟩ := h0) <;> (try obtain ⟨_, h1, h1'⟩ := h1) <;> (try obtain ⟨_, h2, h2'⟩ := h2) <;> simp [results, asAddr, *]

/-- A struct's cells, the block whole, read as its value. -/
theorem loadVar_blk {ty : TypeId} {b : Nat} {cs : Array Value} {T : TypeId} {fs : Array Field} {i : TypeInfo} (hu : P.underlying ty = some (.struct fs)) (hi : P.info? ty = some i) (hs : i.size = cs.size) (h : Blk w b cs T) :
    (loadVar ty ⟨b, 0, none⟩).run P w = .ok (.agg cs) w := by
  have hl := run_loadCells_list (P := P) w ⟨b, 0, none⟩ cs.toList (fun j v hj => by
    have := h.rules.1 j
    have e : (⟨b, 0, none⟩ : Addr).add j = ⟨b, j, none⟩ := by
      cases j with
      | zero => rfl
      | succ j => simp [Addr.add]
    rw [e, this]
    simpa using hj)
  simp only [Array.length_toList] at hl
  simp [loadVar, isAgg, sizeOf, typeInfo, run_underlying hu, hi, hs, hl]

/-- One cell reads as its value. -/
theorem loadVar_one {ty : TypeId} {a : Addr} {v : Value} (hu : ∀ w, (isAgg ty).run P w = .ok false w) (h : w.cell? a = some v) :
    (loadVar ty a).run P w = .ok v w := by
  simp [loadVar, hu, h]

theorem resIs_tmp {t : Tmp} {v : Value} (h : tmps.getD t undef = v) : ResIs P tmps w (.tmp t) v := h
theorem resIs_cell {p : Tmp} {ty : TypeId} {a : Addr} {v : Value} (h : tmps.getD p undef = .pointer (some a)) (h' : (loadVar ty a).run P w = .ok v w) : ResIs P tmps w (.cell p ty) v := ⟨a, h, h'⟩
theorem resIs_blk {p : Tmp} {ty : TypeId} {b n : Nat} {cs' : Array Value} {T : TypeId} {fs : Array Field} (h : tmps.getD p undef = .pointer (some ⟨b, 0, none⟩)) (hu : P.underlying ty = some (.struct fs))
    (hi : (P.info? ty).map (·.size) = some n) (hB : ∃ cs, Blk w b cs T ∧ cs = cs') (hs : n = cs'.size) : ResIs P tmps w (.cell p ty) (.agg cs') := by
  obtain ⟨cs, hB, rfl⟩ := hB
  obtain ⟨i, hi2, rfl⟩ := Option.map_eq_some_iff.1 hi
  exact ⟨_, h, loadVar_blk hu hi2 hs hB⟩

/-- The body's end: the results are read, and R is shown of them. -/
theorem post_ret {fn : Func} {R : Ending → World → Prop} {v : Value} (h : (results fn tmps).run P w = .ok v w) (hR : R (.returned v) w) : bodyPost P fn R .ret { tmps := tmps, defers := [] } w :=
  ⟨rfl, v, h, hR⟩
end
end Go.Proofs.YtpipehenfcbjbaaGreat
