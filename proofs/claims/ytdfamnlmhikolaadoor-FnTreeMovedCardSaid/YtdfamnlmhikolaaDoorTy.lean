/-
  TreePlay: what one tree answers to questions, one behind another. No panic; what stood in memory has not turned.
-/
import Derived.Test.YtdfamnlmhikolaaDoorTo4
import Derived.Recover
import Derived.Defers
set_option linter.unusedVariables false
namespace Go.Proofs.YtdfamnlmhikolaaDoor
open Go.ChangeShapes Go.WideShapes Go.ChangeAt Go.RowKit
/-! ### Questions as they came in -/
structure RawAsk where
  dov : Int
  a : Nat
  b : Nat
  c : Nat
  d : Nat
  stop : Int
  how : Int
def AskSl (w : World) (v : Value) (xs : List RawAsk) : Prop :=
  ∃ p cap, v = .slice p xs.length cap ∧ xs.length ≤ cap ∧ cap ≤ 9223372036854775807 ∧
    (xs ≠ [] → ∃ b off, p = some ⟨b, off, none⟩ ∧ b < w.heap.size ∧ ∀ (i : Nat) (x : RawAsk), xs[i]? = some x → w.cell? ⟨b, off + i * 7, none⟩ = some (.int .i64 x.dov) ∧ w.cell? ⟨b, off + i * 7 + 1, none⟩ = some (.float .f64 x.a) ∧ w.cell? ⟨b, off + i * 7 + 2, none⟩ = some (.float .f64 x.b) ∧ w.cell? ⟨b, off + i * 7 + 3, none⟩ = some (.float .f64 x.c) ∧ w.cell? ⟨b, off + i * 7 + 4, none⟩ = some (.float .f64 x.d) ∧ w.cell? ⟨b, off + i * 7 + 5, none⟩ = some (.int .i64 x.stop) ∧ w.cell? ⟨b, off + i * 7 + 6, none⟩ = some (.int .i64 x.how))
theorem AskSl.bel {w w' : World} {v : Value} {xs : List RawAsk} (h : AskSl w v xs) (hb : Bel w w') : AskSl w' v xs := by
  obtain ⟨p, cap, hv, hl, hc, h⟩ := h
  refine ⟨p, cap, hv, hl, hc, fun hn => ?_⟩
  obtain ⟨b, off, hp, hlt, hq⟩ := h hn
  refine ⟨b, off, hp, Nat.lt_of_lt_of_le hlt hb.size, fun i x hi => ?_⟩
  obtain ⟨h0, h1, h2, h3, h4, h5, h6⟩ := hq i x hi
  exact ⟨(hb.cell hlt).trans h0, (hb.cell hlt).trans h1, (hb.cell hlt).trans h2, (hb.cell hlt).trans h3, (hb.cell hlt).trans h4, (hb.cell hlt).trans h5, (hb.cell hlt).trans h6⟩

/-! ### Answers -/
def ToldRow (F : Nat → Prop) (w : World) (cs : Nat → Option Value) (i : Nat) (t : Told) : Prop :=
  ∃ v c0 c1 c2 c3, cs (i * 10) = some v ∧ cs (i * 10 + 1) = some (.bool t.err) ∧ cs (i * 10 + 2) = some (.bool t.own) ∧ cs (i * 10 + 3) = some (.bool t.found) ∧ cs (i * 10 + 4) = some (.int .i64 t.id) ∧
    cs (i * 10 + 5) = some (.float .f64 c0) ∧ cs (i * 10 + 6) = some (.float .f64 c1) ∧ cs (i * 10 + 7) = some (.float .f64 c2) ∧ cs (i * 10 + 8) = some (.float .f64 c3) ∧ cs (i * 10 + 9) = some (.int .i64 t.count) ∧ IntSl F w v t.ids ∧ BxB c0 c1 c2 c3 t.bx
def ToldSl (w : World) (v : Value) (ts : List Told) : Prop :=
  ∃ p cap, v = .slice p ts.length cap ∧ ts.length ≤ cap ∧ cap ≤ 9223372036854775807 ∧
    (ts ≠ [] → ∃ b off, p = some ⟨b, off, none⟩ ∧ b < w.heap.size ∧ ∀ (i : Nat) (t : Told), ts[i]? = some t → ToldRow (fun _ => True) w (fun o => w.cell? ⟨b, off + o, none⟩) i t)
/-- The same, the row in a block of its own from B on. -/
def ToldSlN (B : Nat) (w : World) (v : Value) (ts : List Told) : Prop :=
  ∃ p cap, v = .slice p ts.length cap ∧ ts.length ≤ cap ∧ cap ≤ 9223372036854775807 ∧
    (ts ≠ [] → ∃ b cs, p = some ⟨b, 0, none⟩ ∧ B ≤ b ∧ Blk w b cs 40 ∧ ∀ (i : Nat) (t : Told), ts[i]? = some t → ToldRow (fun g => B ≤ g ∧ g ≠ b) w (fun o => cs[o]?) i t)
theorem ToldRow.mono {F G : Nat → Prop} {w : World} {cs : Nat → Option Value} {i : Nat} {t : Told} (h : ToldRow F w cs i t) (hFG : ∀ b, b < w.heap.size → F b → G b) : ToldRow G w cs i t := by
  obtain ⟨v0, d0, d1, d2, d3, k0, k1, k2, k3, k4, k5, k6, k7, k8, k9, kI, kq⟩ := h
  exact ⟨v0, d0, d1, d2, d3, k0, k1, k2, k3, k4, k5, k6, k7, k8, k9, kI.mono hFG, kq⟩
theorem ToldRow.cells {F : Nat → Prop} {w : World} {cs cs' : Nat → Option Value} {i : Nat} {t : Told} (h : ToldRow F w cs i t) (hc : ∀ o v, cs o = some v → cs' o = some v) : ToldRow F w cs' i t := by
  obtain ⟨v0, d0, d1, d2, d3, k0, k1, k2, k3, k4, k5, k6, k7, k8, k9, kI, kq⟩ := h
  exact ⟨v0, d0, d1, d2, d3, hc _ _ k0, hc _ _ k1, hc _ _ k2, hc _ _ k3, hc _ _ k4, hc _ _ k5, hc _ _ k6, hc _ _ k7, hc _ _ k8, hc _ _ k9, kI, kq⟩
theorem ToldSlN.sl {B : Nat} {w : World} {v : Value} {ts : List Told} (h : ToldSlN B w v ts) : ToldSl w v ts := by
  obtain ⟨p, cap, hv, h1, h2, h⟩ := h
  refine ⟨p, cap, hv, h1, h2, fun hn => ?_⟩
  obtain ⟨b, cs, hp, _, hb, hr⟩ := h hn
  refine ⟨b, 0, hp, hb.lt, fun i t ht => ((hr i t ht).mono fun _ _ _ => trivial).cells fun o v ho => ?_⟩
  rw [Nat.zero_add]
  exact (hb.rules.1 o).trans ho
structure PlaySt (w w1 wr : World) (v : Value) (xs : List Value) (ts : List Told) (k : Nat) : Prop where
  bel : Bel w wr
  blkL : Blk wr w.heap.size #[v] 35
  blkOk : Blk wr (w.heap.size + 1) #[.bool false] 4
  own : wr.ownsRow w1.heap.size 40 10 v k xs
  mid : Abv (w.heap.size + 2) w1 wr
  le : w.heap.size + 2 ≤ w1.heap.size
  le2 : w1.heap.size ≤ wr.heap.size
  rows : ∀ (i : Nat) (t : Told), i < k → ts[i]? = some t → ToldRow (fun b => w1.heap.size ≤ b ∧ v.ownBlock ≠ some b) wr (fun o => xs[o]?) i t
theorem IntSl.two {F : Nat → Prop} {w w' : World} {v : Value} {xs : List Int} (h : IntSl F w v xs) (hs : w.heap.size ≤ w'.heap.size) (hk : ∀ b, F b → b < w.heap.size → w'.heap[b]? = w.heap[b]?) {G : Nat → Prop} (hG : ∀ b, b < w.heap.size → F b → G b) : IntSl G w' v xs := by
  obtain ⟨p, cap, hv, hl, hc, h⟩ := h
  refine ⟨p, cap, hv, hl, hc, fun hn => ?_⟩
  obtain ⟨b, off, hp, hlt, hF, hq⟩ := h hn
  exact ⟨b, off, hp, by omega, hG b hlt hF, fun i x hi => (World.cell?_of_block (w := w) (hk b hF hlt)).trans (hq i x hi)⟩
/-- One answer more. -/
theorem PlaySt.push {w w1 wr w3 wA w5 : World} {v v' : Value} {xs : List Value} {ts : List Told} {k : Nat} (h : PlaySt w w1 wr v xs ts k) (hb3 : Bel wr w3) {t : Told} (ht : ts[k]? = some t) {vi : Value} {c0 c1 c2 c3 : Nat} (hI : IntSl (fun b => wr.heap.size ≤ b) w3 vi t.ids) (hq : BxB c0 c1 c2 c3 t.bx) (hA : Bel w3 wA)
    (ho : w5.ownsRow w1.heap.size 40 10 v' (k + 1) (xs ++ [vi, .bool t.err, .bool t.own, .bool t.found, .int .i64 t.id, .float .f64 c0, .float .f64 c1, .float .f64 c2, .float .f64 c3, .int .i64 t.count])) (hg : wA.grownBy w5 v.ownBlock) (hb : v'.ownBlock = v.ownBlock ∨ v'.ownBlock = some wA.heap.size) :
    PlaySt w w1 (w5.setCell ⟨w.heap.size, 0, none⟩ v') v' (xs ++ [vi, .bool t.err, .bool t.own, .bool t.found, .int .i64 t.id, .float .f64 c0, .float .f64 c1, .float .f64 c2, .float .f64 c3, .int .i64 t.count]) ts (k + 1) := by
  have hown : ∀ g, v.ownBlock = some g → w1.heap.size ≤ g ∧ g < wr.heap.size := fun g hg => h.own.lt g hg
  have s0 := h.le
  have s00 := h.le2
  have s1 := h.bel.size
  have s2 := hb3.size
  have s3 := hA.size
  have s4 := hg.size
  have hxl : xs.length = k * 10 := h.own.1
  have hblk : ∀ b, v.ownBlock ≠ some b → b < wA.heap.size → w5.heap[b]? = wA.heap[b]? := fun b hv hl => hg.block b hl (fun e => hv e.symm)
  have hw3 : ∀ b, v.ownBlock ≠ some b → b < w3.heap.size → w5.heap[b]? = w3.heap[b]? := fun b hv hl => by
    rw [hblk b hv (by omega), hA.block b hl]
  have hwr : ∀ b, v.ownBlock ≠ some b → b < wr.heap.size → w5.heap[b]? = wr.heap[b]? := fun b hv hl => by
    rw [hw3 b hv (by omega), hb3.block b hl]
  have hlow : ∀ b, b < w1.heap.size → v.ownBlock ≠ some b := fun b hb e => by
    have := (hown b e).1
    omega
  have hset : ∀ b, b ≠ w.heap.size → (w5.setCell ⟨w.heap.size, 0, none⟩ v').heap[b]? = w5.heap[b]? := fun b hb => Below.heap_setCell _ _ _ _ (by simpa using hb)
  have hL := h.blkL.lt
  have hOk := h.blkOk.lt
  have hnew : ∀ g, v'.ownBlock = some g → g < w5.heap.size ∧ w1.heap.size ≤ g := fun g hg' => ⟨(ho.lt g hg').2, (ho.lt g hg').1⟩
  refine ⟨⟨?_, ?_, ?_, ?_, fun b hb2 => ?_⟩, ?_, ?_, ?_, fun b hb1 hb2 => ?_, s0, by simp; omega, fun i s hi hs => ?_⟩
  · exact hg.os.trans (hA.os.trans (hb3.os.trans h.bel.os))
  · exact hg.tape.trans (hA.tape.trans (hb3.tape.trans h.bel.tape))
  · exact hg.output.trans (hA.output.trans (hb3.output.trans h.bel.output))
  · simp
    omega
  · rw [hset b (by omega), hwr b (hlow b (by omega)) (by omega)]
    exact h.bel.block b hb2
  · have : Blk w5 w.heap.size #[v] 35 := by
      have hB := h.blkL
      unfold Blk at *
      rw [hwr _ (hlow _ (by omega)) hL]
      exact hB
    exact (this.set 0 v').cast (by simp)
  · have : Blk w5 (w.heap.size + 1) #[.bool false] 4 := by
      have hB := h.blkOk
      unfold Blk at *
      rw [hwr _ (hlow _ (by omega)) hOk]
      exact hB
    exact this.other (by simp) _
  · exact ho.kept (grownBy_set w5 w.heap.size 0 v') (by
      right
      intro hh
      have := (hnew _ hh).2
      omega)
  · rw [hset b (by omega), hwr b (hlow b hb2) (by omega)]
    exact h.mid b hb1 hb2
  · by_cases e : i < k
    · obtain ⟨v0, d0, d1, d2, d3, k0, k1, k2, k3, k4, k5, k6, k7, k8, k9, kI, kq⟩ := h.rows i s e hs
      have up : ∀ {o u}, xs[o]? = some u → (xs ++ [vi, .bool t.err, .bool t.own, .bool t.found, .int .i64 t.id, .float .f64 c0, .float .f64 c1, .float .f64 c2, .float .f64 c3, .int .i64 t.count])[o]? = some u := fun {o u} ho' => by
        rw [List.getElem?_append_left (List.getElem?_eq_some_iff.1 ho').1]
        exact ho'
      refine ⟨v0, d0, d1, d2, d3, up k0, up k1, up k2, up k3, up k4, up k5, up k6, up k7, up k8, up k9, ?_, kq⟩
      refine kI.two (by simp; omega) (fun b hb2 hl => ?_) (fun b hl hb2 => ⟨hb2.1, fun e2 => ?_⟩)
      · rw [hset b (by have := hb2.1; omega), hwr b hb2.2 hl]
      · rcases hb with e3 | e3
        · exact hb2.2 (e3 ▸ e2)
        · rw [e3] at e2
          have := Option.some.inj e2
          omega
    · have : i = k := by omega
      subst this
      obtain rfl : t = s := Option.some.inj (ht.symm.trans hs)
      have at_ : ∀ j u, [vi, .bool t.err, .bool t.own, .bool t.found, .int .i64 t.id, .float .f64 c0, .float .f64 c1, .float .f64 c2, .float .f64 c3, .int .i64 t.count][j]? = some u → (xs ++ [vi, .bool t.err, .bool t.own, .bool t.found, .int .i64 t.id, .float .f64 c0, .float .f64 c1, .float .f64 c2, .float .f64 c3, .int .i64 t.count])[i * 10 + j]? = some u := fun j u hj => by
        rw [List.getElem?_append_right (by omega), hxl, Nat.add_sub_cancel_left]
        exact hj
      refine ⟨vi, c0, c1, c2, c3, at_ 0 _ rfl, at_ 1 _ rfl, at_ 2 _ rfl, at_ 3 _ rfl, at_ 4 _ rfl, at_ 5 _ rfl, at_ 6 _ rfl, at_ 7 _ rfl, at_ 8 _ rfl, at_ 9 _ rfl, ?_, hq⟩
      refine hI.two (by simp; omega) (fun b hb2 hl => ?_) (fun b hl hb2 => ⟨by omega, fun e2 => ?_⟩)
      · have hne : v.ownBlock ≠ some b := fun e2 => by
          have := (hown b e2).2
          omega
        rw [hset b (by omega), hw3 b hne hl]
      · rcases hb with e3 | e3
        · rw [e3] at e2
          have := (hown b e2).2
          omega
        · rw [e3] at e2
          have := Option.some.inj e2
          omega
/-- The row, at the end. -/
theorem PlaySt.sl {w w1 wr : World} {v : Value} {xs : List Value} {ts : List Told} {k : Nat} (h : PlaySt w w1 wr v xs ts k) (hk : ts.length = k) : ToldSl wr v ts := by
  subst hk
  have hc := fun (g : Nat) (hg : v.ownBlock = some g) => h.own.cells hg
  rcases h.own.2 with ⟨rfl, h0⟩ | ⟨g, cap, cur, rfl, hb, hg, h1, h2, _⟩
  · exact ⟨none, 0, by rw [h0], by omega, by omega, fun hn => absurd (List.length_eq_zero_iff.1 h0) hn⟩
  · refine ⟨_, cap, rfl, h1, by unfold maxLen at h2; omega, fun _ => ⟨g, 0, rfl, (Array.getElem?_eq_some_iff.1 hg).1, fun i t ht => ?_⟩⟩
    obtain ⟨v0, d0, d1, d2, d3, k0, k1, k2, k3, k4, k5, k6, k7, k8, k9, kI, kq⟩ := h.rows i t (List.getElem?_eq_some_iff.1 ht).1 ht
    have up : ∀ {o u}, xs[o]? = some u → wr.cell? ⟨g, 0 + o, none⟩ = some u := fun {o u} ho' => by
      have := hc g rfl o u ho'
      rw [add_none] at this
      rw [Nat.zero_add]
      exact this
    exact ⟨v0, d0, d1, d2, d3, up k0, up k1, up k2, up k3, up k4, up k5, up k6, up k7, up k8, up k9, kI.mono fun _ _ _ => trivial, kq⟩
theorem PlaySt.slTo {w w1 wr w' : World} {v : Value} {xs : List Value} {ts : List Told} {k : Nat} (h : PlaySt w w1 wr v xs ts k) (hk : ts.length = k) (hs : wr.heap.size ≤ w'.heap.size) (hw : ∀ b, w1.heap.size ≤ b → w'.heap[b]? = wr.heap[b]?) : ToldSlN w.heap.size w' v ts := by
  subst hk
  have hc := fun (g : Nat) (hg : v.ownBlock = some g) => h.own.cells hg
  have hle := h.le
  rcases h.own.2 with ⟨rfl, h0⟩ | ⟨g, cap, cur, rfl, hb, hg, h1, h2, _⟩
  · exact ⟨none, 0, by rw [h0], by omega, by omega, fun hn => absurd (List.length_eq_zero_iff.1 h0) hn⟩
  · have hB : Blk wr g cur 40 := hg
    refine ⟨_, cap, rfl, h1, by unfold maxLen at h2; omega, fun _ => ⟨g, cur, rfl, by omega, (hw g hb).trans hg, fun i t ht => ?_⟩⟩
    obtain ⟨v0, d0, d1, d2, d3, k0, k1, k2, k3, k4, k5, k6, k7, k8, k9, kI, kq⟩ := h.rows i t (List.getElem?_eq_some_iff.1 ht).1 ht
    have up : ∀ {o u}, xs[o]? = some u → cur[o]? = some u := fun {o u} ho' => by
      have := hc g rfl o u ho'
      rw [add_none] at this
      exact (hB.rules.1 o).symm.trans this
    refine ⟨v0, d0, d1, d2, d3, up k0, up k1, up k2, up k3, up k4, up k5, up k6, up k7, up k8, up k9, kI.two hs (fun b hb2 _ => hw b hb2.1) fun b _ hb2 => ⟨by omega, fun e => hb2.2 ?_⟩, kq⟩
    rw [e]
    rfl
theorem PlaySt.toBel {w w1 wr w' : World} {v : Value} {xs : List Value} {ts : List Told} {k : Nat} (h : PlaySt w w1 wr v xs ts k) (hb : Bel wr w') : PlaySt w w1 w' v xs ts k := by
  refine ⟨h.bel.trans hb, h.blkL.bel hb, h.blkOk.bel hb, h.own.kept (World.grownBy.of_bel hb none) (by cases v.ownBlock <;> simp), fun b h1 h2 => ?_, h.le, Nat.le_trans h.le2 hb.size, fun i t hi ht => ?_⟩
  · rw [hb.block b (Nat.lt_of_lt_of_le h2 h.le2)]
    exact h.mid b h1 h2
  · obtain ⟨v0, d0, d1, d2, d3, k0, k1, k2, k3, k4, k5, k6, k7, k8, k9, kI, kq⟩ := h.rows i t hi ht
    exact ⟨v0, d0, d1, d2, d3, k0, k1, k2, k3, k4, k5, k6, k7, k8, k9, kI.bel hb, kq⟩

theorem cells_arr (w : World) (cs : Array Value) (t : TypeId) {n : Nat} (hn : n = w.heap.size) : ∀ j u, cs.toList[j]? = some u → (w.alloc (.cells cs t)).cell? ((⟨n, 0, none⟩ : Addr).add j) = some u := by
  subst hn
  intro j u hj
  rw [add_none, (Blk.new w cs t).rules.1]
  simpa using hj
theorem playIdle (p q : Addr) (w : World) :
    CallsD Tryd.prog 12 #[.pointer (some p), .pointer (some q)] .returning w fun e u' w' => e = .returned (.tuple #[]) ∧ u' = .returning ∧ w' = w := by
  refine callsD_of_wpS Tryd.func12 rfl fun c₀ cs hu => ?_
  apply wpS_seq
  apply wpS_region
  simp [wpOpsS, go_sem, recoverD, hu, Tryd.ntmps12, Exit.thenS]
  refine wpS_cond (t := false) (by simp [Act.eval, Array.replicate]) ?_
  simp only [Bool.false_eq_true, if_false]
  refine wpS_of_wp (wp_skip ?_)
  cases c₀
  simp_all [bodyPostS, results, Tryd.results12]
theorem infoTT : (Tryd.prog.info? 40).map (fun i => (i.zero, i.size, i.bytes)) = some (some (.agg #[.slice none 0 0, .bool false, .bool false, .bool false, .int .i64 0, .float .f64 0, .float .f64 0, .float .f64 0, .float .f64 0, .int .i64 0]), 10, 80) := by kernel_rfl
def IsPlay (ts : List Told) (w : World) (e : Ending) (w' : World) : Prop := ∃ v, e = .returned (.tuple #[v, .bool true]) ∧ ToldSlN w.heap.size w' v ts ∧ Bel w w'
/-- What the questions and the answers are to one another. -/
def Asked (L : List It) (asks : List RawAsk) (ts : List Told) : Prop := ts.length = asks.length ∧ ∀ (i : Nat) (x : RawAsk) (t : Told), asks[i]? = some x → ts[i]? = some t → ∃ q : Bx, BxB x.a x.b x.c x.d q ∧ q.Small 1048576 ∧ (0 ≤ x.dov ∧ x.dov ≤ 4) ∧ t = toldOf L q x.dov x.stop x.how
set_option maxHeartbeats 4000000 in
set_option maxRecDepth 100000 in
theorem treePlay_any (a : Addr) (v1 v2 : Value) (xs : List Raw) (L : List It) (asks : List RawAsk) (ts : List Told) (hx : L.length = xs.length) (hx2 : ∀ (i : Nat) (x : Raw) (t : It), xs[i]? = some x → L[i]? = some t → x.Is t) (h31 : L.length ≤ 100000) (hm : ∀ t ∈ L, t.b.Small 1048576) (hT : Asked L asks ts) (hfew : asks.length ≤ 100000) (w : World)
    (h1 : RawSl w v1 xs) (h2 : AskSl w v2 asks) (hg : w.cell? ⟨0, 0, none⟩ = some (.iface 128 (.pointer (some a)))) :
    Calls Tryd.prog 9 #[v1, v2] w (IsPlay ts w) := by
  have HX1 := Lib.hid h1
  have HG := Lib.hid hg
  have HT := Lib.hid hT
  have HM := Lib.hid hm
  have HX := Lib.hid hx
  have HX2 := Lib.hid hx2
  obtain ⟨p1, c1, rfl, _⟩ := h1
  obtain ⟨p2, cap, rfl, hl, hc, hq⟩ := h2
  have HQ := Lib.hid hq
  have hmf : ∀ (fn : Fn) (first cap : Array Value) (w : World), (Instr.makeFunc fn first cap).run Tryd.prog w = .ok (.func fn first cap) w := fun _ _ _ _ => rfl
  obtain ⟨i0, hi, hz0, hz1, hz2⟩ := info_parts infoTT
  generalize hn : asks.length = n at *
  have HN := Lib.hid hn
  clear hg hT hm hx hx2 hq hn
  go_enter_defers Tryd.func9, Tryd.ntmps9
  go_wp2_with (first
    | (go_at_call 13; (with_reducible refine (tree_any _ xs L HX.out HX2.out h31 HM.out _ (HX1.out.bel ?hb)).mono ?_); (case hb => (repeat (first | with_reducible assumption | with_reducible exact Bel.refl _ | with_reducible apply Bel.alloc | with_reducible apply Bel.drew | with_reducible apply Bel.drewN | ((with_reducible apply Bel.setCellR); (simp <;> omega)) | with_reducible refine Bel.behind (by with_reducible assumption) ?_))); rintro e w1 ⟨p, rfl, ht, hb1⟩; have HTR := Lib.hid ht; have HB1 := Lib.hid hb1; clear ht hb1))
  have hst : Hid (PlaySt w w1 w1 (.slice none 0 0) [] ts 0 ∧ TreeUp (w.heap.size + 2) w1 p L) := by
    have hsz := HB1.out.size
    simp at hsz
    have hb : Bel w w1 := ((Bel.alloc1 w _).alloc _).trans HB1.out
    have htr := HTR.out
    simp at htr
    exact Lib.hid ⟨⟨hb, ((Blk.new w _ _).alloc _).bel HB1.out, (Blk.new' _ _ _ (by simp)).bel HB1.out, World.ownsRow_nil _ _ _ _, fun b _ _ => rfl, by omega, Nat.le_refl _, fun i t hi => absurd hi (by omega)⟩, htr⟩
  clear HTR HB1
  go_loopw [14] (fun iv wr => ∃ (k : Nat) (v : Value) (rs : List Value), iv = .int .i64 k ∧ k ≤ n ∧ PlaySt w w1 wr v rs ts k) (fun iv _ => n - (intOf iv).toNat)
  case atStart => exact ⟨0, .slice none 0 0, [], rfl, Nat.zero_le _, hst.out.1⟩
  case round =>
    obtain ⟨k, v, rs, rfl, hk, hps⟩ := hrel
    have HP := Lib.hid hps
    obtain ⟨pv, cv, rfl⟩ := hps.own.isSlice
    obtain ⟨r1, z1, l1⟩ := hps.blkL.facts
    have HTR := Lib.hid (hst.out.2.abv hps.mid)
    have hbel := hps.bel
    have HNE : Hid (some w.heap.size ≠ Value.ownBlock (.slice pv k cv)) := Lib.hid fun hh => by
      have := (hps.own.lt _ hh.symm).1
      have := hps.le
      omega
    have hs1 := hps.le
    have hs2 := hps.le2
    by_cases hkn : k < n
    · obtain ⟨x, hx⟩ : ∃ x, asks[k]? = some x := ⟨_, List.getElem?_eq_getElem (by have := HN.out; omega)⟩
      obtain ⟨t, ht⟩ : ∃ t, ts[k]? = some t := ⟨_, List.getElem?_eq_getElem (by have := HN.out; have := HT.out.1; omega)⟩
      obtain ⟨q, hq1, hq2, hq3, hq4⟩ := HT.out.2 k x t hx ht
      obtain ⟨b, off, rfl, hlt, hcs⟩ := HQ.out (by intro e; have := HN.out; rw [e] at this; simp at this; omega)
      obtain ⟨e0, e1, e2, e3, e4, e5, e6⟩ := hcs k x hx
      have D0 := cell_kept hbel e0
      have D1 := cell_kept hbel e1
      have D2 := cell_kept hbel e2
      have D3 := cell_kept hbel e3
      have D4 := cell_kept hbel e4
      have D5 := cell_kept hbel e5
      have D6 := cell_kept hbel e6
      have hbl : b < wr.heap.size := Nat.lt_of_lt_of_le hlt hbel.size
      have HTT := Lib.hid ht
      have HTOLD : Hid (∀ W : World, Bel wr W → Calls Tryd.prog 14 #[.pointer (some ⟨p, 0, none⟩), .agg #[.int .i64 x.dov, .float .f64 x.a, .float .f64 x.b, .float .f64 x.c, .float .f64 x.d, .int .i64 x.stop, .int .i64 x.how]] W (IsTold t W)) := by
        refine Lib.hid fun W hW => ?_
        rw [hq4]
        exact told_any a wr W x.a x.b x.c x.d q hq1 hq2 p L x.dov x.stop x.how hq3 h31 HM.out hW (cell_kept hbel HG.out) HTR.out.tree
      clear hps hq1 hq2 hq3 hq4 hx ht hcs e0 e1 e2 e3 e4 e5 e6
      go_wp2
      refine Go.wp_region_noPanic ?_
      go_region_law (first
        | (go_simp; go_at_call 14; (with_reducible refine (HTOLD.out _ ?hb).mono ?_); (case hb => (repeat (first | with_reducible assumption | with_reducible exact Bel.refl _ | with_reducible apply Bel.alloc | with_reducible apply Bel.drew | with_reducible apply Bel.drewN | ((with_reducible apply Bel.setCellR); (simp <;> omega)) | with_reducible refine Bel.behind (by with_reducible assumption) ?_))); rintro e w3 ⟨vi, c0, c1, c2, c3, rfl, hI, hq3, hb3⟩; obtain ⟨pi, ni, ci, rfl⟩ : ∃ pi ni ci, vi = .slice pi ni ci := (by obtain ⟨pi, ci, h, _⟩ := hI; exact ⟨_, _, _, h⟩); have HI := Lib.hid hI; have HQ3 := Lib.hid hq3; have HB3 : Hid (Bel wr w3) := Lib.hid (by (repeat (first | with_reducible assumption | with_reducible exact Bel.refl _ | with_reducible apply Bel.alloc | with_reducible apply Bel.drew | with_reducible apply Bel.drewN | ((with_reducible apply Bel.setCellR); (simp <;> omega)) | with_reducible refine Bel.behind (by with_reducible assumption) ?_))); have BL3 := HP.out.blkL.bel HB3.out; obtain ⟨r3, z3, l3⟩ := BL3.facts; clear hI hq3 hb3)
        | (refine step_append_row _ rfl (.tmp 18) (.tmp 22) 35 rfl w1.heap.size 40 i0 _ 10 80 Tryd.underlying35 hi hz0 hz1 hz2 rfl (by decide) (.slice pv k cv) k rs rfl (((HP.out.toBel HB3.out).own).alloc _) ⟨w3.heap.size, 0, none⟩ 1 1 [.slice pi ni ci, .bool t.err, .bool t.own, .bool t.found, .int .i64 t.id, .float .f64 c0, .float .f64 c1, .float .f64 c2, .float .f64 c3, .int .i64 t.count] rfl rfl (cells_arr _ _ _ (by simp)) (by simp [Value.oneCell']) (by decide) (by unfold maxLen; omega) (by omega) (by have := HB3.out.size; simp; omega) ?_; intro v' w5 ho5 hg5 hb5; obtain ⟨p5, c5, rfl⟩ := ho5.isSlice; have HO5 := Lib.hid ho5; have HG5 := Lib.hid hg5; have HB5 := Lib.hid hb5; have B5 := grownBy_blk hg5 ((HP.out.toBel HB3.out).blkL.alloc _) HNE.out; obtain ⟨r5, z5, l5⟩ := B5.facts; clear ho5 hg5 hb5 B5))
      all_goals
        refine Go.NoPanic.normal ?_
        go_wp2
        go_roundw
        case rel => exact ⟨k + 1, .slice p5 (k + 1) c5, _, by go_num, by omega, HP.out.push HB3.out HTT.out (HI.out.mono fun b _ hb => by simp at hb; omega) HQ3.out (by (repeat (first | with_reducible assumption | with_reducible exact Bel.refl _ | with_reducible apply Bel.alloc | with_reducible apply Bel.drew | with_reducible apply Bel.drewN | ((with_reducible apply Bel.setCellR); (simp <;> omega)) | with_reducible refine Bel.behind (by with_reducible assumption) ?_))) HO5.out HG5.out HB5.out⟩
        case measure => simp [intOf]; omega
    · obtain rfl : k = n := by omega
      have HSL : Hid (ToldSlN w.heap.size ((wr.setCell ⟨w.heap.size, 0, none⟩ (.slice pv k cv)).setCell ⟨w.heap.size + 1, 0, none⟩ (.bool true)) (.slice pv k cv) ts) := Lib.hid (hps.slTo (by rw [HT.out.1]; exact HN.out) (by simp) fun b hb => by
        rw [Below.heap_setCell _ _ _ _ (by simp; omega), Below.heap_setCell _ _ _ _ (by simp; omega)])
      have HBB : Hid (Bel w wr) := Lib.hid hbel
      have hl0 := hps.blkL.lt
      have BOK := Lib.hid hps.blkOk
      have BLL := Lib.hid hps.blkL
      obtain ⟨r2, z2, l2⟩ := hps.blkOk.facts
      clear hps
      go_wp2
      generalize hW : World.setCell (World.setCell _ _ _) _ _ = w5 at *
      have C2 : Blk w5 w.heap.size #[.slice pv k cv] 35 := by
        subst hW
        exact ((BLL.out.set 0 _).other (by simp) _).cast (by simp)
      have C3 : Blk w5 (w.heap.size + 1) #[.bool true] 4 := by
        subst hW
        exact (((BOK.out.other (by simp) _).set 0 _).cast (by simp))
      have HB5 : Bel w w5 := by
        subst hW
        exact (HBB.out.setCell (by simp) _).setCell (by simp) _
      clear hW r1 z1 l1 r2 z2 l2
      have q2 := C2.rules.1 0
      have q3 := C3.rules.1 0
      simp at q2 q3
      refine leaves_cons (f := 12) (args := #[.pointer (some ⟨w.heap.size, 0, none⟩), .pointer (some ⟨w.heap.size + 1, 0, none⟩)]) (by simp) (by simp [go_sem]) ?_
      refine (playIdle ⟨w.heap.size, 0, none⟩ ⟨w.heap.size + 1, 0, none⟩ _).mono ?_
      rintro e u' w'' ⟨rfl, rfl, rfl⟩
      simp [Leaves, settle, results, Tryd.results9, go_sem, q2, q3]
      exact ⟨_, rfl, HSL.out, HB5⟩
end Go.Proofs.YtdfamnlmhikolaaDoor
