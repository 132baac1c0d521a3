/-
  The queue of a search by distance: Len, Less, Swap, Push, Pop. No panic; nothing but the queue and its row has turned.
-/
import Derived.Test.YtdfamnlmhikolaaDoorTr
import Derived.Test.YtdfamnlmhikolaaDoorApp
set_option linter.unusedVariables false
namespace Go.Proofs.YtdfamnlmhikolaaDoor
open Go.ChangeShapes Go.WideShapes Go.ChangeAt Go.RowKit
/-- A pointer to an entry of the tree. -/
def EnAt (w0 : World) (pv : Value) (e : En) : Prop := ∃ k j, pv = .pointer (some ⟨k, j * 6, none⟩) ∧ match e.kid with
  | none => EntAt w0 k j e.b none e.id
  | some t => ∃ c, EntAt w0 k j e.b (some c) 0 ∧ IsNode 0 w0 t c
/-- The row of a queue. -/
def QRow (w0 w : World) (base : Nat) (v : Value) (es : List En) : Prop :=
  (v = .slice none 0 0 ∧ es = []) ∨ ∃ g cap cur, v = .slice (some ⟨g, 0, none⟩) es.length cap ∧ base ≤ g ∧ Blk w g cur 88 ∧ es.length ≤ cap ∧ cap ≤ maxLen ∧ cur.size = cap ∧ ∀ (i : Nat) (e : En), es[i]? = some e → ∃ pv, cur[i]? = some pv ∧ EnAt w0 pv e
structure PQ (w0 w : World) (Q : Nat) (x y z u : Nat) (o : Bx) (v : Value) (es : List En) : Prop where
  below : Below w0.heap.size w0 w
  blk : Blk w Q #[v, .float .f64 x, .float .f64 y, .float .f64 z, .float .f64 u] 85
  row : QRow w0 w (Q + 1) v es
  hQ : w0.heap.size ≤ Q
  box : BxB x y z u o
  osm : o.Small 1048576
  small : ∀ e ∈ es, e.b.Small 1048576
  few : es.length ≤ 1000000
/-- What has turned since: the queue, its row, new blocks. -/
structure QRel (Q : Nat) (w : World) (v : Value) (w' : World) (v' : Value) : Prop where
  os : w'.os = w.os
  tape : w'.tape = w.tape
  output : w'.output = w.output
  size : w.heap.size ≤ w'.heap.size
  block : ∀ b, b ≠ Q → v.ownBlock ≠ some b → b < w.heap.size → w'.heap[b]? = w.heap[b]?
  own : v'.ownBlock = v.ownBlock ∨ ∃ g, v'.ownBlock = some g ∧ w.heap.size ≤ g
theorem QRel.bel {Q : Nat} {w w' : World} (h : Bel w w') (v : Value) : QRel Q w v w' v := ⟨h.os, h.tape, h.output, h.size, fun b _ _ hl => h.block b hl, Or.inl rfl⟩
theorem QRel.trans {Q : Nat} {w1 w2 w3 : World} {v1 v2 v3 : Value} (h : QRel Q w1 v1 w2 v2) (k : QRel Q w2 v2 w3 v3) : QRel Q w1 v1 w3 v3 := by
  refine ⟨k.os.trans h.os, k.tape.trans h.tape, k.output.trans h.output, Nat.le_trans h.size k.size, fun b hb hv hl => ?_, ?_⟩
  · have h1 := h.block b hb hv hl
    have h2 : v2.ownBlock ≠ some b := by
      rcases h.own with e | ⟨g, e, hg⟩
      · rw [e]
        exact hv
      · rw [e]
        simp
        omega
    exact (k.block b hb h2 (Nat.lt_of_lt_of_le hl h.size)).trans h1
  · rcases k.own with e | ⟨g, e, hg⟩
    · rcases h.own with e2 | ⟨g, e2, hg⟩
      · exact Or.inl (e.trans e2)
      · exact Or.inr ⟨g, e.trans e2, hg⟩
    · exact Or.inr ⟨g, e, Nat.le_trans h.size hg⟩
theorem QRow.bel {w0 w w' : World} {base : Nat} {v : Value} {es : List En} (h : QRow w0 w base v es) (hb : Bel w w') : QRow w0 w' base v es := by
  rcases h with h | ⟨g, cap, cur, h1, h2, h3, h4⟩
  · exact Or.inl h
  · exact Or.inr ⟨g, cap, cur, h1, h2, h3.bel hb, h4⟩
theorem PQ.bel {w0 w w' : World} {Q x y z u : Nat} {o : Bx} {v : Value} {es : List En} (h : PQ w0 w Q x y z u o v es) (hb : Bel w w') : PQ w0 w' Q x y z u o v es :=
  ⟨h.below.trans (Below.mono hb h.below.size), h.blk.bel hb, h.row.bel hb, h.hQ, h.box, h.osm, h.small, h.few⟩
/-- An entry of the queue. -/
theorem PQ.at {w0 w : World} {Q x y z u : Nat} {o : Bx} {v : Value} {es : List En} (h : PQ w0 w Q x y z u o v es) {i : Nat} {e : En} (hi : es[i]? = some e) :
    ∃ g cap k j p q r s, v = .slice (some ⟨g, 0, none⟩) es.length cap ∧ es.length ≤ cap ∧ cap ≤ 9223372036854775807 ∧ g < w.heap.size ∧ Q < g ∧ w.cell? ⟨g, i, none⟩ = some (.pointer (some ⟨k, j * 6, none⟩)) ∧ k < w.heap.size ∧
      w.cell? ⟨k, j * 6, none⟩ = some (.float .f64 p) ∧ w.cell? ⟨k, j * 6 + 1, none⟩ = some (.float .f64 q) ∧ w.cell? ⟨k, j * 6 + 2, none⟩ = some (.float .f64 r) ∧ w.cell? ⟨k, j * 6 + 3, none⟩ = some (.float .f64 s) ∧ BxB p q r s e.b ∧ e.b.Small 1048576 := by
  rcases h.row with ⟨_, rfl⟩ | ⟨g, cap, cur, h1, h2, h3, h4, h5, h6, h7⟩
  · simp at hi
  · obtain ⟨pv, hp, k, j, rfl, he⟩ := h7 i e hi
    have hent : ∃ kid id, EntAt w0 k j e.b kid id := by
      cases hk : e.kid with
      | none =>
        rw [hk] at he
        exact ⟨_, _, he⟩
      | some t =>
        rw [hk] at he
        obtain ⟨c, he, _⟩ := he
        exact ⟨_, _, he⟩
    obtain ⟨kid, id, p, q, r, s, c0, c1, c2, c3, _, _, hq⟩ := hent
    have hl := World.block_lt_of_cell? w0 _ c0
    simp only at hl
    have up : ∀ {o v}, w0.cell? ⟨k, o, none⟩ = some v → w.cell? ⟨k, o, none⟩ = some v := fun hc => (h.below.cell hl).trans hc
    refine ⟨g, cap, k, j, p, q, r, s, h1, h4, by unfold maxLen at h5; omega, h3.lt, by omega, ?_, Nat.lt_of_lt_of_le hl h.below.size, up c0, up c1, up c2, up c3, hq, h.small e (List.mem_of_getElem? hi)⟩
    rw [h3.rules.1]
    exact hp
theorem far_any' (a b c d x y z u : Nat) {p q : Bx} (h : BxB a b c d p) (k : BxB x y z u q) (hp : p.Small 1048576) (hq : q.Small 1048576) (w : World) :
    Calls Tryd.prog 72 #[.agg #[.float .f64 a, .float .f64 b, .float .f64 c, .float .f64 d], .agg #[.float .f64 x, .float .f64 y, .float .f64 z, .float .f64 u]] w
      fun e w' => ∃ r, e = .returned (.float .f64 r) ∧ Hid (Is r ((p.far q : Int) : Rat)) ∧ Bel w w' :=
  (far_any a b c d x y z u h k (by decide) hp hq w).mono fun e w' hh => ⟨_, hh.1, Lib.hid (h.far k (m := 1048576) (by decide) hp hq).1, hh.2⟩
set_option maxRecDepth 100000 in
theorem len_any {w0 w : World} {Q x y z u : Nat} {o : Bx} {v : Value} {es : List En} (h : PQ w0 w Q x y z u o v es) :
    Calls Tryd.prog 67 #[.pointer (some ⟨Q, 0, none⟩)] w fun e w' => e = .returned (.int .i64 es.length) ∧ w = w' := by
  obtain ⟨r1, z1, l1⟩ := h.blk.facts
  obtain ⟨p, cap, rfl⟩ : ∃ p cap, v = .slice p es.length cap := by
    rcases h.row with ⟨rfl, rfl⟩ | ⟨g, cap, cur, h1, _⟩
    · exact ⟨_, _, rfl⟩
    · exact ⟨_, _, h1⟩
  clear h
  go_enter Tryd.func67, Tryd.ntmps67
  go_wp2
  go_ret
  exact ⟨rfl, rfl⟩
theorem keepL {w w' : World} {Q g k i j : Nat} {E : Array Value} {T : TypeId} {e p q r s : Value} (hQ : Blk w Q E T) (h0 : w.cell? ⟨g, i, none⟩ = some e) (h1 : w.cell? ⟨k, j, none⟩ = some p) (h2 : w.cell? ⟨k, j + 1, none⟩ = some q) (h3 : w.cell? ⟨k, j + 2, none⟩ = some r) (h4 : w.cell? ⟨k, j + 3, none⟩ = some s) (hb : Bel w w') :
    (∀ o, w'.cell? ⟨Q, o, none⟩ = E[o]?) ∧ w'.cell? ⟨g, i, none⟩ = some e ∧ w'.cell? ⟨k, j, none⟩ = some p ∧ w'.cell? ⟨k, j + 1, none⟩ = some q ∧ w'.cell? ⟨k, j + 2, none⟩ = some r ∧ w'.cell? ⟨k, j + 3, none⟩ = some s ∧ Bel w w' :=
  ⟨(hQ.bel hb).rules.1, cell_kept hb h0, cell_kept hb h1, cell_kept hb h2, cell_kept hb h3, cell_kept hb h4, hb⟩
set_option maxHeartbeats 1000000 in
set_option maxRecDepth 100000 in
theorem lessQ_any {w0 w : World} {Q x y z u : Nat} {o : Bx} {v : Value} {es : List En} (h : PQ w0 w Q x y z u o v es) (i j : Nat) (hi : i < es.length) (hj : j < es.length) :
    Calls Tryd.prog 68 #[.pointer (some ⟨Q, 0, none⟩), .int .i64 i, .int .i64 j] w fun e w' => e = .returned (.bool (ltAt (enLt o) es i j)) ∧ Bel w w' := by
  have e1 : es[i]? = some es[i] := List.getElem?_eq_getElem hi
  have e2 : es[j]? = some es[j] := List.getElem?_eq_getElem hj
  rw [ltAt_some e1 e2]
  obtain ⟨g, cap, k, m, p, q, r, s, rfl, hc1, hc2, hg, hQg, d, hk, c0, c1, c2, c3, q1, s1⟩ := h.at e1
  obtain ⟨g', cap', k', m', p', q', r', s', hv, _, _, _, _, d', hk', c0', c1', c2', c3', q2, s2⟩ := h.at e2
  simp only [Value.slice.injEq, Option.some.injEq, Addr.mk.injEq, and_true, true_and] at hv
  obtain ⟨rfl, rfl⟩ := hv
  generalize es[i] = ei at *
  generalize es[j] = ej at *
  obtain ⟨r1, z1, l1⟩ := h.blk.facts
  have Q1 := Lib.hid q1
  have Q2 := Lib.hid q2
  have S1 := Lib.hid s1
  have S2 := Lib.hid s2
  have QO := Lib.hid h.box
  have SO := Lib.hid h.osm
  have HB := Lib.hid h.blk
  have hii : (i : Int) < (es.length : Int) := by omega
  have hjj : (j : Int) < (es.length : Int) := by omega
  have hw : w = w := rfl
  clear h q1 q2 s1 s2 e1 e2 hi hj
  generalize es.length = n at *
  go_enter Tryd.func68, Tryd.ntmps68
  have D := Lib.hid d
  have D' := Lib.hid d'
  have C0 := Lib.hid c0
  have C1 := Lib.hid c1
  have C2 := Lib.hid c2
  have C3 := Lib.hid c3
  have C0' := Lib.hid c0'
  have C1' := Lib.hid c1'
  have C2' := Lib.hid c2'
  have C3' := Lib.hid c3'
  go_wp2
  go_region_held3 (fun w' => (∀ o, w'.cell? ⟨Q, o, none⟩ = (#[.slice (some ⟨g, 0, none⟩) n cap, .float .f64 x, .float .f64 y, .float .f64 z, .float .f64 u] : Array Value)[o]?) ∧ w'.cell? ⟨g, i, none⟩ = some (.pointer (some ⟨k, m * 6, none⟩)) ∧ w'.cell? ⟨k, m * 6, none⟩ = some (.float .f64 p) ∧ w'.cell? ⟨k, m * 6 + 1, none⟩ = some (.float .f64 q) ∧ w'.cell? ⟨k, m * 6 + 2, none⟩ = some (.float .f64 r) ∧ w'.cell? ⟨k, m * 6 + 3, none⟩ = some (.float .f64 s) ∧ Bel w w')
    ((refine keepL HB.out D.out C0.out C1.out C2.out C3.out ?_; ((repeat (first | with_reducible assumption | with_reducible exact Bel.refl _ | with_reducible apply Bel.alloc | with_reducible apply Bel.drew | with_reducible apply Bel.drewN | ((with_reducible apply Bel.setCellR); (simp <;> omega)) | with_reducible refine Bel.behind (by with_reducible assumption) ?_)); done)))
    ((first
      | (go_at_call 72; (with_reducible refine (far_any' _ _ _ _ _ _ _ _ Q1.out QO.out S1.out SO.out _).mono ?_); rintro e w1 ⟨f1, rfl, hI1, hb1⟩)))
  go_wp2
  go_region_held3 (fun w' => (∀ o, w'.cell? ⟨Q, o, none⟩ = (#[.slice (some ⟨g, 0, none⟩) n cap, .float .f64 x, .float .f64 y, .float .f64 z, .float .f64 u] : Array Value)[o]?) ∧ w'.cell? ⟨g, j, none⟩ = some (.pointer (some ⟨k', m' * 6, none⟩)) ∧ w'.cell? ⟨k', m' * 6, none⟩ = some (.float .f64 p') ∧ w'.cell? ⟨k', m' * 6 + 1, none⟩ = some (.float .f64 q') ∧ w'.cell? ⟨k', m' * 6 + 2, none⟩ = some (.float .f64 r') ∧ w'.cell? ⟨k', m' * 6 + 3, none⟩ = some (.float .f64 s') ∧ Bel w w')
    ((refine keepL HB.out D'.out C0'.out C1'.out C2'.out C3'.out ?_; ((repeat (first | with_reducible assumption | with_reducible exact Bel.refl _ | with_reducible apply Bel.alloc | with_reducible apply Bel.drew | with_reducible apply Bel.drewN | ((with_reducible apply Bel.setCellR); (simp <;> omega)) | with_reducible refine Bel.behind (by with_reducible assumption) ?_)); done)))
    ((first
      | (go_at_call 72; (with_reducible refine (far_any' _ _ _ _ _ _ _ _ Q2.out QO.out S2.out SO.out _).mono ?_); rintro e w2 ⟨f2, rfl, hI2, hb2⟩)))
  go_wp2
  go_ret
  exact ⟨congrArg (fun b => Ending.returned (.bool b)) (hI1.out.ltB hI2.out), by first | ((repeat (first | with_reducible assumption | with_reducible exact Bel.refl _ | with_reducible apply Bel.alloc | with_reducible apply Bel.drew | with_reducible apply Bel.drewN | ((with_reducible apply Bel.setCellR); (simp <;> omega)) | with_reducible refine Bel.behind (by with_reducible assumption) ?_)); done) | (rename_i hh; exact hh.2.2.2.2.2.2)⟩

theorem QRow.ownBlock_ne {w0 w : World} {base : Nat} {v : Value} {es : List En} (h : QRow w0 w base v es) {b : Nat} (hb : b < base) : v.ownBlock ≠ some b := by
  rcases h with ⟨rfl, _⟩ | ⟨g, cap, cur, rfl, h2, _⟩
  · simp [Value.ownBlock]
  · simp [Value.ownBlock]
    omega
theorem PQ.swapped {w0 w : World} {Q x y z u : Nat} {o : Bx} {es : List En} {g n cap i j : Nat} {pi pj : Value} (h : PQ w0 w Q x y z u o (.slice (some ⟨g, 0, none⟩) n cap) es) (hi : i < es.length) (hj : j < es.length) (ci : w.cell? ⟨g, i, none⟩ = some pi) (cj : w.cell? ⟨g, j, none⟩ = some pj) (w' : World) (hw : w' = ((w.setCell ⟨g, i, none⟩ pj).setCell ⟨g, j, none⟩ pi)) :
    PQ w0 w' Q x y z u o (.slice (some ⟨g, 0, none⟩) n cap) (swapAt es i j) ∧ QRel Q w (.slice (some ⟨g, 0, none⟩) n cap) w' (.slice (some ⟨g, 0, none⟩) n cap) := by
  subst hw
  have hQ := h.hQ
  rcases h.row with ⟨hv, rfl⟩ | ⟨g', cap', cur, h1, h2, h3, h4, h5, h6, h7⟩
  · simp at hi
  · simp only [Value.slice.injEq, Option.some.injEq, Addr.mk.injEq, and_true, true_and] at h1
    obtain ⟨rfl, rfl, rfl⟩ := h1
    have ei : es[i]? = some es[i] := List.getElem?_eq_getElem hi
    have ej : es[j]? = some es[j] := List.getElem?_eq_getElem hj
    obtain ⟨qi, ki, ai⟩ := h7 i _ ei
    obtain ⟨qj, kj, aj⟩ := h7 j _ ej
    rw [h3.rules.1, ki] at ci
    rw [h3.rules.1, kj] at cj
    obtain rfl := Option.some.inj ci
    obtain rfl := Option.some.inj cj
    refine ⟨⟨(h.below.setCell (by simp; omega) _).setCell (by simp; omega) _, (h.blk.other (by simp; omega) _).other (by simp; omega) _, Or.inr ⟨g, cap, _, by rw [swapAt_len], h2, (h3.set i qj).set j qi, by rw [swapAt_len]; exact h4, h5, by simpa using h6, ?_⟩, h.hQ, h.box, h.osm, swapAt_mem _ _ h.small, by rw [swapAt_len]; exact h.few⟩, ⟨rfl, rfl, rfl, by simp, fun b hb hv hl => ?_, Or.inl rfl⟩⟩
    · intro k e he
      rw [swapAt_some ei ej] at he
      by_cases k2 : j = k
      · subst k2
        rw [List.getElem?_set_self (by simpa using hj)] at he
        obtain rfl := Option.some.inj he
        exact ⟨qi, by rw [Array.getElem?_setIfInBounds_self_of_lt (by simp; omega)], ai⟩
      · rw [List.getElem?_set_ne k2] at he
        rw [Array.getElem?_setIfInBounds_ne k2]
        by_cases k1 : i = k
        · subst k1
          rw [List.getElem?_set_self (by omega)] at he
          obtain rfl := Option.some.inj he
          exact ⟨qj, by rw [Array.getElem?_setIfInBounds_self_of_lt (by omega)], aj⟩
        · rw [List.getElem?_set_ne k1] at he
          rw [Array.getElem?_setIfInBounds_ne k1]
          exact h7 k e he
    · simp only [Value.ownBlock, ne_eq, Option.some.injEq] at hv
      rw [Below.heap_setCell _ _ _ _ (by simp; omega), Below.heap_setCell _ _ _ _ (by simp; omega)]
theorem PQ.drew {w0 w : World} {Q x y z u : Nat} {o : Bx} {v : Value} {es : List En} (h : PQ w0 w Q x y z u o v es) : PQ w0 w.drew Q x y z u o v es := h.bel ((Bel.refl _).drew)
theorem QRel.drew {Q : Nat} {w w' : World} {v v' : Value} (h : QRel Q w v w' v') : QRel Q w v w'.drew v' := ⟨h.os, h.tape, h.output, h.size, h.block, h.own⟩
set_option maxHeartbeats 4000000 in
set_option maxRecDepth 100000 in
theorem swapQ_any {w0 w : World} {Q x y z u : Nat} {o : Bx} {v : Value} {es : List En} (h : PQ w0 w Q x y z u o v es) (i j : Nat) (hi : i < es.length) (hj : j < es.length) :
    Calls Tryd.prog 71 #[.pointer (some ⟨Q, 0, none⟩), .int .i64 i, .int .i64 j] w fun e w' => e = .returned (.tuple #[]) ∧ PQ w0 w' Q x y z u o v (swapAt es i j) ∧ QRel Q w v w' v := by
  have e1 : es[i]? = some es[i] := List.getElem?_eq_getElem hi
  have e2 : es[j]? = some es[j] := List.getElem?_eq_getElem hj
  obtain ⟨g, cap, k, m, _, _, _, _, rfl, hc1, hc2, hg, hQg, d, hx1⟩ := h.at e1
  obtain ⟨g', cap', k', m', _, _, _, _, hv, _, _, _, _, d', hx2⟩ := h.at e2
  clear hx1 hx2
  simp only [Value.slice.injEq, Option.some.injEq, Addr.mk.injEq, and_true, true_and] at hv
  obtain ⟨rfl, rfl⟩ := hv
  obtain ⟨r1, z1, l1⟩ := h.blk.facts
  have hz : ∀ o, w.frozen? ⟨g, o, none⟩ = false := by
    rcases h.row with ⟨hv, _⟩ | ⟨g', cap', cur, h1, _, h3, _⟩
    · cases hv
    · simp only [Value.slice.injEq, Option.some.injEq, Addr.mk.injEq, and_true, true_and] at h1
      obtain ⟨rfl, rfl⟩ := h1
      exact h3.rules.2
  have hii : (i : Int) < (es.length : Int) := by omega
  have hjj : (j : Int) < (es.length : Int) := by omega
  have HH := Lib.hid h
  have HI := Lib.hid hi
  have HJ := Lib.hid hj
  have D := Lib.hid d
  have D' := Lib.hid d'
  clear h e1 e2
  by_cases hij : i = j
  · subst hij
    obtain rfl : k' = k := by
      have := D'.out.symm.trans D.out
      simp at this
      exact this.1
    obtain hmm : m' * 6 = m * 6 := by
      have := D'.out.symm.trans D.out
      simp at this
      omega
    clear d'
    clear hi hj
    go_enter Tryd.func71, Tryd.ntmps71
    go_region
    go_end0
    have := HH.out.swapped HI.out HJ.out D.out D.out _ rfl
    exact ⟨rfl, this.1.drew, this.2.drew⟩
  · have hij' : ¬ j = i := fun h => hij h.symm
    clear hi hj
    go_enter Tryd.func71, Tryd.ntmps71
    go_region
    go_end0
    have := HH.out.swapped HI.out HJ.out D.out D'.out _ rfl
    exact ⟨rfl, this.1.drew, this.2.drew⟩
end Go.Proofs.YtdfamnlmhikolaaDoor
