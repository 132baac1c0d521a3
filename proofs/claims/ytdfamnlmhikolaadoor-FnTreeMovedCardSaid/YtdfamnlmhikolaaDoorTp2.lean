/-
  The queue of a search by distance: Pop, Push. No panic; nothing but the queue and its row has turned.
-/
import Derived.Test.YtdfamnlmhikolaaDoorTp
set_option linter.unusedVariables false
namespace Go.Proofs.YtdfamnlmhikolaaDoor
open Go.ChangeShapes Go.WideShapes Go.ChangeAt Go.RowKit
theorem PQ.popped {w0 w : World} {Q x y z u : Nat} {o : Bx} {es : List En} {g n m cap : Nat} (h : PQ w0 w Q x y z u o (.slice (some ⟨g, 0, none⟩) n cap) es) (hn : es.length = n) (hm : m ≤ n) :
    PQ w0 (w.setCell ⟨Q, 0, none⟩ (.slice (some ⟨g, 0, none⟩) m cap)) Q x y z u o (.slice (some ⟨g, 0, none⟩) m cap) (es.take m) ∧ QRel Q w (.slice (some ⟨g, 0, none⟩) n cap) (w.setCell ⟨Q, 0, none⟩ (.slice (some ⟨g, 0, none⟩) m cap)) (.slice (some ⟨g, 0, none⟩) m cap) := by
  have hQ := h.hQ
  rcases h.row with ⟨hv, rfl⟩ | ⟨g', cap', cur, h1, h2, h3, h4, h5, h6, h7⟩
  · cases hv
  · simp only [Value.slice.injEq, Option.some.injEq, Addr.mk.injEq, and_true] at h1
    obtain ⟨rfl, _, rfl⟩ := h1
    have hl : (es.take m).length = m := by rw [List.length_take]; omega
    refine ⟨⟨h.below.setCell (by simp; omega) _, (h.blk.set 0 _).cast (by simp), Or.inr ⟨g, cap, cur, by rw [hl], h2, h3.other (by simp; omega) _, by omega, h5, h6, fun i e he => ?_⟩, h.hQ, h.box, h.osm, fun e he => h.small e (List.mem_of_mem_take he), by have := h.few; omega⟩, ⟨rfl, rfl, rfl, by simp, fun b hb hv hl => ?_, Or.inl rfl⟩⟩
    · rw [List.getElem?_take] at he
      split at he
      · exact h7 i e he
      · cases he
    · rw [Below.heap_setCell _ _ _ _ (by simpa using hb)]
set_option maxHeartbeats 4000000 in
set_option maxRecDepth 100000 in
theorem popQ_any {w0 w : World} {Q x y z u : Nat} {o : Bx} {v : Value} {es : List En} (h : PQ w0 w Q x y z u o v es) (m : Nat) (hm : es.length = m + 1) (e0 : En) (he : es[m]? = some e0) :
    Calls Tryd.prog 69 #[.pointer (some ⟨Q, 0, none⟩)] w fun e w' => ∃ pv v', e = .returned (.iface 88 pv) ∧ EnAt w0 pv e0 ∧ PQ w0 w' Q x y z u o v' (es.take m) ∧ QRel Q w v w' v' := by
  obtain ⟨g, cap, pv, rfl, hpv, hen, hc1, hc2⟩ : ∃ g cap pv, v = .slice (some ⟨g, 0, none⟩) es.length cap ∧ w.cell? ⟨g, m, none⟩ = some pv ∧ EnAt w0 pv e0 ∧ es.length ≤ cap ∧ cap ≤ maxLen := by
    rcases h.row with ⟨_, rfl⟩ | ⟨g', cap', cur, h1, h2, h3, h4, h5, h6, h7⟩
    · simp at hm
    · obtain ⟨pv, k1, k2⟩ := h7 m e0 he
      exact ⟨g', cap', pv, h1, (h3.rules.1 m).trans k1, k2, h4, h5⟩
  obtain ⟨k, j, rfl, hx⟩ := hen
  have HEN : Hid (EnAt w0 (.pointer (some ⟨k, j * 6, none⟩)) e0) := Lib.hid ⟨k, j, rfl, hx⟩
  have HH := Lib.hid h
  obtain ⟨r1, z1, l1⟩ := h.blk.facts
  unfold maxLen at hc2
  generalize hn : es.length = n at *
  have HN := Lib.hid hn
  have hmi : (n : Int) - 1 = (m : Int) := by omega
  have b1 : (m : Int) < (n : Int) := by omega
  have b2 : (m : Int) ≤ (cap : Int) := by omega
  have HM := Lib.hid hm
  clear h he hx hn hm
  go_enter Tryd.func69, Tryd.ntmps69
  go_wp2
  go_quiet (fail)
  go_wp2
  generalize hW : World.drewN _ _ = w2 at *
  have H2 : Hid (PQ w0 w2 Q x y z u o (.slice (some ⟨g, 0, none⟩) n cap) es) := Lib.hid (hW ▸ HH.out.bel ((Bel.refl _).drewN _))
  have HB2 : Hid (Bel w w2) := Lib.hid (hW ▸ (Bel.refl _).drewN _)
  obtain ⟨r2, z2, l2⟩ := H2.out.blk.facts
  clear hW
  go_region
  go_wp2
  go_ret
  have := H2.out.popped HN.out (m := m) (by have := HM.out; omega)
  exact ⟨_, _, rfl, HEN.out, this.1.drew, ((QRel.bel HB2.out _).trans this.2).drew⟩
theorem assertEP (v : Value) (w : World) : (Instr.typeAssert (.iface 88 v) 20 88 false).run Tryd.prog w = .ok v w := by kernel_rfl
theorem infoEP : (Tryd.prog.info? 88).map (fun i => (i.zero, i.size, i.bytes)) = some (some (.pointer none), 1, 8) := by kernel_rfl
theorem QRow.owns {w0 w : World} {base : Nat} {v : Value} {es : List En} (h : QRow w0 w base v es) : ∃ xs : List Value, w.ownsRow base 88 1 v es.length xs ∧ xs.length = es.length ∧ ∀ (i : Nat) (e : En), es[i]? = some e → ∃ pv, xs[i]? = some pv ∧ EnAt w0 pv e := by
  rcases h with ⟨rfl, rfl⟩ | ⟨g, cap, cur, h1, h2, h3, h4, h5, h6, h7⟩
  · exact ⟨[], World.ownsRow_nil _ _ _ _, rfl, fun i e he => by simp at he⟩
  · refine ⟨cur.toList.take es.length, ⟨by simp; omega, Or.inr ⟨g, cap, cur, h1, h2, h3, h4, h5, by omega, by simp⟩⟩, by simp; omega, fun i e he => ?_⟩
    obtain ⟨pv, k1, k2⟩ := h7 i e he
    have := (List.getElem?_eq_some_iff.1 he).1
    refine ⟨pv, ?_, k2⟩
    rw [List.getElem?_take, if_pos this]
    simpa using k1
theorem QRow.of_owns {w0 w : World} {base : Nat} {v : Value} {es : List En} {xs : List Value} {n : Nat} (h : w.ownsRow base 88 1 v n xs) (hn : n = es.length) (hx : ∀ (i : Nat) (e : En), es[i]? = some e → ∃ pv, xs[i]? = some pv ∧ EnAt w0 pv e) : QRow w0 w base v es := by
  subst hn
  rcases h.2 with ⟨rfl, h0⟩ | ⟨g, cap, cur, rfl, h2, h3, h4, h5, h6, h7⟩
  · exact Or.inl ⟨rfl, List.length_eq_zero_iff.1 h0⟩
  · refine Or.inr ⟨g, cap, cur, rfl, h2, h3, h4, h5, by omega, fun i e he => ?_⟩
    obtain ⟨pv, k1, k2⟩ := hx i e he
    refine ⟨pv, ?_, k2⟩
    rw [← h7, List.getElem?_take] at k1
    split at k1
    · simpa using k1
    · cases k1
theorem PQ.pushed {w0 w w2 : World} {Q x y z u : Nat} {o : Bx} {v v' : Value} {es : List En} {ob : Obj} (h : PQ w0 w Q x y z u o v es) {pv : Value} {e0 : En} (he : EnAt w0 pv e0) (hs : e0.b.Small 1048576) (hf : es.length + 1 ≤ 1000000) {xs : List Value} (hxl : xs.length = es.length) (hxs : ∀ (i : Nat) (e : En), es[i]? = some e → ∃ pv, xs[i]? = some pv ∧ EnAt w0 pv e)
    (ho : w2.ownsRow (Q + 1) 88 1 v' (es.length + 1) (xs ++ [pv])) (hg : (w.alloc ob).drew.grownBy w2 v.ownBlock) (hb : v'.ownBlock = v.ownBlock ∨ v'.ownBlock = some (w.alloc ob).drew.heap.size) :
    PQ w0 (w2.setCell ⟨Q, 0, none⟩ v') Q x y z u o v' (es ++ [e0]) ∧ QRel Q w v (w2.setCell ⟨Q, 0, none⟩ v') v' := by
  have hQ := h.hQ
  have hne := fun hh => h.row.ownBlock_ne (b := Q) (by omega) (Eq.symm hh)
  have hsz : w.heap.size ≤ w2.heap.size := by
    have := hg.size
    simp at this
    omega
  have hblk : ∀ b, v.ownBlock ≠ some b → b < w.heap.size → w2.heap[b]? = w.heap[b]? := fun b hv hl => by
    have h1 := hg.block b (by simp; omega) (fun e => hv e.symm)
    rw [h1]
    exact Below.heap_alloc w ob b hl
  have hold : ∀ b, v.ownBlock = some b → Q < b := fun b hv => by
    rcases Nat.lt_or_ge Q b with k | k
    · exact k
    · exact absurd hv (h.row.ownBlock_ne (by omega))
  have hQl := h.blk.lt
  have hBQ : Blk w2 Q #[v, .float .f64 x, .float .f64 y, .float .f64 z, .float .f64 u] 85 := by
    have := h.blk
    unfold Blk at *
    rw [hblk Q (fun e => by have := hold Q e; omega) hQl]
    exact this
  refine ⟨⟨⟨?_, ?_, ?_, ?_, fun b hb2 => ?_⟩, (hBQ.set 0 _).cast (by simp), QRow.of_owns (ho.kept (grownBy_set w2 Q 0 v') ?_) (by simp) (fun i e hi => ?_), h.hQ, h.box, h.osm, fun e he => ?_, by simpa using hf⟩, ⟨?_, ?_, ?_, by simpa using hsz, fun b hb2 hv hl => ?_, ?_⟩⟩
  · exact hg.os.trans h.below.os
  · exact hg.tape.trans h.below.tape
  · exact hg.output.trans h.below.output
  · have := h.below.size
    simp
    omega
  · rw [Below.heap_setCell _ _ _ _ (by simp; omega), hblk b (fun e => by have := hold b e; omega) (by have := h.below.size; omega)]
    exact h.below.block b hb2
  · right
    intro hh
    have := (ho.lt Q hh).1
    omega
  · rcases Nat.lt_or_ge i es.length with k | k
    · rw [List.getElem?_append_left k] at hi
      obtain ⟨pv', k1, k2⟩ := hxs i e hi
      exact ⟨pv', by rw [List.getElem?_append_left (by omega)]; exact k1, k2⟩
    · rw [List.getElem?_append_right k] at hi
      have hk := (List.getElem?_eq_some_iff.1 hi).1
      simp at hk
      have : i = es.length := by omega
      subst this
      simp at hi
      subst hi
      exact ⟨pv, by rw [← hxl, List.getElem?_concat_length], he⟩
  · rcases List.mem_append.1 he with k | k
    · exact h.small e k
    · simp at k
      rw [k]
      exact hs
  · exact hg.os
  · exact hg.tape
  · exact hg.output
  · rw [Below.heap_setCell _ _ _ _ (by simpa using hb2)]
    exact hblk b hv hl
  · rcases hb with k | k
    · exact Or.inl k
    · exact Or.inr ⟨_, k, by simp⟩
set_option maxHeartbeats 4000000 in
set_option maxRecDepth 100000 in
theorem pushQ_any {w0 w : World} {Q x y z u : Nat} {o : Bx} {v : Value} {es : List En} (h : PQ w0 w Q x y z u o v es) (k j : Nat) (e0 : En) (he : EnAt w0 (.pointer (some ⟨k, j, none⟩)) e0) (hs : e0.b.Small 1048576) (hf : es.length + 1 ≤ 1000000) :
    Calls Tryd.prog 70 #[.pointer (some ⟨Q, 0, none⟩), .iface 88 (.pointer (some ⟨k, j, none⟩))] w fun e w' => ∃ v', e = .returned (.tuple #[]) ∧ PQ w0 w' Q x y z u o v' (es ++ [e0]) ∧ QRel Q w v w' v' := by
  obtain ⟨r1, z1, l1⟩ := h.blk.facts
  obtain ⟨xs, hown, hxl, hxs⟩ := h.row.owns
  obtain ⟨p, cap, rfl⟩ : ∃ p cap, v = .slice p es.length cap := by
    rcases h.row with ⟨rfl, rfl⟩ | ⟨g, cap, cur, h1, _⟩
    · exact ⟨_, _, rfl⟩
    · exact ⟨_, _, h1⟩
  obtain ⟨i0, hi, hz0, hz1, hz2⟩ := info_parts infoEP
  have HOWN := Lib.hid hown
  have HXS := Lib.hid hxs
  have HXL := Lib.hid hxl
  have HH := Lib.hid h
  have HE := Lib.hid he
  have HS := Lib.hid hs
  have hta := assertEP
  have HNE : Hid (some Q ≠ Value.ownBlock (.slice p es.length cap)) := Lib.hid fun hh => h.row.ownBlock_ne (b := Q) (by omega) hh.symm
  clear h hown hxs hxl he hs
  go_enter Tryd.func70, Tryd.ntmps70
  go_wp2
  go_region_law (first
    | (refine step_append_row _ rfl (.tmp 8) (.tmp 11) 83 rfl (Q + 1) 88 i0 (.pointer none) 1 8 Tryd.underlying83 hi hz0 hz1 hz2 rfl (by decide) (.slice p es.length cap) es.length xs rfl (HOWN.out.alloc _) ⟨w.heap.size, 0, none⟩ 1 1 [.pointer (some ⟨k, j, none⟩)] rfl rfl (cells_one _ _ _ (by simp)) (by simp [Value.oneCell']) (by decide) (by unfold maxLen; omega) (by omega) (by simp; omega) ?_; intro v' w2 ho2 hg2 hb2; obtain ⟨p', c', rfl⟩ := ho2.isSlice; have HO2 := Lib.hid ho2; have HG2 := Lib.hid hg2; have HB2 := Lib.hid hb2; have B2 := grownBy_blk hg2 (HH.out.blk.alloc _) HNE.out; obtain ⟨r2, z2, l2⟩ := B2.facts; have B2 := Lib.hid B2; clear ho2 hg2 hb2))
  all_goals
    go_end0
    have := HH.out.pushed HE.out HS.out hf HXL.out HXS.out HO2.out HG2.out HB2.out
    exact ⟨_, rfl, this.1, this.2⟩
end Go.Proofs.YtdfamnlmhikolaaDoor
