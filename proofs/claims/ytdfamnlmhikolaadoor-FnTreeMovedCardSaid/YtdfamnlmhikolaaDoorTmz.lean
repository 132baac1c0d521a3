/-
  FnTreeMoved, the last loop: answers whose boxes are moved in place, one behind another.
-/
import Derived.Test.YtdfamnlmhikolaaDoorTrw
set_option linter.unusedVariables false
namespace Go.Proofs.YtdfamnlmhikolaaDoor
open Go.ChangeShapes Go.WideShapes Go.ChangeAt Go.RowKit
structure MvSt (X Y : Int) (wr w6 wq : World) (bl : Nat) (ds : List RawAsk) (ts : List Told) (k : Nat) : Prop where
  bel : Bel wr wq
  size : w6.heap.size ≤ wq.heap.size
  keep : ∀ b, b < w6.heap.size → b ≠ bl → wq.heap[b]? = w6.heap[b]?
  rows : ∃ cs, Blk wq bl cs 40 ∧ ∀ (i : Nat) (x : RawAsk) (t : Told), ds[i]? = some x → ts[i]? = some t → ToldRow (fun g => g ≠ bl) wq (fun o => cs[o]?) i (if i < k then toldMv X Y x.dov t else t)
theorem ToldRow.two {F G : Nat → Prop} {w w' : World} {cs : Nat → Option Value} {i : Nat} {t : Told} (h : ToldRow F w cs i t) (hs : w.heap.size ≤ w'.heap.size) (hk : ∀ b, F b → b < w.heap.size → w'.heap[b]? = w.heap[b]?) (hG : ∀ b, b < w.heap.size → F b → G b) : ToldRow G w' cs i t := by
  obtain ⟨v0, d0, d1, d2, d3, k0, k1, k2, k3, k4, k5, k6, k7, k8, k9, kI, kq⟩ := h
  exact ⟨v0, d0, d1, d2, d3, k0, k1, k2, k3, k4, k5, k6, k7, k8, k9, kI.two hs hk hG, kq⟩
theorem MvSt.start {X Y : Int} {wr w5 w6 : World} {v : Value} {ds : List RawAsk} {ts : List Told} (h : ToldSlN wr.heap.size w5 v ts) (hn : ts ≠ []) (hb5 : Bel wr w5) (hb6 : Bel w5 w6) : ∃ bl cap, v = .slice (some ⟨bl, 0, none⟩) ts.length cap ∧ ts.length ≤ cap ∧ cap ≤ 9223372036854775807 ∧ wr.heap.size ≤ bl ∧ bl < w5.heap.size ∧ MvSt X Y wr w6 w6 bl ds ts 0 := by
  obtain ⟨p, cap, rfl, h1, h2, h⟩ := h
  obtain ⟨b, cs, rfl, hb, hB, hr⟩ := h hn
  exact ⟨b, cap, rfl, h1, h2, hb, hB.lt, hb5.trans hb6, Nat.le_refl _, fun _ _ _ => rfl, cs, hB.bel hb6, fun i x t _ ht => by
    rw [if_neg (Nat.not_lt_zero i)]
    exact (hr i t ht).two hb6.size (fun b _ hb2 => hb6.block b hb2) fun b _ hF => hF.2⟩
/-- An answer that stays as it is. -/
theorem MvSt.idle {X Y : Int} {wr w6 wq : World} {bl : Nat} {ds : List RawAsk} {ts : List Told} {k : Nat} (h : MvSt X Y wr w6 wq bl ds ts k) {x : RawAsk} {t : Told} (hx : ds[k]? = some x) (ht : ts[k]? = some t) (hno : ¬ (x.dov = 3 ∧ t.found = true)) : MvSt X Y wr w6 wq bl ds ts (k + 1) := by
  obtain ⟨h1, h2, h3, cs, hB, hr⟩ := h
  refine ⟨h1, h2, h3, cs, hB, fun i x' t' hx' ht' => ?_⟩
  have := hr i x' t' hx' ht'
  by_cases e : i < k
  · rw [if_pos e] at this
    rw [if_pos (by omega)]
    exact this
  · rw [if_neg e] at this
    by_cases e2 : i < k + 1
    · obtain rfl : i = k := by omega
      obtain rfl := Option.some.inj (hx.symm.trans hx')
      obtain rfl := Option.some.inj (ht.symm.trans ht')
      rw [if_pos e2]
      unfold toldMv
      rw [if_neg hno]
      exact this
    · rw [if_neg e2]
      exact this
/-- An answer whose box is moved. -/
theorem MvSt.step {X Y : Int} {wr w6 wq w7 : World} {bl : Nat} {ds : List RawAsk} {ts : List Told} {k : Nat} (h : MvSt X Y wr w6 wq bl ds ts k) (hbl : wr.heap.size ≤ bl) {x : RawAsk} {t : Told} (hx : ds[k]? = some x) (ht : ts[k]? = some t) (h3 : x.dov = 3) (hf : t.found = true) {m0 m1 m2 m3 : Nat} (hM : BxB m0 m1 m2 m3 (t.bx.mv X Y)) (hb : Bel wq w7) :
    MvSt X Y wr w6 ((((w7.setCell ⟨bl, k * 10 + 5, none⟩ (.float .f64 m0)).setCell ⟨bl, k * 10 + 6, none⟩ (.float .f64 m1)).setCell ⟨bl, k * 10 + 7, none⟩ (.float .f64 m2)).setCell ⟨bl, k * 10 + 8, none⟩ (.float .f64 m3)) bl ds ts (k + 1) := by
  obtain ⟨h1, h2, hk, cs, hB, hr⟩ := h
  have hblk : ∀ b, b ≠ bl → b < wq.heap.size → ((((w7.setCell ⟨bl, k * 10 + 5, none⟩ (.float .f64 m0)).setCell ⟨bl, k * 10 + 6, none⟩ (.float .f64 m1)).setCell ⟨bl, k * 10 + 7, none⟩ (.float .f64 m2)).setCell ⟨bl, k * 10 + 8, none⟩ (.float .f64 m3)).heap[b]? = wq.heap[b]? := fun b hne hlt => by
    rw [Below.heap_setCell _ _ _ _ (by simpa using hne), Below.heap_setCell _ _ _ _ (by simpa using hne), Below.heap_setCell _ _ _ _ (by simpa using hne), Below.heap_setCell _ _ _ _ (by simpa using hne)]
    exact hb.block b hlt
  have hsz : wq.heap.size ≤ ((((w7.setCell ⟨bl, k * 10 + 5, none⟩ (.float .f64 m0)).setCell ⟨bl, k * 10 + 6, none⟩ (.float .f64 m1)).setCell ⟨bl, k * 10 + 7, none⟩ (.float .f64 m2)).setCell ⟨bl, k * 10 + 8, none⟩ (.float .f64 m3)).heap.size := by
    have := hb.size
    simp
    exact this
  refine ⟨((((h1.trans hb).setCell hbl _).setCell hbl _).setCell hbl _).setCell hbl _, by omega, fun b hlt hne => (hblk b hne (by omega)).trans (hk b hlt hne), _, (((((hB.bel hb).set (k * 10 + 5) _).set (k * 10 + 6) _).set (k * 10 + 7) _).set (k * 10 + 8) _), fun i x' t' hx' ht' => ?_⟩
  have hrow := (hr i x' t' hx' ht').two hsz (fun b hne hlt => hblk b hne hlt) (fun b _ hF => hF)
  have out : ∀ (o : Nat) (v : Value), (o ≠ k * 10 + 5 ∧ o ≠ k * 10 + 6 ∧ o ≠ k * 10 + 7 ∧ o ≠ k * 10 + 8) → cs[o]? = some v → ((((cs.setIfInBounds (k * 10 + 5) (.float .f64 m0)).setIfInBounds (k * 10 + 6) (.float .f64 m1)).setIfInBounds (k * 10 + 7) (.float .f64 m2)).setIfInBounds (k * 10 + 8) (.float .f64 m3))[o]? = some v := fun o v ho hv => by
    rw [Array.getElem?_setIfInBounds_ne (by omega), Array.getElem?_setIfInBounds_ne (by omega), Array.getElem?_setIfInBounds_ne (by omega), Array.getElem?_setIfInBounds_ne (by omega)]
    exact hv
  by_cases e : i = k
  · subst e
    obtain rfl := Option.some.inj (hx.symm.trans hx')
    obtain rfl := Option.some.inj (ht.symm.trans ht')
    rw [if_neg (Nat.lt_irrefl _)] at hrow
    rw [if_pos (Nat.lt_succ_self _)]
    obtain ⟨v0, d0, d1, d2, d3, k0, k1, k2, k3, k4, k5, k6, k7, k8, k9, kI, kq⟩ := hrow
    have hs := (Array.getElem?_eq_some_iff.1 k9).1
    have e3 : toldMv X Y x.dov t = { t with bx := t.bx.mv X Y } := by
      unfold toldMv
      rw [if_pos ⟨h3, hf⟩]
    rw [e3]
    have n5 : i * 10 + 5 < cs.size := by omega
    have n6 : i * 10 + 6 < cs.size := by omega
    have n7 : i * 10 + 7 < cs.size := by omega
    have n8 : i * 10 + 8 < cs.size := by omega
    refine ⟨v0, m0, m1, m2, m3, out _ _ (by omega) k0, out _ _ (by omega) k1, out _ _ (by omega) k2, out _ _ (by omega) k3, out _ _ (by omega) k4, ?_, ?_, ?_, ?_, out _ _ (by omega) k9, kI, hM⟩
    · show (_ : Array Value)[i * 10 + 5]? = _
      rw [Array.getElem?_setIfInBounds_ne (by omega), Array.getElem?_setIfInBounds_ne (by omega), Array.getElem?_setIfInBounds_ne (by omega), Array.getElem?_setIfInBounds_self_of_lt n5]
    · show (_ : Array Value)[i * 10 + 6]? = _
      rw [Array.getElem?_setIfInBounds_ne (by omega), Array.getElem?_setIfInBounds_ne (by omega), Array.getElem?_setIfInBounds_self_of_lt (by simpa using n6)]
    · show (_ : Array Value)[i * 10 + 7]? = _
      rw [Array.getElem?_setIfInBounds_ne (by omega), Array.getElem?_setIfInBounds_self_of_lt (by simpa using n7)]
    · show (_ : Array Value)[i * 10 + 8]? = _
      rw [Array.getElem?_setIfInBounds_self_of_lt (by simpa using n8)]
  · have hif : (if i < k + 1 then toldMv X Y x'.dov t' else t') = (if i < k then toldMv X Y x'.dov t' else t') := by
      by_cases e2 : i < k
      · rw [if_pos e2, if_pos (by omega)]
      · rw [if_neg e2, if_neg (by omega)]
    rw [hif]
    obtain ⟨v0, d0, d1, d2, d3, k0, k1, k2, k3, k4, k5, k6, k7, k8, k9, kI, kq⟩ := hrow
    exact ⟨v0, d0, d1, d2, d3, out _ _ (by omega) k0, out _ _ (by omega) k1, out _ _ (by omega) k2, out _ _ (by omega) k3, out _ _ (by omega) k4, out _ _ (by omega) k5, out _ _ (by omega) k6, out _ _ (by omega) k7, out _ _ (by omega) k8, out _ _ (by omega) k9, kI, kq⟩
/-- The answers of the moved tree stand where they stood. -/
theorem ToldSlN.later {X Y : Int} {wr w5 w6 wq : World} {bl : Nat} {ds : List RawAsk} {ts ts' : List Told} {k : Nat} {u : Value} (h : ToldSlN w5.heap.size w6 u ts') (hm : MvSt X Y wr w6 wq bl ds ts k) (hbl : bl < w5.heap.size) : ToldSl wq u ts' := by
  refine ToldSlN.sl (B := w5.heap.size) ?_
  obtain ⟨p, cap, hv, h1, h2, h⟩ := h
  refine ⟨p, cap, hv, h1, h2, fun hn => ?_⟩
  obtain ⟨b, cs, hp, hb, hB, hr⟩ := h hn
  refine ⟨b, cs, hp, hb, (hm.keep b hB.lt (by omega)).trans hB, fun i t ht => (hr i t ht).two hm.size (fun g hg hlt => hm.keep g hlt (by omega)) fun g _ hF => hF⟩
theorem MvSt.fin {X Y : Int} {wr w6 wq : World} {bl n cap : Nat} {ds : List RawAsk} {ts ts' : List Told} (h : MvSt X Y wr w6 wq bl ds ts n) (hd : ds.length = n) (ht : ts.length = n) (ht' : ts'.length = n) (hm : ∀ (i : Nat) (x : RawAsk) (t t' : Told), ds[i]? = some x → ts[i]? = some t → ts'[i]? = some t' → t' = toldMv X Y x.dov t) (h1 : n ≤ cap) (h2 : cap ≤ 9223372036854775807) : ToldSl wq (.slice (some ⟨bl, 0, none⟩) n cap) ts' := by
  obtain ⟨_, _, _, cs, hB, hr⟩ := h
  subst ht'
  refine ⟨_, cap, rfl, h1, h2, fun _ => ⟨bl, 0, rfl, hB.lt, fun i t' hi => ?_⟩⟩
  have hlt := (List.getElem?_eq_some_iff.1 hi).1
  obtain ⟨x, hx⟩ : ∃ x, ds[i]? = some x := ⟨_, List.getElem?_eq_getElem (by omega)⟩
  obtain ⟨t, ht2⟩ : ∃ t, ts[i]? = some t := ⟨_, List.getElem?_eq_getElem (by omega)⟩
  have := hr i x t hx ht2
  rw [if_pos hlt] at this
  rw [hm i x t t' hx ht2 hi]
  exact (this.mono fun _ _ _ => trivial).cells fun o v ho => by
    rw [Nat.zero_add]
    exact (hB.rules.1 o).trans ho
/-- What the round reads. -/
theorem MvSt.at {X Y : Int} {wr w6 wq : World} {bl : Nat} {ds : List RawAsk} {ts : List Told} {k : Nat} (h : MvSt X Y wr w6 wq bl ds ts k) {x : RawAsk} {t : Told} (hx : ds[k]? = some x) (ht : ts[k]? = some t) : ∃ cs d0 d1 d2 d3, Blk wq bl cs 40 ∧ cs[k * 10 + 3]? = some (.bool t.found) ∧ cs[k * 10 + 5]? = some (.float .f64 d0) ∧ cs[k * 10 + 6]? = some (.float .f64 d1) ∧ cs[k * 10 + 7]? = some (.float .f64 d2) ∧ cs[k * 10 + 8]? = some (.float .f64 d3) ∧ BxB d0 d1 d2 d3 t.bx := by
  obtain ⟨_, _, _, cs, hB, hr⟩ := h
  have := hr k x t hx ht
  rw [if_neg (Nat.lt_irrefl _)] at this
  obtain ⟨v0, d0, d1, d2, d3, k0, k1, k2, k3, k4, k5, k6, k7, k8, k9, kI, kq⟩ := this
  exact ⟨cs, d0, d1, d2, d3, hB, k3, k5, k6, k7, k8, kq⟩
end Go.Proofs.YtdfamnlmhikolaaDoor
