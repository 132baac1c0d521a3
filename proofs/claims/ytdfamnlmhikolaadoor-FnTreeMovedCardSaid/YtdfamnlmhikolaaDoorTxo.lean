/-
  Arguments, opened: items and boxes.
-/
import Derived.Test.YtdfamnlmhikolaaDoorTk
import Derived.Lib.SmallJoins
import Derived.Deep.Slices
set_option linter.unusedVariables false
namespace Go.Proofs.YtdfamnlmhikolaaDoor
open Go.ChangeShapes Go.WideShapes Go.ChangeAt Go.RowKit
theorem list_of {α : Type} {P : Nat → α → Prop} : ∀ (n : Nat), (∀ i, i < n → ∃ a, P i a) → ∃ l : List α, l.length = n ∧ ∀ (i : Nat) (a : α), l[i]? = some a → P i a
  | 0, _ => ⟨[], rfl, fun i a h => by simp at h⟩
  | n + 1, h => by
    obtain ⟨l, hl, hp⟩ := list_of n (fun i hi => h i (by omega))
    obtain ⟨a, ha⟩ := h n (by omega)
    refine ⟨l ++ [a], by simp [hl], fun i b hb => ?_⟩
    rcases Nat.lt_or_ge i n with k | k
    · rw [List.getElem?_append_left (by omega)] at hb
      exact hp i b hb
    · rw [List.getElem?_append_right (by omega)] at hb
      obtain ⟨hlt, he⟩ := List.getElem?_eq_some_iff.1 hb
      simp at hlt he
      have : i = n := by omega
      subst this
      rw [← he]
      exact ha

theorem spot_none {w : World} {a : Addr} {v : Value} (h : w.cell? a = some v) : a.spot = none := by
  unfold World.cell? at h
  split at h
  · split at h
    · cases h
    · rename_i k
      cases hs : a.spot <;> simp_all
  · cases h

theorem wf_range {n : Int} (h : (Lit.int .i64 n).wf = true) : -9223372036854775808 ≤ n ∧ n ≤ 9223372036854775807 := by
  simp only [Lit.wf, Bool.and_eq_true, decide_eq_true_eq] at h
  have e1 : IntKind.i64.min = -9223372036854775808 := by decide
  have e2 : IntKind.i64.max = 9223372036854775807 := by decide
  omega

theorem array4 {α : Type} {cs : Array α} (h : cs.size = 4) : ∃ c0 c1 c2 c3, cs = #[c0, c1, c2, c3] := by
  rcases cs with ⟨l⟩
  match l, h with
  | [a, b, c, d], _ => exact ⟨a, b, c, d, rfl⟩
theorem c28 : Tryd.prog.cellsOf 28 = 4 := by kernel_rfl
theorem c25 : Tryd.prog.cellsOf 26 = 1 := by kernel_rfl
theorem c3 : Tryd.prog.cellsOf 3 = 1 := by kernel_rfl
theorem c32 : Tryd.prog.cellsOf 32 = 5 := by kernel_rfl
theorem c34 : Tryd.prog.cellsOf 34 = 7 := by kernel_rfl
/-- A box's four cells. -/
theorem box_cells {H : Type} {enc : TypeId × Value → H} {w : World} {base fuel : Nat} {sp : Nat → Bool} {held : Bool} {k0 k1 k2 k3 : Value} {x : DataW H × List MemPlace} (h : DataW.trod enc Tryd.prog w base sp held fuel 28 [k0, k1, k2, k3] = some x) :
    ∃ a b c d, k0 = .float .f64 a ∧ k1 = .float .f64 b ∧ k2 = .float .f64 c ∧ k3 = .float .f64 d := by
  obtain ⟨_, _, e0⟩ := field_of Tryd.underlying28 h 0 _ rfl
  obtain ⟨_, _, e1⟩ := field_of Tryd.underlying28 h 1 _ rfl
  obtain ⟨_, _, e2⟩ := field_of Tryd.underlying28 h 2 _ rfl
  obtain ⟨_, _, e3⟩ := field_of Tryd.underlying28 h 3 _ rfl
  simp [c25] at e0 e1 e2 e3
  obtain ⟨a, g0, _⟩ := trod_float Tryd.underlying26 e0
  obtain ⟨b, g1, _⟩ := trod_float Tryd.underlying26 e1
  obtain ⟨c, g2, _⟩ := trod_float Tryd.underlying26 e2
  obtain ⟨d, g3, _⟩ := trod_float Tryd.underlying26 e3
  simp at g0 g1 g2 g3
  exact ⟨a, b, c, d, g0, g1, g2, g3⟩
set_option maxRecDepth 100000 in
theorem open_box {H : Type} {enc : TypeId × Value → H} {w : World} {base b0 : Nat} {sp : Nat → Bool} {held : Bool} {r : Reach} {v : Value} {dt : DataW H} {ps : List MemPlace}
    (hv : Value.okWide Tryd.prog w r b0 28 v) (h : DataW.Trod enc Tryd.prog w base sp held 28 v dt ps) : ∃ a b c d, v = .agg #[.float .f64 a, .float .f64 b, .float .f64 c, .float .f64 d] := by
  obtain ⟨cs, rfl, hsz⟩ := okWide_struct Tryd.underlying28 hv
  obtain ⟨k0, k1, k2, k3, rfl⟩ := array4 (hsz.trans c28)
  obtain ⟨fuel, hf⟩ := h
  obtain ⟨a, b, c, d, rfl, rfl, rfl, rfl⟩ := box_cells hf
  exact ⟨a, b, c, d, rfl⟩
set_option maxRecDepth 100000 in
theorem open_items {H : Type} {enc : TypeId × Value → H} {w : World} {base fuel : Nat} {sp : Nat → Bool} {held : Bool} {v : Value} {x : DataW H × List MemPlace} (h : DataW.trod enc Tryd.prog w base sp held fuel 22 [v] = some x) : ∃ xs, RawSl w v xs ∧ ∀ x ∈ xs, (Lit.int .i64 x.id).wf = true := by
  rcases Go.Deep.open_slice Tryd.underlying22 h with ⟨hv, _⟩ | ⟨a, len, cap, m, n, D, Pl, hv, _, hl, hm, hmm, _, hi⟩
  · cases hv
    exact ⟨[], ⟨none, 0, rfl, by simp, by simp, fun k => absurd rfl k⟩, fun q hq => by simp at hq⟩
  · cases hv
    have hlm : len ≤ m := by rw [hmm]; split <;> omega
    obtain ⟨xs, hxs, hp⟩ := list_of (P := fun i (q : Raw) => (w.cell? (a.add (i * 5)) = some (.float .f64 q.a) ∧ w.cell? ((a.add (i * 5)).add 1) = some (.float .f64 q.b) ∧ w.cell? ((a.add (i * 5)).add 2) = some (.float .f64 q.c) ∧ w.cell? ((a.add (i * 5)).add 3) = some (.float .f64 q.d) ∧ w.cell? ((a.add (i * 5)).add 4) = some (.int .i64 q.id)) ∧ (Lit.int .i64 q.id).wf = true) len (fun i hlt => by
      obtain ⟨cs, hcs, ht⟩ := hi i (by omega)
      rw [c32] at hcs
      obtain ⟨_, hlen, hat⟩ := World.cells?_some hcs
      obtain ⟨k0, k1, k2, k3, k4, rfl⟩ : ∃ k0 k1 k2 k3 k4, cs = [k0, k1, k2, k3, k4] := by
        match cs, hlen with
        | [k0, k1, k2, k3, k4], _ => exact ⟨k0, k1, k2, k3, k4, rfl⟩
      obtain ⟨_, _, e0⟩ := field_of Tryd.underlying32 ht 0 _ rfl
      obtain ⟨_, _, e1⟩ := field_of Tryd.underlying32 ht 1 _ rfl
      simp [c28, c3] at e0 e1
      obtain ⟨a, b, c, d, rfl, rfl, rfl, rfl⟩ := box_cells e0
      obtain ⟨n, g4, _, r4⟩ := DataW.trod_int Tryd.underlying3 e1
      simp at g4
      subst g4
      exact ⟨⟨a, b, c, d, n⟩, ⟨hat 0 (by decide), hat 1 (by decide), hat 2 (by decide), hat 3 (by decide), hat 4 (by decide)⟩, r4⟩)
    subst hxs
    refine ⟨xs, ⟨some a, cap, rfl, hl, by unfold maxLen at hm; omega, fun hne => ?_⟩, fun q hq => ?_⟩
    · cases hq : xs with
      | nil => exact absurd hq hne
      | cons q0 r =>
        have hc0 := (hp 0 q0 (by rw [hq]; rfl)).1.1
        have hz := spot_none hc0
        obtain ⟨b, off, spot⟩ := a
        have hz' : spot = none := by simpa [Addr.add] using hz
        subst hz'
        rw [← hq]
        have e : ∀ i, Addr.add ⟨b, off, none⟩ i = ⟨b, off + i, none⟩ := fun i => by
          unfold Addr.add
          split
          · rename_i hz2; rw [hz2]; rfl
          · rfl
        have e' : ∀ i j, Addr.add ⟨b, off + i, none⟩ j = ⟨b, off + i + j, none⟩ := fun i j => by
          unfold Addr.add
          split
          · rename_i hz2; rw [hz2]; rfl
          · rfl
        refine ⟨b, off, rfl, ?_, fun i q hq => ?_⟩
        · rcases Nat.lt_or_ge b w.heap.size with g | g
          · exact g
          · simp [World.cell?, Addr.add, Array.getElem?_eq_none g] at hc0
        · have h1 := (hp i q hq).1
          simp only [e, e'] at h1
          exact h1
    · obtain ⟨i, hi'⟩ := List.mem_iff_getElem?.1 hq
      exact (hp i q hi').2
end Go.Proofs.YtdfamnlmhikolaaDoor
