/-
  Arguments, opened: a row of places. No condition.
-/
import Derived.Test.YtnpgmoiiiemghaaPts
import Derived.Lib.SmallJoins
import Derived.Deep.Slices
namespace Go.Proofs.Ytnpgmoiiiemghaa
open Go.ChangeShapes Go.WideShapes Go.ChangeAt Go.RowKit
theorem list_of {α : Type} {P : Nat → α → Prop} : ∀ (n : Nat), (∀ i, i < n → ∃ a, P i a) → ∃ l : List α, l.length = n ∧ ∀ (i : Nat) (a : α), l[i]? = some a → P i a
  | 0, _ => ⟨[], rfl, fun i a h => by simp at h⟩
  | n + 1, h => by
    obtain ⟨l, hl, hp⟩ := list_of n (fun i hi => h i (by omega))
    obtain ⟨a, ha⟩ := h n (by omega)
    refine ⟨l ++ [a], by simp [hl], fun i b hb => ?_⟩
    rcases Nat.lt_or_ge i n with k | k
    · rw [List.getElem?_append_left (by omega)] at hb
      exact hp i b hb
    · rw [List.getElem?_append_right (by omega)] at hb
      obtain ⟨hlt, he⟩ := List.getElem?_eq_some_iff.1 hb
      simp at hlt he
      have : i = n := by omega
      subst this
      rw [← he]
      exact ha

theorem spot_none {w : World} {a : Addr} {v : Value} (h : w.cell? a = some v) : a.spot = none := by
  unfold World.cell? at h
  split at h
  · split at h
    · cases h
    · rename_i k
      cases hs : a.spot <;> simp_all
  · cases h

theorem wf_range {n : Int} (h : (Lit.int .i64 n).wf = true) : -9223372036854775808 ≤ n ∧ n ≤ 9223372036854775807 := by
  simp only [Lit.wf, Bool.and_eq_true, decide_eq_true_eq] at h
  have e1 : IntKind.i64.min = -9223372036854775808 := by decide
  have e2 : IntKind.i64.max = 9223372036854775807 := by decide
  omega

theorem open_pts {H : Type} {enc : TypeId × Value → H} {w : World} {base fuel : Nat} {sp : Nat → Bool} {held : Bool} {v : Value} {x : DataW H × List MemPlace} (h : DataW.trod enc Try.prog w base sp held fuel 22 [v] = some x) : ∃ ps, PtSl w v ps := by
  have hc52 : Try.prog.cellsOf 33 = 2 := by kernel_rfl
  have hc3 : Try.prog.cellsOf 3 = 1 := by kernel_rfl
  rcases Go.Deep.open_slice Try.underlying22 h with ⟨hv, _⟩ | ⟨a, len, cap, m, n, D, Pl, hv, _, hl, hm, hmm, _, hi⟩
  · cases hv
    exact ⟨[], none, 0, rfl, by simp, by simp, fun i q hq => by simp at hq, fun k => absurd rfl k⟩
  · cases hv
    have hlm : len ≤ m := by rw [hmm]; split <;> omega
    obtain ⟨ps, hps, hp⟩ := list_of (P := fun i (q : Int × Int) => (w.cell? (a.add (i * 2)) = some (.int .i64 q.1) ∧ w.cell? ((a.add (i * 2)).add 1) = some (.int .i64 q.2)) ∧ (-9223372036854775808 ≤ q.1 ∧ q.1 ≤ 9223372036854775807) ∧ (-9223372036854775808 ≤ q.2 ∧ q.2 ≤ 9223372036854775807)) len (fun i hlt => by
      obtain ⟨cs, hcs, ht⟩ := hi i (by omega)
      rw [hc52] at hcs
      obtain ⟨_, hlen, hat⟩ := World.cells?_some hcs
      obtain ⟨c0, c1, rfl⟩ : ∃ c0 c1, cs = [c0, c1] := by
        match cs, hlen with
        | [c0, c1], _ => exact ⟨c0, c1, rfl⟩
      obtain ⟨_, _, e0⟩ := field_of Try.underlying33 ht 0 _ rfl
      obtain ⟨_, _, e1⟩ := field_of Try.underlying33 ht 1 _ rfl
      simp [hc3] at e0 e1
      obtain ⟨n0, k0, _, r0⟩ := DataW.trod_int Try.underlying3 e0
      obtain ⟨n1, k1, _, r1⟩ := DataW.trod_int Try.underlying3 e1
      simp at k0 k1
      subst k0 k1
      exact ⟨(n0, n1), ⟨hat 0 (by decide), hat 1 (by decide)⟩, wf_range r0, wf_range r1⟩)
    subst hps
    refine ⟨ps, some a, cap, rfl, hl, by unfold maxLen at hm; omega, fun i q hq => (hp i q hq).2, fun hne => ?_⟩
    cases hps : ps with
    | nil => exact absurd hps hne
    | cons q0 r =>
      have hz := spot_none (hp 0 q0 (by rw [hps]; rfl)).1.1
      obtain ⟨b, off, spot⟩ := a
      have hz' : spot = none := by simpa [Addr.add] using hz
      subst hz'
      rw [← hps]
      refine ⟨b, off, rfl, ?_, fun i q hq => ?_⟩
      · have := (hp 0 q0 (by rw [hps]; rfl)).1.1
        rcases Nat.lt_or_ge b w.heap.size with g | g
        · exact g
        · simp [World.cell?, Addr.add, Array.getElem?_eq_none g] at this
      · have h1 := (hp i q hq).1
        have e : Addr.add ⟨b, off, none⟩ (i * 2) = ⟨b, off + i * 2, none⟩ := by
          unfold Addr.add
          split
          · rename_i hz2; rw [hz2]; rfl
          · rfl
        rw [e] at h1
        exact h1

end Go.Proofs.Ytnpgmoiiiemghaa
