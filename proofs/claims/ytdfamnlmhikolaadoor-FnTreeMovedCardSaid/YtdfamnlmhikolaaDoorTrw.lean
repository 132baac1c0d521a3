/-
  Rows of items and of questions that a call makes; both trees' questions and answers.
-/
import Derived.Test.YtdfamnlmhikolaaDoorTks
import Derived.Test.YtdfamnlmhikolaaDoorTmv
import Derived.Test.YtdfamnlmhikolaaDoorTxo
set_option linter.unusedVariables false
namespace Go.Proofs.YtdfamnlmhikolaaDoor
open Go.ChangeShapes Go.WideShapes Go.ChangeAt Go.RowKit
def rowI (ys : List Raw) : List Value := ys.flatMap fun r => [.float .f64 r.a, .float .f64 r.b, .float .f64 r.c, .float .f64 r.d, .int .i64 r.id]
def rowA (ys : List RawAsk) : List Value := ys.flatMap fun r => [.int .i64 r.dov, .float .f64 r.a, .float .f64 r.b, .float .f64 r.c, .float .f64 r.d, .int .i64 r.stop, .int .i64 r.how]
theorem rowI_snoc (ys : List Raw) (r : Raw) : rowI (ys ++ [r]) = rowI ys ++ [.float .f64 r.a, .float .f64 r.b, .float .f64 r.c, .float .f64 r.d, .int .i64 r.id] := by simp [rowI]
theorem rowA_snoc (ys : List RawAsk) (r : RawAsk) : rowA (ys ++ [r]) = rowA ys ++ [.int .i64 r.dov, .float .f64 r.a, .float .f64 r.b, .float .f64 r.c, .float .f64 r.d, .int .i64 r.stop, .int .i64 r.how] := by simp [rowA]
theorem rowI_at : ∀ (ys : List Raw) (i : Nat) (r : Raw), ys[i]? = some r → (rowI ys)[i * 5]? = some (.float .f64 r.a) ∧ (rowI ys)[i * 5 + 1]? = some (.float .f64 r.b) ∧ (rowI ys)[i * 5 + 2]? = some (.float .f64 r.c) ∧ (rowI ys)[i * 5 + 3]? = some (.float .f64 r.d) ∧ (rowI ys)[i * 5 + 4]? = some (.int .i64 r.id)
  | [], i, r, h => by simp at h
  | y :: t, 0, r, h => by
    simp at h
    subst h
    simp [rowI]
  | y :: t, i + 1, r, h => by
    have ih := rowI_at t i r (by simpa using h)
    have e : rowI (y :: t) = [.float .f64 y.a, .float .f64 y.b, .float .f64 y.c, .float .f64 y.d, .int .i64 y.id] ++ rowI t := rfl
    have up : ∀ j, (rowI (y :: t))[(i + 1) * 5 + j]? = (rowI t)[i * 5 + j]? := fun j => by
      rw [e, List.getElem?_append_right (by simp; omega)]
      congr 1
      simp
      omega
    have up0 := up 0
    rw [Nat.add_zero, Nat.add_zero] at up0
    rw [up0, up 1, up 2, up 3, up 4]
    exact ih
theorem rowA_at : ∀ (ys : List RawAsk) (i : Nat) (r : RawAsk), ys[i]? = some r → (rowA ys)[i * 7]? = some (.int .i64 r.dov) ∧ (rowA ys)[i * 7 + 1]? = some (.float .f64 r.a) ∧ (rowA ys)[i * 7 + 2]? = some (.float .f64 r.b) ∧ (rowA ys)[i * 7 + 3]? = some (.float .f64 r.c) ∧ (rowA ys)[i * 7 + 4]? = some (.float .f64 r.d) ∧ (rowA ys)[i * 7 + 5]? = some (.int .i64 r.stop) ∧ (rowA ys)[i * 7 + 6]? = some (.int .i64 r.how)
  | [], i, r, h => by simp at h
  | y :: t, 0, r, h => by
    simp at h
    subst h
    simp [rowA]
  | y :: t, i + 1, r, h => by
    have ih := rowA_at t i r (by simpa using h)
    have e : rowA (y :: t) = [.int .i64 y.dov, .float .f64 y.a, .float .f64 y.b, .float .f64 y.c, .float .f64 y.d, .int .i64 y.stop, .int .i64 y.how] ++ rowA t := rfl
    have up : ∀ j, (rowA (y :: t))[(i + 1) * 7 + j]? = (rowA t)[i * 7 + j]? := fun j => by
      rw [e, List.getElem?_append_right (by simp; omega)]
      congr 1
      simp
      omega
    have up0 := up 0
    rw [Nat.add_zero, Nat.add_zero] at up0
    rw [up0, up 1, up 2, up 3, up 4, up 5, up 6]
    exact ih
theorem own_raw {w : World} {base n : Nat} {v : Value} {ys : List Raw} (h : w.ownsRow base 32 5 v n (rowI ys)) (hn : ys.length = n) : RawSl w v ys := by
  subst hn
  have hc := fun (g : Nat) (hg : v.ownBlock = some g) => h.cells hg
  rcases h.2 with ⟨rfl, h0⟩ | ⟨g, cap, cur, rfl, hb, hg, h1, h2, _⟩
  · exact ⟨none, 0, by rw [h0], by omega, by omega, fun hn => absurd (List.length_eq_zero_iff.1 h0) hn⟩
  · refine ⟨_, cap, rfl, h1, by unfold maxLen at h2; omega, fun _ => ⟨g, 0, rfl, (Array.getElem?_eq_some_iff.1 hg).1, fun i r hr => ?_⟩⟩
    have up : ∀ {o u}, (rowI ys)[o]? = some u → w.cell? ⟨g, 0 + o, none⟩ = some u := fun {o u} ho' => by
      have := hc g rfl o u ho'
      rw [add_none] at this
      rw [Nat.zero_add]
      exact this
    obtain ⟨a0, a1, a2, a3, a4⟩ := rowI_at ys i r hr
    exact ⟨up a0, up a1, up a2, up a3, up a4⟩
theorem own_ask {w : World} {base n : Nat} {v : Value} {ys : List RawAsk} (h : w.ownsRow base 34 7 v n (rowA ys)) (hn : ys.length = n) : AskSl w v ys := by
  subst hn
  have hc := fun (g : Nat) (hg : v.ownBlock = some g) => h.cells hg
  rcases h.2 with ⟨rfl, h0⟩ | ⟨g, cap, cur, rfl, hb, hg, h1, h2, _⟩
  · exact ⟨none, 0, by rw [h0], by omega, by omega, fun hn => absurd (List.length_eq_zero_iff.1 h0) hn⟩
  · refine ⟨_, cap, rfl, h1, by unfold maxLen at h2; omega, fun _ => ⟨g, 0, rfl, (Array.getElem?_eq_some_iff.1 hg).1, fun i r hr => ?_⟩⟩
    have up : ∀ {o u}, (rowA ys)[o]? = some u → w.cell? ⟨g, 0 + o, none⟩ = some u := fun {o u} ho' => by
      have := hc g rfl o u ho'
      rw [add_none] at this
      rw [Nat.zero_add]
      exact this
    obtain ⟨a0, a1, a2, a3, a4, a5, a6⟩ := rowA_at ys i r hr
    exact ⟨up a0, up a1, up a2, up a3, up a4, up a5, up a6⟩
/-- A question and the one that is moved. -/
def AskMv (X Y : Int) (x y : RawAsk) : Prop := y.dov = x.dov ∧ y.stop = x.stop ∧ y.how = x.how ∧ ∃ q, BxB x.a x.b x.c x.d q ∧ BxB y.a y.b y.c y.d (q.mv X Y) ∧ q.Small 1048576 ∧ (q.mv X Y).Small 1048576
theorem told_small {L : List It} (hs : ∀ t ∈ L, t.b.Small 1048576) (q : Bx) (stop how : Int) : (toldOf L q 3 stop how).bx.Small 1048576 := by
  unfold toldOf
  simp only [if_neg (show ¬ (3 : Int) = 0 by decide), if_neg (show ¬ (3 : Int) = 1 by decide), if_neg (show ¬ (3 : Int) = 2 by decide), if_pos]
  by_cases h : 0 < L.length
  · rw [if_pos h]
    exact bound_small (treeOf_sm hs).1 (treeOf_len h)
  · rw [if_neg h]
    simp [Bx.Small, zeroBx]
theorem both_asked (X Y : Int) (L : List It) (hs : ∀ t ∈ L, t.b.Small 1048576) (asks ys : List RawAsk) (hl : ys.length = asks.length) (hd : ∀ x ∈ asks, 0 ≤ x.dov ∧ x.dov ≤ 4) (h : ∀ (i : Nat) (x y : RawAsk), asks[i]? = some x → ys[i]? = some y → AskMv X Y x y) :
    ∃ ts ts', Asked L asks ts ∧ Asked (L.map (It.mv X Y)) ys ts' ∧ ∀ (i : Nat) (x : RawAsk) (t t' : Told), asks[i]? = some x → ts[i]? = some t → ts'[i]? = some t' → t' = toldMv X Y x.dov t ∧ (x.dov = 3 → t.bx.Small 1048576) := by
  obtain ⟨l, hll, hp⟩ := list_of (P := fun i (z : Told × Told) => ∀ x y, asks[i]? = some x → ys[i]? = some y → ∃ q, BxB x.a x.b x.c x.d q ∧ BxB y.a y.b y.c y.d (q.mv X Y) ∧ q.Small 1048576 ∧ (q.mv X Y).Small 1048576 ∧ z.1 = toldOf L q x.dov x.stop x.how ∧ z.2 = toldOf (L.map (It.mv X Y)) (q.mv X Y) y.dov y.stop y.how) asks.length (fun i hi => by
    obtain ⟨x, hx⟩ : ∃ x, asks[i]? = some x := ⟨_, List.getElem?_eq_getElem hi⟩
    obtain ⟨y, hy⟩ : ∃ y, ys[i]? = some y := ⟨_, List.getElem?_eq_getElem (by omega)⟩
    obtain ⟨_, _, _, q, q1, q2, q3, q4⟩ := h i x y hx hy
    refine ⟨(toldOf L q x.dov x.stop x.how, toldOf (L.map (It.mv X Y)) (q.mv X Y) y.dov y.stop y.how), fun x' y' hx' hy' => ?_⟩
    obtain rfl := Option.some.inj (hx.symm.trans hx')
    obtain rfl := Option.some.inj (hy.symm.trans hy')
    exact ⟨q, q1, q2, q3, q4, rfl, rfl⟩)
  have dov_at : ∀ (i : Nat) (x : RawAsk), asks[i]? = some x → 0 ≤ x.dov ∧ x.dov ≤ 4 := fun i x hx => hd x (List.mem_iff_getElem?.2 ⟨i, hx⟩)
  have other : ∀ (i : Nat) (x : RawAsk), asks[i]? = some x → ∃ y, ys[i]? = some y := fun i x hx => ⟨_, List.getElem?_eq_getElem (by have := (List.getElem?_eq_some_iff.1 hx).1; omega)⟩
  have other' : ∀ (i : Nat) (y : RawAsk), ys[i]? = some y → ∃ x, asks[i]? = some x := fun i x hx => ⟨_, List.getElem?_eq_getElem (by have := (List.getElem?_eq_some_iff.1 hx).1; omega)⟩
  refine ⟨l.map (·.1), l.map (·.2), ⟨by simp [hll], fun i x t hx ht => ?_⟩, ⟨by simp [hll, hl], fun i y t hy ht => ?_⟩, fun i x t t' hx ht ht' => ?_⟩
  · obtain ⟨y, hy⟩ := other i x hx
    rw [List.getElem?_map] at ht
    obtain ⟨z, hz, rfl⟩ := Option.map_eq_some_iff.1 ht
    obtain ⟨q, q1, q2, q3, q4, q5, q6⟩ := hp i z hz x y hx hy
    exact ⟨q, q1, q3, dov_at i x hx, q5⟩
  · obtain ⟨x, hx⟩ := other' i y hy
    rw [List.getElem?_map] at ht
    obtain ⟨z, hz, rfl⟩ := Option.map_eq_some_iff.1 ht
    obtain ⟨q, q1, q2, q3, q4, q5, q6⟩ := hp i z hz x y hx hy
    have hm := h i x y hx hy
    exact ⟨q.mv X Y, q2, q4, by rw [hm.1]; exact dov_at i x hx, q6⟩
  · obtain ⟨y, hy⟩ := other i x hx
    rw [List.getElem?_map] at ht ht'
    obtain ⟨z, hz, rfl⟩ := Option.map_eq_some_iff.1 ht
    obtain ⟨z', hz', rfl⟩ := Option.map_eq_some_iff.1 ht'
    obtain rfl := Option.some.inj (hz.symm.trans hz')
    obtain ⟨q, q1, q2, q3, q4, q5, q6⟩ := hp i z hz x y hx hy
    obtain ⟨m1, m2, m3, _⟩ := h i x y hx hy
    refine ⟨?_, fun h3 => ?_⟩
    · rw [q6, q5, m1, m2, m3, told_mv]
    · rw [q5, h3]
      exact told_small hs q _ _
end Go.Proofs.YtdfamnlmhikolaaDoor
