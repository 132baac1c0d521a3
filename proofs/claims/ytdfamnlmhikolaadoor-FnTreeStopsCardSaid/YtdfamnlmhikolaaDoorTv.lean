/-
  Plain laws: what a search that is ended has gone through.
-/
import Derived.Test.YtdfamnlmhikolaaDoorTk
set_option linter.unusedVariables false
namespace Go.Proofs.YtdfamnlmhikolaaDoor
def runL {σ : Type} (step : σ → Int → σ × Ek) : List Int → σ → σ × Ek
  | [], s => (s, .none)
  | i :: r, s => match step s i with
    | (s', .none) => runL step r s'
    | (s', e) => (s', e)
theorem runL_append {σ : Type} (step : σ → Int → σ × Ek) (b : List Int) : ∀ (a : List Int) (s : σ), runL step (a ++ b) s = match runL step a s with
    | (s', .none) => runL step b s'
    | (s', e) => (s', e)
  | [], s => rfl
  | i :: r, s => by
    obtain ⟨s2, ek, hs⟩ : ∃ s2 ek, step s i = (s2, ek) := ⟨_, _, rfl⟩
    simp only [List.cons_append, runL, hs]
    cases ek
    · exact runL_append step b r s2
    all_goals rfl
theorem rg_run {σ : Type} {step : σ → Int → σ × Ek} (hne : ∀ s i, (step s i).2.ends = false) (q : Bx) : ∀ (t : Tr) (s : σ), rg step q t s = runL step (t.range q) s
  | .nil, s => rfl
  | .item b id r, s => by
    rcases bool_cases (b.meets q) with hb | hb
    · obtain ⟨s2, ek, hs⟩ : ∃ s2 ek, step s id = (s2, ek) := ⟨_, _, rfl⟩
      have hk := hne s id
      rw [hs] at hk
      simp only at hk
      simp only [Tr.range, hb, if_true, List.cons_append, List.nil_append, runL, hs]
      cases ek
      · rw [rg_on hb hs rfl]
        exact rg_run hne q r s2
      all_goals first
        | exact absurd hk (by decide)
        | exact rg_err hb hs rfl rfl
    · rw [rg_past hb, rg_run hne q r]
      simp [Tr.range, hb]
  | .sub b k r, s => by
    rcases bool_cases (b.meets q) with hb | hb
    · obtain ⟨s2, ek, hs⟩ : ∃ s2 ek, rg step q k s = (s2, ek) := ⟨_, _, rfl⟩
      have h2 := rg_run hne q k s
      rw [hs] at h2
      simp only [Tr.range, hb, if_true]
      rw [runL_append, ← h2]
      cases ek
      · rw [rg_kid_on hb hs rfl]
        exact rg_run hne q r s2
      all_goals exact rg_kid_err hb hs rfl
    · rw [rg_kid_past hb, rg_run hne q r]
      simp [Tr.range, hb]
def shut {σ : Type} (r : σ × Ek) : σ × Ek := if r.2.ends then (r.1, .none) else r
theorem pr_run {σ : Type} (step : σ → Int → σ × Ek) (o : Bx) : ∀ (f : Nat) (q : List En) (s : σ), pr step o f q s = shut (runL step (prio o f q) s)
  | 0, q, s => rfl
  | f + 1, q, s => by
    unfold pr prio
    cases (sunk (enLt o) q)[q.length - 1]? with
    | none => rfl
    | some e =>
      obtain ⟨b, kid, i⟩ := e
      cases kid with
      | none =>
        obtain ⟨s2, ek, hs⟩ : ∃ s2 ek, step s i = (s2, ek) := ⟨_, _, rfl⟩
        simp only [runL, hs]
        cases ek
        · exact pr_run step o f _ s2
        all_goals rfl
      | some t => exact pr_run step o f _ s
theorem run_told (n : Nat) (how : Int) (hh : ekOf how ≠ .none) : ∀ (l s : List Int), runL (tstep n how) l s = if s.length < n ∧ n ≤ s.length + l.length then (s ++ l.take (n - s.length), ekOf how) else (s ++ l, .none)
  | [], s => by
    rw [if_neg (by simp only [List.length_nil]; omega)]
    simp [runL]
  | i :: r, s => by
    by_cases h : s.length + 1 = n
    · have hc : (s.length : Int) + 1 = n := by omega
      have e : n - s.length = 1 := by omega
      simp only [runL, tstep, hc, if_true]
      rw [if_pos ⟨by omega, by rw [List.length_cons]; omega⟩, e]
      cases hk : ekOf how
      · exact absurd hk hh
      all_goals simp
    · have hc : ¬ (s.length : Int) + 1 = n := by omega
      simp only [runL, tstep, hc, if_false]
      rw [run_told n how hh r (s ++ [i])]
      simp only [List.length_append, List.length_cons, List.length_nil, Nat.zero_add]
      by_cases h2 : s.length < n ∧ n ≤ s.length + (r.length + 1)
      · rw [if_pos (by omega), if_pos h2]
        obtain ⟨k, hk⟩ : ∃ k, n - s.length = k + 1 := ⟨n - s.length - 1, by omega⟩
        have : n - (s.length + 1) = k := by omega
        rw [hk, this]
        simp
      · rw [if_neg (by omega), if_neg h2]
        simp
theorem ekOf_ne (how : Int) : ekOf how ≠ .none := by
  unfold ekOf
  repeat' split
  all_goals simp
/-- What a whole search goes through. -/
def fullOf (L : List It) (q : Bx) (dov : Int) : List Int := if dov = 0 then (treeOf L).range q else (treeOf L).prio q
theorem told_full (L : List It) (q : Bx) (dov : Int) (hd : dov = 0 ∨ dov = 1) : toldOf L q dov 0 0 = ⟨fullOf L q dov, false, false, false, 0, zeroBx, 0⟩ := by
  have key : ∀ l : List Int, runL (tstep 0 0) l [] = (l, .none) := fun l => by
    have := run_told 0 0 (ekOf_ne 0) l []
    rw [if_neg (by omega)] at this
    simpa using this
  rcases hd with rfl | rfl
  · unfold toldOf fullOf
    rw [if_pos rfl, if_pos rfl]
    have hne : ∀ (s : List Int) i, (tstep 0 0 s i).2.ends = false := fun s i => by
      have : ¬ (s.length : Int) + 1 = 0 := by omega
      simp [tstep, this, Ek.ends]
    rw [rg_run hne, key]
    rfl
  · unfold toldOf fullOf prioRun
    rw [if_neg (by decide), if_pos rfl, if_neg (by decide), pr_run]
    show ofRun (shut (runL _ ((treeOf L).prio q) [])) = _
    rw [key]
    rfl
theorem told_cut (L : List It) (q : Bx) (dov how : Int) (n : Nat) (hn : 1 ≤ n) (h0 : 0 ≤ how) (h3 : how ≤ 3) (hd : (dov = 0 ∧ 2 ≤ how) ∨ dov = 1) :
    toldOf L q dov n how = ⟨(fullOf L q dov).take n, decide (1 < how ∧ (n : Int) ≤ (fullOf L q dov).length), decide (1 < how ∧ (n : Int) ≤ (fullOf L q dov).length), false, 0, zeroBx, 0⟩ := by
  have key : ∀ l : List Int, runL (tstep n how) l [] = if n ≤ l.length then (l.take n, ekOf how) else (l, .none) := fun l => by
    have := run_told n how (ekOf_ne how) l []
    simpa [show 0 < n from hn] using this
  have hek : 2 ≤ how → ekOf how = .own ∨ ekOf how = .wown := fun h => by
    unfold ekOf
    rw [if_neg (by omega), if_neg (by omega)]
    split <;> simp
  have hek2 : ¬ 2 ≤ how → ekOf how = .stop ∨ ekOf how = .wstop := fun h => by
    unfold ekOf
    split
    · simp
    · rw [if_pos (by omega)]
      simp
  rcases hd with ⟨rfl, h2⟩ | rfl
  · unfold toldOf fullOf
    rw [if_pos rfl, if_pos rfl]
    have hne : ∀ (s : List Int) i, (tstep n how s i).2.ends = false := fun s i => by
      simp only [tstep]
      split
      · rcases hek h2 with e | e <;> rw [e] <;> rfl
      · rfl
    rw [rg_run hne, key]
    generalize (treeOf L).range q = l
    by_cases hl : n ≤ l.length
    · have c : (1 < how ∧ (n : Int) ≤ l.length) := ⟨by omega, by omega⟩
      rw [if_pos hl]
      rcases hek h2 with e | e <;> rw [e] <;> simp [ofRun, Ek.isErr, Ek.isOwn, c]
    · have c : ¬ (1 < how ∧ (n : Int) ≤ l.length) := by omega
      rw [if_neg hl, List.take_of_length_le (by omega)]
      simp only [ofRun, Ek.isErr, Ek.isOwn, c, decide_false]
  · unfold toldOf fullOf prioRun
    rw [if_neg (by decide), if_pos rfl, if_neg (by decide), pr_run]
    show ofRun (shut (runL _ ((treeOf L).prio q) [])) = _
    rw [key]
    generalize (treeOf L).prio q = l
    by_cases hl : n ≤ l.length
    · rw [if_pos hl]
      by_cases h2 : 2 ≤ how
      · have c : (1 < how ∧ (n : Int) ≤ l.length) := ⟨by omega, by omega⟩
        rcases hek h2 with e | e <;> rw [e] <;> simp [ofRun, shut, Ek.ends, Ek.isErr, Ek.isOwn, c]
      · have c : ¬ (1 < how ∧ (n : Int) ≤ l.length) := by omega
        rcases hek2 h2 with e | e <;> rw [e] <;> simp only [ofRun, shut, Ek.ends, Ek.isErr, Ek.isOwn, c, decide_false, if_true]
    · have c : ¬ (1 < how ∧ (n : Int) ≤ l.length) := by omega
      rw [if_neg hl, List.take_of_length_le (by omega)]
      simp [ofRun, shut, Ek.ends, Ek.isErr, Ek.isOwn]
      omega
end Go.Proofs.YtdfamnlmhikolaaDoor
