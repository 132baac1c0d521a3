/-
  Rows of geometries that a call makes. No condition.
-/
import Derived.Test.YtpipehenfcbjbaaGreatSpe
set_option linter.unusedVariables false
namespace Go.Proofs.YtpipehenfcbjbaaGreat
open Go.ChangeShapes Go.WideShapes Go.ChangeAt Go.RowKit
theorem infoGm : (Tryz.prog.info? 25).map (fun i => (i.zero, i.size, i.bytes)) = some (some (.agg #[.int .i64 0, .int .i64 0, .slice none 0 0, .slice none 0 0]), 4, 64) := by kernel_rfl
def IsGm (F : Nat → Prop) (g : Gm) (w : World) (e : Ending) (w' : World) : Prop := ∃ pn nn cn pk nk ck, e = .returned (.agg #[.int .i64 g.kind, .int .i64 g.dim, .slice pn nn cn, .slice pk nk ck]) ∧ FlSl F w' (.slice pn nn cn) g.nums ∧ GmSl F w' (.slice pk nk ck) g.kids ∧ Bel w w'
def RowGm (F : Nat → Prop) (w : World) (xs : List Value) (gs : List Gm) : Prop := ∀ (i : Nat) (g : Gm), gs[i]? = some g → xs[i * 4]? = some (.int .i64 g.kind) ∧ xs[i * 4 + 1]? = some (.int .i64 g.dim) ∧ ∃ c d, xs[i * 4 + 2]? = some c ∧ xs[i * 4 + 3]? = some d ∧ FlSl F w c g.nums ∧ GmSl F w d g.kids
theorem RowGm.keep {F G : Nat → Prop} {w w' : World} {xs : List Value} {gs : List Gm} (h : RowGm F w xs gs) (hs : w.heap.size ≤ w'.heap.size) (hk : ∀ b, F b → b < w.heap.size → w'.heap[b]? = w.heap[b]?) (hG : ∀ b, b < w.heap.size → F b → G b) : RowGm G w' xs gs := fun i g hg => by
  obtain ⟨h1, h2, c, d, h3, h4, h5, h6⟩ := h i g hg
  exact ⟨h1, h2, c, d, h3, h4, h5.keep hs hk hG, h6.keep hs hk hG⟩
theorem RowGm.push {F : Nat → Prop} {w : World} {xs : List Value} {t : Nat} {gs : List Gm} {g : Gm} {c d : Value} (h : RowGm F w xs gs) (hl : gs.length = t) (hx : xs.length = t * 4) (hf : FlSl F w c g.nums) (hg : GmSl F w d g.kids) : RowGm F w (xs ++ [.int .i64 g.kind, .int .i64 g.dim, c, d]) (gs ++ [g]) := fun i g' hi => by
  rcases Nat.lt_or_ge i gs.length with q | q
  · rw [List.getElem?_append_left q] at hi
    obtain ⟨h1, h2, c', d', h3, h4, h5, h6⟩ := h i g' hi
    refine ⟨?_, ?_, c', d', ?_, ?_, h5, h6⟩ <;> (rw [List.getElem?_append_left (by omega)]; assumption)
  · rw [List.getElem?_append_right q] at hi
    have hlt := (List.getElem?_eq_some_iff.1 hi).1
    simp at hlt
    have hit : i = t := by omega
    subst hit
    have : g' = g := by
      rw [hl, Nat.sub_self] at hi
      simpa using hi.symm
    subst this
    refine ⟨?_, ?_, c, d, ?_, ?_, hf, hg⟩
    · rw [List.getElem?_append_right (by omega), hx, Nat.sub_self]; rfl
    · rw [List.getElem?_append_right (by omega), hx, Nat.add_sub_cancel_left]; rfl
    · rw [List.getElem?_append_right (by omega), hx, Nat.add_sub_cancel_left]; rfl
    · rw [List.getElem?_append_right (by omega), hx, Nat.add_sub_cancel_left]; rfl
theorem RowGm.sl {F G : Nat → Prop} {w : World} {base n : Nat} {v : Value} {e : TypeId} {xs : List Value} {gs : List Gm} (h : w.ownsRow base e 4 v n xs) (hr : RowGm G w xs gs) (hn : gs.length = n) (hF : ∀ b, base ≤ b → F b) (hG : ∀ b, b < w.heap.size → G b → F b) : GmSl F w v gs := by
  subst hn
  have hc := fun (g : Nat) (hg : v.ownBlock = some g) => h.cells hg
  rcases h.2 with ⟨rfl, h0⟩ | ⟨g, cap, cur, rfl, hb, hg, h1, h2, _⟩
  · rw [List.length_eq_zero_iff.1 h0]
    exact GmSl.nil F w
  · have up : ∀ {o u}, xs[o]? = some u → w.cell? ⟨g, 0 + o, none⟩ = some u := fun {o u} ho' => by
      have := hc g rfl o u ho'
      rw [add_none] at this
      rw [Nat.zero_add]
      exact this
    refine .intro _ cap gs (fun i => (xs[i * 4 + 2]?).getD (.bool false)) (fun i => (xs[i * 4 + 3]?).getD (.bool false)) h1 (by unfold maxLen at h2; omega) (fun _ => ⟨g, 0, rfl, (Array.getElem?_eq_some_iff.1 hg).1, hF g hb, fun i r hr' => ?_⟩) (fun i r hr' => ?_) (fun i r hr' => ?_)
    · obtain ⟨a0, a1, c, d, a2, a3, -, -⟩ := hr i r hr'
      exact ⟨up a0, up a1, by rw [a2]; exact up a2, by rw [a3]; exact up a3⟩
    · obtain ⟨a0, a1, c, d, a2, a3, a4, a5⟩ := hr i r hr'
      simp only [a2, Option.getD_some]
      exact a4.mono hG
    · obtain ⟨a0, a1, c, d, a2, a3, a4, a5⟩ := hr i r hr'
      simp only [a3, Option.getD_some]
      exact a5.mono hG
end Go.Proofs.YtpipehenfcbjbaaGreat
