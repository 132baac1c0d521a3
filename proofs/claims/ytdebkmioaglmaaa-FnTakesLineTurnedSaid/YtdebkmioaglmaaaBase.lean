/-
  Lemmas that every law of this seat's claims uses: a frame for the row's step (the law answers true and nothing that stood in memory has turned), and small words on worlds that have only grown. No condition.
-/
import Derived.Test.YtdebkmioaglmaaaRows
import Derived.WalkKit
import Derived.ProofKit
import Derived.OpenShut
import Derived.Defers
import Derived.Recover
import Derived.Laws.Pointers
import Derived.Carry
import Derived.WalkLawsBesides
import Derived.WalkSpells
import Derived.Lib.Hide
namespace Go.Proofs.Ytdebkmioaglmaaa
open Go.ChangeShapes Go.WideShapes Go.ChangeAt Go.RowKit

theorem own : ownKnob Try.prog.godebug = none := by kernel_rfl
theorem laidOut : laidOutB Try.prog = true := by kernel_rfl

section
variable {H : Type} {enc : TypeId × Value → H} {P : Program}

/-- The arguments read as they did: nothing that stood in memory has turned. -/
theorem trodAll_below (hl : laidOutB P = true) : ∀ (ts : List TypeId) (vs : List Value) (ds : List (DataW H)) (ps : List MemPlace) (W W' : World),
    (∀ t ∈ ts, P.readableRec t = true ∧ t < P.types.size) → DataW.TrodAll enc P W 0 (fun _ => true) true ts vs ds ps → Below W.heap.size W W' → (∀ x ∈ ps, x.block < W.heap.size) →
    DataW.TrodAll enc P W' 0 (fun b => decide (b < W.heap.size)) true ts vs ds ps
  | [], [], [], ps, W, W', _, h, _, _ => h
  | t :: ts, v :: vs, d :: ds, ps, W, W', hr, h, hb, hlt => by
    obtain ⟨p, q, h1, h2, rfl⟩ := h
    exact ⟨p, q, Below.trod hl (hr t (by simp)).1 (hr t (by simp)).2 h1 hb (fun x hx => hlt x (by simp [hx])),
      trodAll_below hl ts vs ds q W W' (fun t' ht' => hr t' (by simp [ht'])) h2 hb (fun x hx => hlt x (by simp [hx])), rfl⟩
  | [], [], _ :: _, _, _, _, _, h, _, _ => h.elim
  | [], _ :: _, _, _, _, _, _, h, _, _ => h.elim
  | _ :: _, [], _, _, _, _, _, h, _, _ => h.elim
  | _ :: _, _ :: _, [], _, _, _, _, h, _, _ => h.elim

/-- A law's end: it answers true, and below the heap's old size nothing has turned. -/
theorem law_post (hl : laidOutB P = true) {f : Func} {s : ChangeSpec} {W W' : World} {args : Array Value} {ds gs : List (DataW H)} {before : List MemPlace} {tb : TypeId}
    (hW : DataW.Whole enc P f.params.toList s.vars false W args.toList ds gs before) (hv : s.vars = [])
    (hspec : s.fn H (ds ++ gs) = { results := [.lit (.bool true)], args := ds })
    (hrt : f.resultTypes = #[tb]) (hub : P.underlying tb = some .bool)
    (hr : ∀ t ∈ f.params.toList, P.readableRec t = true ∧ t < P.types.size) (hb : Below W.heap.size W W') :
    s.post enc P f false true false false W args (.bool true) W' := by
  have hlt := hW.lt
  have hW0 := hW
  obtain ⟨p, q, h1, h2, rfl, _, _⟩ := hW
  rw [hv] at h2
  have hg : gs = [] ∧ q = [] := by
    cases gs with
    | nil => exact ⟨rfl, h2⟩
    | cons _ _ => exact h2.elim
  obtain ⟨rfl, rfl⟩ := hg
  refine ⟨ds, [], p ++ [], [], p, [], hW0, ?_, ?_, ?_, hb.frame _, fun h => by cases h⟩
  · rw [hspec, hrt]
    exact trodAll_mk1 (shut_bool hub true)
  · rw [hspec]
    exact trodAll_below hl _ _ _ _ _ _ hr h1 hb (fun x hx => hlt x (by simp [hx]))
  · rw [hspec, hv]
    rfl

/-- Old cells and old marks read as before. -/
theorem bcell {B : Nat} {W w1 : World} (hb : Below B W w1) :
    (∀ b o, b < B → w1.cell? ⟨b, o, none⟩ = W.cell? ⟨b, o, none⟩) ∧ (∀ b o, b < B → w1.frozen? ⟨b, o, none⟩ = W.frozen? ⟨b, o, none⟩) :=
  ⟨fun b o h => hb.cell (p := ⟨b, o, none⟩) h, fun b o h => hb.frozen (p := ⟨b, o, none⟩) h⟩

/-- The world has only grown: what stood there has not turned. -/
def Bel (w w' : World) : Prop := Below w.heap.size w w'

theorem Bel.refl (w : World) : Bel w w := Below.refl _ _
theorem Bel.size {a b : World} (h : Bel a b) : a.heap.size ≤ b.heap.size := Below.size h
theorem Bel.trans {a b c : World} (h : Bel a b) (k : Bel b c) : Bel a c := Below.trans h (Below.mono k (Below.size h))
theorem Bel.alloc {a b : World} (h : Bel a b) (o : Obj) : Bel a (b.alloc o) := Below.alloc h (Below.size h) o
theorem Bel.drew {a b : World} (h : Bel a b) : Bel a b.drew := Below.drew h
theorem Bel.setCell {a b : World} (h : Bel a b) {p : Addr} (hp : a.heap.size ≤ p.block) (u : Value) : Bel a (b.setCell p u) := Below.setCell h hp u
theorem Bel.alloc1 (w : World) (o : Obj) : Bel w (w.alloc o) := (Bel.refl w).alloc o
/-- A cell that stood there reads as it did. -/
theorem Bel.cell {a b : World} (h : Bel a b) {p : Addr} (hp : p.block < a.heap.size) : b.cell? p = a.cell? p := Below.cell h hp
theorem Bel.frozen {a b : World} (h : Bel a b) {p : Addr} (hp : p.block < a.heap.size) : b.frozen? p = a.frozen? p := Below.frozen h hp

/-- The two cells that a deferred closure captures, behind a call. -/
theorem Bel.two {w w' : World} {a b : Value} {S T : TypeId} (h : Bel ((w.alloc (.cells #[a] S)).alloc (.cells #[b] T)) w') :
    w'.cell? ⟨w.heap.size, 0, none⟩ = some a ∧ w'.frozen? ⟨w.heap.size, 0, none⟩ = false ∧ w'.cell? ⟨w.heap.size + 1, 0, none⟩ = some b ∧ w'.frozen? ⟨w.heap.size + 1, 0, none⟩ = false ∧ w.heap.size + 1 < w'.heap.size ∧ Bel w w' := by
  have h0 := h.cell (p := ⟨w.heap.size, 0, none⟩) (by simp; omega)
  have h1 := h.cell (p := ⟨w.heap.size + 1, 0, none⟩) (by simp)
  have z0 := h.frozen (p := ⟨w.heap.size, 0, none⟩) (by simp; omega)
  have z1 := h.frozen (p := ⟨w.heap.size + 1, 0, none⟩) (by simp)
  have hs := h.size
  simp [go_sem] at h0 h1 z0 z1 hs
  exact ⟨h0, z0, h1, z1, by omega, (((Bel.refl w).alloc _).alloc _).trans h⟩
end
end Go.Proofs.Ytdebkmioaglmaaa
