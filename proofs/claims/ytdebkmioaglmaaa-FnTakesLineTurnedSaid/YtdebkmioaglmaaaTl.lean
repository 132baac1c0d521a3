/-
  Contracts of impl.TakesLine and of what it calls: at an overlay 0 to 3 it answers whether an edge is taken as a line, without a panic, and what stood in memory has not turned.
-/
import Derived.Test.YtdebkmioaglmaaaSel
import Derived.Deep.RegionHeld3
import Derived.Outline
namespace Go.Proofs.Ytdebkmioaglmaaa
open Go.ChangeShapes Go.WideShapes Go.ChangeAt Go.RowKit

/-- A half edge in block e, its face in f, its twin in t, the twin's face in g, as they lie in memory. -/
structure EdgeAt (w : World) (e f t g : Nat) (l0 l1 r0 r1 i0 i1 x : Bool) : Prop where
  cx : w.cell? ⟨e, 13, none⟩ = some (.bool x)
  ci0 : w.cell? ⟨e, 11, none⟩ = some (.bool i0)
  ci1 : w.cell? ⟨e, 12, none⟩ = some (.bool i1)
  cf : w.cell? ⟨e, 2, none⟩ = some (.pointer (some ⟨f, 0, none⟩))
  cl0 : w.cell? ⟨f, 1, none⟩ = some (.bool l0)
  cl1 : w.cell? ⟨f, 2, none⟩ = some (.bool l1)
  ct : w.cell? ⟨e, 1, none⟩ = some (.pointer (some ⟨t, 0, none⟩))
  cg : w.cell? ⟨t, 2, none⟩ = some (.pointer (some ⟨g, 0, none⟩))
  cr0 : w.cell? ⟨g, 1, none⟩ = some (.bool r0)
  cr1 : w.cell? ⟨g, 2, none⟩ = some (.bool r1)
  se : e < w.heap.size
  sf : f < w.heap.size
  st : t < w.heap.size
  sg : g < w.heap.size

theorem EdgeAt.mono {w w' : World} {e f t g : Nat} {l0 l1 r0 r1 i0 i1 x : Bool} (hb : Bel w w') (h : EdgeAt w e f t g l0 l1 r0 r1 i0 i1 x) : EdgeAt w' e f t g l0 l1 r0 r1 i0 i1 x := by
  have hs := hb.size
  obtain ⟨h1, h2, h3, h4, h5, h6, h7, h8, h9, h10, l1, l2, l3, l4⟩ := h
  exact ⟨(hb.cell l1).trans h1, (hb.cell l1).trans h2, (hb.cell l1).trans h3, (hb.cell l1).trans h4, (hb.cell l2).trans h5, (hb.cell l2).trans h6, (hb.cell l1).trans h7, (hb.cell l3).trans h8,
    (hb.cell l4).trans h9, (hb.cell l4).trans h10, by omega, by omega, by omega, by omega⟩

theorem sel0 {a b c : Bool} (h : Hid (takes 0 a b = c)) (w : World) :
    Calls Try.prog 89 #[.agg #[.bool a, .bool b]] w fun e w' => e = .returned (.bool c) ∧ Bel w w' := by
  have := h.out
  simp [takes] at this
  subst this
  refine (f89_any a b w).mono ?_
  intro e w' h
  simpa using h

set_option maxHeartbeats 4000000 in
theorem f67_0 (e f t g : Nat) (l0 l1 r0 r1 i0 i1 x ci cl cr : Bool) (hi : Hid (takes 0 i0 i1 = ci)) (hl : Hid (takes 0 l0 l1 = cl)) (hr : Hid (takes 0 r0 r1 = cr)) (w : World) (hE : EdgeAt w e f t g l0 l1 r0 r1 i0 i1 x) :
    Calls Try.prog 67 #[.pointer (some ⟨e, 0, none⟩), .func (.func 89) #[] #[]] w fun e w' =>
      e = .returned (.bool (!x && ci && !cl && !cr)) ∧ Bel w w' := by
  have hE0 := hE
  obtain ⟨h1, h2, h3, h4, h5, h6, h7, h8, h9, h10, le, lf, lt, lg⟩ := hE
  cases x <;> cases ci <;> cases cl <;> cases cr
  all_goals
    go_enter Try.func67, Try.ntmps67
    go_wp2_with (go_at_call 89; first | ((with_reducible refine (sel0 hi _).mono ?_); rintro e w' ⟨rfl, hg⟩; have hE1 := hE0.mono hg; obtain ⟨k1, k2, k3, k4, k5, k6, k7, k8, k9, k10, _, _, _, _⟩ := hE1) | ((with_reducible refine (sel0 hl _).mono ?_); rintro e w' ⟨rfl, hg⟩; have hE1 := (hE0.mono (by assumption)).mono hg; obtain ⟨k1, k2, k3, k4, k5, k6, k7, k8, k9, k10, _, _, _, _⟩ := hE1) | ((with_reducible refine (sel0 hr _).mono ?_); rintro e w' ⟨rfl, hg⟩))
    go_ret
    exact ⟨rfl, by first | exact Bel.refl _ | repeat (first | assumption | refine Bel.trans ?_ (by assumption))⟩

set_option maxHeartbeats 1000000 in
theorem f39_0 (l0 l1 r0 r1 i0 i1 x ci cl cr : Bool) (hi : Hid (takes 0 i0 i1 = ci)) (hl : Hid (takes 0 l0 l1 = cl)) (hr : Hid (takes 0 r0 r1 = cr)) (w : World) :
    Calls Try.prog 39 #[.int .i64 0, .agg #[.bool l0, .bool l1], .agg #[.bool r0, .bool r1], .agg #[.bool i0, .bool i1], .bool x] w fun e w' =>
      e = .returned (.bool (!x && ci && !cl && !cr)) ∧ Bel w w' := by
  go_enter Try.func39, Try.ntmps39
  go_wp2_with (first | (go_at_call 66; go_in) | (go_at_call 65; refine (f65_0 _).mono ?_; rintro e w' ⟨rfl, hg⟩; have hE := EdgeAt.mono (e := w.heap.size + 7) (f := w.heap.size + 6) (t := w.heap.size + 9) (g := w.heap.size + 8) (l0 := l0) (l1 := l1) (r0 := r0) (r1 := r1) (i0 := i0) (i1 := i1) (x := x) hg (by constructor <;> simp [go_sem])) | (go_at_call 67; refine (f67_0 _ _ _ _ l0 l1 r0 r1 i0 i1 x ci cl cr hi hl hr _ (by assumption)).mono ?_; rintro e w' ⟨rfl, hk⟩))
  go_ret
  exact ⟨rfl, by repeat (first | assumption | exact Bel.refl _ | apply Bel.alloc | refine Bel.trans ?_ (by assumption))⟩

theorem sel1 {a b c : Bool} (h : Hid (takes 1 a b = c)) (w : World) :
    Calls Try.prog 90 #[.agg #[.bool a, .bool b]] w fun e w' => e = .returned (.bool c) ∧ Bel w w' := by
  have := h.out
  simp [takes] at this
  subst this
  refine (f90_any a b w).mono ?_
  intro e w' h
  simpa using h

set_option maxHeartbeats 4000000 in
theorem f67_1 (e f t g : Nat) (l0 l1 r0 r1 i0 i1 x ci cl cr : Bool) (hi : Hid (takes 1 i0 i1 = ci)) (hl : Hid (takes 1 l0 l1 = cl)) (hr : Hid (takes 1 r0 r1 = cr)) (w : World) (hE : EdgeAt w e f t g l0 l1 r0 r1 i0 i1 x) :
    Calls Try.prog 67 #[.pointer (some ⟨e, 0, none⟩), .func (.func 90) #[] #[]] w fun e w' =>
      e = .returned (.bool (!x && ci && !cl && !cr)) ∧ Bel w w' := by
  have hE0 := hE
  obtain ⟨h1, h2, h3, h4, h5, h6, h7, h8, h9, h10, le, lf, lt, lg⟩ := hE
  cases x <;> cases ci <;> cases cl <;> cases cr
  all_goals
    go_enter Try.func67, Try.ntmps67
    go_wp2_with (go_at_call 90; first | ((with_reducible refine (sel1 hi _).mono ?_); rintro e w' ⟨rfl, hg⟩; have hE1 := hE0.mono hg; obtain ⟨k1, k2, k3, k4, k5, k6, k7, k8, k9, k10, _, _, _, _⟩ := hE1) | ((with_reducible refine (sel1 hl _).mono ?_); rintro e w' ⟨rfl, hg⟩; have hE1 := (hE0.mono (by assumption)).mono hg; obtain ⟨k1, k2, k3, k4, k5, k6, k7, k8, k9, k10, _, _, _, _⟩ := hE1) | ((with_reducible refine (sel1 hr _).mono ?_); rintro e w' ⟨rfl, hg⟩))
    go_ret
    exact ⟨rfl, by first | exact Bel.refl _ | repeat (first | assumption | refine Bel.trans ?_ (by assumption))⟩

set_option maxHeartbeats 1000000 in
theorem f39_1 (l0 l1 r0 r1 i0 i1 x ci cl cr : Bool) (hi : Hid (takes 1 i0 i1 = ci)) (hl : Hid (takes 1 l0 l1 = cl)) (hr : Hid (takes 1 r0 r1 = cr)) (w : World) :
    Calls Try.prog 39 #[.int .i64 1, .agg #[.bool l0, .bool l1], .agg #[.bool r0, .bool r1], .agg #[.bool i0, .bool i1], .bool x] w fun e w' =>
      e = .returned (.bool (!x && ci && !cl && !cr)) ∧ Bel w w' := by
  go_enter Try.func39, Try.ntmps39
  go_wp2_with (first | (go_at_call 66; go_in) | (go_at_call 65; refine (f65_1 _).mono ?_; rintro e w' ⟨rfl, hg⟩; have hE := EdgeAt.mono (e := w.heap.size + 7) (f := w.heap.size + 6) (t := w.heap.size + 9) (g := w.heap.size + 8) (l0 := l0) (l1 := l1) (r0 := r0) (r1 := r1) (i0 := i0) (i1 := i1) (x := x) hg (by constructor <;> simp [go_sem])) | (go_at_call 67; refine (f67_1 _ _ _ _ l0 l1 r0 r1 i0 i1 x ci cl cr hi hl hr _ (by assumption)).mono ?_; rintro e w' ⟨rfl, hk⟩))
  go_ret
  exact ⟨rfl, by repeat (first | assumption | exact Bel.refl _ | apply Bel.alloc | refine Bel.trans ?_ (by assumption))⟩

theorem sel2 {a b c : Bool} (h : Hid (takes 2 a b = c)) (w : World) :
    Calls Try.prog 91 #[.agg #[.bool a, .bool b]] w fun e w' => e = .returned (.bool c) ∧ Bel w w' := by
  have := h.out
  simp [takes] at this
  subst this
  refine (f91_any a b w).mono ?_
  intro e w' h
  simpa using h

set_option maxHeartbeats 4000000 in
theorem f67_2 (e f t g : Nat) (l0 l1 r0 r1 i0 i1 x ci cl cr : Bool) (hi : Hid (takes 2 i0 i1 = ci)) (hl : Hid (takes 2 l0 l1 = cl)) (hr : Hid (takes 2 r0 r1 = cr)) (w : World) (hE : EdgeAt w e f t g l0 l1 r0 r1 i0 i1 x) :
    Calls Try.prog 67 #[.pointer (some ⟨e, 0, none⟩), .func (.func 91) #[] #[]] w fun e w' =>
      e = .returned (.bool (!x && ci && !cl && !cr)) ∧ Bel w w' := by
  have hE0 := hE
  obtain ⟨h1, h2, h3, h4, h5, h6, h7, h8, h9, h10, le, lf, lt, lg⟩ := hE
  cases x <;> cases ci <;> cases cl <;> cases cr
  all_goals
    go_enter Try.func67, Try.ntmps67
    go_wp2_with (go_at_call 91; first | ((with_reducible refine (sel2 hi _).mono ?_); rintro e w' ⟨rfl, hg⟩; have hE1 := hE0.mono hg; obtain ⟨k1, k2, k3, k4, k5, k6, k7, k8, k9, k10, _, _, _, _⟩ := hE1) | ((with_reducible refine (sel2 hl _).mono ?_); rintro e w' ⟨rfl, hg⟩; have hE1 := (hE0.mono (by assumption)).mono hg; obtain ⟨k1, k2, k3, k4, k5, k6, k7, k8, k9, k10, _, _, _, _⟩ := hE1) | ((with_reducible refine (sel2 hr _).mono ?_); rintro e w' ⟨rfl, hg⟩))
    go_ret
    exact ⟨rfl, by first | exact Bel.refl _ | repeat (first | assumption | refine Bel.trans ?_ (by assumption))⟩

set_option maxHeartbeats 1000000 in
theorem f39_2 (l0 l1 r0 r1 i0 i1 x ci cl cr : Bool) (hi : Hid (takes 2 i0 i1 = ci)) (hl : Hid (takes 2 l0 l1 = cl)) (hr : Hid (takes 2 r0 r1 = cr)) (w : World) :
    Calls Try.prog 39 #[.int .i64 2, .agg #[.bool l0, .bool l1], .agg #[.bool r0, .bool r1], .agg #[.bool i0, .bool i1], .bool x] w fun e w' =>
      e = .returned (.bool (!x && ci && !cl && !cr)) ∧ Bel w w' := by
  go_enter Try.func39, Try.ntmps39
  go_wp2_with (first | (go_at_call 66; go_in) | (go_at_call 65; refine (f65_2 _).mono ?_; rintro e w' ⟨rfl, hg⟩; have hE := EdgeAt.mono (e := w.heap.size + 7) (f := w.heap.size + 6) (t := w.heap.size + 9) (g := w.heap.size + 8) (l0 := l0) (l1 := l1) (r0 := r0) (r1 := r1) (i0 := i0) (i1 := i1) (x := x) hg (by constructor <;> simp [go_sem])) | (go_at_call 67; refine (f67_2 _ _ _ _ l0 l1 r0 r1 i0 i1 x ci cl cr hi hl hr _ (by assumption)).mono ?_; rintro e w' ⟨rfl, hk⟩))
  go_ret
  exact ⟨rfl, by repeat (first | assumption | exact Bel.refl _ | apply Bel.alloc | refine Bel.trans ?_ (by assumption))⟩

theorem sel3 {a b c : Bool} (h : Hid (takes 3 a b = c)) (w : World) :
    Calls Try.prog 92 #[.agg #[.bool a, .bool b]] w fun e w' => e = .returned (.bool c) ∧ Bel w w' := by
  have := h.out
  simp [takes] at this
  subst this
  refine (f92_any a b w).mono ?_
  intro e w' h
  simpa using h

set_option maxHeartbeats 4000000 in
theorem f67_3 (e f t g : Nat) (l0 l1 r0 r1 i0 i1 x ci cl cr : Bool) (hi : Hid (takes 3 i0 i1 = ci)) (hl : Hid (takes 3 l0 l1 = cl)) (hr : Hid (takes 3 r0 r1 = cr)) (w : World) (hE : EdgeAt w e f t g l0 l1 r0 r1 i0 i1 x) :
    Calls Try.prog 67 #[.pointer (some ⟨e, 0, none⟩), .func (.func 92) #[] #[]] w fun e w' =>
      e = .returned (.bool (!x && ci && !cl && !cr)) ∧ Bel w w' := by
  have hE0 := hE
  obtain ⟨h1, h2, h3, h4, h5, h6, h7, h8, h9, h10, le, lf, lt, lg⟩ := hE
  cases x <;> cases ci <;> cases cl <;> cases cr
  all_goals
    go_enter Try.func67, Try.ntmps67
    go_wp2_with (go_at_call 92; first | ((with_reducible refine (sel3 hi _).mono ?_); rintro e w' ⟨rfl, hg⟩; have hE1 := hE0.mono hg; obtain ⟨k1, k2, k3, k4, k5, k6, k7, k8, k9, k10, _, _, _, _⟩ := hE1) | ((with_reducible refine (sel3 hl _).mono ?_); rintro e w' ⟨rfl, hg⟩; have hE1 := (hE0.mono (by assumption)).mono hg; obtain ⟨k1, k2, k3, k4, k5, k6, k7, k8, k9, k10, _, _, _, _⟩ := hE1) | ((with_reducible refine (sel3 hr _).mono ?_); rintro e w' ⟨rfl, hg⟩))
    go_ret
    exact ⟨rfl, by first | exact Bel.refl _ | repeat (first | assumption | refine Bel.trans ?_ (by assumption))⟩

set_option maxHeartbeats 1000000 in
theorem f39_3 (l0 l1 r0 r1 i0 i1 x ci cl cr : Bool) (hi : Hid (takes 3 i0 i1 = ci)) (hl : Hid (takes 3 l0 l1 = cl)) (hr : Hid (takes 3 r0 r1 = cr)) (w : World) :
    Calls Try.prog 39 #[.int .i64 3, .agg #[.bool l0, .bool l1], .agg #[.bool r0, .bool r1], .agg #[.bool i0, .bool i1], .bool x] w fun e w' =>
      e = .returned (.bool (!x && ci && !cl && !cr)) ∧ Bel w w' := by
  go_enter Try.func39, Try.ntmps39
  go_wp2_with (first | (go_at_call 66; go_in) | (go_at_call 65; refine (f65_3 _).mono ?_; rintro e w' ⟨rfl, hg⟩; have hE := EdgeAt.mono (e := w.heap.size + 7) (f := w.heap.size + 6) (t := w.heap.size + 9) (g := w.heap.size + 8) (l0 := l0) (l1 := l1) (r0 := r0) (r1 := r1) (i0 := i0) (i1 := i1) (x := x) hg (by constructor <;> simp [go_sem])) | (go_at_call 67; refine (f67_3 _ _ _ _ l0 l1 r0 r1 i0 i1 x ci cl cr hi hl hr _ (by assumption)).mono ?_; rintro e w' ⟨rfl, hk⟩))
  go_ret
  exact ⟨rfl, by repeat (first | assumption | exact Bel.refl _ | apply Bel.alloc | refine Bel.trans ?_ (by assumption))⟩

/-- Is an edge taken as a line? -/
def tl (op : Int) (l0 l1 r0 r1 i0 i1 x : Bool) : Bool := !x && takes op i0 i1 && !takes op l0 l1 && !takes op r0 r1

theorem f39_any (op : Int) (ho : op = 0 ∨ op = 1 ∨ op = 2 ∨ op = 3) (l0 l1 r0 r1 i0 i1 x : Bool) (w : World) :
    Calls Try.prog 39 #[.int .i64 op, .agg #[.bool l0, .bool l1], .agg #[.bool r0, .bool r1], .agg #[.bool i0, .bool i1], .bool x] w fun e w' =>
      e = .returned (.bool (tl op l0 l1 r0 r1 i0 i1 x)) ∧ Bel w w' := by
  rcases ho with rfl | rfl | rfl | rfl
  · exact f39_0 l0 l1 r0 r1 i0 i1 x _ _ _ (Lib.hid rfl) (Lib.hid rfl) (Lib.hid rfl) w
  · exact f39_1 l0 l1 r0 r1 i0 i1 x _ _ _ (Lib.hid rfl) (Lib.hid rfl) (Lib.hid rfl) w
  · exact f39_2 l0 l1 r0 r1 i0 i1 x _ _ _ (Lib.hid rfl) (Lib.hid rfl) (Lib.hid rfl) w
  · exact f39_3 l0 l1 r0 r1 i0 i1 x _ _ _ (Lib.hid rfl) (Lib.hid rfl) (Lib.hid rfl) w

theorem f38_idle (p q : Addr) (w : World) :
    CallsD Try.prog 38 #[.pointer (some p), .pointer (some q)] .returning w fun e u' w' => e = .returned (.tuple #[]) ∧ u' = .returning ∧ w' = w := by
  refine callsD_of_wpS Try.func38 rfl fun c₀ cs hu => ?_
  apply wpS_seq
  apply wpS_region
  simp [wpOpsS, go_sem, recoverD, hu, Try.ntmps38, Exit.thenS]
  refine wpS_cond (t := false) (by simp [Act.eval, Array.replicate]) ?_
  simp only [Bool.false_eq_true, if_false]
  refine wpS_of_wp (wp_skip ?_)
  cases c₀
  simp_all [bodyPostS, results, Try.results38]

set_option maxHeartbeats 1000000 in
theorem f16_any (op : Int) (ho : op = 0 ∨ op = 1 ∨ op = 2 ∨ op = 3) (l0 l1 r0 r1 i0 i1 x c : Bool) (hc : Hid (tl op l0 l1 r0 r1 i0 i1 x = c)) (w : World) :
    Calls Try.prog 16 #[.int .i64 op, .agg #[.bool l0, .bool l1], .agg #[.bool r0, .bool r1], .agg #[.bool i0, .bool i1], .bool x] w fun e w' =>
      e = .returned (.tuple #[.bool c, .bool true]) ∧ Bel w w' := by
  have hmf : ∀ (fn : Fn) (first cap : Array Value) (w : World), (Instr.makeFunc fn first cap).run Try.prog w = .ok (.func fn first cap) w := fun _ _ _ _ => rfl
  go_enter_defers Try.func16, Try.ntmps16
  go_wp2_with (go_at_call 39; refine (f39_any op ho l0 l1 r0 r1 i0 i1 x _).mono ?_; rw [hc.out]; rintro e w' ⟨rfl, hg⟩; obtain ⟨hc0, hz0, hc1, hz1, hs, hb⟩ := hg.two; simp only [World.size_alloc] at hc0 hz0 hc1 hz1 hs)
  refine leaves_cons (f := 38) (args := #[.pointer (some ⟨w.heap.size + 1 + 1 + 1, 0, none⟩), .pointer (some ⟨w.heap.size + 1 + 1 + 1 + 1, 0, none⟩)]) (by simp) (by simp [go_sem]) ?_
  refine (f38_idle ⟨w.heap.size + 1 + 1 + 1, 0, none⟩ ⟨w.heap.size + 1 + 1 + 1 + 1, 0, none⟩ _).mono ?_
  rintro e u' w'' ⟨rfl, rfl, rfl⟩
  simp [Leaves, settle, results, Try.results16, go_sem, hc0, hc1]
  exact (((((Bel.refl w).alloc _).alloc _).alloc _).trans hb |>.setCell (by simp; omega) _).setCell (by simp; omega) _
end Go.Proofs.Ytdebkmioaglmaaa
