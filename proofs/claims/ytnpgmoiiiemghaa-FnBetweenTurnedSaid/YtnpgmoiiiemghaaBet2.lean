/-
  impl.Between: the place on the way between two places. No panic; what stood in memory has not turned.
-/
import Derived.Test.YtnpgmoiiiemghaaBet
namespace Go.Proofs.Ytnpgmoiiiemghaa
open Go.ChangeShapes Go.WideShapes Go.ChangeAt Go.RowKit
/-- Four numbers. -/
structure Four (α : Type) where
  x : α
  y : α
  z : α
  m : α
/-- Four floats stand for four numbers in units of 2^e, of no great size. -/
structure C4 (e : Int) (v : Four Nat) (A : Four Int) : Prop where
  x : Is v.x (dy A.x e)
  y : Is v.y (dy A.y e)
  z : Is v.z (dy A.z e)
  m : Is v.m (dy A.m e)
structure B4 (A : Four Int) : Prop where
  x : A.x.natAbs ≤ 2 ^ 24
  y : A.y.natAbs ≤ 2 ^ 24
  z : A.z.natAbs ≤ 2 ^ 24
  m : A.m.natAbs ≤ 2 ^ 24
def lp (N T a b : Int) : Int := a * N + T * (b - a)
def lp4 (N T : Int) (A B : Four Int) : Four Int := ⟨lp N T A.x B.x, lp N T A.y B.y, lp N T A.z B.z, lp N T A.m B.m⟩
def coV (v : Four Nat) (d : Int) : Value := .agg #[.float .f64 v.x, .float .f64 v.y, .float .f64 v.z, .float .f64 v.m, .int .i64 d]
def gcV (v : Four Nat) (c : Nat) : Value := .agg #[.float .f64 v.x, .float .f64 v.y, .float .f64 v.z, .float .f64 v.m, .int .u8 c]

theorem coordinates'_any (v : Four Nat) (d : Int) (w : World) : Calls Try.prog 29 #[coV v d] w fun e w' => e = .returned (gcV v (ct d)) ∧ Bel w w' := by
  have hd := fun w => dimOf_any d w
  have HD := Lib.hid hd
  clear hd
  generalize ct d = c at *
  obtain ⟨x, y, z, m⟩ := v
  unfold coV gcV
  simp only
  go_enter Try.func29, Try.ntmps29
  go_wp2
  go_region_held3 (fun w' => (∀ o, w'.cell? ⟨w.heap.size, o, none⟩ = (#[Value.float .f64 x, .float .f64 y, .float .f64 z, .float .f64 m, .int .i64 d] : Array Value)[o]?) ∧ Blk w' w.heap.size #[.float .f64 x, .float .f64 y, .float .f64 z, .float .f64 m, .int .i64 d] 38 ∧ Bel w w')
    ((refine keep1i ?_ ?_ <;> (first | ((repeat (first | with_reducible assumption | with_reducible exact Blk.new _ _ _ | ((with_reducible refine Blk.new' _ _ _ ?_); (focus ((simp; done)))) | with_reducible apply Blk.drew | with_reducible apply Blk.drewN | with_reducible refine Blk.alloc ?_ _ | with_reducible apply Blk.same | (with_reducible refine Blk.bel ?_ (by with_reducible assumption)) | ((with_reducible refine Blk.otherR ?_ ?_); (focus ((simp <;> omega); done))))); done) | ((repeat (first | with_reducible assumption | with_reducible exact Bel.refl _ | with_reducible apply Bel.alloc | with_reducible apply Bel.drew | with_reducible apply Bel.drewN | ((with_reducible apply Bel.setCellR); (simp <;> omega)) | with_reducible refine Bel.behind (by with_reducible assumption) ?_)); done))))
    (first | (go_at_call 47; refine (HD.out _).mono ?_; rintro e w' ⟨rfl, rfl⟩))
  go_wp2
  refine post_ret (results_one rfl (resIs_agg (n := 5) (cs := #[.float .f64 x, .float .f64 y, .float .f64 z, .float .f64 m, .int .u8 c]) (by rfl) Try.underlying70 (by kernel_rfl) (T := 70) ?_ rfl)) ⟨rfl, ?_⟩
  · (repeat (first | with_reducible assumption | with_reducible exact Blk.new _ _ _ | ((with_reducible refine Blk.new' _ _ _ ?_); (focus ((simp; done)))) | with_reducible apply Blk.drew | with_reducible apply Blk.drewN | with_reducible refine Blk.alloc ?_ _ | with_reducible apply Blk.same | (with_reducible refine Blk.bel ?_ (by with_reducible assumption)) | ((with_reducible refine Blk.otherR ?_ ?_); (focus ((simp <;> omega); done)))))
  · (repeat (first | with_reducible assumption | with_reducible exact Bel.refl _ | with_reducible apply Bel.alloc | with_reducible apply Bel.drew | with_reducible apply Bel.drewN | ((with_reducible apply Bel.setCellR); (simp <;> omega)) | with_reducible refine Bel.behind (by with_reducible assumption) ?_))

/-- The place on the way. -/
def IsWay (e : Int) (A : Four Int) (mk : Four Nat → Value) (w : World) (x : Ending) (w' : World) : Prop := ∃ r, x = .returned (mk r) ∧ C4 e r A ∧ Bel w w'
set_option maxHeartbeats 4000000 in
set_option maxRecDepth 100000 in
theorem interpolate_any (e : Int) (u v : Four Nat) (A B : Four Int) (t : Nat) (T : Int) (k c : Nat) (hc : c ≤ 3) (hA : C4 e u A) (hB : C4 e v B) (bA : B4 A) (bB : B4 B) (ht : Is t (dy T (-(k : Int)))) (hT0 : 0 ≤ T) (hT1 : T ≤ 2 ^ k) (hk : k ≤ 6) (he : -2 ≤ e) (he2 : e ≤ 0) (w : World) :
    Calls Try.prog 46 #[gcV u c, gcV v c, .float .f64 t] w (IsWay (e - k) (lp4 (2 ^ k) T A B) (gcV · c) w) := by
  have l1 := Lib.hid fun w => lerp_any u.x v.x t A.x B.x T e k hA.x hB.x ht bA.x bB.x hT0 hT1 hk he he2 w
  have l2 := Lib.hid fun w => lerp_any u.y v.y t A.y B.y T e k hA.y hB.y ht bA.y bB.y hT0 hT1 hk he he2 w
  have l3 := Lib.hid fun w => lerp_any u.z v.z t A.z B.z T e k hA.z hB.z ht bA.z bB.z hT0 hT1 hk he he2 w
  have l4 := Lib.hid fun w => lerp_any u.m v.m t A.m B.m T e k hA.m hB.m ht bA.m bB.m hT0 hT1 hk he he2 w
  have hand : bits BinOp.and IntKind.u8 (c : Int) (c : Int) = (c : Int) := by
    rcases (by omega : c = 0 ∨ c = 1 ∨ c = 2 ∨ c = 3) with rfl | rfl | rfl | rfl <;> decide
  clear hA hB bA bB ht hT0 hT1 hk he he2 hc
  obtain ⟨x, y, z, m⟩ := u
  obtain ⟨x', y', z', m'⟩ := v
  unfold gcV
  simp only at l1 l2 l3 l4 ⊢
  go_enter Try.func46, Try.ntmps46
  go_wp2
  go_region_held3 (fun w' => (∀ o, w'.cell? ⟨w.heap.size, o, none⟩ = (#[Value.float .f64 x, .float .f64 y, .float .f64 z, .float .f64 m, .int .u8 c] : Array Value)[o]?) ∧ (∀ o, w'.cell? ⟨w.heap.size + 1, o, none⟩ = (#[Value.float .f64 x', .float .f64 y', .float .f64 z', .float .f64 m', .int .u8 c] : Array Value)[o]?) ∧ Blk w' w.heap.size #[.float .f64 x, .float .f64 y, .float .f64 z, .float .f64 m, .int .u8 c] 70 ∧ Blk w' (w.heap.size + 1) #[.float .f64 x', .float .f64 y', .float .f64 z', .float .f64 m', .int .u8 c] 70 ∧ Bel w w')
    ((refine keep2i ?_ ?_ ?_ <;> (first | ((repeat (first | with_reducible assumption | with_reducible exact Blk.new _ _ _ | ((with_reducible refine Blk.new' _ _ _ ?_); (focus ((simp; done)))) | with_reducible apply Blk.drew | with_reducible apply Blk.drewN | with_reducible refine Blk.alloc ?_ _ | with_reducible apply Blk.same | (with_reducible refine Blk.bel ?_ (by with_reducible assumption)) | ((with_reducible refine Blk.otherR ?_ ?_); (focus ((simp <;> omega); done))))); done) | ((repeat (first | with_reducible assumption | with_reducible exact Bel.refl _ | with_reducible apply Bel.alloc | with_reducible apply Bel.drew | with_reducible apply Bel.drewN | ((with_reducible apply Bel.setCellR); (simp <;> omega)) | with_reducible refine Bel.behind (by with_reducible assumption) ?_)); done))))
    (first
      | (go_at_call 60; (with_reducible refine (l1.out _).mono ?_); rintro e1 w1 ⟨r1, rfl, rfl, i1⟩; have I1 := Lib.hid i1; clear i1)
      | (go_at_call 60; (with_reducible refine (l2.out _).mono ?_); rintro e1 w1 ⟨r2, rfl, rfl, i2⟩; have I2 := Lib.hid i2; clear i2)
      | (go_at_call 60; (with_reducible refine (l3.out _).mono ?_); rintro e1 w1 ⟨r3, rfl, rfl, i3⟩; have I3 := Lib.hid i3; clear i3)
      | (go_at_call 60; (with_reducible refine (l4.out _).mono ?_); rintro e1 w1 ⟨r4, rfl, rfl, i4⟩; have I4 := Lib.hid i4; clear i4))
  go_wp2
  refine post_ret (results_one rfl (resIs_agg (n := 5) (cs := #[.float .f64 r1, .float .f64 r2, .float .f64 r3, .float .f64 r4, .int .u8 c]) (by rfl) Try.underlying70 (by kernel_rfl) (T := 70) ?_ rfl)) ⟨⟨r1, r2, r3, r4⟩, rfl, ⟨I1.out, I2.out, I3.out, I4.out⟩, ?_⟩
  · (repeat (first | with_reducible assumption | with_reducible exact Blk.new _ _ _ | ((with_reducible refine Blk.new' _ _ _ ?_); (focus ((simp; done)))) | with_reducible apply Blk.drew | with_reducible apply Blk.drewN | with_reducible refine Blk.alloc ?_ _ | with_reducible apply Blk.same | (with_reducible refine Blk.bel ?_ (by with_reducible assumption)) | ((with_reducible refine Blk.otherR ?_ ?_); (focus ((simp <;> omega); done)))))
  · (repeat (first | with_reducible assumption | with_reducible exact Bel.refl _ | with_reducible apply Bel.alloc | with_reducible apply Bel.drew | with_reducible apply Bel.drewN | ((with_reducible apply Bel.setCellR); (simp <;> omega)) | with_reducible refine Bel.behind (by with_reducible assumption) ?_))

theorem doorBetween_any (e : Int) (u v : Four Nat) (A B : Four Int) (t : Nat) (T : Int) (k c : Nat) (hc : c ≤ 3) (hA : C4 e u A) (hB : C4 e v B) (bA : B4 A) (bB : B4 B) (ht : Is t (dy T (-(k : Int)))) (hT0 : 0 ≤ T) (hT1 : T ≤ 2 ^ k) (hk : k ≤ 6) (he : -2 ≤ e) (he2 : e ≤ 0) (w : World) :
    Calls Try.prog 28 #[gcV u c, gcV v c, .float .f64 t] w (IsWay (e - k) (lp4 (2 ^ k) T A B) (gcV · c) w) := by
  have l := Lib.hid fun w => interpolate_any e u v A B t T k c hc hA hB bA bB ht hT0 hT1 hk he he2 w
  clear hA hB bA bB ht hT0 hT1 hk he he2 hc
  obtain ⟨x, y, z, m⟩ := u
  obtain ⟨x', y', z', m'⟩ := v
  unfold gcV at l ⊢
  simp only at l ⊢
  go_enter Try.func28, Try.ntmps28
  go_wp2_with (go_at_call 46; (with_reducible refine (l.out _).mono ?_); rintro e1 w1 ⟨⟨r1, r2, r3, r4⟩, rfl, i, hb1⟩; have I := Lib.hid i; have hl := hb1.size; simp at hl; have B1 := (Blk.new' ((w.alloc _).alloc _) #[.float .f64 0, .float .f64 0, .float .f64 0, .float .f64 0, .int .u8 0] 70 (b := w.heap.size + 1 + 1) (by simp)).bel hb1; obtain ⟨q1, z1, n1⟩ := B1.facts; clear i)
  refine post_ret (results_one rfl (resIs_agg (n := 5) (cs := #[.float .f64 r1, .float .f64 r2, .float .f64 r3, .float .f64 r4, .int .u8 c]) (by rfl) Try.underlying70 (by kernel_rfl) (T := 70) ?_ rfl)) ⟨⟨r1, r2, r3, r4⟩, rfl, I.out, ?_⟩
  · exact ((((B1.set 0 _).set 1 _).set 2 _).set 3 _).set 4 _
  · (repeat (first | with_reducible assumption | with_reducible exact Bel.refl _ | with_reducible apply Bel.alloc | with_reducible apply Bel.drew | with_reducible apply Bel.drewN | ((with_reducible apply Bel.setCellR); (simp <;> omega)) | with_reducible refine Bel.behind (by with_reducible assumption) ?_))

set_option maxHeartbeats 4000000 in
theorem wayOf_any (e : Int) (u v : Four Nat) (A B : Four Int) (t : Nat) (T : Int) (k : Nat) (d : Int) (hd0 : 0 ≤ d) (hd3 : d ≤ 3) (hA : C4 e u A) (hB : C4 e v B) (bA : B4 A) (bB : B4 B) (ht : Is t (dy T (-(k : Int)))) (hT0 : 0 ≤ T) (hT1 : T ≤ 2 ^ k) (hk : k ≤ 6) (he : -2 ≤ e) (he2 : e ≤ 0) (w : World) :
    Calls Try.prog 13 #[coV u d, coV v d, .float .f64 t] w (IsWay (e - k) (lp4 (2 ^ k) T A B) (coV · d) w) := by
  have l1 := Lib.hid fun w => coordinates'_any u d w
  have l2 := Lib.hid fun w => coordinates'_any v d w
  have hcd : ((ct d : Nat) : Int) = d := by unfold ct; omega
  have l := Lib.hid fun w => doorBetween_any e u v A B t T k (ct d) (ct_le d) hA hB bA bB ht hT0 hT1 hk he he2 w
  have hc4 := ct_le d
  generalize ct d = c at *
  subst hcd
  clear hA hB bA bB ht hT0 hT1 hk he he2
  obtain ⟨x, y, z, m⟩ := u
  obtain ⟨x', y', z', m'⟩ := v
  unfold coV gcV at l1 l2
  unfold gcV at l
  unfold coV
  simp only at l l1 l2 ⊢
  go_enter Try.func13, Try.ntmps13
  go_wp2
  go_region_held3 (fun w' => (∀ o, w'.cell? ⟨w.heap.size, o, none⟩ = (#[Value.float .f64 x, .float .f64 y, .float .f64 z, .float .f64 m, .int .i64 c] : Array Value)[o]?) ∧ (∀ o, w'.cell? ⟨w.heap.size + 1, o, none⟩ = (#[Value.float .f64 x', .float .f64 y', .float .f64 z', .float .f64 m', .int .i64 c] : Array Value)[o]?) ∧ Blk w' w.heap.size #[.float .f64 x, .float .f64 y, .float .f64 z, .float .f64 m, .int .i64 c] 38 ∧ Blk w' (w.heap.size + 1) #[.float .f64 x', .float .f64 y', .float .f64 z', .float .f64 m', .int .i64 c] 38 ∧ Bel w w')
    ((refine keep2i ?_ ?_ ?_ <;> (first | ((repeat (first | with_reducible assumption | with_reducible exact Blk.new _ _ _ | ((with_reducible refine Blk.new' _ _ _ ?_); (focus ((simp; done)))) | with_reducible apply Blk.drew | with_reducible apply Blk.drewN | with_reducible refine Blk.alloc ?_ _ | with_reducible apply Blk.same | (with_reducible refine Blk.bel ?_ (by with_reducible assumption)) | ((with_reducible refine Blk.otherR ?_ ?_); (focus ((simp <;> omega); done))))); done) | ((repeat (first | with_reducible assumption | with_reducible exact Bel.refl _ | with_reducible apply Bel.alloc | with_reducible apply Bel.drew | with_reducible apply Bel.drewN | ((with_reducible apply Bel.setCellR); (simp <;> omega)) | with_reducible refine Bel.behind (by with_reducible assumption) ?_)); done))))
    (first
      | (go_at_call 29; (with_reducible refine (l1.out _).mono ?_); rintro e1 w1 ⟨rfl, hb1⟩; have hl1 := hb1.size; (try simp at hl1); (first | ((refine (fun (B7 : Blk w1 (w.heap.size + 1 + 1 + 1) #[.float .f64 0, .float .f64 0, .float .f64 0, .float .f64 0, .int .u8 0] 70) => ?_) ?_); rotate_left; (focus ((repeat (first | with_reducible assumption | with_reducible exact Blk.new _ _ _ | ((with_reducible refine Blk.new' _ _ _ ?_); (focus ((simp; done)))) | with_reducible apply Blk.drew | with_reducible apply Blk.drewN | with_reducible refine Blk.alloc ?_ _ | with_reducible apply Blk.same | (with_reducible refine Blk.bel ?_ (by with_reducible assumption)) | ((with_reducible refine Blk.otherR ?_ ?_); (focus ((simp <;> omega); done))))); done)); obtain ⟨q7, z7, n7⟩ := B7.facts) | skip))
      | (go_at_call 29; (with_reducible refine (l2.out _).mono ?_); rintro e2 w2 ⟨rfl, hb2⟩; have hl2 := hb2.size; (try simp at hl2); (first | ((refine (fun (B7 : Blk w2 (w.heap.size + 1 + 1 + 1) #[.float .f64 0, .float .f64 0, .float .f64 0, .float .f64 0, .int .u8 0] 70) => ?_) ?_); rotate_left; (focus ((repeat (first | with_reducible assumption | with_reducible exact Blk.new _ _ _ | ((with_reducible refine Blk.new' _ _ _ ?_); (focus ((simp; done)))) | with_reducible apply Blk.drew | with_reducible apply Blk.drewN | with_reducible refine Blk.alloc ?_ _ | with_reducible apply Blk.same | (with_reducible refine Blk.bel ?_ (by with_reducible assumption)) | ((with_reducible refine Blk.otherR ?_ ?_); (focus ((simp <;> omega); done))))); done)); obtain ⟨q7, z7, n7⟩ := B7.facts) | skip); (first | ((refine (fun (B7 : Blk w2 (w1.heap.size) #[.float .f64 0, .float .f64 0, .float .f64 0, .float .f64 0, .int .u8 0] 70) => ?_) ?_); rotate_left; (focus ((repeat (first | with_reducible assumption | with_reducible exact Blk.new _ _ _ | ((with_reducible refine Blk.new' _ _ _ ?_); (focus ((simp; done)))) | with_reducible apply Blk.drew | with_reducible apply Blk.drewN | with_reducible refine Blk.alloc ?_ _ | with_reducible apply Blk.same | (with_reducible refine Blk.bel ?_ (by with_reducible assumption)) | ((with_reducible refine Blk.otherR ?_ ?_); (focus ((simp <;> omega); done))))); done)); obtain ⟨q7, z7, n7⟩ := B7.facts) | skip))
      | (go_at_call 28; (with_reducible refine (l.out _).mono ?_); rintro e3 w3 ⟨⟨r1, r2, r3, r4⟩, rfl, i, hb3⟩; have I := Lib.hid i; have hl3 := hb3.size; (try simp at hl3); (first | ((refine (fun (B7 : Blk w3 (w.heap.size + 1 + 1 + 1) #[.float .f64 0, .float .f64 0, .float .f64 0, .float .f64 0, .int .u8 0] 70) => ?_) ?_); rotate_left; (focus ((repeat (first | with_reducible assumption | with_reducible exact Blk.new _ _ _ | ((with_reducible refine Blk.new' _ _ _ ?_); (focus ((simp; done)))) | with_reducible apply Blk.drew | with_reducible apply Blk.drewN | with_reducible refine Blk.alloc ?_ _ | with_reducible apply Blk.same | (with_reducible refine Blk.bel ?_ (by with_reducible assumption)) | ((with_reducible refine Blk.otherR ?_ ?_); (focus ((simp <;> omega); done))))); done)); obtain ⟨q7, z7, n7⟩ := B7.facts) | skip); (first | ((refine (fun (B7 : Blk w3 (w1.heap.size) #[.float .f64 0, .float .f64 0, .float .f64 0, .float .f64 0, .int .u8 0] 70) => ?_) ?_); rotate_left; (focus ((repeat (first | with_reducible assumption | with_reducible exact Blk.new _ _ _ | ((with_reducible refine Blk.new' _ _ _ ?_); (focus ((simp; done)))) | with_reducible apply Blk.drew | with_reducible apply Blk.drewN | with_reducible refine Blk.alloc ?_ _ | with_reducible apply Blk.same | (with_reducible refine Blk.bel ?_ (by with_reducible assumption)) | ((with_reducible refine Blk.otherR ?_ ?_); (focus ((simp <;> omega); done))))); done)); obtain ⟨q7, z7, n7⟩ := B7.facts) | skip); (first | ((refine (fun (B7 : Blk w3 (w2.heap.size) #[.float .f64 0, .float .f64 0, .float .f64 0, .float .f64 0, .int .u8 0] 70) => ?_) ?_); rotate_left; (focus ((repeat (first | with_reducible assumption | with_reducible exact Blk.new _ _ _ | ((with_reducible refine Blk.new' _ _ _ ?_); (focus ((simp; done)))) | with_reducible apply Blk.drew | with_reducible apply Blk.drewN | with_reducible refine Blk.alloc ?_ _ | with_reducible apply Blk.same | (with_reducible refine Blk.bel ?_ (by with_reducible assumption)) | ((with_reducible refine Blk.otherR ?_ ?_); (focus ((simp <;> omega); done))))); done)); obtain ⟨q7, z7, n7⟩ := B7.facts) | skip); ((refine (fun (B6 : Blk w3 (w.heap.size + 1 + 1) #[.float .f64 0, .float .f64 0, .float .f64 0, .float .f64 0, .int .i64 0] 38) => ?_) ?_); rotate_left; (focus ((repeat (first | with_reducible assumption | with_reducible exact Blk.new _ _ _ | ((with_reducible refine Blk.new' _ _ _ ?_); (focus ((simp; done)))) | with_reducible apply Blk.drew | with_reducible apply Blk.drewN | with_reducible refine Blk.alloc ?_ _ | with_reducible apply Blk.same | (with_reducible refine Blk.bel ?_ (by with_reducible assumption)) | ((with_reducible refine Blk.otherR ?_ ?_); (focus ((simp <;> omega); done))))); done)); obtain ⟨q6, z6, n6⟩ := B6.facts); clear i))
  all_goals
    go_wp2
    refine post_ret (results_one rfl (resIs_agg (n := 5) (cs := #[.float .f64 r1, .float .f64 r2, .float .f64 r3, .float .f64 r4, .int .i64 c]) (by rfl) Try.underlying38 (by kernel_rfl) (T := 38) ?_ rfl)) ⟨⟨r1, r2, r3, r4⟩, rfl, I.out, ?_⟩
    · (apply Blk.cast; (repeat (first | with_reducible assumption | with_reducible apply Blk.set | ((with_reducible apply Blk.otherR); (focus ((simp <;> omega); done))) | with_reducible exact Blk.new _ _ _ | ((with_reducible apply Blk.new'); (focus (simp; done))) | with_reducible apply Blk.alloc | with_reducible apply Blk.drew | with_reducible apply Blk.drewN | (with_reducible refine Blk.bel ?_ (by with_reducible assumption)))); rfl)
    · (repeat (first | with_reducible assumption | with_reducible exact Bel.refl _ | with_reducible apply Bel.alloc | with_reducible apply Bel.drew | with_reducible apply Bel.drewN | ((with_reducible apply Bel.setCellR); (simp <;> omega)) | with_reducible refine Bel.behind (by with_reducible assumption) ?_))
end Go.Proofs.Ytnpgmoiiiemghaa
