/-
  FnBetweenTurned: the law answers true and changes nothing that stood in memory. Proved for every input.
-/
import Derived.Test.YtnpgmoiiiemghaaBet2
import Derived.Deep.DeepCutAuto
namespace Go.Proofs.Ytnpgmoiiiemghaa
open Go.ChangeShapes Go.WideShapes Go.ChangeAt Go.RowKit
theorem wayV_any (e : Int) (u v : Four Nat) (A B : Four Int) (t : Nat) (T : Int) (k : Nat) (d : Int) (hd0 : 0 ≤ d) (hd3 : d ≤ 3) (hA : C4 e u A) (hB : C4 e v B) (bA : B4 A) (bB : B4 B) (ht : Is t (dy T (-(k : Int)))) (hT0 : 0 ≤ T) (hT1 : T ≤ 2 ^ k) (hk : k ≤ 6) (he : -2 ≤ e) (he2 : e ≤ 0) (w : World) :
    Calls Try.prog 13 #[.agg #[.float .f64 u.x, .float .f64 u.y, .float .f64 u.z, .float .f64 u.m, .int .i64 d], .agg #[.float .f64 v.x, .float .f64 v.y, .float .f64 v.z, .float .f64 v.m, .int .i64 d], .float .f64 t] w (IsWay (e - k) (lp4 (2 ^ k) T A B) (fun r => .agg #[.float .f64 r.x, .float .f64 r.y, .float .f64 r.z, .float .f64 r.m, .int .i64 d]) w) := wayOf_any e u v A B t T k d hd0 hd3 hA hB bA bB ht hT0 hT1 hk he he2 w
theorem lp_turn (j a b : Int) : lp 64 j a b = lp 64 (64 - j) b a := by unfold lp; grind
theorem cmpZ_self (a : Int) : cmpZ a a = .eq := by unfold cmpZ; simp
theorem order_same {x y : Nat} {a b e : Int} (hx : Is x (dy a e)) (hy : Is y (dy b e)) (h : a = b) : Go.FloatKind.f64.format.order x y = some .eq := by
  rw [hx.dorder hy, h, cmpZ_self]
theorem lp_half (a b : Int) : lp 2 1 (lp 4 1 a b) (lp 4 3 a b) = lp 2 1 a b * 2 ^ 2 := by unfold lp; grind
theorem lp_turn6 (j a b : Int) : lp (2 ^ 6) j a b = lp (2 ^ 6) (64 - j) b a := lp_turn j a b
theorem order_half {x y : Nat} {a b : Int} (hx : Is x (dy (lp (2 ^ 1) 1 (lp (2 ^ 2) 1 a b) (lp (2 ^ 2) 3 a b)) (0 - (2 : Nat) - (1 : Nat)))) (hy : Is y (dy (lp (2 ^ 1) 1 a b) (0 - (1 : Nat)))) : Go.FloatKind.f64.format.order x y = some .eq := by
  rw [dy_shift _ _ 2] at hy
  exact order_same hx hy (lp_half a b)
theorem lp4_bound {A B : Four Int} {T : Int} (hT : T = 1 ∨ T = 3) (a1 : A.x.natAbs ≤ 2 ^ 20 ∧ A.y.natAbs ≤ 2 ^ 20 ∧ A.z.natAbs ≤ 2 ^ 20 ∧ A.m.natAbs ≤ 2 ^ 20) (b1 : B.x.natAbs ≤ 2 ^ 20 ∧ B.y.natAbs ≤ 2 ^ 20 ∧ B.z.natAbs ≤ 2 ^ 20 ∧ B.m.natAbs ≤ 2 ^ 20) : B4 (lp4 4 T A B) := by
  obtain ⟨a1, a2, a3, a4⟩ := a1
  obtain ⟨b1, b2, b3, b4⟩ := b1
  rcases hT with rfl | rfl <;> refine ⟨?_, ?_, ?_, ?_⟩ <;> simp only [lp4, lp] <;> omega

set_option maxRecDepth 100000 in
set_option maxHeartbeats 8000000 in
theorem law_main (u v : Four Nat) (d d' j : Int) (w : World) :
    Calls Try.prog 4 #[.agg #[.float .f64 u.x, .float .f64 u.y, .float .f64 u.z, .float .f64 u.m, .int .i64 d], .agg #[.float .f64 v.x, .float .f64 v.y, .float .f64 v.z, .float .f64 v.m, .int .i64 d'], .int .i64 j] w fun e w' => e = .returned (.bool true) ∧ Bel w w' := by
  go_enter Try.func4, Try.ntmps4
  go_wp2_with fail
  refine (between_any u.x u.y u.z u.m v.x v.y v.z v.m d d' _).mono ?_
  rintro e w1 ⟨r, rfl, hb1, hr⟩
  cases r
  · go_wp2
    go_ret
    exact ⟨rfl, by (repeat (first | with_reducible assumption | with_reducible exact Bel.refl _ | with_reducible apply Bel.alloc | with_reducible apply Bel.drew | with_reducible apply Bel.drewN | ((with_reducible apply Bel.setCellR); (simp <;> omega)) | with_reducible refine Bel.behind (by with_reducible assumption) ?_))⟩
  obtain ⟨⟨⟨ax, iax, bax⟩, ⟨ay, iay, bay⟩, ⟨az, iaz, baz⟩, ⟨am, iam, bam⟩⟩, ⟨⟨bx, ibx, bbx⟩, ⟨by', iby, bby⟩, ⟨bz, ibz, bbz⟩, ⟨bm, ibm, bbm⟩⟩, rfl, hd0, hd3⟩ := hr rfl
  clear hr
  have HB1 := Lib.hid hb1
  have CU := Lib.hid (C4.mk (e := 0) (v := u) (A := ⟨ax, ay, az, am⟩) iax iay iaz iam)
  have CV := Lib.hid (C4.mk (e := 0) (v := v) (A := ⟨bx, by', bz, bm⟩) ibx iby ibz ibm)
  have LA := Lib.hid (And.intro bax (And.intro bay (And.intro baz bam)))
  have LB := Lib.hid (And.intro bbx (And.intro bby (And.intro bbz bbm)))
  clear iax iay iaz iam ibx iby ibz ibm bax bay baz bam bbx bby bbz bbm
  generalize hA : Four.mk ax ay az am = A at *
  generalize hBB : Four.mk bx by' bz bm = B at *
  have LA' : Hid (A.x.natAbs ≤ 2 ^ 20 ∧ A.y.natAbs ≤ 2 ^ 20 ∧ A.z.natAbs ≤ 2 ^ 20 ∧ A.m.natAbs ≤ 2 ^ 20) := Lib.hid (by subst hA; exact LA.out)
  have LB' : Hid (B.x.natAbs ≤ 2 ^ 20 ∧ B.y.natAbs ≤ 2 ^ 20 ∧ B.z.natAbs ≤ 2 ^ 20 ∧ B.m.natAbs ≤ 2 ^ 20) := Lib.hid (by subst hBB; exact LB.out)
  clear hA hBB LA LB
  have BA : Hid (B4 A) := Lib.hid (by obtain ⟨h1, h2, h3, h4⟩ := LA'.out; exact ⟨by omega, by omega, by omega, by omega⟩)
  have BB : Hid (B4 B) := Lib.hid (by obtain ⟨h1, h2, h3, h4⟩ := LB'.out; exact ⟨by omega, by omega, by omega, by omega⟩)
  by_cases hj0 : j < 0
  · go_wp2
    go_ret
    exact ⟨rfl, by (repeat (first | with_reducible assumption | with_reducible exact Bel.refl _ | with_reducible apply Bel.alloc | with_reducible apply Bel.drew | with_reducible apply Bel.drewN | ((with_reducible apply Bel.setCellR); (simp <;> omega)) | with_reducible refine Bel.behind (by with_reducible assumption) ?_))⟩
  by_cases hj1 : 64 < j
  · go_wp2
    go_ret
    exact ⟨rfl, by (repeat (first | with_reducible assumption | with_reducible exact Bel.refl _ | with_reducible apply Bel.alloc | with_reducible apply Bel.drew | with_reducible apply Bel.drewN | ((with_reducible apply Bel.setCellR); (simp <;> omega)) | with_reducible refine Bel.behind (by with_reducible assumption) ?_))⟩
  obtain ⟨q1, e1, i1⟩ := quo64 j (by omega)
  obtain ⟨q2, e2, i2⟩ := quo64 (64 - j) (by omega)
  have f1 := ra .quo (floatOfInt .f64 j) 4634204016564240384 q1 e1
  have f2 := ra .quo (floatOfInt .f64 (64 - j)) 4634204016564240384 q2 e2
  have wj : IntKind.i64.wrap (64 - j) = 64 - j := IntWalk.i64_in _ (by omega)
  have l1 := Lib.hid fun w => wayV_any 0 u v A B q1 j 6 d hd0 hd3 CU.out CV.out BA.out BB.out i1 (by omega) (by show j ≤ 64; omega) (by omega) (by decide) (by decide) w
  have l2 := Lib.hid fun w => wayV_any 0 v u B A q2 (64 - j) 6 d hd0 hd3 CV.out CU.out BB.out BA.out i2 (by omega) (by show 64 - j ≤ 64; omega) (by omega) (by decide) (by decide) w
  have l3 := Lib.hid fun w => wayV_any 0 u v A B 4598175219545276416 1 2 d hd0 hd3 CU.out CV.out BA.out BB.out is_quarter (by decide) (by decide) (by decide) (by decide) (by decide) w
  have l4 := Lib.hid fun w => wayV_any 0 u v A B 4604930618986332160 3 2 d hd0 hd3 CU.out CV.out BA.out BB.out is_three (by decide) (by decide) (by decide) (by decide) (by decide) w
  have l5 := Lib.hid fun w => wayV_any 0 u v A B 4602678819172646912 1 1 d hd0 hd3 CU.out CV.out BA.out BB.out is_half (by decide) (by decide) (by decide) (by decide) (by decide) w
  have lq := fun (p q : Four Nat) (I1 : Hid (C4 (0 - (2 : Nat)) p (lp4 (2 ^ 2) 1 A B))) (I2 : Hid (C4 (0 - (2 : Nat)) q (lp4 (2 ^ 2) 3 A B))) => Lib.hid fun w => wayV_any (0 - (2 : Nat)) p q (lp4 (2 ^ 2) 1 A B) (lp4 (2 ^ 2) 3 A B) 4602678819172646912 1 1 d hd0 hd3 I1.out I2.out (lp4_bound (.inl rfl) LA'.out LB'.out) (lp4_bound (.inr rfl) LA'.out LB'.out) is_half (by decide) (by decide) (by decide) (by decide) (by decide) w
  replace lq := fun {p q : Four Nat} => lq p q
  clear e1 e2 i1 i2 CU CV
  have B0 := (((Blk.new w #[.float .f64 u.x, .float .f64 u.y, .float .f64 u.z, .float .f64 u.m, .int .i64 d] 38).alloc (.cells #[.float .f64 v.x, .float .f64 v.y, .float .f64 v.z, .float .f64 v.m, .int .i64 d] 38)).bel hb1)
  have B1 := (((Blk.new' (w.alloc (.cells #[.float .f64 u.x, .float .f64 u.y, .float .f64 u.z, .float .f64 u.m, .int .i64 d] 38)) #[.float .f64 v.x, .float .f64 v.y, .float .f64 v.z, .float .f64 v.m, .int .i64 d] 38 (b := w.heap.size + 1) (by simp))).bel hb1)
  have hbw : Bel w w1 := (((Bel.refl w).alloc _).alloc _).trans hb1
  clear hb1 HB1
  have hs1 := hbw.size
  have g0 := B0.lt
  have g1 := B1.lt
  go_upto_region 3 with fail
  obtain ⟨r0, z0, n0⟩ := B0.facts
  obtain ⟨r1, z1, n1⟩ := B1.facts
  go_cut [7, 8] (fun s7 s8 wx => ∃ (g7 g8 : Nat) (r s : Four Nat), s7 = .pointer (some ⟨g7, 0, none⟩) ∧ s8 = .pointer (some ⟨g8, 0, none⟩) ∧ Blk wx g7 #[.float .f64 r.x, .float .f64 r.y, .float .f64 r.z, .float .f64 r.m, .int .i64 d] 38 ∧ Blk wx g8 #[.float .f64 s.x, .float .f64 s.y, .float .f64 s.z, .float .f64 s.m, .int .i64 d] 38 ∧ C4 (0 - (6 : Nat)) r (lp4 (2 ^ 6) j A B) ∧ C4 (0 - (6 : Nat)) s (lp4 (2 ^ 6) (64 - j) B A) ∧ Bel w1 wx)
  case first =>
    go_region_held3 (fun w' => (∀ o, w'.cell? ⟨w.heap.size, o, none⟩ = (#[.float .f64 u.x, .float .f64 u.y, .float .f64 u.z, .float .f64 u.m, .int .i64 d] : Array Value)[o]?) ∧ (∀ o, w'.cell? ⟨w.heap.size + 1, o, none⟩ = (#[.float .f64 v.x, .float .f64 v.y, .float .f64 v.z, .float .f64 v.m, .int .i64 d] : Array Value)[o]?) ∧ Blk w' w.heap.size #[.float .f64 u.x, .float .f64 u.y, .float .f64 u.z, .float .f64 u.m, .int .i64 d] 38 ∧ Blk w' (w.heap.size + 1) #[.float .f64 v.x, .float .f64 v.y, .float .f64 v.z, .float .f64 v.m, .int .i64 d] 38 ∧ Bel w1 w')
      ((refine keep2i ?_ ?_ ?_ <;> (first | ((repeat (first | with_reducible assumption | with_reducible exact Blk.new _ _ _ | ((with_reducible refine Blk.new' _ _ _ ?_); (focus ((simp; done)))) | with_reducible apply Blk.drew | with_reducible apply Blk.drewN | with_reducible refine Blk.alloc ?_ _ | with_reducible apply Blk.same | (with_reducible refine Blk.bel ?_ (by with_reducible assumption)) | ((with_reducible refine Blk.otherR ?_ ?_); (focus ((simp <;> omega); done))))); done) | ((repeat (first | with_reducible assumption | with_reducible exact Bel.refl _ | with_reducible apply Bel.alloc | with_reducible apply Bel.drew | with_reducible apply Bel.drewN | ((with_reducible apply Bel.setCellR); (simp <;> omega)) | with_reducible refine Bel.behind (by with_reducible assumption) ?_)); done))))
      (first | (go_at_call 13; (with_reducible refine (l1.out _).mono ?_); rintro e1 w2 ⟨r, rfl, i, hbw2⟩; have I1 := Lib.hid i; have hlw2 := hbw2.size; (try simp at hlw2); clear i; (first | ((refine (fun (B7 : Blk w2 (w1.heap.size) #[.float .f64 0, .float .f64 0, .float .f64 0, .float .f64 0, .int .i64 0] 38) => ?_) ?_); rotate_left; (focus ((repeat (first | with_reducible assumption | with_reducible exact Blk.new _ _ _ | ((with_reducible refine Blk.new' _ _ _ ?_); (focus ((simp; done)))) | with_reducible apply Blk.drew | with_reducible apply Blk.drewN | with_reducible refine Blk.alloc ?_ _ | with_reducible apply Blk.same | (with_reducible refine Blk.bel ?_ (by with_reducible assumption)) | ((with_reducible refine Blk.otherR ?_ ?_); (focus ((simp <;> omega); done))))); done)); obtain ⟨q70, z70, n70⟩ := B7.facts) | skip); (first | ((refine (fun (B7 : Blk w2 (w1.heap.size + 1) #[.float .f64 0, .float .f64 0, .float .f64 0, .float .f64 0, .int .i64 0] 38) => ?_) ?_); rotate_left; (focus ((repeat (first | with_reducible assumption | with_reducible exact Blk.new _ _ _ | ((with_reducible refine Blk.new' _ _ _ ?_); (focus ((simp; done)))) | with_reducible apply Blk.drew | with_reducible apply Blk.drewN | with_reducible refine Blk.alloc ?_ _ | with_reducible apply Blk.same | (with_reducible refine Blk.bel ?_ (by with_reducible assumption)) | ((with_reducible refine Blk.otherR ?_ ?_); (focus ((simp <;> omega); done))))); done)); obtain ⟨q71, z71, n71⟩ := B7.facts) | skip)) | (go_at_call 13; (with_reducible refine (l2.out _).mono ?_); rintro e1 w3 ⟨s, rfl, i, hbw3⟩; have I2 := Lib.hid i; have hlw3 := hbw3.size; (try simp at hlw3); clear i; (first | ((refine (fun (B7 : Blk w3 (w1.heap.size) #[.float .f64 0, .float .f64 0, .float .f64 0, .float .f64 0, .int .i64 0] 38) => ?_) ?_); rotate_left; (focus ((repeat (first | with_reducible assumption | with_reducible exact Blk.new _ _ _ | ((with_reducible refine Blk.new' _ _ _ ?_); (focus ((simp; done)))) | with_reducible apply Blk.drew | with_reducible apply Blk.drewN | with_reducible refine Blk.alloc ?_ _ | with_reducible apply Blk.same | (with_reducible refine Blk.bel ?_ (by with_reducible assumption)) | ((with_reducible refine Blk.otherR ?_ ?_); (focus ((simp <;> omega); done))))); done)); obtain ⟨q70, z70, n70⟩ := B7.facts) | skip); (first | ((refine (fun (B7 : Blk w3 (w1.heap.size + 1) #[.float .f64 0, .float .f64 0, .float .f64 0, .float .f64 0, .int .i64 0] 38) => ?_) ?_); rotate_left; (focus ((repeat (first | with_reducible assumption | with_reducible exact Blk.new _ _ _ | ((with_reducible refine Blk.new' _ _ _ ?_); (focus ((simp; done)))) | with_reducible apply Blk.drew | with_reducible apply Blk.drewN | with_reducible refine Blk.alloc ?_ _ | with_reducible apply Blk.same | (with_reducible refine Blk.bel ?_ (by with_reducible assumption)) | ((with_reducible refine Blk.otherR ?_ ?_); (focus ((simp <;> omega); done))))); done)); obtain ⟨q71, z71, n71⟩ := B7.facts) | skip); (first | ((refine (fun (B7 : Blk w3 (w2.heap.size) #[.float .f64 0, .float .f64 0, .float .f64 0, .float .f64 0, .int .i64 0] 38) => ?_) ?_); rotate_left; (focus ((repeat (first | with_reducible assumption | with_reducible exact Blk.new _ _ _ | ((with_reducible refine Blk.new' _ _ _ ?_); (focus ((simp; done)))) | with_reducible apply Blk.drew | with_reducible apply Blk.drewN | with_reducible refine Blk.alloc ?_ _ | with_reducible apply Blk.same | (with_reducible refine Blk.bel ?_ (by with_reducible assumption)) | ((with_reducible refine Blk.otherR ?_ ?_); (focus ((simp <;> omega); done))))); done)); obtain ⟨q72, z72, n72⟩ := B7.facts) | skip); (first | ((refine (fun (B7 : Blk w3 (w2.heap.size + 1) #[.float .f64 0, .float .f64 0, .float .f64 0, .float .f64 0, .int .i64 0] 38) => ?_) ?_); rotate_left; (focus ((repeat (first | with_reducible assumption | with_reducible exact Blk.new _ _ _ | ((with_reducible refine Blk.new' _ _ _ ?_); (focus ((simp; done)))) | with_reducible apply Blk.drew | with_reducible apply Blk.drewN | with_reducible refine Blk.alloc ?_ _ | with_reducible apply Blk.same | (with_reducible refine Blk.bel ?_ (by with_reducible assumption)) | ((with_reducible refine Blk.otherR ?_ ?_); (focus ((simp <;> omega); done))))); done)); obtain ⟨q73, z73, n73⟩ := B7.facts) | skip)))
    all_goals
      go_wp2_with fail
    all_goals
      go_meet
      exact ⟨_, _, _, _, rfl, rfl, by (apply Blk.cast; (repeat (first | with_reducible assumption | with_reducible apply Blk.set | ((with_reducible apply Blk.otherR); (focus ((simp <;> omega); done))) | with_reducible exact Blk.new _ _ _ | ((with_reducible apply Blk.new'); (focus (simp; done))) | with_reducible apply Blk.alloc | with_reducible apply Blk.drew | with_reducible apply Blk.drewN | (with_reducible refine Blk.bel ?_ (by with_reducible assumption)))); rfl), by (apply Blk.cast; (repeat (first | with_reducible assumption | with_reducible apply Blk.set | ((with_reducible apply Blk.otherR); (focus ((simp <;> omega); done))) | with_reducible exact Blk.new _ _ _ | ((with_reducible apply Blk.new'); (focus (simp; done))) | with_reducible apply Blk.alloc | with_reducible apply Blk.drew | with_reducible apply Blk.drewN | (with_reducible refine Blk.bel ?_ (by with_reducible assumption)))); rfl), I1.out, I2.out, by (repeat (first | with_reducible assumption | with_reducible exact Bel.refl _ | with_reducible apply Bel.alloc | with_reducible apply Bel.drew | with_reducible apply Bel.drewN | ((with_reducible apply Bel.setCellR); (simp <;> omega)) | with_reducible refine Bel.behind (by with_reducible assumption) ?_))⟩
  case rest =>
  rename_i st7 st8 wx hcut
  obtain ⟨g7, g8, r, s, rfl, rfl, C7, C8, K7, K8, hbx⟩ := hcut
  replace K7 := Lib.hid K7
  replace K8 := Lib.hid K8
  replace B0 := B0.bel hbx
  replace B1 := B1.bel hbx
  clear r0 z0 n0 r1 z1 n1
  go_upto_region 4 with fail
  obtain ⟨r0, z0, n0⟩ := B0.facts
  obtain ⟨r1, z1, n1⟩ := B1.facts
  have hsc := hbx.size
  go_cut [9] (fun s9 wx => ∃ (g9 : Nat) (t : Four Nat), s9 = .pointer (some ⟨g9, 0, none⟩) ∧ Blk wx g9 #[.float .f64 t.x, .float .f64 t.y, .float .f64 t.z, .float .f64 t.m, .int .i64 d] 38 ∧ C4 (0 - (2 : Nat) - (1 : Nat)) t (lp4 (2 ^ 1) 1 (lp4 (2 ^ 2) 1 A B) (lp4 (2 ^ 2) 3 A B)) ∧ Bel wc wx)
  case first =>
    go_region_held3 (fun w' => (∀ o, w'.cell? ⟨w.heap.size, o, none⟩ = (#[.float .f64 u.x, .float .f64 u.y, .float .f64 u.z, .float .f64 u.m, .int .i64 d] : Array Value)[o]?) ∧ (∀ o, w'.cell? ⟨w.heap.size + 1, o, none⟩ = (#[.float .f64 v.x, .float .f64 v.y, .float .f64 v.z, .float .f64 v.m, .int .i64 d] : Array Value)[o]?) ∧ Blk w' w.heap.size #[.float .f64 u.x, .float .f64 u.y, .float .f64 u.z, .float .f64 u.m, .int .i64 d] 38 ∧ Blk w' (w.heap.size + 1) #[.float .f64 v.x, .float .f64 v.y, .float .f64 v.z, .float .f64 v.m, .int .i64 d] 38 ∧ Bel wc w')
      ((refine keep2i ?_ ?_ ?_ <;> (first | ((repeat (first | with_reducible assumption | with_reducible exact Blk.new _ _ _ | ((with_reducible refine Blk.new' _ _ _ ?_); (focus ((simp; done)))) | with_reducible apply Blk.drew | with_reducible apply Blk.drewN | with_reducible refine Blk.alloc ?_ _ | with_reducible apply Blk.same | (with_reducible refine Blk.bel ?_ (by with_reducible assumption)) | ((with_reducible refine Blk.otherR ?_ ?_); (focus ((simp <;> omega); done))))); done) | ((repeat (first | with_reducible assumption | with_reducible exact Bel.refl _ | with_reducible apply Bel.alloc | with_reducible apply Bel.drew | with_reducible apply Bel.drewN | ((with_reducible apply Bel.setCellR); (simp <;> omega)) | with_reducible refine Bel.behind (by with_reducible assumption) ?_)); done))))
      (first | (go_at_call 13; (with_reducible refine (l3.out _).mono ?_); rintro e1 w2 ⟨p, rfl, i, hbw2⟩; have I1 := Lib.hid i; have hlw2 := hbw2.size; (try simp at hlw2); clear i; (first | ((refine (fun (B7 : Blk w2 (wc.heap.size) #[.float .f64 0, .float .f64 0, .float .f64 0, .float .f64 0, .int .i64 0] 38) => ?_) ?_); rotate_left; (focus ((repeat (first | with_reducible assumption | with_reducible exact Blk.new _ _ _ | ((with_reducible refine Blk.new' _ _ _ ?_); (focus ((simp; done)))) | with_reducible apply Blk.drew | with_reducible apply Blk.drewN | with_reducible refine Blk.alloc ?_ _ | with_reducible apply Blk.same | (with_reducible refine Blk.bel ?_ (by with_reducible assumption)) | ((with_reducible refine Blk.otherR ?_ ?_); (focus ((simp <;> omega); done))))); done)); obtain ⟨q70, z70, n70⟩ := B7.facts) | skip)) | (go_at_call 13; (with_reducible refine (l4.out _).mono ?_); rintro e1 w3 ⟨s, rfl, i, hbw3⟩; have I2 := Lib.hid i; have hlw3 := hbw3.size; (try simp at hlw3); clear i; (first | ((refine (fun (B7 : Blk w3 (wc.heap.size) #[.float .f64 0, .float .f64 0, .float .f64 0, .float .f64 0, .int .i64 0] 38) => ?_) ?_); rotate_left; (focus ((repeat (first | with_reducible assumption | with_reducible exact Blk.new _ _ _ | ((with_reducible refine Blk.new' _ _ _ ?_); (focus ((simp; done)))) | with_reducible apply Blk.drew | with_reducible apply Blk.drewN | with_reducible refine Blk.alloc ?_ _ | with_reducible apply Blk.same | (with_reducible refine Blk.bel ?_ (by with_reducible assumption)) | ((with_reducible refine Blk.otherR ?_ ?_); (focus ((simp <;> omega); done))))); done)); obtain ⟨q70, z70, n70⟩ := B7.facts) | skip); (first | ((refine (fun (B7 : Blk w3 (w2.heap.size) #[.float .f64 0, .float .f64 0, .float .f64 0, .float .f64 0, .int .i64 0] 38) => ?_) ?_); rotate_left; (focus ((repeat (first | with_reducible assumption | with_reducible exact Blk.new _ _ _ | ((with_reducible refine Blk.new' _ _ _ ?_); (focus ((simp; done)))) | with_reducible apply Blk.drew | with_reducible apply Blk.drewN | with_reducible refine Blk.alloc ?_ _ | with_reducible apply Blk.same | (with_reducible refine Blk.bel ?_ (by with_reducible assumption)) | ((with_reducible refine Blk.otherR ?_ ?_); (focus ((simp <;> omega); done))))); done)); obtain ⟨q71, z71, n71⟩ := B7.facts) | skip)) | (go_at_call 13; (with_reducible refine ((lq I1 I2).out _).mono ?_); rintro e1 w4 ⟨t, rfl, i, hbw4⟩; have I3 := Lib.hid i; have hlw4 := hbw4.size; (try simp at hlw4); clear i; (first | ((refine (fun (B7 : Blk w4 (wc.heap.size) #[.float .f64 0, .float .f64 0, .float .f64 0, .float .f64 0, .int .i64 0] 38) => ?_) ?_); rotate_left; (focus ((repeat (first | with_reducible assumption | with_reducible exact Blk.new _ _ _ | ((with_reducible refine Blk.new' _ _ _ ?_); (focus ((simp; done)))) | with_reducible apply Blk.drew | with_reducible apply Blk.drewN | with_reducible refine Blk.alloc ?_ _ | with_reducible apply Blk.same | (with_reducible refine Blk.bel ?_ (by with_reducible assumption)) | ((with_reducible refine Blk.otherR ?_ ?_); (focus ((simp <;> omega); done))))); done)); obtain ⟨q70, z70, n70⟩ := B7.facts) | skip); (first | ((refine (fun (B7 : Blk w4 (w2.heap.size) #[.float .f64 0, .float .f64 0, .float .f64 0, .float .f64 0, .int .i64 0] 38) => ?_) ?_); rotate_left; (focus ((repeat (first | with_reducible assumption | with_reducible exact Blk.new _ _ _ | ((with_reducible refine Blk.new' _ _ _ ?_); (focus ((simp; done)))) | with_reducible apply Blk.drew | with_reducible apply Blk.drewN | with_reducible refine Blk.alloc ?_ _ | with_reducible apply Blk.same | (with_reducible refine Blk.bel ?_ (by with_reducible assumption)) | ((with_reducible refine Blk.otherR ?_ ?_); (focus ((simp <;> omega); done))))); done)); obtain ⟨q71, z71, n71⟩ := B7.facts) | skip); (first | ((refine (fun (B7 : Blk w4 (w3.heap.size) #[.float .f64 0, .float .f64 0, .float .f64 0, .float .f64 0, .int .i64 0] 38) => ?_) ?_); rotate_left; (focus ((repeat (first | with_reducible assumption | with_reducible exact Blk.new _ _ _ | ((with_reducible refine Blk.new' _ _ _ ?_); (focus ((simp; done)))) | with_reducible apply Blk.drew | with_reducible apply Blk.drewN | with_reducible refine Blk.alloc ?_ _ | with_reducible apply Blk.same | (with_reducible refine Blk.bel ?_ (by with_reducible assumption)) | ((with_reducible refine Blk.otherR ?_ ?_); (focus ((simp <;> omega); done))))); done)); obtain ⟨q72, z72, n72⟩ := B7.facts) | skip)))
    all_goals
      go_wp2_with fail
    all_goals
      go_meet
      exact ⟨_, _, rfl, by (apply Blk.cast; (repeat (first | with_reducible assumption | with_reducible apply Blk.set | ((with_reducible apply Blk.otherR); (focus ((simp <;> omega); done))) | with_reducible exact Blk.new _ _ _ | ((with_reducible apply Blk.new'); (focus (simp; done))) | with_reducible apply Blk.alloc | with_reducible apply Blk.drew | with_reducible apply Blk.drewN | (with_reducible refine Blk.bel ?_ (by with_reducible assumption)))); rfl), I3.out, by (repeat (first | with_reducible assumption | with_reducible exact Bel.refl _ | with_reducible apply Bel.alloc | with_reducible apply Bel.drew | with_reducible apply Bel.drewN | ((with_reducible apply Bel.setCellR); (simp <;> omega)) | with_reducible refine Bel.behind (by with_reducible assumption) ?_))⟩
  case rest =>
  rename_i wd ud hcut2
  obtain ⟨g9, t, rfl, C9, K9, hbd⟩ := hcut
  replace K9 := Lib.hid K9
  replace B0 := B0.bel hbd
  replace B1 := B1.bel hbd
  replace C7 := C7.bel hbd
  replace C8 := C8.bel hbd
  clear r0 z0 n0 r1 z1 n1
  go_upto_region 5 with fail
  obtain ⟨r0, z0, n0⟩ := B0.facts
  obtain ⟨r1, z1, n1⟩ := B1.facts
  go_upto_region 6 with (go_at_call 13; (with_reducible refine (l5.out _).mono ?_); rintro e1 w5 ⟨m, rfl, i, hb5⟩)
  replace B0 := (B0.bel hb5).alloc (.cells #[.float .f64 m.x, .float .f64 m.y, .float .f64 m.z, .float .f64 m.m, .int .i64 d] 38)
  replace C7 := (C7.bel hb5).alloc (.cells #[.float .f64 m.x, .float .f64 m.y, .float .f64 m.z, .float .f64 m.m, .int .i64 d] 38)
  replace C8 := (C8.bel hb5).alloc (.cells #[.float .f64 m.x, .float .f64 m.y, .float .f64 m.z, .float .f64 m.m, .int .i64 d] 38)
  replace C9 := (C9.bel hb5).alloc (.cells #[.float .f64 m.x, .float .f64 m.y, .float .f64 m.z, .float .f64 m.m, .int .i64 d] 38)
  have C10 := Blk.new w5 #[.float .f64 m.x, .float .f64 m.y, .float .f64 m.z, .float .f64 m.m, .int .i64 d] 38
  clear r0 z0 n0 r1 z1 n1
  obtain ⟨r0, z0, n0⟩ := B0.facts
  obtain ⟨r7, z7, n7⟩ := C7.facts
  obtain ⟨r8, z8, n8⟩ := C8.facts
  obtain ⟨r9, z9, n9⟩ := C9.facts
  obtain ⟨r10, z10, n10⟩ := C10.facts
  have o1 := order_same K7.out.x K8.out.x (lp_turn6 j _ _)
  have o2 := order_same K7.out.y K8.out.y (lp_turn6 j _ _)
  have o3 := order_half K9.out.x i.x
  have o4 := order_half K9.out.y i.y
  have hbz : Bel w (w5.alloc (.cells #[.float .f64 m.x, .float .f64 m.y, .float .f64 m.z, .float .f64 m.m, .int .i64 d] 38)) := (((hbw.trans hbx).trans hbd).trans hb5).alloc _
  go_wp2
  go_ret
  exact ⟨rfl, hbz⟩
end Go.Proofs.Ytnpgmoiiiemghaa
