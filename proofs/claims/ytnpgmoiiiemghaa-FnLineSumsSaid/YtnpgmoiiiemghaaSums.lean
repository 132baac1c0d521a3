/-
  The sums of a line string: the middles of its segments, each times its length, and its length. No panic; what stood in memory has not turned.
-/
import Derived.Test.YtnpgmoiiiemghaaRun
import Derived.Deep.DeepCutAuto
namespace Go.Proofs.Ytnpgmoiiiemghaa
open Go.ChangeShapes Go.WideShapes Go.ChangeAt Go.RowKit
theorem xyAdd_any (a b c d r1 r2 : Nat) (h1 : floatBits .add .f64 a c = some r1) (h2 : floatBits .add .f64 b d = some r2) (w : World) :
    Calls Try.prog 64 #[.agg #[.float .f64 a, .float .f64 b], .agg #[.float .f64 c, .float .f64 d]] w fun e w' => e = .returned (.agg #[.float .f64 r1, .float .f64 r2]) ∧ Bel w w' := by
  have f1 := ra .add a c r1 h1
  have f2 := ra .add b d r2 h2
  clear h1 h2
  go_enter Try.func64, Try.ntmps64
  go_wp2
  refine post_ret (results_one rfl (resIs_agg (n := 2) (cs := #[.float .f64 r1, .float .f64 r2]) (by rfl) Try.underlying68 (by kernel_rfl) (T := 68) ?_ rfl)) ⟨rfl, ?_⟩
  · (repeat (first | with_reducible assumption | with_reducible exact Blk.new _ _ _ | ((with_reducible refine Blk.new' _ _ _ ?_); (focus ((simp; done)))) | with_reducible apply Blk.drew | with_reducible apply Blk.drewN | with_reducible refine Blk.alloc ?_ _ | with_reducible apply Blk.same | (with_reducible refine Blk.bel ?_ (by with_reducible assumption)) | ((with_reducible refine Blk.otherR ?_ ?_); (focus ((simp <;> omega); done)))))
  · (repeat (first | with_reducible assumption | with_reducible exact Bel.refl _ | with_reducible apply Bel.alloc | with_reducible apply Bel.drew | with_reducible apply Bel.drewN | ((with_reducible apply Bel.setCellR); (simp <;> omega)) | with_reducible refine Bel.behind (by with_reducible assumption) ?_))
theorem xyScale_any (a b s r1 r2 : Nat) (h1 : floatBits .mul .f64 a s = some r1) (h2 : floatBits .mul .f64 b s = some r2) (w : World) :
    Calls Try.prog 65 #[.agg #[.float .f64 a, .float .f64 b], .float .f64 s] w fun e w' => e = .returned (.agg #[.float .f64 r1, .float .f64 r2]) ∧ Bel w w' := by
  have f1 := ra .mul a s r1 h1
  have f2 := ra .mul b s r2 h2
  clear h1 h2
  go_enter Try.func65, Try.ntmps65
  go_wp2
  refine post_ret (results_one rfl (resIs_agg (n := 2) (cs := #[.float .f64 r1, .float .f64 r2]) (by rfl) Try.underlying68 (by kernel_rfl) (T := 68) ?_ rfl)) ⟨rfl, ?_⟩
  · (repeat (first | with_reducible assumption | with_reducible exact Blk.new _ _ _ | ((with_reducible refine Blk.new' _ _ _ ?_); (focus ((simp; done)))) | with_reducible apply Blk.drew | with_reducible apply Blk.drewN | with_reducible refine Blk.alloc ?_ _ | with_reducible apply Blk.same | (with_reducible refine Blk.bel ?_ (by with_reducible assumption)) | ((with_reducible refine Blk.otherR ?_ ?_); (focus ((simp <;> omega); done)))))
  · (repeat (first | with_reducible assumption | with_reducible exact Bel.refl _ | with_reducible apply Bel.alloc | with_reducible apply Bel.drew | with_reducible apply Bel.drewN | ((with_reducible apply Bel.setCellR); (simp <;> omega)) | with_reducible refine Bel.behind (by with_reducible assumption) ?_))
theorem lineLength_any (a b c d r1 r2 m1 m2 s r : Nat) (h1 : floatBits .sub .f64 c a = some r1) (h2 : floatBits .sub .f64 d b = some r2) (h3 : floatBits .mul .f64 r1 r1 = some m1) (h4 : floatBits .mul .f64 r2 r2 = some m2) (h5 : floatBits .add .f64 m1 m2 = some s) (h6 : FloatKind.f64.format.sqrt s = some r) (w : World) :
    Calls Try.prog 62 #[.agg #[.float .f64 a, .float .f64 b, .float .f64 c, .float .f64 d]] w fun e w' => e = .returned (.float .f64 r) ∧ Bel w w' := by
  have l := Lib.hid fun w => dist_any a b c d r1 r2 m1 m2 s r h1 h2 h3 h4 h5 h6 w
  clear h1 h2 h3 h4 h5 h6
  go_enter Try.func62, Try.ntmps62
  go_wp2_with (go_at_call 55; refine (l.out _).mono ?_; rintro e w1 ⟨rfl, hb1⟩)
  go_ret
  exact ⟨rfl, by (repeat (first | with_reducible assumption | with_reducible exact Bel.refl _ | with_reducible apply Bel.alloc | with_reducible apply Bel.drew | with_reducible apply Bel.drewN | ((with_reducible apply Bel.setCellR); (simp <;> omega)) | with_reducible refine Bel.behind (by with_reducible assumption) ?_))⟩
theorem lineCentroid_any (a b c d t1 t2 h1 h2 : Nat) (e1 : floatBits .add .f64 a c = some t1) (e2 : floatBits .add .f64 b d = some t2) (e3 : floatBits .mul .f64 4602678819172646912 t1 = some h1) (e4 : floatBits .mul .f64 4602678819172646912 t2 = some h2) (w : World) :
    Calls Try.prog 63 #[.agg #[.float .f64 a, .float .f64 b, .float .f64 c, .float .f64 d]] w fun e w' => e = .returned (.agg #[.float .f64 h1, .float .f64 h2]) ∧ Bel w w' := by
  have f1 := ra .add a c t1 e1
  have f2 := ra .add b d t2 e2
  have f3 := ra .mul _ t1 h1 e3
  have f4 := ra .mul _ t2 h2 e4
  clear e1 e2 e3 e4
  go_enter Try.func63, Try.ntmps63
  go_wp2
  refine post_ret (results_one rfl (resIs_agg (n := 2) (cs := #[.float .f64 h1, .float .f64 h2]) (by rfl) Try.underlying68 (by kernel_rfl) (T := 68) ?_ rfl)) ⟨rfl, ?_⟩
  · (repeat (first | with_reducible assumption | with_reducible exact Blk.new _ _ _ | ((with_reducible refine Blk.new' _ _ _ ?_); (focus ((simp; done)))) | with_reducible apply Blk.drew | with_reducible apply Blk.drewN | with_reducible refine Blk.alloc ?_ _ | with_reducible apply Blk.same | (with_reducible refine Blk.bel ?_ (by with_reducible assumption)) | ((with_reducible refine Blk.otherR ?_ ?_); (focus ((simp <;> omega); done)))))
  · (repeat (first | with_reducible assumption | with_reducible exact Bel.refl _ | with_reducible apply Bel.alloc | with_reducible apply Bel.drew | with_reducible apply Bel.drewN | ((with_reducible apply Bel.setCellR); (simp <;> omega)) | with_reducible refine Bel.behind (by with_reducible assumption) ?_))
theorem getLine_zero (v : Value) (p : Option Addr) (n cap : Nat) (hv : v = .agg #[.int .u8 0, .slice p n cap]) (w : World) :
    Calls Try.prog 61 #[v, .int .i64 0] w fun e w' => e = .returned (.tuple #[.agg #[.float .f64 0, .float .f64 0, .float .f64 0, .float .f64 0], .bool false]) ∧ Bel w w' := by
  subst hv
  go_enter Try.func61, Try.ntmps61
  go_wp2
  refine post_ret (results_two rfl (resIs_agg (n := 4) (cs := #[.float .f64 0, .float .f64 0, .float .f64 0, .float .f64 0]) (by rfl) Try.underlying104 (by kernel_rfl) (T := 104) ?_ rfl) (resIs_tmp (by rfl))) ⟨rfl, ?_⟩
  · (repeat (first | with_reducible assumption | with_reducible exact Blk.new _ _ _ | ((with_reducible refine Blk.new' _ _ _ ?_); (focus ((simp; done)))) | with_reducible apply Blk.drew | with_reducible apply Blk.drewN | with_reducible refine Blk.alloc ?_ _ | with_reducible apply Blk.same | (with_reducible refine Blk.bel ?_ (by with_reducible assumption)) | ((with_reducible refine Blk.otherR ?_ ?_); (focus ((simp <;> omega); done)))))
  · (repeat (first | with_reducible assumption | with_reducible exact Bel.refl _ | with_reducible apply Bel.alloc | with_reducible apply Bel.drew | with_reducible apply Bel.drewN | ((with_reducible apply Bel.setCellR); (simp <;> omega)) | with_reducible refine Bel.behind (by with_reducible assumption) ?_))
def sameXY (a b c d : Nat) : Bool := (FloatKind.f64.format.order a c == some .eq) && (FloatKind.f64.format.order b d == some .eq)
set_option maxRecDepth 100000 in
theorem getLine_at (F : Nat → Prop) (p : Option Addr) (n cap i : Nat) (xs : List Nat) (w : World) (h : FlSl F w (.slice p n cap) xs) (hi : (i + 1) * 2 + 1 < n) (h31 : n ≤ 2147483647) (a b c d : Nat) (x1 : xs[i * 2]? = some a) (x2 : xs[i * 2 + 1]? = some b) (x3 : xs[(i + 1) * 2]? = some c) (x4 : xs[(i + 1) * 2 + 1]? = some d) :
    Calls Try.prog 61 #[.agg #[.int .u8 0, .slice p n cap], .int .i64 ((i : Int) + 1)] w fun e w' => e = .returned (.tuple #[.agg #[.float .f64 a, .float .f64 b, .float .f64 c, .float .f64 d], .bool (!sameXY a b c d)]) ∧ Bel w w' := by
  have HX := Lib.hid h
  have X1 := Lib.hid x1
  have X2 := Lib.hid x2
  have X3 := Lib.hid x3
  have X4 := Lib.hid x4
  clear h x1 x2 x3 x4
  obtain ⟨S, hS⟩ : ∃ S, sameXY a b c d = S := ⟨_, rfl⟩
  rw [hS]
  have HS := Lib.hid hS
  clear hS
  have hz : ((i : Int) + 1 == 0) = false := by simp; omega
  have w0 : IntKind.i64.wrap (i : Int) = (i : Int) := IntWalk.i64_in _ (by omega)
  go_enter Try.func61, Try.ntmps61
  go_upto_region 3 with fail
  have BR : Blk ((w.alloc (.cells #[.int .u8 0, .slice p n cap] 61)).alloc (.cells #[.float .f64 0, .float .f64 0, .float .f64 0, .float .f64 0] 104)) (w.heap.size + 1) #[.float .f64 0, .float .f64 0, .float .f64 0, .float .f64 0] 104 := Blk.new' _ _ _ (by simp)
  go_cut [6] (fun s6 wx => ∃ g, s6 = .pointer (some ⟨g, 0, none⟩) ∧ Blk wx g #[.float .f64 a, .float .f64 b, .float .f64 c, .float .f64 d] 104 ∧ Blk wx (w.heap.size + 1) #[.float .f64 0, .float .f64 0, .float .f64 0, .float .f64 0] 104 ∧ w.heap.size + 1 < g ∧ Bel w wx)
  case first =>
    go_region_held3 (fun w' => (∀ o, w'.cell? ⟨w.heap.size, o, none⟩ = (#[Value.int .u8 0, .slice p n cap] : Array Value)[o]?) ∧ Blk w' w.heap.size #[.int .u8 0, .slice p n cap] 61 ∧ Bel w w')
      ((refine keep1i ?_ ?_ <;> (first | ((repeat (first | with_reducible assumption | with_reducible exact Blk.new _ _ _ | ((with_reducible refine Blk.new' _ _ _ ?_); (focus ((simp; done)))) | with_reducible apply Blk.drew | with_reducible apply Blk.drewN | with_reducible refine Blk.alloc ?_ _ | with_reducible apply Blk.same | (with_reducible refine Blk.bel ?_ (by with_reducible assumption)) | ((with_reducible refine Blk.otherR ?_ ?_); (focus ((simp <;> omega); done))))); done) | ((repeat (first | with_reducible assumption | with_reducible exact Bel.refl _ | with_reducible apply Bel.alloc | with_reducible apply Bel.drew | with_reducible apply Bel.drewN | ((with_reducible apply Bel.setCellR); (simp <;> omega)) | with_reducible refine Bel.behind (by with_reducible assumption) ?_)); done))))
      (first
        | (go_at_call 54; (with_reducible refine (getXY_int F p n cap i _ (by rfl) xs _ (HX.out.bel ?hb) ?h1 ?h2 a b X1.out X2.out).mono ?_); (case hb => (repeat (first | with_reducible assumption | with_reducible exact Bel.refl _ | with_reducible apply Bel.alloc | with_reducible apply Bel.drew | with_reducible apply Bel.drewN | ((with_reducible apply Bel.setCellR); (simp <;> omega)) | with_reducible refine Bel.behind (by with_reducible assumption) ?_))); (case h1 => (clear w0; omega)); (case h2 => (clear w0; omega)); rintro e w4 ⟨rfl, hb4⟩; have hl4 := hb4.size; (try simp at hl4); (first | ((refine (fun (B7 : Blk w4 (w.heap.size + 1 + 1) #[.float .f64 0, .float .f64 0, .float .f64 0, .float .f64 0] 104) => ?_) ?_); rotate_left; (focus ((repeat (first | with_reducible assumption | with_reducible exact Blk.new _ _ _ | ((with_reducible refine Blk.new' _ _ _ ?_); (focus ((simp; done)))) | with_reducible apply Blk.drew | with_reducible apply Blk.drewN | with_reducible refine Blk.alloc ?_ _ | with_reducible apply Blk.same | (with_reducible refine Blk.bel ?_ (by with_reducible assumption)) | ((with_reducible refine Blk.otherR ?_ ?_); (focus ((simp <;> omega); done))))); done)); obtain ⟨q71, z71, n71⟩ := B7.facts) | skip))
        | (go_at_call 54; (with_reducible refine (getXY_int F p n cap (i + 1) _ ?h0 xs _ (HX.out.bel ?hb) ?h1 ?h2 c d X3.out X4.out).mono ?_); (case hb => (repeat (first | with_reducible assumption | with_reducible exact Bel.refl _ | with_reducible apply Bel.alloc | with_reducible apply Bel.drew | with_reducible apply Bel.drewN | ((with_reducible apply Bel.setCellR); (simp <;> omega)) | with_reducible refine Bel.behind (by with_reducible assumption) ?_))); (case h0 => (clear w0; omega)); (case h1 => (clear w0; omega)); (case h2 => (clear w0; omega)); rintro e w5 ⟨rfl, hb5⟩; have hl5 := hb5.size; (try simp at hl5); (first | ((refine (fun (B7 : Blk w5 (w.heap.size + 1 + 1) #[.float .f64 0, .float .f64 0, .float .f64 0, .float .f64 0] 104) => ?_) ?_); rotate_left; (focus ((repeat (first | with_reducible assumption | with_reducible exact Blk.new _ _ _ | ((with_reducible refine Blk.new' _ _ _ ?_); (focus ((simp; done)))) | with_reducible apply Blk.drew | with_reducible apply Blk.drewN | with_reducible refine Blk.alloc ?_ _ | with_reducible apply Blk.same | (with_reducible refine Blk.bel ?_ (by with_reducible assumption)) | ((with_reducible refine Blk.otherR ?_ ?_); (focus ((simp <;> omega); done))))); done)); obtain ⟨q72, z72, n72⟩ := B7.facts) | skip); (first | ((refine (fun (B7 : Blk w5 (w4.heap.size) #[.float .f64 0, .float .f64 0, .float .f64 0, .float .f64 0] 104) => ?_) ?_); rotate_left; (focus ((repeat (first | with_reducible assumption | with_reducible exact Blk.new _ _ _ | ((with_reducible refine Blk.new' _ _ _ ?_); (focus ((simp; done)))) | with_reducible apply Blk.drew | with_reducible apply Blk.drewN | with_reducible refine Blk.alloc ?_ _ | with_reducible apply Blk.same | (with_reducible refine Blk.bel ?_ (by with_reducible assumption)) | ((with_reducible refine Blk.otherR ?_ ?_); (focus ((simp <;> omega); done))))); done)); obtain ⟨q73, z73, n73⟩ := B7.facts) | skip)))
    all_goals
      go_wp2
    all_goals
      go_meet
      exact ⟨_, rfl, by (apply Blk.cast; (repeat (first | with_reducible assumption | with_reducible apply Blk.set | ((with_reducible apply Blk.otherR); (focus ((simp <;> omega); done))) | with_reducible exact Blk.new _ _ _ | ((with_reducible apply Blk.new'); (focus (simp; done))) | with_reducible apply Blk.alloc | with_reducible apply Blk.drew | with_reducible apply Blk.drewN | (with_reducible refine Blk.bel ?_ (by with_reducible assumption)))); rfl), by (repeat (first | with_reducible assumption | with_reducible exact Blk.new _ _ _ | ((with_reducible refine Blk.new' _ _ _ ?_); (focus ((simp; done)))) | with_reducible apply Blk.drew | with_reducible apply Blk.drewN | with_reducible refine Blk.alloc ?_ _ | with_reducible apply Blk.same | (with_reducible refine Blk.bel ?_ (by with_reducible assumption)) | ((with_reducible refine Blk.otherR ?_ ?_); (focus ((simp <;> omega); done))))), by omega, by (repeat (first | with_reducible assumption | with_reducible exact Bel.refl _ | with_reducible apply Bel.alloc | with_reducible apply Bel.drew | with_reducible apply Bel.drewN | ((with_reducible apply Bel.setCellR); (simp <;> omega)) | with_reducible refine Bel.behind (by with_reducible assumption) ?_))⟩
  case rest =>
  obtain ⟨g, rfl, C6, B1, hg, hbx⟩ := hcut
  obtain ⟨r6, z6, n6⟩ := C6.facts
  obtain ⟨r1, z1, n1⟩ := B1.facts
  obtain ⟨b1, hb1⟩ : ∃ b1, (FloatKind.f64.format.order a c == some .eq) = b1 := ⟨_, rfl⟩
  obtain ⟨b2, hb2⟩ : ∃ b2, (FloatKind.f64.format.order b d == some .eq) = b2 := ⟨_, rfl⟩
  have hS := HS.out
  unfold sameXY at hS
  rw [hb1, hb2] at hS
  cases b1 <;> cases b2 <;> simp at hS <;> subst hS
  all_goals
    go_wp2
    go_region_held3 (fun w' => (∀ o, w'.cell? ⟨g, o, none⟩ = (#[Value.float .f64 a, .float .f64 b, .float .f64 c, .float .f64 d] : Array Value)[o]?) ∧ Blk w' g #[.float .f64 a, .float .f64 b, .float .f64 c, .float .f64 d] 104 ∧ Bel w w')
      ((refine keep1i ?_ ?_ <;> (first | ((repeat (first | with_reducible assumption | with_reducible exact Blk.new _ _ _ | ((with_reducible refine Blk.new' _ _ _ ?_); (focus ((simp; done)))) | with_reducible apply Blk.drew | with_reducible apply Blk.drewN | with_reducible refine Blk.alloc ?_ _ | with_reducible apply Blk.same | (with_reducible refine Blk.bel ?_ (by with_reducible assumption)) | ((with_reducible refine Blk.otherR ?_ ?_); (focus ((simp <;> omega); done))))); done) | ((repeat (first | with_reducible assumption | with_reducible exact Bel.refl _ | with_reducible apply Bel.alloc | with_reducible apply Bel.drew | with_reducible apply Bel.drewN | ((with_reducible apply Bel.setCellR); (simp <;> omega)) | with_reducible refine Bel.behind (by with_reducible assumption) ?_)); done))))
      (fail)
    all_goals
      go_wp2
    all_goals
      refine post_ret (results_two rfl (resIs_agg (n := 4) (cs := #[.float .f64 a, .float .f64 b, .float .f64 c, .float .f64 d]) (by rfl) Try.underlying104 (by kernel_rfl) (T := 104) ?_ rfl) (resIs_tmp (by rfl))) ⟨rfl, ?_⟩
      · (apply Blk.cast; (repeat (first | with_reducible assumption | with_reducible apply Blk.set | ((with_reducible apply Blk.otherR); (focus ((simp <;> omega); done))) | with_reducible exact Blk.new _ _ _ | ((with_reducible apply Blk.new'); (focus (simp; done))) | with_reducible apply Blk.alloc | with_reducible apply Blk.drew | with_reducible apply Blk.drewN | (with_reducible refine Blk.bel ?_ (by with_reducible assumption)))); rfl)
      · (repeat (first | with_reducible assumption | with_reducible exact Bel.refl _ | with_reducible apply Bel.alloc | with_reducible apply Bel.drew | with_reducible apply Bel.drewN | ((with_reducible apply Bel.setCellR); (simp <;> omega)) | with_reducible refine Bel.behind (by with_reducible assumption) ?_))
end Go.Proofs.Ytnpgmoiiiemghaa
