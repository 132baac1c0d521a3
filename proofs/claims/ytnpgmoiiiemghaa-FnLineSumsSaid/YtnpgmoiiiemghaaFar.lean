/-
  Arithmetic on places of floats: Sub, Dot, distanceTo, Sqrt. No panic; what stood in memory has not turned.
-/
import Derived.Test.YtnpgmoiiiemghaaFs
import Derived.Test.YtnpgmoiiiemghaaRat
import Derived.Laws.FloatArith
import Derived.Laws.Externs
namespace Go.Proofs.Ytnpgmoiiiemghaa
open Go.ChangeShapes Go.WideShapes Go.ChangeAt Go.RowKit
theorem ra (op : BinOp) (x y r : Nat) (h : floatBits op .f64 x y = some r) (t : TypeId) (w : World) : (binOp op t (.float .f64 x) (.float .f64 y)).run Try.prog w = .ok (.float .f64 r) w := run_float_arith w op t .f64 x y r h

theorem xySub_any (a b c d r1 r2 : Nat) (h1 : floatBits .sub .f64 a c = some r1) (h2 : floatBits .sub .f64 b d = some r2) (w : World) :
    Calls Try.prog 91 #[.agg #[.float .f64 a, .float .f64 b], .agg #[.float .f64 c, .float .f64 d]] w fun e w' => e = .returned (.agg #[.float .f64 r1, .float .f64 r2]) ∧ Bel w w' := by
  have f1 := ra .sub a c r1 h1
  have f2 := ra .sub b d r2 h2
  clear h1 h2
  go_enter Try.func91, Try.ntmps91
  go_wp2
  refine post_ret (results_one rfl (resIs_agg (n := 2) (cs := #[.float .f64 r1, .float .f64 r2]) (by rfl) Try.underlying68 (by kernel_rfl) (T := 68) ?_ rfl)) ⟨rfl, ?_⟩
  · (repeat (first | with_reducible assumption | exact Blk.new _ _ _ | exact Blk.new' _ _ _ (by simp; done) | with_reducible apply Blk.drew | with_reducible apply Blk.drewN | with_reducible refine Blk.alloc ?_ _ | with_reducible apply Blk.same | (with_reducible refine Blk.bel ?_ ?_; with_reducible assumption) | (with_reducible refine Blk.otherR ?_ ?_; (simp; done))))
  · (repeat (first | with_reducible assumption | with_reducible exact Bel.refl _ | with_reducible apply Bel.alloc | with_reducible apply Bel.drew | with_reducible apply Bel.drewN | (with_reducible apply Bel.setCellR; (simp <;> omega)) | with_reducible refine Bel.behind (by with_reducible assumption) ?_))
theorem xyDot_any (a b c d m1 m2 s : Nat) (h1 : floatBits .mul .f64 a c = some m1) (h2 : floatBits .mul .f64 b d = some m2) (h3 : floatBits .add .f64 m1 m2 = some s) (w : World) :
    Calls Try.prog 92 #[.agg #[.float .f64 a, .float .f64 b], .agg #[.float .f64 c, .float .f64 d]] w fun e w' => e = .returned (.float .f64 s) ∧ Bel w w' := by
  have f1 := ra .mul a c m1 h1
  have f2 := ra .mul b d m2 h2
  have f3 := ra .add m1 m2 s h3
  clear h1 h2 h3
  go_enter Try.func92, Try.ntmps92
  go_wp2
  go_ret
  exact ⟨rfl, by (repeat (first | with_reducible assumption | with_reducible exact Bel.refl _ | with_reducible apply Bel.alloc | with_reducible apply Bel.drew | with_reducible apply Bel.drewN | (with_reducible apply Bel.setCellR; (simp <;> omega)) | with_reducible refine Bel.behind (by with_reducible assumption) ?_))⟩
theorem sqrt_extern (args : Array Value) (w : World) : (callFunc 26 args).run Try.prog w = ((Extern.MathSqrt.sqrt args).run Try.prog w).andThen fun v w' => .ok (.value v) w' :=
  run_callFunc_extern Try.func26 (by kernel_rfl) (by kernel_rfl) (by kernel_rfl) (by kernel_rfl) args w
theorem sqrt_run (x r : Nat) (h : FloatKind.f64.format.sqrt x = some r) (w : World) : (callFunc 26 #[.float .f64 x]).run Try.prog w = .ok (.value (.float .f64 r)) w := by
  rw [sqrt_extern]
  have e : (Extern.MathSqrt.sqrt #[.float .f64 x]).run Try.prog w = (match FloatKind.f64.format.sqrt x with
    | some r => (pure (.float .f64 r) : Sem Value)
    | none => do pure (.float .f64 (← choose (.nanBits .f64 x x)))).run Try.prog w := rfl
  rw [e, h]
  rfl
theorem sqrt_any (x r : Nat) (h : FloatKind.f64.format.sqrt x = some r) (w : World) :
    Calls Try.prog 10 #[.float .f64 x] w fun e w' => e = .returned (.float .f64 r) ∧ w = w' := by
  have hs := fun w => sqrt_run x r h w
  clear h
  go_enter Try.func10, Try.ntmps10
  go_wp2
  go_ret
  exact ⟨rfl, rfl⟩

/-- Placement of a vector between two places, its square and its length. -/
theorem distSq_any (a b c d r1 r2 m1 m2 s : Nat) (h1 : floatBits .sub .f64 c a = some r1) (h2 : floatBits .sub .f64 d b = some r2) (h3 : floatBits .mul .f64 r1 r1 = some m1) (h4 : floatBits .mul .f64 r2 r2 = some m2) (h5 : floatBits .add .f64 m1 m2 = some s) (w : World) :
    Calls Try.prog 77 #[.agg #[.float .f64 a, .float .f64 b], .agg #[.float .f64 c, .float .f64 d]] w fun e w' => e = .returned (.float .f64 s) ∧ Bel w w' := by
  have h1 := Lib.hid h1
  have h2 := Lib.hid h2
  have h3 := Lib.hid h3
  have h4 := Lib.hid h4
  have h5 := Lib.hid h5
  go_enter Try.func77, Try.ntmps77
  go_wp2_with (first
    | (go_at_call 91; refine (xySub_any c d a b r1 r2 h1.out h2.out _).mono ?_; rintro e w1 ⟨rfl, hb1⟩; have hl := hb1.size; simp at hl)
    | (go_at_call 92; refine (xyDot_any r1 r2 r1 r2 m1 m2 s h3.out h4.out h5.out _).mono ?_; rintro e w2 ⟨rfl, hb2⟩))
  go_ret
  exact ⟨rfl, by (repeat (first | with_reducible assumption | with_reducible exact Bel.refl _ | with_reducible apply Bel.alloc | with_reducible apply Bel.drew | with_reducible apply Bel.drewN | (with_reducible apply Bel.setCellR; (simp <;> omega)) | with_reducible refine Bel.behind (by with_reducible assumption) ?_))⟩
theorem dist_any (a b c d r1 r2 m1 m2 s r : Nat) (h1 : floatBits .sub .f64 c a = some r1) (h2 : floatBits .sub .f64 d b = some r2) (h3 : floatBits .mul .f64 r1 r1 = some m1) (h4 : floatBits .mul .f64 r2 r2 = some m2) (h5 : floatBits .add .f64 m1 m2 = some s) (h6 : FloatKind.f64.format.sqrt s = some r) (w : World) :
    Calls Try.prog 55 #[.agg #[.float .f64 a, .float .f64 b], .agg #[.float .f64 c, .float .f64 d]] w fun e w' => e = .returned (.float .f64 r) ∧ Bel w w' := by
  have h1 := Lib.hid h1
  have h2 := Lib.hid h2
  have h3 := Lib.hid h3
  have h4 := Lib.hid h4
  have h5 := Lib.hid h5
  have h6 := Lib.hid h6
  go_enter Try.func55, Try.ntmps55
  go_wp2_with (first
    | (go_at_call 77; refine (distSq_any a b c d r1 r2 m1 m2 s h1.out h2.out h3.out h4.out h5.out _).mono ?_; rintro e w1 ⟨rfl, hb1⟩)
    | (go_at_call 10; refine (sqrt_any s r h6.out _).mono ?_; rintro e w2 ⟨rfl, rfl⟩))
  go_ret
  exact ⟨rfl, by (repeat (first | with_reducible assumption | with_reducible exact Bel.refl _ | with_reducible apply Bel.alloc | with_reducible apply Bel.drew | with_reducible apply Bel.drewN | (with_reducible apply Bel.setCellR; (simp <;> omega)) | with_reducible refine Bel.behind (by with_reducible assumption) ?_))⟩

set_option maxRecDepth 100000 in
theorem abs_zero (w : World) : Calls Try.prog 15 #[.float .f64 0] w fun e w' => e = .returned (.float .f64 0) ∧ w = w' := by
  have h1 : ∀ w, (callFunc 33 #[.float .f64 0]).run Try.prog w = .ok (.value (.int .u64 0)) w := fun _ => by kernel_rfl
  have h2 : ∀ w, (callFunc 32 #[.int .u64 0]).run Try.prog w = .ok (.value (.float .f64 0)) w := fun _ => by kernel_rfl
  have h3 : bits BinOp.andNot IntKind.u64 0 9223372036854775808 = 0 := by decide
  go_enter Try.func15, Try.ntmps15
  go_wp2
  go_ret
  exact ⟨rfl, rfl⟩
set_option maxRecDepth 100000 in
theorem close20_same (x : Nat) (h : floatBits .sub .f64 x x = some 0) (w : World) : Calls Try.prog 11 #[.float .f64 x, .float .f64 x] w fun e w' => e = .returned (.bool true) ∧ w = w' := by
  have f1 := ra .sub x x 0 h
  clear h
  have ho : FloatKind.f64.format.order 0 4517110426252607488 = some .lt := by decide
  go_enter Try.func11, Try.ntmps11
  go_wp2_with (go_at_call 15; refine (abs_zero _).mono ?_; rintro e w1 ⟨rfl, rfl⟩)
  go_ret
  exact ⟨rfl, rfl⟩
end Go.Proofs.Ytnpgmoiiiemghaa
