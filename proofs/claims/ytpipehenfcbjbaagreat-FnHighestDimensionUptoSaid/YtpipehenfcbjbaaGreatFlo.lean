/-
  Plain facts on the model's floats (no program): a number less itself, how two numbers stand to each other, and what comes of an operation without an answer. No condition.
-/
import Derived.Laws.FloatArith
import Derived.Laws.Cover3
namespace Go.Proofs.YtpipehenfcbjbaaGreat
open Ieee

/-- Is it a number (no infinity, no NaN)? -/
def finB (x : Nat) : Bool := match double.read x with | .number .. => true | _ => false

/-- A NaN of the model's: some bits that the tape picks. -/
def nanOf (t : Nat) : Nat := (t % 2) * 2 ^ 63 + 0x7ff0000000000000 + 1 + (t / 2) % (2 ^ 52 - 1)

theorem read_nanOf (t : Nat) : ∃ s m, double.read (nanOf t) = .nan s m := by
  have h1 : (t / 2) % (2 ^ 52 - 1) < 2 ^ 52 - 1 := Nat.mod_lt _ (by decide)
  have h2 : t % 2 < 2 := Nat.mod_lt _ (by decide)
  unfold nanOf
  generalize (t / 2) % (2 ^ 52 - 1) = f at *
  generalize t % 2 = s at *
  have e1 : double.signWeight = 2 ^ 63 := by decide
  have e2 : double.infRung = 0x7ff0000000000000 := by decide
  have e3 : double.binade = 2 ^ 52 := by decide
  have hr : (s * 2 ^ 63 + 0x7ff0000000000000 + 1 + f) % 2 ^ 63 = 0x7ff0000000000000 + 1 + f := by omega
  simp only [Format.read, e1, e2, e3, hr]
  rw [if_neg (by omega), if_neg (by omega), if_neg (by omega)]
  exact ⟨_, _, rfl⟩

theorem add_nan_left (t y : Nat) : FloatKind.f64.format.add (nanOf t) y = none := by
  obtain ⟨s, m, h⟩ := read_nanOf t
  show (((double.read (nanOf t)).sum (double.read y)).map double.write) = none
  rw [h]; rfl

theorem sum_nan_right (d : Datum) (s : Bool) (m : Nat) : d.sum (.nan s m) = none := by
  cases d <;> rfl

theorem add_nan_right (t y : Nat) : FloatKind.f64.format.add y (nanOf t) = none := by
  obtain ⟨s, m, h⟩ := read_nanOf t
  show (((double.read y).sum (double.read (nanOf t))).map double.write) = none
  rw [h, sum_nan_right]; rfl

theorem order_nan_left (t y : Nat) : FloatKind.f64.format.order (nanOf t) y = none := by
  obtain ⟨s, m, h⟩ := read_nanOf t
  show (double.read (nanOf t)).order (double.read y) = none
  rw [h]; rfl

theorem sub_self_fin {x : Nat} (h : finB x = true) : FloatKind.f64.format.sub x x = some 0 := by
  show (((double.read x).sum (double.read x).opposite).map double.write) = some 0
  unfold finB at h
  cases hx : double.read x with
  | number s m i =>
    simp only [Datum.opposite, Datum.sum, Option.map_some]
    have e : signed s m (i - min i i).toNat + signed (!s) m (i - min i i).toNat = 0 := by
      unfold signed
      cases s <;> simp <;> omega
    rw [e]
    simp only [if_true, Int.natAbs_zero]
    cases s <;> rfl
  | infinity s => rw [hx] at h; cases h
  | nan s m => rw [hx] at h; cases h

theorem sub_self_inf {x : Nat} (h : finB x = false) : FloatKind.f64.format.sub x x = none := by
  show (((double.read x).sum (double.read x).opposite).map double.write) = none
  unfold finB at h
  cases hx : double.read x with
  | number s m i => rw [hx] at h; cases h
  | infinity s => cases s <;> rfl
  | nan s m => rfl

/-- -/
theorem order_self {x : Nat} (h : finB x = true) : FloatKind.f64.format.order x x = some .eq := by
  show (double.read x).order (double.read x) = some .eq
  unfold finB at h
  cases hx : double.read x with
  | number s m i => simp only [Datum.order, Std.ReflCmp.compare_self]
  | infinity s => rw [hx] at h; cases h
  | nan s m => rw [hx] at h; cases h

theorem order_swap (x y : Nat) : FloatKind.f64.format.order y x = (FloatKind.f64.format.order x y).map Ordering.swap := by
  show (double.read y).order (double.read x) = ((double.read x).order (double.read y)).map Ordering.swap
  cases double.read x with
  | number s m i =>
    cases double.read y with
    | number t n j =>
      simp only [Datum.order, Option.map_some, Int.min_comm j i]
      rw [← Std.OrientedCmp.eq_swap]
    | infinity t => cases t <;> rfl
    | nan t n => rfl
  | infinity s =>
    cases double.read y with
    | number t n j => cases s <;> rfl
    | infinity t => cases t <;> cases s <;> rfl
    | nan t n => rfl
  | nan s m => cases double.read y <;> rfl

theorem order_zero : FloatKind.f64.format.order 0 0 = some .eq := by decide
theorem add_zero_zero : FloatKind.f64.format.add 0 0 = some 0 := by decide

/-- The NaN that an operation without an answer gives in a world. -/
def nanAt (w : World) (x y : Nat) : Nat := nanOf (w.tape w.drawn (.nanBits .f64 x y))
theorem add_nanAt_left (w : World) (a b y : Nat) : FloatKind.f64.format.add (nanAt w a b) y = none := add_nan_left _ _
theorem add_nanAt_right (w : World) (a b y : Nat) : FloatKind.f64.format.add y (nanAt w a b) = none := add_nan_right _ _
theorem order_nanAt_left (w : World) (a b y : Nat) : FloatKind.f64.format.order (nanAt w a b) y = none := order_nan_left _ _

section
variable {P : Program}
/-- '==' of two floats within a struct. -/
@[go_sem] theorem run_equalIn_float (w : World) (d : Nat) (t : TypeId) (k k' : FloatKind) (a b : Nat) (h : P.underlying t = some (.float k')) : (Op.equalIn (d + 1) t (.float k a) (.float k b)).run P w = .ok (k.format.order a b == some .eq) w := by
  simp [Op.equalIn, run_underlying h, Op.floatEq]

/-- The walk's law: an operation without an answer gives a NaN. -/
theorem run_float_nan (op : BinOp) (t : TypeId) (x y : Nat) (hop : op = .add ∨ op = .sub ∨ op = .mul ∨ op = .quo) (h : floatBits op .f64 x y = none) (w : World) :
    (binOp op t (.float .f64 x) (.float .f64 y)).run P w = .ok (.float .f64 (nanAt w x y)) w.drew := by
  unfold floatBits at h
  rcases hop with rfl | rfl | rfl | rfl <;> simp only at h <;> (simp [binOp, Op.floatArith, h]; rfl)

theorem run_sub_self_fin {x : Nat} (h : finB x = true) (t : TypeId) (w : World) : (binOp .sub t (.float .f64 x) (.float .f64 x)).run P w = .ok (.float .f64 0) w :=
  run_float_arith w .sub t .f64 x x 0 (sub_self_fin h)
theorem run_sub_self_inf {x : Nat} (h : finB x = false) (t : TypeId) (w : World) : (binOp .sub t (.float .f64 x) (.float .f64 x)).run P w = .ok (.float .f64 (nanAt w x x)) w.drew :=
  run_float_nan .sub t x x (by simp) (sub_self_inf h) w
theorem run_add_nan_left (t : TypeId) (v : World) (a b y : Nat) (w : World) : (binOp .add t (.float .f64 (nanAt v a b)) (.float .f64 y)).run P w = .ok (.float .f64 (nanAt w (nanAt v a b) y)) w.drew :=
  run_float_nan .add t _ y (by simp) (add_nanAt_left v a b y) w
theorem run_add_nan_right (t : TypeId) (v : World) (a b y : Nat) (w : World) : (binOp .add t (.float .f64 y) (.float .f64 (nanAt v a b))).run P w = .ok (.float .f64 (nanAt w y (nanAt v a b))) w.drew :=
  run_float_nan .add t y _ (by simp) (add_nanAt_right v a b y) w
theorem run_add_zeros (t : TypeId) (w : World) : (binOp .add t (.float .f64 0) (.float .f64 0)).run P w = .ok (.float .f64 0) w :=
  run_float_arith w .add t .f64 0 0 0 add_zero_zero
end
end Go.Proofs.YtpipehenfcbjbaaGreat
