/-
  Contracts on boxes of floats: kWhole, kBox, box, fastMin, fastMax, combine, overlap, squaredEuclideanDistance. No panic; what stood in memory has not turned.
-/
import Derived.Test.YtdfamnlmhikolaaDoorTf
import Derived.Laws.FloatArith
import Derived.Laws.StructEq
namespace Go.Proofs.YtdfamnlmhikolaaDoor
open Go.ChangeShapes Go.WideShapes Go.ChangeAt Go.RowKit
theorem bool_cases (b : Bool) : b = true ∨ b = false := by cases b <;> simp
theorem ra (op : BinOp) (x y r : Nat) (h : floatBits op .f64 x y = some r) (t : TypeId) (w : World) : (binOp op t (.float .f64 x) (.float .f64 y)).run Tryd.prog w = .ok (.float .f64 r) w := run_float_arith w op t .f64 x y r h

theorem fastMin_any (a b : Nat) (w : World) : Calls Tryd.prog 43 #[.float .f64 a, .float .f64 b] w fun e w' => e = .returned (.float .f64 (mnB a b)) ∧ w = w' := by
  unfold mnB
  rcases bool_cases (ltB a b) with k | k
  all_goals
    rw [k]
    unfold ltB at k
    simp only [if_true, Bool.false_eq_true, if_false]
    go_enter Tryd.func43, Tryd.ntmps43
    go_wp2
    go_ret
    exact ⟨rfl, rfl⟩
theorem fastMax_any (a b : Nat) (w : World) : Calls Tryd.prog 44 #[.float .f64 a, .float .f64 b] w fun e w' => e = .returned (.float .f64 (mxB a b)) ∧ w = w' := by
  unfold mxB
  rcases bool_cases (gtB a b) with k | k
  all_goals
    rw [k]
    unfold gtB at k
    simp only [if_true, Bool.false_eq_true, if_false]
    go_enter Tryd.func44, Tryd.ntmps44
    go_wp2
    go_ret
    exact ⟨rfl, rfl⟩
theorem combine_any (a b c d x y z u : Nat) (w : World) :
    Calls Tryd.prog 40 #[.agg #[.float .f64 a, .float .f64 b, .float .f64 c, .float .f64 d], .agg #[.float .f64 x, .float .f64 y, .float .f64 z, .float .f64 u]] w
      fun e w' => e = .returned (.agg #[.float .f64 (mnB a x), .float .f64 (mnB b y), .float .f64 (mxB c z), .float .f64 (mxB d u)]) ∧ Bel w w' := by
  go_enter Tryd.func40, Tryd.ntmps40
  go_wp2
  go_region_held3 (fun w' => (∀ o, w'.cell? ⟨w.heap.size, o, none⟩ = (#[.float .f64 a, .float .f64 b, .float .f64 c, .float .f64 d] : Array Value)[o]?) ∧ (∀ o, w'.cell? ⟨w.heap.size + 1, o, none⟩ = (#[.float .f64 x, .float .f64 y, .float .f64 z, .float .f64 u] : Array Value)[o]?) ∧ Blk w' (w.heap.size) #[.float .f64 a, .float .f64 b, .float .f64 c, .float .f64 d] 51 ∧ Blk w' (w.heap.size + 1) #[.float .f64 x, .float .f64 y, .float .f64 z, .float .f64 u] 51 ∧ Bel w w')
    ((refine keep2i ?_ ?_ ?_ <;> (first | ((repeat (first | with_reducible assumption | with_reducible exact Blk.new _ _ _ | ((with_reducible refine Blk.new' _ _ _ ?_); (focus ((simp; done)))) | with_reducible apply Blk.drew | with_reducible apply Blk.drewN | with_reducible refine Blk.alloc ?_ _ | with_reducible apply Blk.same | (with_reducible refine Blk.bel ?_ (by with_reducible assumption)) | ((with_reducible refine Blk.otherR ?_ ?_); (focus ((simp <;> omega); done))))); done) | ((repeat (first | with_reducible assumption | with_reducible exact Bel.refl _ | with_reducible apply Bel.alloc | with_reducible apply Bel.drew | with_reducible apply Bel.drewN | ((with_reducible apply Bel.setCellR); (simp <;> omega)) | with_reducible refine Bel.behind (by with_reducible assumption) ?_)); done))))
    (first
      | (go_at_call 43; (with_reducible refine (fastMin_any _ _ _).mono ?_); rintro e w' ⟨rfl, rfl⟩)
      | (go_at_call 44; (with_reducible refine (fastMax_any _ _ _).mono ?_); rintro e w' ⟨rfl, rfl⟩))
  go_wp2
  refine post_ret (results_one rfl (resIs_agg (n := 4) (cs := #[.float .f64 (mnB a x), .float .f64 (mnB b y), .float .f64 (mxB c z), .float .f64 (mxB d u)]) (by rfl) Tryd.underlying51 (by kernel_rfl) (T := 51) ?_ rfl)) ⟨rfl, ?_⟩
  · (repeat (first | with_reducible assumption | with_reducible exact Blk.new _ _ _ | ((with_reducible refine Blk.new' _ _ _ ?_); (focus ((simp; done)))) | with_reducible apply Blk.drew | with_reducible apply Blk.drewN | with_reducible refine Blk.alloc ?_ _ | with_reducible apply Blk.same | (with_reducible refine Blk.bel ?_ (by with_reducible assumption)) | ((with_reducible refine Blk.otherR ?_ ?_); (focus ((simp <;> omega); done)))))
  · (repeat (first | with_reducible assumption | with_reducible exact Bel.refl _ | with_reducible apply Bel.alloc | with_reducible apply Bel.drew | with_reducible apply Bel.drewN | ((with_reducible apply Bel.setCellR); (simp <;> omega)) | with_reducible refine Bel.behind (by with_reducible assumption) ?_))
theorem overlap_any (a b c d x y z u : Nat) (w : World) :
    Calls Tryd.prog 27 #[.agg #[.float .f64 a, .float .f64 b, .float .f64 c, .float .f64 d], .agg #[.float .f64 x, .float .f64 y, .float .f64 z, .float .f64 u]] w
      fun e w' => e = .returned (.bool (leB a z && geB c x && leB b u && geB d y)) ∧ Bel w w' := by
  rcases bool_cases (leB a z) with k1 | k1
  · rcases bool_cases (geB c x) with k2 | k2
    · rcases bool_cases (leB b u) with k3 | k3
      · rcases bool_cases (geB d y) with k4 | k4
        all_goals
          rw [k1, k2, k3, k4]
          simp only [Bool.and_true, Bool.and_false]
          unfold leB at k1 k3
          unfold geB at k2 k4
          go_enter Tryd.func27, Tryd.ntmps27
          go_wp2
          go_ret
          exact ⟨rfl, by (repeat (first | with_reducible assumption | with_reducible exact Bel.refl _ | with_reducible apply Bel.alloc | with_reducible apply Bel.drew | with_reducible apply Bel.drewN | ((with_reducible apply Bel.setCellR); (simp <;> omega)) | with_reducible refine Bel.behind (by with_reducible assumption) ?_))⟩
      · rw [k1, k2, k3]
        simp only [Bool.and_false, Bool.false_and]
        unfold leB at k1 k3
        unfold geB at k2
        go_enter Tryd.func27, Tryd.ntmps27
        go_wp2
        go_ret
        exact ⟨rfl, by (repeat (first | with_reducible assumption | with_reducible exact Bel.refl _ | with_reducible apply Bel.alloc | with_reducible apply Bel.drew | with_reducible apply Bel.drewN | ((with_reducible apply Bel.setCellR); (simp <;> omega)) | with_reducible refine Bel.behind (by with_reducible assumption) ?_))⟩
    · rw [k1, k2]
      simp only [Bool.and_false, Bool.false_and]
      unfold leB at k1
      unfold geB at k2
      go_enter Tryd.func27, Tryd.ntmps27
      go_wp2
      go_ret
      exact ⟨rfl, by (repeat (first | with_reducible assumption | with_reducible exact Bel.refl _ | with_reducible apply Bel.alloc | with_reducible apply Bel.drew | with_reducible apply Bel.drewN | ((with_reducible apply Bel.setCellR); (simp <;> omega)) | with_reducible refine Bel.behind (by with_reducible assumption) ?_))⟩
  · rw [k1]
    simp only [Bool.false_and]
    unfold leB at k1
    go_enter Tryd.func27, Tryd.ntmps27
    go_wp2
    go_ret
    exact ⟨rfl, by (repeat (first | with_reducible assumption | with_reducible exact Bel.refl _ | with_reducible apply Bel.alloc | with_reducible apply Bel.drew | with_reducible apply Bel.drewN | ((with_reducible apply Bel.setCellR); (simp <;> omega)) | with_reducible refine Bel.behind (by with_reducible assumption) ?_))⟩
theorem BxB.meets {a b c d x y z u : Nat} {p q : Bx} (h : BxB a b c d p) (k : BxB x y z u q) : (leB a z && geB c x && leB b u && geB d y) = p.meets q := by
  rw [h.x0.leB k.x1, h.x1.geB k.x0, h.y0.leB k.y1, h.y1.geB k.y0]
  unfold Bx.meets
  rw [← Bool.decide_and, ← Bool.decide_and, ← Bool.decide_and]
  simp only [decide_eq_decide]
  omega
theorem box_any (a b c d : Nat) (w : World) : Calls Tryd.prog 17 #[.agg #[.float .f64 a, .float .f64 b, .float .f64 c, .float .f64 d]] w fun e w' => e = .returned (.agg #[.float .f64 a, .float .f64 b, .float .f64 c, .float .f64 d]) ∧ Bel w w' := by
  go_enter Tryd.func17, Tryd.ntmps17
  go_wp2
  refine post_ret (results_one rfl (resIs_agg (n := 4) (cs := #[.float .f64 a, .float .f64 b, .float .f64 c, .float .f64 d]) (by rfl) Tryd.underlying51 (by kernel_rfl) (T := 51) ?_ rfl)) ⟨rfl, ?_⟩
  · (repeat (first | with_reducible assumption | with_reducible exact Blk.new _ _ _ | ((with_reducible refine Blk.new' _ _ _ ?_); (focus ((simp; done)))) | with_reducible apply Blk.drew | with_reducible apply Blk.drewN | with_reducible refine Blk.alloc ?_ _ | with_reducible apply Blk.same | (with_reducible refine Blk.bel ?_ (by with_reducible assumption)) | ((with_reducible refine Blk.otherR ?_ ?_); (focus ((simp <;> omega); done)))))
  · (repeat (first | with_reducible assumption | with_reducible exact Bel.refl _ | with_reducible apply Bel.alloc | with_reducible apply Bel.drew | with_reducible apply Bel.drewN | ((with_reducible apply Bel.setCellR); (simp <;> omega)) | with_reducible refine Bel.behind (by with_reducible assumption) ?_))

/-! ### The square of the distance -/
def fsub (x y : Nat) : Nat := (floatBits .sub .f64 x y).getD 0
def fadd (x y : Nat) : Nat := (floatBits .add .f64 x y).getD 0
def fmul (x y : Nat) : Nat := (floatBits .mul .f64 x y).getD 0
theorem Rn.int {z : Int} {r : Nat} (h : Rn (z : Rat) r) (hz : z.natAbs < 2 ^ 53) : Is r (z : Rat) := h.exact z 0 hz (by decide) (by decide) (by
  have : (2 : Rat) ^ (0 : Int) = 1 := rfl
  rw [this, Rat.mul_one])
theorem Is.fadd {x y : Nat} {p q : Int} (hx : Is x (p : Rat)) (hy : Is y (q : Rat)) (h : (p + q).natAbs < 2 ^ 53) : floatBits .add .f64 x y = some (fadd x y) ∧ Is (fadd x y) ((p + q : Int) : Rat) := by
  obtain ⟨r, e, k⟩ := hx.sum hy
  have e' : floatBits .add .f64 x y = some r := e
  unfold Go.Proofs.YtdfamnlmhikolaaDoor.fadd
  rw [e']
  have : (p : Rat) + (q : Rat) = ((p + q : Int) : Rat) := by push_cast; rfl
  rw [this] at k
  exact ⟨rfl, Rn.int k h⟩
theorem Is.fsub {x y : Nat} {p q : Int} (hx : Is x (p : Rat)) (hy : Is y (q : Rat)) (h : (p - q).natAbs < 2 ^ 53) : floatBits .sub .f64 x y = some (fsub x y) ∧ Is (fsub x y) ((p - q : Int) : Rat) := by
  obtain ⟨r, e, k⟩ := hx.diff hy
  have e' : floatBits .sub .f64 x y = some r := e
  unfold Go.Proofs.YtdfamnlmhikolaaDoor.fsub
  rw [e']
  have : (p : Rat) - (q : Rat) = ((p - q : Int) : Rat) := by push_cast; rfl
  rw [this] at k
  exact ⟨rfl, Rn.int k h⟩
theorem Is.fmul {x y : Nat} {p q : Int} (hx : Is x (p : Rat)) (hy : Is y (q : Rat)) (h : (p * q).natAbs < 2 ^ 53) : floatBits .mul .f64 x y = some (fmul x y) ∧ Is (fmul x y) ((p * q : Int) : Rat) := by
  obtain ⟨r, e, k⟩ := hx.prod hy
  have e' : floatBits .mul .f64 x y = some r := e
  unfold Go.Proofs.YtdfamnlmhikolaaDoor.fmul
  rw [e']
  have : (p : Rat) * (q : Rat) = ((p * q : Int) : Rat) := by push_cast; rfl
  rw [this] at k
  exact ⟨rfl, Rn.int k h⟩
def gapB (a0 a1 b0 b1 : Nat) : Nat := mxB 0 (mxB (fsub a0 b1) (fsub b0 a1))
def farB (a b c d x y z u : Nat) : Nat := fadd (fmul (gapB a c x z) (gapB a c x z)) (fmul (gapB b d y u) (gapB b d y u))
theorem is_gapB {a0 a1 b0 b1 : Nat} {p0 p1 q0 q1 : Int} {m : Int} (h0 : Is a0 (p0 : Rat)) (h1 : Is a1 (p1 : Rat)) (k0 : Is b0 (q0 : Rat)) (k1 : Is b1 (q1 : Rat)) (hm : m ≤ 2097152)
    (s0 : -m ≤ p0 ∧ p0 ≤ m) (s1 : -m ≤ p1 ∧ p1 ≤ m) (t0 : -m ≤ q0 ∧ q0 ≤ m) (t1 : -m ≤ q1 ∧ q1 ≤ m) :
    floatBits .sub .f64 a0 b1 = some (fsub a0 b1) ∧ floatBits .sub .f64 b0 a1 = some (fsub b0 a1) ∧ Is (gapB a0 a1 b0 b1) ((gap p0 p1 q0 q1 : Int) : Rat) ∧ 0 ≤ gap p0 p1 q0 q1 ∧ gap p0 p1 q0 q1 ≤ 4194304 := by
  obtain ⟨e1, i1⟩ := h0.fsub k1 (by omega)
  obtain ⟨e2, i2⟩ := k0.fsub h1 (by omega)
  exact ⟨e1, e2, Is.zero.mx (i1.mx i2), by unfold gap; omega, by unfold gap; omega⟩
theorem sq_bound {g m : Int} (h0 : 0 ≤ g) (h1 : g ≤ m) : 0 ≤ g * g ∧ g * g ≤ m * m := ⟨Int.mul_nonneg h0 h0, Int.mul_le_mul h1 h1 h0 (by omega)⟩
theorem BxB.far {a b c d x y z u : Nat} {p q : Bx} {m : Int} (h : BxB a b c d p) (k : BxB x y z u q) (hm : m ≤ 2097152) (hp : p.Small m) (hq : q.Small m) :
    Is (farB a b c d x y z u) ((p.far q : Int) : Rat) ∧ floatBits .mul .f64 (gapB a c x z) (gapB a c x z) = some (fmul (gapB a c x z) (gapB a c x z)) ∧ floatBits .mul .f64 (gapB b d y u) (gapB b d y u) = some (fmul (gapB b d y u) (gapB b d y u)) ∧
    floatBits .add .f64 (fmul (gapB a c x z) (gapB a c x z)) (fmul (gapB b d y u) (gapB b d y u)) = some (farB a b c d x y z u) := by
  obtain ⟨_, _, i1, l1, u1⟩ := is_gapB h.x0 h.x1 k.x0 k.x1 hm hp.1 hp.2.2.1 hq.1 hq.2.2.1
  obtain ⟨_, _, i2, l2, u2⟩ := is_gapB h.y0 h.y1 k.y0 k.y1 hm hp.2.1 hp.2.2.2 hq.2.1 hq.2.2.2
  have b1 := sq_bound l1 u1
  have b2 := sq_bound l2 u2
  unfold Bx.far farB
  generalize gap p.x0 p.x1 q.x0 q.x1 = g1 at *
  generalize gap p.y0 p.y1 q.y0 q.y1 = g2 at *
  obtain ⟨e1, j1⟩ := i1.fmul i1 (by omega)
  obtain ⟨e2, j2⟩ := i2.fmul i2 (by omega)
  obtain ⟨e3, j3⟩ := j1.fadd j2 (by omega)
  exact ⟨j3, e1, e2, e3⟩
theorem far_any (a b c d x y z u : Nat) {p q : Bx} {m : Int} (h : BxB a b c d p) (k : BxB x y z u q) (hm : m ≤ 2097152) (hp : p.Small m) (hq : q.Small m) (w : World) :
    Calls Tryd.prog 72 #[.agg #[.float .f64 a, .float .f64 b, .float .f64 c, .float .f64 d], .agg #[.float .f64 x, .float .f64 y, .float .f64 z, .float .f64 u]] w
      fun e w' => e = .returned (.float .f64 (farB a b c d x y z u)) ∧ Bel w w' := by
  obtain ⟨s1, s2, _, _, _⟩ := is_gapB h.x0 h.x1 k.x0 k.x1 hm hp.1 hp.2.2.1 hq.1 hq.2.2.1
  obtain ⟨s3, s4, _, _, _⟩ := is_gapB h.y0 h.y1 k.y0 k.y1 hm hp.2.1 hp.2.2.2 hq.2.1 hq.2.2.2
  obtain ⟨_, s5, s6, s7⟩ := h.far k hm hp hq
  have f1 := ra .sub a z _ s1
  have f2 := ra .sub x c _ s2
  have f3 := ra .sub b u _ s3
  have f4 := ra .sub y d _ s4
  have f5 := ra .mul _ _ _ s5
  have f6 := ra .mul _ _ _ s6
  have f7 := ra .add _ _ _ s7
  clear s1 s2 s3 s4 s5 s6 s7 hp hq hm h k
  unfold gapB at f5 f6 f7
  go_enter Tryd.func72, Tryd.ntmps72
  go_wp2_with (go_at_call 44; (with_reducible refine (fastMax_any _ _ _).mono ?_); rintro e w' ⟨rfl, rfl⟩)
  go_ret
  exact ⟨rfl, by (repeat (first | with_reducible assumption | with_reducible exact Bel.refl _ | with_reducible apply Bel.alloc | with_reducible apply Bel.drew | with_reducible apply Bel.drewN | ((with_reducible apply Bel.setCellR); (simp <;> omega)) | with_reducible refine Bel.behind (by with_reducible assumption) ?_))⟩

/-! ### Whole numbers, boxes of them -/
theorem lo_is : Is 13920626448202203136 ((-1048576 : Int) : Rat) := by
  have h := Is.ofInt (-1048576) (by decide)
  have e : FloatKind.f64.nearest (-1048576) = 13920626448202203136 := by kernel_rfl
  rw [e] at h
  exact h
theorem hi_is : Is 4697254411347427328 ((1048576 : Int) : Rat) := by
  have h := Is.ofInt 1048576 (by decide)
  have e : FloatKind.f64.nearest 1048576 = 4697254411347427328 := by kernel_rfl
  rw [e] at h
  exact h
def truncB (x : Nat) : Int := ((FloatKind.f64.decode x).toInt .zero).getD 0
def wholeB (x : Nat) : Bool := geB x 13920626448202203136 && (leB x 4697254411347427328 && eqB x (fl (truncB x)))
theorem whole_is {x : Nat} (h : wholeB x = true) : ∃ z : Int, Is x (z : Rat) ∧ -1048576 ≤ z ∧ z ≤ 1048576 := by
  unfold wholeB at h
  simp only [Bool.and_eq_true] at h
  obtain ⟨k1, k2, k3⟩ := h
  obtain ⟨q, hq, l1, l2⟩ := fin_between lo_is hi_is k1 k2
  have c1 : (((-1048576 : Int)) : Rat) = -((1048576 : Nat) : Rat) := by rfl
  have c2 : (((1048576 : Int)) : Rat) = ((1048576 : Nat) : Rat) := by rfl
  rw [c1] at l1
  rw [c2] at l2
  obtain ⟨n, hn, hb⟩ := trunc_small hq 1048576 l1 l2
  have i1 := Is.ofInt n (by omega)
  have hf : fl (truncB x) = FloatKind.f64.nearest n := by
    unfold truncB
    rw [hn]
    rfl
  have ho : FloatKind.f64.format.order x (FloatKind.f64.nearest n) = some (cmpQ q (n : Rat)) := hq.order i1
  unfold eqB at k3
  rw [hf, ho] at k3
  refine ⟨n, ?_, by omega, by omega⟩
  have : q = (n : Rat) := by
    unfold cmpQ at k3
    split at k3
    · simp at k3
    · split at k3
      · assumption
      · simp at k3
  rw [← this]
  exact hq
theorem run_trunc {x : Nat} (k1 : geB x 13920626448202203136 = true) (k2 : leB x 4697254411347427328 = true) (w : World) : (convert 26 3 (.float .f64 x)).run Tryd.prog w = .ok (.int .i64 (truncB x)) w := by
  obtain ⟨q, hq, l1, l2⟩ := fin_between lo_is hi_is k1 k2
  have c1 : (((-1048576 : Int)) : Rat) = -((1048576 : Nat) : Rat) := by rfl
  have c2 : (((1048576 : Int)) : Rat) = ((1048576 : Nat) : Rat) := by rfl
  rw [c1] at l1
  rw [c2] at l2
  obtain ⟨n, hn, hb⟩ := trunc_small hq 1048576 l1 l2
  have e : truncB x = n := by
    unfold truncB
    rw [hn]
    rfl
  rw [e]
  have g1 : IntKind.i64.min ≤ n := by
    have : IntKind.i64.min = -9223372036854775808 := by decide
    omega
  have g2 : n ≤ IntKind.i64.max := by
    have : IntKind.i64.max = 9223372036854775807 := by decide
    omega
  simp [convert, run_underlying Tryd.underlying26, run_underlying Tryd.underlying3, Conv.floatToInt, hn, g1]
  intro h
  have : IntKind.i64.max = 9223372036854775807 := by decide
  omega
set_option maxRecDepth 100000 in
theorem kWhole_any (x : Nat) (w : World) : Calls Tryd.prog 16 #[.float .f64 x] w fun e w' => e = .returned (.bool (wholeB x)) ∧ w = w' := by
  unfold wholeB
  rcases bool_cases (geB x 13920626448202203136) with k1 | k1
  · rcases bool_cases (leB x 4697254411347427328) with k2 | k2
    · rw [k1, k2]
      simp only [Bool.true_and]
      have hc := fun w => run_trunc k1 k2 w
      generalize truncB x = n at *
      unfold geB at k1
      unfold leB at k2
      unfold eqB
      generalize hR : (FloatKind.f64.format.order x (fl n) == some Ordering.eq) = R
      have HR := Lib.hid hR
      clear hR
      go_enter Tryd.func16, Tryd.ntmps16
      go_wp2
      go_ret
      exact ⟨congrArg (fun b => Ending.returned (.bool b)) HR.out, rfl⟩
    · rw [k1, k2]
      simp only [Bool.true_and, Bool.false_and]
      unfold geB at k1
      unfold leB at k2
      go_enter Tryd.func16, Tryd.ntmps16
      go_wp2
      go_ret
      exact ⟨rfl, rfl⟩
  · rw [k1]
    simp only [Bool.false_and]
    unfold geB at k1
    go_enter Tryd.func16, Tryd.ntmps16
    go_wp2
    go_ret
    exact ⟨rfl, rfl⟩
def boxB (a b c d : Nat) : Bool := wholeB a && (wholeB b && (wholeB c && (wholeB d && (leB a c && leB b d))))
theorem box_is {a b c d : Nat} (h : boxB a b c d = true) : ∃ q : Bx, BxB a b c d q ∧ q.Small 1048576 := by
  unfold boxB at h
  simp only [Bool.and_eq_true] at h
  obtain ⟨h1, h2, h3, h4, h5, h6⟩ := h
  obtain ⟨z0, i0, b0⟩ := whole_is h1
  obtain ⟨z1, i1, b1⟩ := whole_is h2
  obtain ⟨z2, i2, b2⟩ := whole_is h3
  obtain ⟨z3, i3, b3⟩ := whole_is h4
  exact ⟨⟨z0, z1, z2, z3⟩, ⟨i0, i1, i2, i3⟩, b0, b1, b2, b3⟩
theorem kBox_any (a b c d : Nat) (w : World) : Calls Tryd.prog 11 #[.agg #[.float .f64 a, .float .f64 b, .float .f64 c, .float .f64 d]] w fun e w' => e = .returned (.bool (boxB a b c d)) ∧ Bel w w' := by
  unfold boxB
  rcases bool_cases (wholeB a) with k1 | k1
  · rcases bool_cases (wholeB b) with k2 | k2
    · rcases bool_cases (wholeB c) with k3 | k3
      · rcases bool_cases (wholeB d) with k4 | k4
        · rcases bool_cases (leB a c) with k5 | k5
          · rcases bool_cases (leB b d) with k6 | k6
            · rw [k1, k2, k3, k4, k5, k6]
              simp only [Bool.true_and, Bool.false_and, Bool.and_self, Bool.and_false]
              unfold leB at k5
              unfold leB at k6
              go_enter Tryd.func11, Tryd.ntmps11
              go_wp2_with (go_at_call 16; (with_reducible refine (kWhole_any _ _).mono ?_); rintro e w' ⟨rfl, rfl⟩)
              go_ret
              exact ⟨rfl, by (repeat (first | with_reducible assumption | with_reducible exact Bel.refl _ | with_reducible apply Bel.alloc | with_reducible apply Bel.drew | with_reducible apply Bel.drewN | ((with_reducible apply Bel.setCellR); (simp <;> omega)) | with_reducible refine Bel.behind (by with_reducible assumption) ?_))⟩
            · rw [k1, k2, k3, k4, k5, k6]
              simp only [Bool.true_and, Bool.false_and, Bool.and_self, Bool.and_false]
              unfold leB at k5
              unfold leB at k6
              go_enter Tryd.func11, Tryd.ntmps11
              go_wp2_with (go_at_call 16; (with_reducible refine (kWhole_any _ _).mono ?_); rintro e w' ⟨rfl, rfl⟩)
              go_ret
              exact ⟨rfl, by (repeat (first | with_reducible assumption | with_reducible exact Bel.refl _ | with_reducible apply Bel.alloc | with_reducible apply Bel.drew | with_reducible apply Bel.drewN | ((with_reducible apply Bel.setCellR); (simp <;> omega)) | with_reducible refine Bel.behind (by with_reducible assumption) ?_))⟩
          · rw [k1, k2, k3, k4, k5]
            simp only [Bool.true_and, Bool.false_and, Bool.and_self, Bool.and_false]
            unfold leB at k5
            go_enter Tryd.func11, Tryd.ntmps11
            go_wp2_with (go_at_call 16; (with_reducible refine (kWhole_any _ _).mono ?_); rintro e w' ⟨rfl, rfl⟩)
            go_ret
            exact ⟨rfl, by (repeat (first | with_reducible assumption | with_reducible exact Bel.refl _ | with_reducible apply Bel.alloc | with_reducible apply Bel.drew | with_reducible apply Bel.drewN | ((with_reducible apply Bel.setCellR); (simp <;> omega)) | with_reducible refine Bel.behind (by with_reducible assumption) ?_))⟩
        · rw [k1, k2, k3, k4]
          simp only [Bool.true_and, Bool.false_and, Bool.and_self, Bool.and_false]
          go_enter Tryd.func11, Tryd.ntmps11
          go_wp2_with (go_at_call 16; (with_reducible refine (kWhole_any _ _).mono ?_); rintro e w' ⟨rfl, rfl⟩)
          go_ret
          exact ⟨rfl, by (repeat (first | with_reducible assumption | with_reducible exact Bel.refl _ | with_reducible apply Bel.alloc | with_reducible apply Bel.drew | with_reducible apply Bel.drewN | ((with_reducible apply Bel.setCellR); (simp <;> omega)) | with_reducible refine Bel.behind (by with_reducible assumption) ?_))⟩
      · rw [k1, k2, k3]
        simp only [Bool.true_and, Bool.false_and, Bool.and_self, Bool.and_false]
        go_enter Tryd.func11, Tryd.ntmps11
        go_wp2_with (go_at_call 16; (with_reducible refine (kWhole_any _ _).mono ?_); rintro e w' ⟨rfl, rfl⟩)
        go_ret
        exact ⟨rfl, by (repeat (first | with_reducible assumption | with_reducible exact Bel.refl _ | with_reducible apply Bel.alloc | with_reducible apply Bel.drew | with_reducible apply Bel.drewN | ((with_reducible apply Bel.setCellR); (simp <;> omega)) | with_reducible refine Bel.behind (by with_reducible assumption) ?_))⟩
    · rw [k1, k2]
      simp only [Bool.true_and, Bool.false_and, Bool.and_self, Bool.and_false]
      go_enter Tryd.func11, Tryd.ntmps11
      go_wp2_with (go_at_call 16; (with_reducible refine (kWhole_any _ _).mono ?_); rintro e w' ⟨rfl, rfl⟩)
      go_ret
      exact ⟨rfl, by (repeat (first | with_reducible assumption | with_reducible exact Bel.refl _ | with_reducible apply Bel.alloc | with_reducible apply Bel.drew | with_reducible apply Bel.drewN | ((with_reducible apply Bel.setCellR); (simp <;> omega)) | with_reducible refine Bel.behind (by with_reducible assumption) ?_))⟩
  · rw [k1]
    simp only [Bool.true_and, Bool.false_and, Bool.and_self, Bool.and_false]
    go_enter Tryd.func11, Tryd.ntmps11
    go_wp2_with (go_at_call 16; (with_reducible refine (kWhole_any _ _).mono ?_); rintro e w' ⟨rfl, rfl⟩)
    go_ret
    exact ⟨rfl, by (repeat (first | with_reducible assumption | with_reducible exact Bel.refl _ | with_reducible apply Bel.alloc | with_reducible apply Bel.drew | with_reducible apply Bel.drewN | ((with_reducible apply Bel.setCellR); (simp <;> omega)) | with_reducible refine Bel.behind (by with_reducible assumption) ?_))⟩
end Go.Proofs.YtdfamnlmhikolaaDoor
