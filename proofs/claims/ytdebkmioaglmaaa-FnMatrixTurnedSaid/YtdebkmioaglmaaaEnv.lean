/-
  Contracts of impl.EnvBox and impl.EnvCorners and of what they call, at envelopes with finite ends in order. No panic; what stood in memory has not turned.
-/
import Derived.Test.YtdebkmioaglmaaaBase
import Derived.Test.YtdebkmioaglmaaaFlo
import Derived.Deep.RegionHeld3
import Derived.Outline
import Derived.RegionTactic
import Derived.BigRegion
namespace Go.Proofs.Ytdebkmioaglmaaa
open Go.ChangeShapes Go.WideShapes Go.ChangeAt Go.RowKit

/-- Has an envelope finite ends in order? -/
def leB (x y : Nat) : Bool := FloatKind.f64.format.order x y == some .lt || FloatKind.f64.format.order x y == some .eq
def ltB (x y : Nat) : Bool := FloatKind.f64.format.order x y == some .lt

theorem f28_fin (f : Bool) (a b c d : Nat) (ha : finB a = true) (hb : finB b = true) (hc : finB c = true) (hd : finB d = true) (x y : Bool) (hx : Hid (leB a c = x)) (hy : Hid (leB b d = y)) (w : World) :
    Calls Try.prog 28 #[.agg #[.bool f, .float .f64 a, .float .f64 b, .float .f64 c, .float .f64 d]] w fun e w' => e = .returned (.bool (x && y)) ∧ Bel w w' := by
  have ra := run_sub_self_fin (P := Try.prog) ha 35
  have rb := run_sub_self_fin (P := Try.prog) hb 35
  have rc := run_sub_self_fin (P := Try.prog) hc 35
  have rd := run_sub_self_fin (P := Try.prog) hd 35
  have r0 := run_add_zeros (P := Try.prog) 35
  have o0 := order_zero
  have hx' := hx.out
  have hy' := hy.out
  unfold leB at hx' hy'
  clear ha hb hc hd
  cases x <;> cases y
  all_goals
    go_enter Try.func28, Try.ntmps28
    go_wp2
    go_ret
    exact ⟨rfl, by repeat (first | with_reducible assumption | with_reducible exact Bel.refl _ | with_reducible apply Bel.alloc | with_reducible apply Bel.drew | (with_reducible apply Bel.setCellR; (simp <;> omega)) | with_reducible refine Bel.behind (by with_reducible assumption) ?_)⟩

set_option maxHeartbeats 4000000 in
theorem f28_inf (f : Bool) (a b c d : Nat) (h : (finB a && finB b && finB c && finB d) = false) (w : World) :
    Calls Try.prog 28 #[.agg #[.bool f, .float .f64 a, .float .f64 b, .float .f64 c, .float .f64 d]] w fun e w' => e = .returned (.bool false) ∧ Bel w w' := by
  have key : ∀ z, finB z = true ∨ finB z = false := fun z => by cases finB z <;> simp
  rcases key a with ha | ha <;> rcases key b with hb | hb <;> rcases key c with hc | hc <;> rcases key d with hd | hd
  all_goals first | (simp [ha, hb, hc, hd] at h; done) | skip
  all_goals clear h key
  all_goals
    have ra := by first | exact run_sub_self_fin (P := Try.prog) ha 35 | exact run_sub_self_inf (P := Try.prog) ha 35
    have rb := by first | exact run_sub_self_fin (P := Try.prog) hb 35 | exact run_sub_self_inf (P := Try.prog) hb 35
    have rc := by first | exact run_sub_self_fin (P := Try.prog) hc 35 | exact run_sub_self_inf (P := Try.prog) hc 35
    have rd := by first | exact run_sub_self_fin (P := Try.prog) hd 35 | exact run_sub_self_inf (P := Try.prog) hd 35
    have r0 := run_add_zeros (P := Try.prog) 35
    have r1 := run_add_nan_left (P := Try.prog) 35
    have r2 := run_add_nan_right (P := Try.prog) 35
    have o0 := order_nanAt_left
    clear ha hb hc hd
    go_enter Try.func28, Try.ntmps28
    go_wp2
    go_ret
    exact ⟨rfl, by repeat (first | with_reducible assumption | with_reducible exact Bel.refl _ | with_reducible apply Bel.alloc | with_reducible apply Bel.drew | (with_reducible apply Bel.setCellR; (simp <;> omega)) | with_reducible refine Bel.behind (by with_reducible assumption) ?_)⟩

theorem f106_fin {x : Nat} (h : finB x = true) (w : World) : Calls Try.prog 106 #[.float .f64 x] w fun e w' => e = .returned (.bool false) ∧ w = w' := by
  have o := order_self h
  go_enter Try.func106, Try.ntmps106
  go_wp2
  go_ret
  exact ⟨rfl, rfl⟩

/-- The lesser of two numbers, as the program picks it. -/
def fmin (a b : Nat) : Nat := if ltB a b then a else b
def gtB (x y : Nat) : Bool := FloatKind.f64.format.order x y == some .gt
def fmax (a b : Nat) : Nat := if gtB a b then a else b

theorem f103_fin {a b c : Nat} (h : finB a = true) (hc : Hid (fmin a b = c)) (w : World) : Calls Try.prog 103 #[.float .f64 a, .float .f64 b] w fun e w' => e = .returned (.float .f64 c) ∧ w = w' := by
  have hc' := hc.out
  unfold fmin ltB at hc'
  have key : (FloatKind.f64.format.order a b == some .lt) = true ∨ (FloatKind.f64.format.order a b == some .lt) = false := by cases (FloatKind.f64.format.order a b == some .lt) <;> simp
  rcases key with k | k
  all_goals
    rw [k] at hc'
    simp only [if_true, Bool.false_eq_true, if_false] at hc'
    subst hc'
    go_enter Try.func103, Try.ntmps103
    go_wp2_with (go_at_call 106; (with_reducible refine (f106_fin h _).mono ?_); rintro e w' ⟨rfl, rfl⟩)
    go_ret
    exact ⟨rfl, rfl⟩

theorem f104_fin {a b c : Nat} (h : finB a = true) (hc : Hid (fmax a b = c)) (w : World) : Calls Try.prog 104 #[.float .f64 a, .float .f64 b] w fun e w' => e = .returned (.float .f64 c) ∧ w = w' := by
  have hc' := hc.out
  unfold fmax gtB at hc'
  have key : (FloatKind.f64.format.order a b == some .gt) = true ∨ (FloatKind.f64.format.order a b == some .gt) = false := by cases (FloatKind.f64.format.order a b == some .gt) <;> simp
  rcases key with k | k
  all_goals
    rw [k] at hc'
    simp only [if_true, Bool.false_eq_true, if_false] at hc'
    subst hc'
    go_enter Try.func104, Try.ntmps104
    go_wp2_with (go_at_call 106; (with_reducible refine (f106_fin h _).mono ?_); rintro e w' ⟨rfl, rfl⟩)
    go_ret
    exact ⟨rfl, rfl⟩

theorem f83_any (a b c d : Nat) (f : Bool) (w : World) : Calls Try.prog 83 #[.agg #[.float .f64 a, .float .f64 b, .float .f64 c, .float .f64 d, .bool f]] w fun e w' => e = .returned (.bool (!f)) ∧ Bel w w' := by
  cases f
  all_goals
    go_enter Try.func83, Try.ntmps83
    go_wp2
    go_ret
    exact ⟨rfl, by repeat (first | with_reducible assumption | with_reducible exact Bel.refl _ | with_reducible apply Bel.alloc | with_reducible apply Bel.drew | (with_reducible apply Bel.setCellR; (simp <;> omega)) | with_reducible refine Bel.behind (by with_reducible assumption) ?_)⟩

theorem f102_any (a b c d : Nat) (w : World) : Calls Try.prog 102 #[.agg #[.float .f64 a, .float .f64 b], .agg #[.float .f64 c, .float .f64 d]] w fun e w' => e = .returned (.agg #[.float .f64 a, .float .f64 b, .float .f64 c, .float .f64 d, .bool true]) ∧ Bel w w' := by
  go_enter Try.func102, Try.ntmps102
  go_wp2
  exact bodyPost_ret (v := .agg #[.float .f64 a, .float .f64 b, .float .f64 c, .float .f64 d, .bool true]) (by simp [results, Try.results102, go_sem]) rfl ⟨rfl, by repeat (first | with_reducible assumption | with_reducible exact Bel.refl _ | with_reducible apply Bel.alloc | with_reducible apply Bel.drew | (with_reducible apply Bel.setCellR; (simp <;> omega)) | with_reducible refine Bel.behind (by with_reducible assumption) ?_)⟩

theorem f95_empty (a b c d x y : Nat) (w : World) : Calls Try.prog 95 #[.agg #[.float .f64 a, .float .f64 b, .float .f64 c, .float .f64 d, .bool false], .agg #[.float .f64 x, .float .f64 y]] w fun e w' => e = .returned (.agg #[.float .f64 x, .float .f64 y, .float .f64 x, .float .f64 y, .bool true]) ∧ Bel w w' := by
  go_enter Try.func95, Try.ntmps95
  go_wp2_with (first | (go_at_call 83; (with_reducible refine (f83_any _ _ _ _ false _).mono ?_); rintro e w1 ⟨rfl, hb2⟩; have B3 : Blk w1 (w.heap.size + 1) #[.float .f64 x, .float .f64 y] 81 := Blk.bel (by (apply Blk.cast; (repeat (first | with_reducible assumption | with_reducible apply Blk.set | (with_reducible apply Blk.otherR; (simp <;> omega)) | with_reducible exact Blk.new _ _ _ | (with_reducible apply Blk.new'; (focus (simp; done))) | with_reducible apply Blk.alloc | with_reducible apply Blk.drew)); rfl)) hb2; obtain ⟨r4, z5, z5l⟩ := B3.facts; have B6 : Blk w1 (w.heap.size + 1 + 1) #[.float .f64 0, .float .f64 0, .float .f64 0, .float .f64 0, .bool false] 102 := Blk.bel (by (apply Blk.cast; (repeat (first | with_reducible assumption | with_reducible apply Blk.set | (with_reducible apply Blk.otherR; (simp <;> omega)) | with_reducible exact Blk.new _ _ _ | (with_reducible apply Blk.new'; (focus (simp; done))) | with_reducible apply Blk.alloc | with_reducible apply Blk.drew)); rfl)) hb2; obtain ⟨r7, z8, z8l⟩ := B6.facts) | (go_at_call 102; (with_reducible refine (f102_any _ _ _ _ _).mono ?_); rintro e w9 ⟨rfl, hb10⟩; have B11 : Blk w9 (w.heap.size + 1 + 1) #[.float .f64 0, .float .f64 0, .float .f64 0, .float .f64 0, .bool false] 102 := Blk.bel (by (apply Blk.cast; (repeat (first | with_reducible assumption | with_reducible apply Blk.set | (with_reducible apply Blk.otherR; (simp <;> omega)) | with_reducible exact Blk.new _ _ _ | (with_reducible apply Blk.new'; (focus (simp; done))) | with_reducible apply Blk.alloc | with_reducible apply Blk.drew)); rfl)) hb10; obtain ⟨r12, z13, z13l⟩ := B11.facts))
  refine post_ret (results_one rfl (resIs_blk (n := 5) (T := 102) (by rfl) Try.underlying102 (by kernel_rfl) ?hB ?hs)) ⟨rfl, ?hbel⟩
  case hB => (apply Exists.intro; apply And.intro; (repeat (first | with_reducible assumption | with_reducible apply Blk.set | (with_reducible apply Blk.otherR; (simp <;> omega)) | with_reducible exact Blk.new _ _ _ | (with_reducible apply Blk.new'; (focus (simp; done))) | with_reducible apply Blk.alloc | with_reducible apply Blk.drew)); rfl)
  case hs => rfl
  case hbel => exact by repeat (first | with_reducible assumption | with_reducible exact Bel.refl _ | with_reducible apply Bel.alloc | with_reducible apply Bel.drew | (with_reducible apply Bel.setCellR; (simp <;> omega)) | with_reducible refine Bel.behind (by with_reducible assumption) ?_)


set_option maxHeartbeats 1000000 in
theorem f95_full (a b c d x y p q r s : Nat) (fa : finB a = true) (fb : finB b = true) (fc : finB c = true) (fd : finB d = true) (hp : Hid (fmin a x = p)) (hq : Hid (fmin b y = q)) (hr : Hid (fmax c x = r)) (hs : Hid (fmax d y = s)) (w : World) :
    Calls Try.prog 95 #[.agg #[.float .f64 a, .float .f64 b, .float .f64 c, .float .f64 d, .bool true], .agg #[.float .f64 x, .float .f64 y]] w fun e w' => e = .returned (.agg #[.float .f64 p, .float .f64 q, .float .f64 r, .float .f64 s, .bool true]) ∧ Bel w w' := by
  have FA := Lib.hid fa
  have FB := Lib.hid fb
  have FC := Lib.hid fc
  have FD := Lib.hid fd
  clear fa fb fc fd
  go_enter Try.func95, Try.ntmps95
  go_wp2_with (go_at_call 83; (with_reducible refine (f83_any _ _ _ _ true _).mono ?_); rintro e w14 ⟨rfl, hb15⟩; have B16 : Blk w14 (w.heap.size) #[.float .f64 a, .float .f64 b, .float .f64 c, .float .f64 d, .bool true] 102 := Blk.bel (by (apply Blk.cast; (repeat (first | with_reducible assumption | with_reducible apply Blk.set | (with_reducible apply Blk.otherR; (simp <;> omega)) | with_reducible exact Blk.new _ _ _ | (with_reducible apply Blk.new'; (focus (simp; done))) | with_reducible apply Blk.alloc | with_reducible apply Blk.drew)); rfl)) hb15; obtain ⟨r17, z18, z18l⟩ := B16.facts; have B19 : Blk w14 (w.heap.size + 1) #[.float .f64 x, .float .f64 y] 81 := Blk.bel (by (apply Blk.cast; (repeat (first | with_reducible assumption | with_reducible apply Blk.set | (with_reducible apply Blk.otherR; (simp <;> omega)) | with_reducible exact Blk.new _ _ _ | (with_reducible apply Blk.new'; (focus (simp; done))) | with_reducible apply Blk.alloc | with_reducible apply Blk.drew)); rfl)) hb15; obtain ⟨r20, z21, z21l⟩ := B19.facts; have B22 : Blk w14 (w.heap.size + 1 + 1) #[.float .f64 0, .float .f64 0, .float .f64 0, .float .f64 0, .bool false] 102 := Blk.bel (by (apply Blk.cast; (repeat (first | with_reducible assumption | with_reducible apply Blk.set | (with_reducible apply Blk.otherR; (simp <;> omega)) | with_reducible exact Blk.new _ _ _ | (with_reducible apply Blk.new'; (focus (simp; done))) | with_reducible apply Blk.alloc | with_reducible apply Blk.drew)); rfl)) hb15; obtain ⟨r23, z24, z24l⟩ := B22.facts)
  go_region_held3 (fun w' => (∀ o, w'.cell? ⟨w.heap.size, o, none⟩ = (#[.float .f64 a, .float .f64 b, .float .f64 c, .float .f64 d, .bool true] : Array Value)[o]?) ∧ (∀ o, w'.cell? ⟨w.heap.size + 1, o, none⟩ = (#[.float .f64 x, .float .f64 y] : Array Value)[o]?) ∧ Blk w' (w.heap.size) #[.float .f64 a, .float .f64 b, .float .f64 c, .float .f64 d, .bool true] 102 ∧ Blk w' (w.heap.size + 1) #[.float .f64 x, .float .f64 y] 81 ∧ Bel w w')
    (first | (with_reducible apply keep2; with_reducible assumption; with_reducible assumption) | ((repeat (first | with_reducible assumption | (with_reducible apply keep2s; (simp <;> omega); (simp <;> omega); (simp <;> omega)))); done) | (refine keep2i ?_ ?_ ?_; (focus ((repeat (first | with_reducible assumption | with_reducible apply Blk.set | (with_reducible apply Blk.otherR; (simp <;> omega)) | with_reducible exact Blk.new _ _ _ | (with_reducible apply Blk.new'; (focus (simp; done))) | with_reducible apply Blk.alloc | with_reducible apply Blk.drew)); done)); (focus ((repeat (first | with_reducible assumption | with_reducible apply Blk.set | (with_reducible apply Blk.otherR; (simp <;> omega)) | with_reducible exact Blk.new _ _ _ | (with_reducible apply Blk.new'; (focus (simp; done))) | with_reducible apply Blk.alloc | with_reducible apply Blk.drew)); done)); (focus ((repeat (first | with_reducible assumption | with_reducible exact Bel.refl _ | with_reducible apply Bel.alloc | with_reducible apply Bel.drew | (with_reducible apply Bel.setCellR; (simp <;> omega)) | with_reducible refine Bel.behind (by with_reducible assumption) ?_)); done))))
    (first | (go_at_call 103; (with_reducible refine (f103_fin FA.out hp _).mono ?_); rintro e w' ⟨rfl, rfl⟩) | (go_at_call 103; (with_reducible refine (f103_fin FB.out hq _).mono ?_); rintro e w' ⟨rfl, rfl⟩) | (go_at_call 104; (with_reducible refine (f104_fin FC.out hr _).mono ?_); rintro e w' ⟨rfl, rfl⟩) | (go_at_call 104; (with_reducible refine (f104_fin FD.out hs _).mono ?_); rintro e w' ⟨rfl, rfl⟩) | (go_at_call 102; (with_reducible refine (f102_any _ _ _ _ _).mono ?_); rintro e w25 ⟨rfl, hb26⟩; have B27 : Blk w25 (w.heap.size + 1 + 1) #[.float .f64 0, .float .f64 0, .float .f64 0, .float .f64 0, .bool false] 102 := Blk.bel (by (apply Blk.cast; (repeat (first | with_reducible assumption | with_reducible apply Blk.set | (with_reducible apply Blk.otherR; (simp <;> omega)) | with_reducible exact Blk.new _ _ _ | (with_reducible apply Blk.new'; (focus (simp; done))) | with_reducible apply Blk.alloc | with_reducible apply Blk.drew)); rfl)) hb26; obtain ⟨r28, z29, z29l⟩ := B27.facts))

  go_wp2
  refine post_ret (results_one rfl (resIs_blk (n := 5) (T := 102) (by rfl) Try.underlying102 (by kernel_rfl) ?hB ?hs)) ⟨rfl, ?hbel⟩
  case hB => (apply Exists.intro; apply And.intro; (repeat (first | with_reducible assumption | with_reducible apply Blk.set | (with_reducible apply Blk.otherR; (simp <;> omega)) | with_reducible exact Blk.new _ _ _ | (with_reducible apply Blk.new'; (focus (simp; done))) | with_reducible apply Blk.alloc | with_reducible apply Blk.drew)); rfl)
  case hs => rfl
  case hbel => exact by repeat (first | with_reducible assumption | with_reducible exact Bel.refl _ | with_reducible apply Bel.alloc | with_reducible apply Bel.drew | (with_reducible apply Bel.setCellR; (simp <;> omega)) | with_reducible refine Bel.behind (by with_reducible assumption) ?_)


set_option maxHeartbeats 1000000 in
theorem f82_two (b : Nat) (x y p q c1 c2 c3 c4 : Nat) (fx : finB x = true) (fy : finB y = true) (h1 : Hid (fmin x p = c1)) (h2 : Hid (fmin y q = c2)) (h3 : Hid (fmax x p = c3)) (h4 : Hid (fmax y q = c4)) (w : World) (hB : Blk w b #[.float .f64 x, .float .f64 y, .float .f64 p, .float .f64 q] 81) :
    Calls Try.prog 82 #[.slice (some ⟨b, 0, none⟩) 2 2] w fun e w' => e = .returned (.agg #[.float .f64 c1, .float .f64 c2, .float .f64 c3, .float .f64 c4, .bool true]) ∧ Bel w w' := by
  have hlt := hB.lt
  obtain ⟨rb, zb⟩ := hB.rules
  have FX := Lib.hid fx
  have FY := Lib.hid fy
  clear fx fy
  go_enter Try.func82, Try.ntmps82
  go_wp2
  refine wp_loop_rounds 3 ?_
  rw [rounds_succ]
  go_wp2_with (go_at_call 95; (with_reducible refine (f95_empty _ _ _ _ _ _ _).mono ?_); rintro e w30 ⟨rfl, hb31⟩; have B32 : Blk w30 (b) #[.float .f64 x, .float .f64 y, .float .f64 p, .float .f64 q] 81 := Blk.bel (by (apply Blk.cast; (repeat (first | with_reducible assumption | with_reducible apply Blk.set | (with_reducible apply Blk.otherR; (simp <;> omega)) | with_reducible exact Blk.new _ _ _ | (with_reducible apply Blk.new'; (focus (simp; done))) | with_reducible apply Blk.alloc | with_reducible apply Blk.drew)); rfl)) hb31; obtain ⟨r33, z34, z34l⟩ := B32.facts; have B35 : Blk w30 (w.heap.size + 1) #[.float .f64 0, .float .f64 0, .float .f64 0, .float .f64 0, .bool false] 102 := Blk.bel (by (apply Blk.cast; (repeat (first | with_reducible assumption | with_reducible apply Blk.set | (with_reducible apply Blk.otherR; (simp <;> omega)) | with_reducible exact Blk.new _ _ _ | (with_reducible apply Blk.new'; (focus (simp; done))) | with_reducible apply Blk.alloc | with_reducible apply Blk.drew)); rfl)) hb31; obtain ⟨r36, z37, z37l⟩ := B35.facts; have B38 : Blk w30 (w.heap.size) #[.float .f64 0, .float .f64 0, .float .f64 0, .float .f64 0, .bool false] 102 := Blk.bel (by (apply Blk.cast; (repeat (first | with_reducible assumption | with_reducible apply Blk.set | (with_reducible apply Blk.otherR; (simp <;> omega)) | with_reducible exact Blk.new _ _ _ | (with_reducible apply Blk.new'; (focus (simp; done))) | with_reducible apply Blk.alloc | with_reducible apply Blk.drew)); rfl)) hb31; obtain ⟨r39, z40, z40l⟩ := B38.facts)
  generalize hW41 : World.setCell _ _ _ = w31
  have hb42 : Bel w w31 := by subst hW41; repeat (first | with_reducible assumption | with_reducible exact Bel.refl _ | with_reducible apply Bel.alloc | with_reducible apply Bel.drew | (with_reducible apply Bel.setCellR; (simp <;> omega)) | with_reducible refine Bel.behind (by with_reducible assumption) ?_)
  have B43 : Blk w31 (b) #[.float .f64 x, .float .f64 y, .float .f64 p, .float .f64 q] 81 := by subst hW41; (apply Blk.cast; (repeat (first | with_reducible assumption | with_reducible apply Blk.set | (with_reducible apply Blk.otherR; (simp <;> omega)) | with_reducible exact Blk.new _ _ _ | (with_reducible apply Blk.new'; (focus (simp; done))) | with_reducible apply Blk.alloc | with_reducible apply Blk.drew)); rfl)
  obtain ⟨r44, z45, z45l⟩ := B43.facts
  have B46 : Blk w31 (w.heap.size + 1) #[.float .f64 x, .float .f64 y, .float .f64 x, .float .f64 y, .bool true] 102 := by subst hW41; (apply Blk.cast; (repeat (first | with_reducible assumption | with_reducible apply Blk.set | (with_reducible apply Blk.otherR; (simp <;> omega)) | with_reducible exact Blk.new _ _ _ | (with_reducible apply Blk.new'; (focus (simp; done))) | with_reducible apply Blk.alloc | with_reducible apply Blk.drew)); rfl)
  obtain ⟨r47, z48, z48l⟩ := B46.facts
  have B49 : Blk w31 (w.heap.size) #[.float .f64 0, .float .f64 0, .float .f64 0, .float .f64 0, .bool false] 102 := by subst hW41; (apply Blk.cast; (repeat (first | with_reducible assumption | with_reducible apply Blk.set | (with_reducible apply Blk.otherR; (simp <;> omega)) | with_reducible exact Blk.new _ _ _ | (with_reducible apply Blk.new'; (focus (simp; done))) | with_reducible apply Blk.alloc | with_reducible apply Blk.drew)); rfl)
  obtain ⟨r50, z51, z51l⟩ := B49.facts
  clear hW41
  rw [rounds_succ]
  go_wp2_with (go_at_call 95; (with_reducible refine (f95_full _ _ _ _ _ _ _ _ _ _ FX.out FY.out FX.out FY.out h1 h2 h3 h4 _).mono ?_); rintro e w52 ⟨rfl, hb53⟩; have B54 : Blk w52 (b) #[.float .f64 x, .float .f64 y, .float .f64 p, .float .f64 q] 81 := Blk.bel (by (apply Blk.cast; (repeat (first | with_reducible assumption | with_reducible apply Blk.set | (with_reducible apply Blk.otherR; (simp <;> omega)) | with_reducible exact Blk.new _ _ _ | (with_reducible apply Blk.new'; (focus (simp; done))) | with_reducible apply Blk.alloc | with_reducible apply Blk.drew)); rfl)) hb53; obtain ⟨r55, z56, z56l⟩ := B54.facts; have B57 : Blk w52 (w.heap.size + 1) #[.float .f64 x, .float .f64 y, .float .f64 x, .float .f64 y, .bool true] 102 := Blk.bel (by (apply Blk.cast; (repeat (first | with_reducible assumption | with_reducible apply Blk.set | (with_reducible apply Blk.otherR; (simp <;> omega)) | with_reducible exact Blk.new _ _ _ | (with_reducible apply Blk.new'; (focus (simp; done))) | with_reducible apply Blk.alloc | with_reducible apply Blk.drew)); rfl)) hb53; obtain ⟨r58, z59, z59l⟩ := B57.facts; have B60 : Blk w52 (w.heap.size) #[.float .f64 0, .float .f64 0, .float .f64 0, .float .f64 0, .bool false] 102 := Blk.bel (by (apply Blk.cast; (repeat (first | with_reducible assumption | with_reducible apply Blk.set | (with_reducible apply Blk.otherR; (simp <;> omega)) | with_reducible exact Blk.new _ _ _ | (with_reducible apply Blk.new'; (focus (simp; done))) | with_reducible apply Blk.alloc | with_reducible apply Blk.drew)); rfl)) hb53; obtain ⟨r61, z62, z62l⟩ := B60.facts)
  generalize hW63 : World.setCell _ _ _ = w32
  have hb64 : Bel w w32 := by subst hW63; repeat (first | with_reducible assumption | with_reducible exact Bel.refl _ | with_reducible apply Bel.alloc | with_reducible apply Bel.drew | (with_reducible apply Bel.setCellR; (simp <;> omega)) | with_reducible refine Bel.behind (by with_reducible assumption) ?_)
  have B65 : Blk w32 (b) #[.float .f64 x, .float .f64 y, .float .f64 p, .float .f64 q] 81 := by subst hW63; (apply Blk.cast; (repeat (first | with_reducible assumption | with_reducible apply Blk.set | (with_reducible apply Blk.otherR; (simp <;> omega)) | with_reducible exact Blk.new _ _ _ | (with_reducible apply Blk.new'; (focus (simp; done))) | with_reducible apply Blk.alloc | with_reducible apply Blk.drew)); rfl)
  obtain ⟨r66, z67, z67l⟩ := B65.facts
  have B68 : Blk w32 (w.heap.size + 1) #[.float .f64 c1, .float .f64 c2, .float .f64 c3, .float .f64 c4, .bool true] 102 := by subst hW63; (apply Blk.cast; (repeat (first | with_reducible assumption | with_reducible apply Blk.set | (with_reducible apply Blk.otherR; (simp <;> omega)) | with_reducible exact Blk.new _ _ _ | (with_reducible apply Blk.new'; (focus (simp; done))) | with_reducible apply Blk.alloc | with_reducible apply Blk.drew)); rfl)
  obtain ⟨r69, z70, z70l⟩ := B68.facts
  have B71 : Blk w32 (w.heap.size) #[.float .f64 0, .float .f64 0, .float .f64 0, .float .f64 0, .bool false] 102 := by subst hW63; (apply Blk.cast; (repeat (first | with_reducible assumption | with_reducible apply Blk.set | (with_reducible apply Blk.otherR; (simp <;> omega)) | with_reducible exact Blk.new _ _ _ | (with_reducible apply Blk.new'; (focus (simp; done))) | with_reducible apply Blk.alloc | with_reducible apply Blk.drew)); rfl)
  obtain ⟨r72, z73, z73l⟩ := B71.facts
  clear hW63
  rw [rounds_succ]
  go_wp2
  refine post_ret (results_one rfl (resIs_blk (n := 5) (T := 102) (by rfl) Try.underlying102 (by kernel_rfl) ?hB ?hs)) ⟨rfl, ?hbel⟩
  case hB => (apply Exists.intro; apply And.intro; (repeat (first | with_reducible assumption | with_reducible apply Blk.set | (with_reducible apply Blk.otherR; (simp <;> omega)) | with_reducible exact Blk.new _ _ _ | (with_reducible apply Blk.new'; (focus (simp; done))) | with_reducible apply Blk.alloc | with_reducible apply Blk.drew)); rfl)
  case hs => rfl
  case hbel => exact by repeat (first | with_reducible assumption | with_reducible exact Bel.refl _ | with_reducible apply Bel.alloc | with_reducible apply Bel.drew | (with_reducible apply Bel.setCellR; (simp <;> omega)) | with_reducible refine Bel.behind (by with_reducible assumption) ?_)


theorem f57_any (a b : Nat) (w : World) : Calls Try.prog 57 #[.agg #[.float .f64 a, .float .f64 b]] w fun e w' => e = .returned (.agg #[.float .f64 a, .float .f64 b]) ∧ Bel w w' := by
  go_enter Try.func57, Try.ntmps57
  go_wp2
  refine post_ret (results_one rfl (resIs_blk (n := 2) (T := 37) (by rfl) Try.underlying37 (by kernel_rfl) ?hB ?hs)) ⟨rfl, ?hbel⟩
  case hB => (apply Exists.intro; apply And.intro; (repeat (first | with_reducible assumption | with_reducible apply Blk.set | (with_reducible apply Blk.otherR; (simp <;> omega)) | with_reducible exact Blk.new _ _ _ | (with_reducible apply Blk.new'; (focus (simp; done))) | with_reducible apply Blk.alloc | with_reducible apply Blk.drew)); rfl)
  case hs => rfl
  case hbel => exact by repeat (first | with_reducible assumption | with_reducible exact Bel.refl _ | with_reducible apply Bel.alloc | with_reducible apply Bel.drew | (with_reducible apply Bel.setCellR; (simp <;> omega)) | with_reducible refine Bel.behind (by with_reducible assumption) ?_)

theorem f54_none (a b c d : Nat) (w : World) : Calls Try.prog 54 #[.agg #[.bool false, .float .f64 a, .float .f64 b, .float .f64 c, .float .f64 d]] w fun e w' => e = .returned (.agg #[.float .f64 0, .float .f64 0, .float .f64 0, .float .f64 0, .bool false]) ∧ Bel w w' := by
  go_enter Try.func54, Try.ntmps54
  go_wp2
  refine post_ret (results_one rfl (resIs_blk (n := 5) (T := 102) (by rfl) Try.underlying102 (by kernel_rfl) ?hB ?hs)) ⟨rfl, ?hbel⟩
  case hB => (apply Exists.intro; apply And.intro; (repeat (first | with_reducible assumption | with_reducible apply Blk.set | (with_reducible apply Blk.otherR; (simp <;> omega)) | with_reducible exact Blk.new _ _ _ | (with_reducible apply Blk.new'; (focus (simp; done))) | with_reducible apply Blk.alloc | with_reducible apply Blk.drew)); rfl)
  case hs => rfl
  case hbel => exact by repeat (first | with_reducible assumption | with_reducible exact Bel.refl _ | with_reducible apply Bel.alloc | with_reducible apply Bel.drew | (with_reducible apply Bel.setCellR; (simp <;> omega)) | with_reducible refine Bel.behind (by with_reducible assumption) ?_)

theorem f54_full (a b c d c1 c2 c3 c4 : Nat) (fa : finB a = true) (fb : finB b = true) (h1 : Hid (fmin a c = c1)) (h2 : Hid (fmin b d = c2)) (h3 : Hid (fmax a c = c3)) (h4 : Hid (fmax b d = c4)) (w : World) :
    Calls Try.prog 54 #[.agg #[.bool true, .float .f64 a, .float .f64 b, .float .f64 c, .float .f64 d]] w fun e w' => e = .returned (.agg #[.float .f64 c1, .float .f64 c2, .float .f64 c3, .float .f64 c4, .bool true]) ∧ Bel w w' := by
  have FA := Lib.hid fa
  have FB := Lib.hid fb
  clear fa fb
  go_enter Try.func54, Try.ntmps54
  go_wp2_with (go_at_call 82; refine (f82_two _ a b c d c1 c2 c3 c4 FA.out FB.out h1 h2 h3 h4 _ ?hB).mono ?_; (case hB => (apply Blk.cast; (repeat (first | with_reducible assumption | with_reducible apply Blk.set | (with_reducible apply Blk.otherR; (simp <;> omega)) | with_reducible exact Blk.new _ _ _ | (with_reducible apply Blk.new'; (focus (simp; done))) | with_reducible apply Blk.alloc | with_reducible apply Blk.drew)); rfl)); rintro e w1 ⟨rfl, hb1⟩; have B74 : Blk w1 (w.heap.size + 1) #[.float .f64 0, .float .f64 0, .float .f64 0, .float .f64 0, .bool false] 102 := Blk.bel (by (apply Blk.cast; (repeat (first | with_reducible assumption | with_reducible apply Blk.set | (with_reducible apply Blk.otherR; (simp <;> omega)) | with_reducible exact Blk.new _ _ _ | (with_reducible apply Blk.new'; (focus (simp; done))) | with_reducible apply Blk.alloc | with_reducible apply Blk.drew)); rfl)) hb1; obtain ⟨r75, z76, z76l⟩ := B74.facts)
  refine post_ret (results_one rfl (resIs_blk (n := 5) (T := 102) (by rfl) Try.underlying102 (by kernel_rfl) ?hB ?hs)) ⟨rfl, ?hbel⟩
  case hB => (apply Exists.intro; apply And.intro; (repeat (first | with_reducible assumption | with_reducible apply Blk.set | (with_reducible apply Blk.otherR; (simp <;> omega)) | with_reducible exact Blk.new _ _ _ | (with_reducible apply Blk.new'; (focus (simp; done))) | with_reducible apply Blk.alloc | with_reducible apply Blk.drew)); rfl)
  case hs => rfl
  case hbel => exact by repeat (first | with_reducible assumption | with_reducible exact Bel.refl _ | with_reducible apply Bel.alloc | with_reducible apply Bel.drew | (with_reducible apply Bel.setCellR; (simp <;> omega)) | with_reducible refine Bel.behind (by with_reducible assumption) ?_)

theorem f55_any (a b c d : Nat) (f : Bool) (w : World) : Calls Try.prog 55 #[.agg #[.float .f64 a, .float .f64 b, .float .f64 c, .float .f64 d, .bool f]] w fun e w' => e = .returned (.tuple #[.agg #[.float .f64 a, .float .f64 b, .float .f64 c, .float .f64 d], .bool f]) ∧ Bel w w' := by
  have B1 : ∀ o, Blk (w.alloc o) w.heap.size #[] 0 → True := fun _ _ => trivial
  clear B1
  go_enter Try.func55, Try.ntmps55
  go_wp2
  generalize hW : World.alloc _ _ = w0
  have hb0 : Bel w w0 := by subst hW; repeat (first | with_reducible assumption | with_reducible exact Bel.refl _ | with_reducible apply Bel.alloc | with_reducible apply Bel.drew | (with_reducible apply Bel.setCellR; (simp <;> omega)) | with_reducible refine Bel.behind (by with_reducible assumption) ?_)
  have B0 : Blk w0 w.heap.size #[.float .f64 a, .float .f64 b, .float .f64 c, .float .f64 d, .bool f] 102 := by subst hW; (apply Blk.cast; (repeat (first | with_reducible assumption | with_reducible apply Blk.set | (with_reducible apply Blk.otherR; (simp <;> omega)) | with_reducible exact Blk.new _ _ _ | (with_reducible apply Blk.new'; (focus (simp; done))) | with_reducible apply Blk.alloc | with_reducible apply Blk.drew)); rfl)
  have B1 : Blk w0 (w.heap.size + 1) #[.float .f64 0, .float .f64 0, .float .f64 0, .float .f64 0] 99 := by subst hW; (apply Blk.cast; (repeat (first | with_reducible assumption | with_reducible apply Blk.set | (with_reducible apply Blk.otherR; (simp <;> omega)) | with_reducible exact Blk.new _ _ _ | (with_reducible apply Blk.new'; (focus (simp; done))) | with_reducible apply Blk.alloc | with_reducible apply Blk.drew)); rfl)
  obtain ⟨r0, z0, l0⟩ := B0.facts
  obtain ⟨r1, z1, l1⟩ := B1.facts
  clear hW
  go_region_held3 (fun w' => (∀ o, w'.cell? ⟨w.heap.size, o, none⟩ = (#[.float .f64 a, .float .f64 b, .float .f64 c, .float .f64 d, .bool f] : Array Value)[o]?) ∧ Blk w' (w.heap.size) #[.float .f64 a, .float .f64 b, .float .f64 c, .float .f64 d, .bool f] 102 ∧ Bel w w')
    (first | (with_reducible apply keep1; with_reducible assumption; with_reducible assumption) | ((repeat (first | with_reducible assumption | (with_reducible apply keep1s; (simp <;> omega); (simp <;> omega)))); done) | (refine keep1i ?_ ?_; (focus ((repeat (first | with_reducible assumption | with_reducible apply Blk.set | (with_reducible apply Blk.otherR; (simp <;> omega)) | with_reducible exact Blk.new _ _ _ | (with_reducible apply Blk.new'; (focus (simp; done))) | with_reducible apply Blk.alloc | with_reducible apply Blk.drew)); done)); (focus ((repeat (first | with_reducible assumption | with_reducible exact Bel.refl _ | with_reducible apply Bel.alloc | with_reducible apply Bel.drew | (with_reducible apply Bel.setCellR; (simp <;> omega)) | with_reducible refine Bel.behind (by with_reducible assumption) ?_)); done))))
    (first | (go_at_call 83; (with_reducible refine (f83_any _ _ _ _ f _).mono ?_); rintro e w77 ⟨rfl, hb78⟩; have B79 : Blk w77 (w.heap.size + 1) #[.float .f64 0, .float .f64 0, .float .f64 0, .float .f64 0] 99 := Blk.bel (by (apply Blk.cast; (repeat (first | with_reducible assumption | with_reducible apply Blk.set | (with_reducible apply Blk.otherR; (simp <;> omega)) | with_reducible exact Blk.new _ _ _ | (with_reducible apply Blk.new'; (focus (simp; done))) | with_reducible apply Blk.alloc | with_reducible apply Blk.drew)); rfl)) hb78; obtain ⟨r80, z81, z81l⟩ := B79.facts))

  go_wp2
  refine post_ret (results_two rfl (resIs_blk (n := 4) (T := 99) (by rfl) Try.underlying99 (by kernel_rfl) ?hB0 ?hs0) (resIs_tmp (by rfl))) ⟨rfl, ?hbel⟩
  case hB0 => (apply Exists.intro; apply And.intro; (repeat (first | with_reducible assumption | with_reducible apply Blk.set | (with_reducible apply Blk.otherR; (simp <;> omega)) | with_reducible exact Blk.new _ _ _ | (with_reducible apply Blk.new'; (focus (simp; done))) | with_reducible apply Blk.alloc | with_reducible apply Blk.drew)); rfl)
  case hs0 => rfl
  case hbel => exact by repeat (first | with_reducible assumption | with_reducible exact Bel.refl _ | with_reducible apply Bel.alloc | with_reducible apply Bel.drew | (with_reducible apply Bel.setCellR; (simp <;> omega)) | with_reducible refine Bel.behind (by with_reducible assumption) ?_)


theorem f56_no (a b c d : Nat) (w : World) : Calls Try.prog 56 #[.agg #[.float .f64 a, .float .f64 b, .float .f64 c, .float .f64 d, .bool false]] w fun e w' => e = .returned (.tuple #[.agg #[.float .f64 0, .float .f64 0], .agg #[.float .f64 0, .float .f64 0], .bool false]) ∧ Bel w w' := by
  go_enter Try.func56, Try.ntmps56
  go_wp2_with (go_at_call 83; (with_reducible refine (f83_any _ _ _ _ false _).mono ?_); rintro e w82 ⟨rfl, hb83⟩; have B84 : Blk w82 (w.heap.size + 1) #[.float .f64 0, .float .f64 0] 81 := Blk.bel (by (apply Blk.cast; (repeat (first | with_reducible assumption | with_reducible apply Blk.set | (with_reducible apply Blk.otherR; (simp <;> omega)) | with_reducible exact Blk.new _ _ _ | (with_reducible apply Blk.new'; (focus (simp; done))) | with_reducible apply Blk.alloc | with_reducible apply Blk.drew)); rfl)) hb83; obtain ⟨r85, z86, z86l⟩ := B84.facts; have B87 : Blk w82 (w.heap.size + 1 + 1) #[.float .f64 0, .float .f64 0] 81 := Blk.bel (by (apply Blk.cast; (repeat (first | with_reducible assumption | with_reducible apply Blk.set | (with_reducible apply Blk.otherR; (simp <;> omega)) | with_reducible exact Blk.new _ _ _ | (with_reducible apply Blk.new'; (focus (simp; done))) | with_reducible apply Blk.alloc | with_reducible apply Blk.drew)); rfl)) hb83; obtain ⟨r88, z89, z89l⟩ := B87.facts)
  refine post_ret (results_three rfl (resIs_blk (n := 2) (T := 81) (by rfl) Try.underlying81 (by kernel_rfl) ?hB0 ?hs0) (resIs_blk (n := 2) (T := 81) (by rfl) Try.underlying81 (by kernel_rfl) ?hB1 ?hs1) (resIs_tmp (by rfl))) ⟨rfl, ?hbel⟩
  case hB0 => (apply Exists.intro; apply And.intro; (repeat (first | with_reducible assumption | with_reducible apply Blk.set | (with_reducible apply Blk.otherR; (simp <;> omega)) | with_reducible exact Blk.new _ _ _ | (with_reducible apply Blk.new'; (focus (simp; done))) | with_reducible apply Blk.alloc | with_reducible apply Blk.drew)); rfl)
  case hs0 => rfl
  case hB1 => (apply Exists.intro; apply And.intro; (repeat (first | with_reducible assumption | with_reducible apply Blk.set | (with_reducible apply Blk.otherR; (simp <;> omega)) | with_reducible exact Blk.new _ _ _ | (with_reducible apply Blk.new'; (focus (simp; done))) | with_reducible apply Blk.alloc | with_reducible apply Blk.drew)); rfl)
  case hs1 => rfl
  case hbel => exact by repeat (first | with_reducible assumption | with_reducible exact Bel.refl _ | with_reducible apply Bel.alloc | with_reducible apply Bel.drew | (with_reducible apply Bel.setCellR; (simp <;> omega)) | with_reducible refine Bel.behind (by with_reducible assumption) ?_)

theorem f56_yes (a b c d : Nat) (w : World) : Calls Try.prog 56 #[.agg #[.float .f64 a, .float .f64 b, .float .f64 c, .float .f64 d, .bool true]] w fun e w' => e = .returned (.tuple #[.agg #[.float .f64 a, .float .f64 b], .agg #[.float .f64 c, .float .f64 d], .bool true]) ∧ Bel w w' := by
  go_enter Try.func56, Try.ntmps56
  go_wp2_with (go_at_call 83; (with_reducible refine (f83_any _ _ _ _ true _).mono ?_); rintro e w90 ⟨rfl, hb91⟩; have B92 : Blk w90 (w.heap.size) #[.float .f64 a, .float .f64 b, .float .f64 c, .float .f64 d, .bool true] 102 := Blk.bel (by (apply Blk.cast; (repeat (first | with_reducible assumption | with_reducible apply Blk.set | (with_reducible apply Blk.otherR; (simp <;> omega)) | with_reducible exact Blk.new _ _ _ | (with_reducible apply Blk.new'; (focus (simp; done))) | with_reducible apply Blk.alloc | with_reducible apply Blk.drew)); rfl)) hb91; obtain ⟨r93, z94, z94l⟩ := B92.facts; have B95 : Blk w90 (w.heap.size + 1) #[.float .f64 0, .float .f64 0] 81 := Blk.bel (by (apply Blk.cast; (repeat (first | with_reducible assumption | with_reducible apply Blk.set | (with_reducible apply Blk.otherR; (simp <;> omega)) | with_reducible exact Blk.new _ _ _ | (with_reducible apply Blk.new'; (focus (simp; done))) | with_reducible apply Blk.alloc | with_reducible apply Blk.drew)); rfl)) hb91; obtain ⟨r96, z97, z97l⟩ := B95.facts; have B98 : Blk w90 (w.heap.size + 1 + 1) #[.float .f64 0, .float .f64 0] 81 := Blk.bel (by (apply Blk.cast; (repeat (first | with_reducible assumption | with_reducible apply Blk.set | (with_reducible apply Blk.otherR; (simp <;> omega)) | with_reducible exact Blk.new _ _ _ | (with_reducible apply Blk.new'; (focus (simp; done))) | with_reducible apply Blk.alloc | with_reducible apply Blk.drew)); rfl)) hb91; obtain ⟨r99, z100, z100l⟩ := B98.facts)
  go_region_held3 (fun w' => (∀ o, w'.cell? ⟨w.heap.size, o, none⟩ = (#[.float .f64 a, .float .f64 b, .float .f64 c, .float .f64 d, .bool true] : Array Value)[o]?) ∧ Blk w' (w.heap.size) #[.float .f64 a, .float .f64 b, .float .f64 c, .float .f64 d, .bool true] 102 ∧ Bel w w')
    (first | (with_reducible apply keep1; with_reducible assumption; with_reducible assumption) | ((repeat (first | with_reducible assumption | (with_reducible apply keep1s; (simp <;> omega); (simp <;> omega)))); done) | (refine keep1i ?_ ?_; (focus ((repeat (first | with_reducible assumption | with_reducible apply Blk.set | (with_reducible apply Blk.otherR; (simp <;> omega)) | with_reducible exact Blk.new _ _ _ | (with_reducible apply Blk.new'; (focus (simp; done))) | with_reducible apply Blk.alloc | with_reducible apply Blk.drew)); done)); (focus ((repeat (first | with_reducible assumption | with_reducible exact Bel.refl _ | with_reducible apply Bel.alloc | with_reducible apply Bel.drew | (with_reducible apply Bel.setCellR; (simp <;> omega)) | with_reducible refine Bel.behind (by with_reducible assumption) ?_)); done))))
    (fail)

  all_goals go_wp2
  all_goals
    refine post_ret (results_three rfl (resIs_blk (n := 2) (T := 81) (by rfl) Try.underlying81 (by kernel_rfl) ?hB0 ?hs0) (resIs_blk (n := 2) (T := 81) (by rfl) Try.underlying81 (by kernel_rfl) ?hB1 ?hs1) (resIs_tmp (by rfl))) ⟨rfl, ?hbel⟩
    case hB0 => (apply Exists.intro; apply And.intro; (repeat (first | with_reducible assumption | with_reducible apply Blk.set | (with_reducible apply Blk.otherR; (simp <;> omega)) | with_reducible exact Blk.new _ _ _ | (with_reducible apply Blk.new'; (focus (simp; done))) | with_reducible apply Blk.alloc | with_reducible apply Blk.drew)); rfl)
    case hs0 => rfl
    case hB1 => (apply Exists.intro; apply And.intro; (repeat (first | with_reducible assumption | with_reducible apply Blk.set | (with_reducible apply Blk.otherR; (simp <;> omega)) | with_reducible exact Blk.new _ _ _ | (with_reducible apply Blk.new'; (focus (simp; done))) | with_reducible apply Blk.alloc | with_reducible apply Blk.drew)); rfl)
    case hs1 => rfl
    case hbel => exact by repeat (first | with_reducible assumption | with_reducible exact Bel.refl _ | with_reducible apply Bel.alloc | with_reducible apply Bel.drew | (with_reducible apply Bel.setCellR; (simp <;> omega)) | with_reducible refine Bel.behind (by with_reducible assumption) ?_)

theorem f29_none (a b c d : Nat) (w : World) : Calls Try.prog 29 #[.agg #[.bool false, .float .f64 a, .float .f64 b, .float .f64 c, .float .f64 d]] w fun e w' => e = .returned (.tuple #[.agg #[.float .f64 0, .float .f64 0, .float .f64 0, .float .f64 0], .bool false]) ∧ Bel w w' := by
  go_enter Try.func29, Try.ntmps29
  go_wp2_with (first | (go_at_call 54; (with_reducible refine (f54_none _ _ _ _ _).mono ?_); rintro e w101 ⟨rfl, hb102⟩; have B103 : Blk w101 (w.heap.size + 1) #[.float .f64 0, .float .f64 0, .float .f64 0, .float .f64 0] 62 := Blk.bel (by (apply Blk.cast; (repeat (first | with_reducible assumption | with_reducible apply Blk.set | (with_reducible apply Blk.otherR; (simp <;> omega)) | with_reducible exact Blk.new _ _ _ | (with_reducible apply Blk.new'; (focus (simp; done))) | with_reducible apply Blk.alloc | with_reducible apply Blk.drew)); rfl)) hb102; obtain ⟨r104, z105, z105l⟩ := B103.facts) | (go_at_call 55; (with_reducible refine (f55_any _ _ _ _ _ _).mono ?_); rintro e w106 ⟨rfl, hb107⟩; have B108 : Blk w106 (w.heap.size + 1) #[.float .f64 0, .float .f64 0, .float .f64 0, .float .f64 0] 62 := Blk.bel (by (apply Blk.cast; (repeat (first | with_reducible assumption | with_reducible apply Blk.set | (with_reducible apply Blk.otherR; (simp <;> omega)) | with_reducible exact Blk.new _ _ _ | (with_reducible apply Blk.new'; (focus (simp; done))) | with_reducible apply Blk.alloc | with_reducible apply Blk.drew)); rfl)) hb107; obtain ⟨r109, z110, z110l⟩ := B108.facts))
  refine post_ret (results_two rfl (resIs_blk (n := 4) (T := 62) (by rfl) Try.underlying62 (by kernel_rfl) ?hB0 ?hs0) (resIs_tmp (by rfl))) ⟨rfl, ?hbel⟩
  case hB0 => (apply Exists.intro; apply And.intro; (repeat (first | with_reducible assumption | with_reducible apply Blk.set | (with_reducible apply Blk.otherR; (simp <;> omega)) | with_reducible exact Blk.new _ _ _ | (with_reducible apply Blk.new'; (focus (simp; done))) | with_reducible apply Blk.alloc | with_reducible apply Blk.drew)); rfl)
  case hs0 => rfl
  case hbel => exact by repeat (first | with_reducible assumption | with_reducible exact Bel.refl _ | with_reducible apply Bel.alloc | with_reducible apply Bel.drew | (with_reducible apply Bel.setCellR; (simp <;> omega)) | with_reducible refine Bel.behind (by with_reducible assumption) ?_)

theorem f29_full (a b c d c1 c2 c3 c4 : Nat) (fa : Hid (finB a = true)) (fb : Hid (finB b = true)) (h1 : Hid (fmin a c = c1)) (h2 : Hid (fmin b d = c2)) (h3 : Hid (fmax a c = c3)) (h4 : Hid (fmax b d = c4)) (w : World) :
    Calls Try.prog 29 #[.agg #[.bool true, .float .f64 a, .float .f64 b, .float .f64 c, .float .f64 d]] w fun e w' => e = .returned (.tuple #[.agg #[.float .f64 c1, .float .f64 c2, .float .f64 c3, .float .f64 c4], .bool true]) ∧ Bel w w' := by
  go_enter Try.func29, Try.ntmps29
  go_wp2_with (first | (go_at_call 54; (with_reducible refine (f54_full _ _ _ _ c1 c2 c3 c4 fa.out fb.out h1 h2 h3 h4 _).mono ?_); rintro e w111 ⟨rfl, hb112⟩; have B113 : Blk w111 (w.heap.size + 1) #[.float .f64 0, .float .f64 0, .float .f64 0, .float .f64 0] 62 := Blk.bel (by (apply Blk.cast; (repeat (first | with_reducible assumption | with_reducible apply Blk.set | (with_reducible apply Blk.otherR; (simp <;> omega)) | with_reducible exact Blk.new _ _ _ | (with_reducible apply Blk.new'; (focus (simp; done))) | with_reducible apply Blk.alloc | with_reducible apply Blk.drew)); rfl)) hb112; obtain ⟨r114, z115, z115l⟩ := B113.facts) | (go_at_call 55; (with_reducible refine (f55_any _ _ _ _ _ _).mono ?_); rintro e w116 ⟨rfl, hb117⟩; have B118 : Blk w116 (w.heap.size + 1) #[.float .f64 0, .float .f64 0, .float .f64 0, .float .f64 0] 62 := Blk.bel (by (apply Blk.cast; (repeat (first | with_reducible assumption | with_reducible apply Blk.set | (with_reducible apply Blk.otherR; (simp <;> omega)) | with_reducible exact Blk.new _ _ _ | (with_reducible apply Blk.new'; (focus (simp; done))) | with_reducible apply Blk.alloc | with_reducible apply Blk.drew)); rfl)) hb117; obtain ⟨r119, z120, z120l⟩ := B118.facts))
  refine post_ret (results_two rfl (resIs_blk (n := 4) (T := 62) (by rfl) Try.underlying62 (by kernel_rfl) ?hB0 ?hs0) (resIs_tmp (by rfl))) ⟨rfl, ?hbel⟩
  case hB0 => (apply Exists.intro; apply And.intro; (repeat (first | with_reducible assumption | with_reducible apply Blk.set | (with_reducible apply Blk.otherR; (simp <;> omega)) | with_reducible exact Blk.new _ _ _ | (with_reducible apply Blk.new'; (focus (simp; done))) | with_reducible apply Blk.alloc | with_reducible apply Blk.drew)); rfl)
  case hs0 => rfl
  case hbel => exact by repeat (first | with_reducible assumption | with_reducible exact Bel.refl _ | with_reducible apply Bel.alloc | with_reducible apply Bel.drew | (with_reducible apply Bel.setCellR; (simp <;> omega)) | with_reducible refine Bel.behind (by with_reducible assumption) ?_)


set_option maxHeartbeats 1000000 in
theorem f30_none (a b c d : Nat) (w : World) : Calls Try.prog 30 #[.agg #[.bool false, .float .f64 a, .float .f64 b, .float .f64 c, .float .f64 d]] w fun e w' => e = .returned (.tuple #[.agg #[.float .f64 0, .float .f64 0], .agg #[.float .f64 0, .float .f64 0], .bool false]) ∧ Bel w w' := by
  go_enter Try.func30, Try.ntmps30
  go_wp2_with (first | (go_at_call 54; (with_reducible refine (f54_none _ _ _ _ _).mono ?_); rintro e w121 ⟨rfl, hb122⟩; have B123 : Blk w121 (w.heap.size + 1) #[.float .f64 0, .float .f64 0] 37 := Blk.bel (by (apply Blk.cast; (repeat (first | with_reducible assumption | with_reducible apply Blk.set | (with_reducible apply Blk.otherR; (simp <;> omega)) | with_reducible exact Blk.new _ _ _ | (with_reducible apply Blk.new'; (focus (simp; done))) | with_reducible apply Blk.alloc | with_reducible apply Blk.drew)); rfl)) hb122; obtain ⟨r124, z125, z125l⟩ := B123.facts; have B126 : Blk w121 (w.heap.size + 1 + 1) #[.float .f64 0, .float .f64 0] 37 := Blk.bel (by (apply Blk.cast; (repeat (first | with_reducible assumption | with_reducible apply Blk.set | (with_reducible apply Blk.otherR; (simp <;> omega)) | with_reducible exact Blk.new _ _ _ | (with_reducible apply Blk.new'; (focus (simp; done))) | with_reducible apply Blk.alloc | with_reducible apply Blk.drew)); rfl)) hb122; obtain ⟨r127, z128, z128l⟩ := B126.facts) | (go_at_call 56; (with_reducible refine (f56_no _ _ _ _ _).mono ?_); rintro e wq ⟨rfl, hb129⟩; have B130 : Blk wq (w.heap.size + 1) #[.float .f64 0, .float .f64 0] 37 := Blk.bel (by (apply Blk.cast; (repeat (first | with_reducible assumption | with_reducible apply Blk.set | (with_reducible apply Blk.otherR; (simp <;> omega)) | with_reducible exact Blk.new _ _ _ | (with_reducible apply Blk.new'; (focus (simp; done))) | with_reducible apply Blk.alloc | with_reducible apply Blk.drew)); rfl)) hb129; obtain ⟨r131, z132, z132l⟩ := B130.facts; have B133 : Blk wq (w.heap.size + 1 + 1) #[.float .f64 0, .float .f64 0] 37 := Blk.bel (by (apply Blk.cast; (repeat (first | with_reducible assumption | with_reducible apply Blk.set | (with_reducible apply Blk.otherR; (simp <;> omega)) | with_reducible exact Blk.new _ _ _ | (with_reducible apply Blk.new'; (focus (simp; done))) | with_reducible apply Blk.alloc | with_reducible apply Blk.drew)); rfl)) hb129; obtain ⟨r134, z135, z135l⟩ := B133.facts))
  generalize hW136 : World.alloc _ _ = w0
  have hb137 : Bel w w0 := by subst hW136; repeat (first | with_reducible assumption | with_reducible exact Bel.refl _ | with_reducible apply Bel.alloc | with_reducible apply Bel.drew | (with_reducible apply Bel.setCellR; (simp <;> omega)) | with_reducible refine Bel.behind (by with_reducible assumption) ?_)
  have B138 : Blk w0 (wq.heap.size) #[.float .f64 0, .float .f64 0] 81 := by subst hW136; (apply Blk.cast; (repeat (first | with_reducible assumption | with_reducible apply Blk.set | (with_reducible apply Blk.otherR; (simp <;> omega)) | with_reducible exact Blk.new _ _ _ | (with_reducible apply Blk.new'; (focus (simp; done))) | with_reducible apply Blk.alloc | with_reducible apply Blk.drew)); rfl)
  obtain ⟨r139, z140, z140l⟩ := B138.facts
  have B141 : Blk w0 (wq.heap.size + 1) #[.float .f64 0, .float .f64 0] 81 := by subst hW136; (apply Blk.cast; (repeat (first | with_reducible assumption | with_reducible apply Blk.set | (with_reducible apply Blk.otherR; (simp <;> omega)) | with_reducible exact Blk.new _ _ _ | (with_reducible apply Blk.new'; (focus (simp; done))) | with_reducible apply Blk.alloc | with_reducible apply Blk.drew)); rfl)
  obtain ⟨r142, z143, z143l⟩ := B141.facts
  have B144 : Blk w0 (w.heap.size + 1) #[.float .f64 0, .float .f64 0] 37 := by subst hW136; (apply Blk.cast; (repeat (first | with_reducible assumption | with_reducible apply Blk.set | (with_reducible apply Blk.otherR; (simp <;> omega)) | with_reducible exact Blk.new _ _ _ | (with_reducible apply Blk.new'; (focus (simp; done))) | with_reducible apply Blk.alloc | with_reducible apply Blk.drew)); rfl)
  obtain ⟨r145, z146, z146l⟩ := B144.facts
  have B147 : Blk w0 (w.heap.size + 1 + 1) #[.float .f64 0, .float .f64 0] 37 := by subst hW136; (apply Blk.cast; (repeat (first | with_reducible assumption | with_reducible apply Blk.set | (with_reducible apply Blk.otherR; (simp <;> omega)) | with_reducible exact Blk.new _ _ _ | (with_reducible apply Blk.new'; (focus (simp; done))) | with_reducible apply Blk.alloc | with_reducible apply Blk.drew)); rfl)
  obtain ⟨r148, z149, z149l⟩ := B147.facts
  clear hW136
  go_region_held3 (fun w' => (∀ o, w'.cell? ⟨wq.heap.size, o, none⟩ = (#[.float .f64 0, .float .f64 0] : Array Value)[o]?) ∧ (∀ o, w'.cell? ⟨wq.heap.size + 1, o, none⟩ = (#[.float .f64 0, .float .f64 0] : Array Value)[o]?) ∧ Blk w' (wq.heap.size) #[.float .f64 0, .float .f64 0] 81 ∧ Blk w' (wq.heap.size + 1) #[.float .f64 0, .float .f64 0] 81 ∧ Bel w w')
    (first | (with_reducible apply keep2; with_reducible assumption; with_reducible assumption) | ((repeat (first | with_reducible assumption | (with_reducible apply keep2s; (simp <;> omega); (simp <;> omega); (simp <;> omega)))); done) | (refine keep2i ?_ ?_ ?_; (focus ((repeat (first | with_reducible assumption | with_reducible apply Blk.set | (with_reducible apply Blk.otherR; (simp <;> omega)) | with_reducible exact Blk.new _ _ _ | (with_reducible apply Blk.new'; (focus (simp; done))) | with_reducible apply Blk.alloc | with_reducible apply Blk.drew)); done)); (focus ((repeat (first | with_reducible assumption | with_reducible apply Blk.set | (with_reducible apply Blk.otherR; (simp <;> omega)) | with_reducible exact Blk.new _ _ _ | (with_reducible apply Blk.new'; (focus (simp; done))) | with_reducible apply Blk.alloc | with_reducible apply Blk.drew)); done)); (focus ((repeat (first | with_reducible assumption | with_reducible exact Bel.refl _ | with_reducible apply Bel.alloc | with_reducible apply Bel.drew | (with_reducible apply Bel.setCellR; (simp <;> omega)) | with_reducible refine Bel.behind (by with_reducible assumption) ?_)); done))))
    (first | (go_at_call 57; (with_reducible refine (f57_any _ _ _).mono ?_); rintro e w150 ⟨rfl, hb151⟩; have B152 : Blk w150 (w.heap.size + 1) #[.float .f64 0, .float .f64 0] 37 := Blk.bel (by (apply Blk.cast; (repeat (first | with_reducible assumption | with_reducible apply Blk.set | (with_reducible apply Blk.otherR; (simp <;> omega)) | with_reducible exact Blk.new _ _ _ | (with_reducible apply Blk.new'; (focus (simp; done))) | with_reducible apply Blk.alloc | with_reducible apply Blk.drew)); rfl)) hb151; obtain ⟨r153, z154, z154l⟩ := B152.facts; have B155 : Blk w150 (w.heap.size + 1 + 1) #[.float .f64 0, .float .f64 0] 37 := Blk.bel (by (apply Blk.cast; (repeat (first | with_reducible assumption | with_reducible apply Blk.set | (with_reducible apply Blk.otherR; (simp <;> omega)) | with_reducible exact Blk.new _ _ _ | (with_reducible apply Blk.new'; (focus (simp; done))) | with_reducible apply Blk.alloc | with_reducible apply Blk.drew)); rfl)) hb151; obtain ⟨r156, z157, z157l⟩ := B155.facts))

  all_goals go_wp2
  all_goals
    refine post_ret (results_three rfl (resIs_blk (n := 2) (T := 37) (by rfl) Try.underlying37 (by kernel_rfl) ?hB0 ?hs0) (resIs_blk (n := 2) (T := 37) (by rfl) Try.underlying37 (by kernel_rfl) ?hB1 ?hs1) (resIs_tmp (by rfl))) ⟨rfl, ?hbel⟩
    case hB0 => (apply Exists.intro; apply And.intro; (repeat (first | with_reducible assumption | with_reducible apply Blk.set | (with_reducible apply Blk.otherR; (simp <;> omega)) | with_reducible exact Blk.new _ _ _ | (with_reducible apply Blk.new'; (focus (simp; done))) | with_reducible apply Blk.alloc | with_reducible apply Blk.drew)); rfl)
    case hs0 => rfl
    case hB1 => (apply Exists.intro; apply And.intro; (repeat (first | with_reducible assumption | with_reducible apply Blk.set | (with_reducible apply Blk.otherR; (simp <;> omega)) | with_reducible exact Blk.new _ _ _ | (with_reducible apply Blk.new'; (focus (simp; done))) | with_reducible apply Blk.alloc | with_reducible apply Blk.drew)); rfl)
    case hs1 => rfl
    case hbel => exact by repeat (first | with_reducible assumption | with_reducible exact Bel.refl _ | with_reducible apply Bel.alloc | with_reducible apply Bel.drew | (with_reducible apply Bel.setCellR; (simp <;> omega)) | with_reducible refine Bel.behind (by with_reducible assumption) ?_)

set_option maxHeartbeats 1000000 in
theorem f30_full (a b c d c1 c2 c3 c4 : Nat) (fa : Hid (finB a = true)) (fb : Hid (finB b = true)) (h1 : Hid (fmin a c = c1)) (h2 : Hid (fmin b d = c2)) (h3 : Hid (fmax a c = c3)) (h4 : Hid (fmax b d = c4)) (w : World) : Calls Try.prog 30 #[.agg #[.bool true, .float .f64 a, .float .f64 b, .float .f64 c, .float .f64 d]] w fun e w' => e = .returned (.tuple #[.agg #[.float .f64 c1, .float .f64 c2], .agg #[.float .f64 c3, .float .f64 c4], .bool true]) ∧ Bel w w' := by
  go_enter Try.func30, Try.ntmps30
  go_wp2_with (first | (go_at_call 54; (with_reducible refine (f54_full _ _ _ _ c1 c2 c3 c4 fa.out fb.out h1 h2 h3 h4 _).mono ?_); rintro e w158 ⟨rfl, hb159⟩; have B160 : Blk w158 (w.heap.size + 1) #[.float .f64 0, .float .f64 0] 37 := Blk.bel (by (apply Blk.cast; (repeat (first | with_reducible assumption | with_reducible apply Blk.set | (with_reducible apply Blk.otherR; (simp <;> omega)) | with_reducible exact Blk.new _ _ _ | (with_reducible apply Blk.new'; (focus (simp; done))) | with_reducible apply Blk.alloc | with_reducible apply Blk.drew)); rfl)) hb159; obtain ⟨r161, z162, z162l⟩ := B160.facts; have B163 : Blk w158 (w.heap.size + 1 + 1) #[.float .f64 0, .float .f64 0] 37 := Blk.bel (by (apply Blk.cast; (repeat (first | with_reducible assumption | with_reducible apply Blk.set | (with_reducible apply Blk.otherR; (simp <;> omega)) | with_reducible exact Blk.new _ _ _ | (with_reducible apply Blk.new'; (focus (simp; done))) | with_reducible apply Blk.alloc | with_reducible apply Blk.drew)); rfl)) hb159; obtain ⟨r164, z165, z165l⟩ := B163.facts) | (go_at_call 56; (with_reducible refine (f56_yes _ _ _ _ _).mono ?_); rintro e wq ⟨rfl, hb166⟩; have B167 : Blk wq (w.heap.size + 1) #[.float .f64 0, .float .f64 0] 37 := Blk.bel (by (apply Blk.cast; (repeat (first | with_reducible assumption | with_reducible apply Blk.set | (with_reducible apply Blk.otherR; (simp <;> omega)) | with_reducible exact Blk.new _ _ _ | (with_reducible apply Blk.new'; (focus (simp; done))) | with_reducible apply Blk.alloc | with_reducible apply Blk.drew)); rfl)) hb166; obtain ⟨r168, z169, z169l⟩ := B167.facts; have B170 : Blk wq (w.heap.size + 1 + 1) #[.float .f64 0, .float .f64 0] 37 := Blk.bel (by (apply Blk.cast; (repeat (first | with_reducible assumption | with_reducible apply Blk.set | (with_reducible apply Blk.otherR; (simp <;> omega)) | with_reducible exact Blk.new _ _ _ | (with_reducible apply Blk.new'; (focus (simp; done))) | with_reducible apply Blk.alloc | with_reducible apply Blk.drew)); rfl)) hb166; obtain ⟨r171, z172, z172l⟩ := B170.facts))
  generalize hW173 : World.alloc _ _ = w0
  have hb174 : Bel w w0 := by subst hW173; repeat (first | with_reducible assumption | with_reducible exact Bel.refl _ | with_reducible apply Bel.alloc | with_reducible apply Bel.drew | (with_reducible apply Bel.setCellR; (simp <;> omega)) | with_reducible refine Bel.behind (by with_reducible assumption) ?_)
  have B175 : Blk w0 (wq.heap.size) #[.float .f64 c1, .float .f64 c2] 81 := by subst hW173; (apply Blk.cast; (repeat (first | with_reducible assumption | with_reducible apply Blk.set | (with_reducible apply Blk.otherR; (simp <;> omega)) | with_reducible exact Blk.new _ _ _ | (with_reducible apply Blk.new'; (focus (simp; done))) | with_reducible apply Blk.alloc | with_reducible apply Blk.drew)); rfl)
  obtain ⟨r176, z177, z177l⟩ := B175.facts
  have B178 : Blk w0 (wq.heap.size + 1) #[.float .f64 c3, .float .f64 c4] 81 := by subst hW173; (apply Blk.cast; (repeat (first | with_reducible assumption | with_reducible apply Blk.set | (with_reducible apply Blk.otherR; (simp <;> omega)) | with_reducible exact Blk.new _ _ _ | (with_reducible apply Blk.new'; (focus (simp; done))) | with_reducible apply Blk.alloc | with_reducible apply Blk.drew)); rfl)
  obtain ⟨r179, z180, z180l⟩ := B178.facts
  have B181 : Blk w0 (w.heap.size + 1) #[.float .f64 0, .float .f64 0] 37 := by subst hW173; (apply Blk.cast; (repeat (first | with_reducible assumption | with_reducible apply Blk.set | (with_reducible apply Blk.otherR; (simp <;> omega)) | with_reducible exact Blk.new _ _ _ | (with_reducible apply Blk.new'; (focus (simp; done))) | with_reducible apply Blk.alloc | with_reducible apply Blk.drew)); rfl)
  obtain ⟨r182, z183, z183l⟩ := B181.facts
  have B184 : Blk w0 (w.heap.size + 1 + 1) #[.float .f64 0, .float .f64 0] 37 := by subst hW173; (apply Blk.cast; (repeat (first | with_reducible assumption | with_reducible apply Blk.set | (with_reducible apply Blk.otherR; (simp <;> omega)) | with_reducible exact Blk.new _ _ _ | (with_reducible apply Blk.new'; (focus (simp; done))) | with_reducible apply Blk.alloc | with_reducible apply Blk.drew)); rfl)
  obtain ⟨r185, z186, z186l⟩ := B184.facts
  clear hW173
  go_region_held3 (fun w' => (∀ o, w'.cell? ⟨wq.heap.size, o, none⟩ = (#[.float .f64 c1, .float .f64 c2] : Array Value)[o]?) ∧ (∀ o, w'.cell? ⟨wq.heap.size + 1, o, none⟩ = (#[.float .f64 c3, .float .f64 c4] : Array Value)[o]?) ∧ Blk w' (wq.heap.size) #[.float .f64 c1, .float .f64 c2] 81 ∧ Blk w' (wq.heap.size + 1) #[.float .f64 c3, .float .f64 c4] 81 ∧ Bel w w')
    (first | (with_reducible apply keep2; with_reducible assumption; with_reducible assumption) | ((repeat (first | with_reducible assumption | (with_reducible apply keep2s; (simp <;> omega); (simp <;> omega); (simp <;> omega)))); done) | (refine keep2i ?_ ?_ ?_; (focus ((repeat (first | with_reducible assumption | with_reducible apply Blk.set | (with_reducible apply Blk.otherR; (simp <;> omega)) | with_reducible exact Blk.new _ _ _ | (with_reducible apply Blk.new'; (focus (simp; done))) | with_reducible apply Blk.alloc | with_reducible apply Blk.drew)); done)); (focus ((repeat (first | with_reducible assumption | with_reducible apply Blk.set | (with_reducible apply Blk.otherR; (simp <;> omega)) | with_reducible exact Blk.new _ _ _ | (with_reducible apply Blk.new'; (focus (simp; done))) | with_reducible apply Blk.alloc | with_reducible apply Blk.drew)); done)); (focus ((repeat (first | with_reducible assumption | with_reducible exact Bel.refl _ | with_reducible apply Bel.alloc | with_reducible apply Bel.drew | (with_reducible apply Bel.setCellR; (simp <;> omega)) | with_reducible refine Bel.behind (by with_reducible assumption) ?_)); done))))
    (first | (go_at_call 57; (with_reducible refine (f57_any _ _ _).mono ?_); rintro e w187 ⟨rfl, hb188⟩; have B189 : Blk w187 (w.heap.size + 1) #[.float .f64 0, .float .f64 0] 37 := Blk.bel (by (apply Blk.cast; (repeat (first | with_reducible assumption | with_reducible apply Blk.set | (with_reducible apply Blk.otherR; (simp <;> omega)) | with_reducible exact Blk.new _ _ _ | (with_reducible apply Blk.new'; (focus (simp; done))) | with_reducible apply Blk.alloc | with_reducible apply Blk.drew)); rfl)) hb188; obtain ⟨r190, z191, z191l⟩ := B189.facts; have B192 : Blk w187 (w.heap.size + 1 + 1) #[.float .f64 0, .float .f64 0] 37 := Blk.bel (by (apply Blk.cast; (repeat (first | with_reducible assumption | with_reducible apply Blk.set | (with_reducible apply Blk.otherR; (simp <;> omega)) | with_reducible exact Blk.new _ _ _ | (with_reducible apply Blk.new'; (focus (simp; done))) | with_reducible apply Blk.alloc | with_reducible apply Blk.drew)); rfl)) hb188; obtain ⟨r193, z194, z194l⟩ := B192.facts))

  all_goals go_wp2
  all_goals
    refine post_ret (results_three rfl (resIs_blk (n := 2) (T := 37) (by rfl) Try.underlying37 (by kernel_rfl) ?hB0 ?hs0) (resIs_blk (n := 2) (T := 37) (by rfl) Try.underlying37 (by kernel_rfl) ?hB1 ?hs1) (resIs_tmp (by rfl))) ⟨rfl, ?hbel⟩
    case hB0 => (apply Exists.intro; apply And.intro; (repeat (first | with_reducible assumption | with_reducible apply Blk.set | (with_reducible apply Blk.otherR; (simp <;> omega)) | with_reducible exact Blk.new _ _ _ | (with_reducible apply Blk.new'; (focus (simp; done))) | with_reducible apply Blk.alloc | with_reducible apply Blk.drew)); rfl)
    case hs0 => rfl
    case hB1 => (apply Exists.intro; apply And.intro; (repeat (first | with_reducible assumption | with_reducible apply Blk.set | (with_reducible apply Blk.otherR; (simp <;> omega)) | with_reducible exact Blk.new _ _ _ | (with_reducible apply Blk.new'; (focus (simp; done))) | with_reducible apply Blk.alloc | with_reducible apply Blk.drew)); rfl)
    case hs1 => rfl
    case hbel => exact by repeat (first | with_reducible assumption | with_reducible exact Bel.refl _ | with_reducible apply Bel.alloc | with_reducible apply Bel.drew | (with_reducible apply Bel.setCellR; (simp <;> omega)) | with_reducible refine Bel.behind (by with_reducible assumption) ?_)
end Go.Proofs.Ytdebkmioaglmaaa
