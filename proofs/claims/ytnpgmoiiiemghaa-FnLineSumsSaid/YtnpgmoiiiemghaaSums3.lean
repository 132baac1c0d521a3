/-
  impl.LineSums. No panic; what stood in memory has not turned.
-/
import Derived.Test.YtnpgmoiiiemghaaSums2
namespace Go.Proofs.Ytnpgmoiiiemghaa
open Go.ChangeShapes Go.WideShapes Go.ChangeAt Go.RowKit
theorem doorLineSums_any (F : Nat → Prop) (p : Option Addr) (n cap : Nat) (xs : List Nat) (st : Nat → Tri) (w : World) (hF : New F w) (h : FlSl F w (.slice p (n * 2) cap) xs) (h31 : n ≤ 100000000)
    (h0 : st 0 = ⟨0, 0, 0⟩) (hs : ∀ i, i + 1 < n → StepS xs i (st i) (st (i + 1))) :
    Calls Try.prog 30 #[.agg #[.int .u8 0, .slice p (n * 2) cap]] w (IsSums w (st (n - 1))) := by
  have HX := Lib.hid h
  have HS := Lib.hid hs
  have H0 := Lib.hid h0
  clear h hs h0
  generalize hT : st (n - 1) = T
  have HT := Lib.hid hT
  clear hT
  obtain ⟨x, y, l⟩ := T
  go_enter Try.func30, Try.ntmps30
  go_wp2_with (go_at_call 48; refine (sums_any F p n cap xs st _ (hF.of_le (by simp; omega)) (HX.out.bel (by (repeat (first | with_reducible assumption | with_reducible exact Bel.refl _ | with_reducible apply Bel.alloc | with_reducible apply Bel.drew | with_reducible apply Bel.drewN | ((with_reducible apply Bel.setCellR); (simp <;> omega)) | with_reducible refine Bel.behind (by with_reducible assumption) ?_)))) h31 H0.out HS.out).mono ?_; rw [HT.out]; rintro e w1 ⟨rfl, hb1⟩; have hl1 := hb1.size; (try simp at hl1); (refine (fun (B7 : Blk w1 (w.heap.size + 1) #[.float .f64 0, .float .f64 0] 68) => ?_) ?_); rotate_left; (focus ((repeat (first | with_reducible assumption | with_reducible exact Blk.new _ _ _ | ((with_reducible refine Blk.new' _ _ _ ?_); (focus ((simp; done)))) | with_reducible apply Blk.drew | with_reducible apply Blk.drewN | with_reducible refine Blk.alloc ?_ _ | with_reducible apply Blk.same | (with_reducible refine Blk.bel ?_ (by with_reducible assumption)) | ((with_reducible refine Blk.otherR ?_ ?_); (focus ((simp <;> omega); done))))); done)); obtain ⟨q76, z76, n76⟩ := B7.facts)
  refine post_ret (results_two rfl (resIs_agg (n := 2) (cs := #[.float .f64 x, .float .f64 y]) (by rfl) Try.underlying68 (by kernel_rfl) (T := 68) ?_ rfl) (resIs_tmp (by rfl))) ⟨rfl, ?_⟩
  · (apply Blk.cast; (repeat (first | with_reducible assumption | with_reducible apply Blk.set | ((with_reducible apply Blk.otherR); (focus ((simp <;> omega); done))) | with_reducible exact Blk.new _ _ _ | ((with_reducible apply Blk.new'); (focus (simp; done))) | with_reducible apply Blk.alloc | with_reducible apply Blk.drew | with_reducible apply Blk.drewN | (with_reducible refine Blk.bel ?_ (by with_reducible assumption)))); rfl)
  · (repeat (first | with_reducible assumption | with_reducible exact Bel.refl _ | with_reducible apply Bel.alloc | with_reducible apply Bel.drew | with_reducible apply Bel.drewN | ((with_reducible apply Bel.setCellR); (simp <;> omega)) | with_reducible refine Bel.behind (by with_reducible assumption) ?_))
theorem plainXY_any (x y : Nat) (w : World) : Calls Try.prog 31 #[.agg #[.float .f64 x, .float .f64 y]] w fun e w' => e = .returned (.agg #[.float .f64 x, .float .f64 y]) ∧ Bel w w' := by
  go_enter Try.func31, Try.ntmps31
  go_wp2
  refine post_ret (results_one rfl (resIs_agg (n := 2) (cs := #[.float .f64 x, .float .f64 y]) (by rfl) Try.underlying43 (by kernel_rfl) (T := 43) ?_ rfl)) ⟨rfl, ?_⟩
  · (repeat (first | with_reducible assumption | with_reducible exact Blk.new _ _ _ | ((with_reducible refine Blk.new' _ _ _ ?_); (focus ((simp; done)))) | with_reducible apply Blk.drew | with_reducible apply Blk.drewN | with_reducible refine Blk.alloc ?_ _ | with_reducible apply Blk.same | (with_reducible refine Blk.bel ?_ (by with_reducible assumption)) | ((with_reducible refine Blk.otherR ?_ ?_); (focus ((simp <;> omega); done)))))
  · (repeat (first | with_reducible assumption | with_reducible exact Bel.refl _ | with_reducible apply Bel.alloc | with_reducible apply Bel.drew | with_reducible apply Bel.drewN | ((with_reducible apply Bel.setCellR); (simp <;> omega)) | with_reducible refine Bel.behind (by with_reducible assumption) ?_))
set_option maxRecDepth 100000 in
set_option maxHeartbeats 2000000 in
theorem lineSums_any (F : Nat → Prop) (p : Option Addr) (n cap : Nat) (xs : List Nat) (st : Nat → Tri) (pk : Option Addr) (nk ck : Nat) (w : World) (hF : New F w) (h : FlSl F w (.slice p (n * 2) cap) xs) (h31 : n ≤ 100000000)
    (h0 : st 0 = ⟨0, 0, 0⟩) (hs : ∀ i, i + 1 < n → StepS xs i (st i) (st (i + 1))) :
    Calls Try.prog 14 #[.agg #[.int .i64 2, .int .i64 0, .slice p (n * 2) cap, .slice pk nk ck]] w (IsSums w (st (n - 1))) := by
  have HX := Lib.hid h
  have HS := Lib.hid hs
  have H0 := Lib.hid h0
  have hl := h.len.1
  have hw : wholeNums (ct 0) xs = xs := by
    unfold wholeNums
    rw [hl, show wd (ct 0) = 2 from rfl, Nat.mul_mod_left, Nat.sub_zero]
    exact List.take_of_length_le (by omega)
  have HW := Lib.hid hw
  have HL := Lib.hid hl
  clear h hs h0 hl hw
  generalize hT : st (n - 1) = T
  have HT := Lib.hid hT
  clear hT
  obtain ⟨x, y, l⟩ := T
  go_enter Try.func14, Try.ntmps14
  go_wp2_with (first
    | (go_at_call 23; refine (line_any F p (n * 2) cap xs 0 pk nk ck _ ?hn (HX.out.bel ?hb) (by omega)).mono ?_; (case hn => exact hF.of_le (by simp; omega)); (case hb => (repeat (first | with_reducible assumption | with_reducible exact Bel.refl _ | with_reducible apply Bel.alloc | with_reducible apply Bel.drew | with_reducible apply Bel.drewN | ((with_reducible apply Bel.setCellR); (simp <;> omega)) | with_reducible refine Bel.behind (by with_reducible assumption) ?_))); rw [HW.out]; rintro e w1 ⟨p1, n1, c1, rfl, hf1, hb1⟩; have HF1 := Lib.hid hf1; have e9 : n1 = n * 2 := (by have h1 := hf1.len.1; have h2 := HL.out; omega); subst e9; have hl1 := hb1.size; (try simp at hl1); clear hf1)
    | (go_at_call 30; refine (doorLineSums_any F p1 n c1 xs st _ (hF.of_le (by omega)) HF1.out h31 H0.out HS.out).mono ?_; rw [HT.out]; rintro e w3 ⟨rfl, hb3⟩; have hl3 := hb3.size; (try simp at hl3))
    | (go_at_call 31; refine (plainXY_any x y _).mono ?_; rintro e w4 ⟨rfl, hb4⟩; have hl4 := hb4.size; (try simp at hl4); (refine (fun (B7 : Blk w4 (w.heap.size + 1) #[.float .f64 0, .float .f64 0] 43) => ?_) ?_); rotate_left; (focus ((repeat (first | with_reducible assumption | with_reducible exact Blk.new _ _ _ | ((with_reducible refine Blk.new' _ _ _ ?_); (focus ((simp; done)))) | with_reducible apply Blk.drew | with_reducible apply Blk.drewN | with_reducible refine Blk.alloc ?_ _ | with_reducible apply Blk.same | (with_reducible refine Blk.bel ?_ (by with_reducible assumption)) | ((with_reducible refine Blk.otherR ?_ ?_); (focus ((simp <;> omega); done))))); done)); obtain ⟨q76, z76, n76⟩ := B7.facts))
  all_goals
    go_wp2
  all_goals
    refine post_ret (results_two rfl (resIs_agg (n := 2) (cs := #[.float .f64 x, .float .f64 y]) (by rfl) Try.underlying43 (by kernel_rfl) (T := 43) ?_ rfl) (resIs_tmp (by rfl))) ⟨rfl, ?_⟩
    · (apply Blk.cast; (repeat (first | with_reducible assumption | with_reducible apply Blk.set | ((with_reducible apply Blk.otherR); (focus ((simp <;> omega); done))) | with_reducible exact Blk.new _ _ _ | ((with_reducible apply Blk.new'); (focus (simp; done))) | with_reducible apply Blk.alloc | with_reducible apply Blk.drew | with_reducible apply Blk.drewN | (with_reducible refine Blk.bel ?_ (by with_reducible assumption)))); rfl)
    · (repeat (first | with_reducible assumption | with_reducible exact Bel.refl _ | with_reducible apply Bel.alloc | with_reducible apply Bel.drew | with_reducible apply Bel.drewN | ((with_reducible apply Bel.setCellR); (simp <;> omega)) | with_reducible refine Bel.behind (by with_reducible assumption) ?_))
end Go.Proofs.Ytnpgmoiiiemghaa
