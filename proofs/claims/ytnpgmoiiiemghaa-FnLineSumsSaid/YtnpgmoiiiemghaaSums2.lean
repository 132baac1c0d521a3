/-
  The sums of a line string: the loop. No panic; what stood in memory has not turned.
-/
import Derived.Test.YtnpgmoiiiemghaaSums
namespace Go.Proofs.Ytnpgmoiiiemghaa
open Go.ChangeShapes Go.WideShapes Go.ChangeAt Go.RowKit
structure Tri where
  x : Nat
  y : Nat
  l : Nat
/-- Segment i brings the sums from s to t. -/
def StepS (xs : List Nat) (i : Nat) (s t : Tri) : Prop := ∃ a b c d, xs[i * 2]? = some a ∧ xs[i * 2 + 1]? = some b ∧ xs[(i + 1) * 2]? = some c ∧ xs[(i + 1) * 2 + 1]? = some d ∧
  ((sameXY a b c d = true ∧ t = s) ∨ (sameXY a b c d = false ∧ ∃ r1 r2 m1 m2 q g t1 t2 h1 h2 k1 k2,
    (floatBits .sub .f64 c a = some r1 ∧ floatBits .sub .f64 d b = some r2 ∧ floatBits .mul .f64 r1 r1 = some m1 ∧ floatBits .mul .f64 r2 r2 = some m2 ∧ floatBits .add .f64 m1 m2 = some q ∧ FloatKind.f64.format.sqrt q = some g) ∧
    (floatBits .add .f64 a c = some t1 ∧ floatBits .add .f64 b d = some t2 ∧ floatBits .mul .f64 4602678819172646912 t1 = some h1 ∧ floatBits .mul .f64 4602678819172646912 t2 = some h2) ∧
    (floatBits .mul .f64 h1 g = some k1 ∧ floatBits .mul .f64 h2 g = some k2) ∧ (floatBits .add .f64 s.x k1 = some t.x ∧ floatBits .add .f64 s.y k2 = some t.y) ∧ floatBits .add .f64 s.l g = some t.l))
/-- What comes back. -/
def IsSums (w : World) (s : Tri) (e : Ending) (w' : World) : Prop := e = .returned (.tuple #[.agg #[.float .f64 s.x, .float .f64 s.y], .float .f64 s.l]) ∧ Bel w w'

theorem keep2x {v w' : World} {b g : Nat} {E G : Array Value} {s t : TypeId} (h0 : Blk w' b E s) (h1 : Blk w' g G t) (hv : Bel v w') : (∀ o, w'.cell? ⟨b, o, none⟩ = E[o]?) ∧ Blk w' b E s ∧ Blk w' g G t ∧ Bel v w' :=
  ⟨h0.rules.1, h0, h1, hv⟩
theorem getLine_k (F : Nat → Prop) (p : Option Addr) (n cap i k : Nat) (iv : Int) (hiv : iv = (k : Int)) (hk : k = i + 1) (xs : List Nat) (w : World) (h : FlSl F w (.slice p n cap) xs) (hi : k * 2 + 1 < n) (h31 : n ≤ 2147483647) (a b c d : Nat) (x1 : xs[i * 2]? = some a) (x2 : xs[i * 2 + 1]? = some b) (x3 : xs[(i + 1) * 2]? = some c) (x4 : xs[(i + 1) * 2 + 1]? = some d) :
    Calls Try.prog 61 #[.agg #[.int .u8 0, .slice p n cap], .int .i64 iv] w fun e w' => e = .returned (.tuple #[.agg #[.float .f64 a, .float .f64 b, .float .f64 c, .float .f64 d], .bool (!sameXY a b c d)]) ∧ Bel w w' := by
  subst hk hiv
  exact getLine_at F p n cap i xs w h hi h31 a b c d x1 x2 x3 x4
set_option maxRecDepth 100000 in
set_option maxHeartbeats 4000000 in
theorem sums_any (F : Nat → Prop) (p : Option Addr) (n cap : Nat) (xs : List Nat) (st : Nat → Tri) (w : World) (_hF : New F w) (h : FlSl F w (.slice p (n * 2) cap) xs) (h31 : n ≤ 100000000)
    (h0 : st 0 = ⟨0, 0, 0⟩) (hs : ∀ i, i + 1 < n → StepS xs i (st i) (st (i + 1))) :
    Calls Try.prog 48 #[.agg #[.int .u8 0, .slice p (n * 2) cap]] w (IsSums w (st (n - 1))) := by
  have HX := Lib.hid h
  have HS := Lib.hid hs
  have H0 := Lib.hid h0
  clear h hs h0
  go_enter Try.func48, Try.ntmps48
  go_wp2_with (go_at_call 24; refine (coordinates_any 0 p (n * 2) cap _).mono ?_; rintro e w1 ⟨rfl, hb1⟩; have HB1 := Lib.hid hb1; have hl1 := hb1.size; simp at hl1; clear hb1)
  have hgs : w.heap.size + 1 + 1 ≤ w1.heap.size := hl1
  generalize hg : w1.heap.size = g at *
  have HST : Hid (Bel w (w1.alloc (.cells #[.int .u8 0, .slice p (n * 2) cap] 61)) ∧ Blk (w1.alloc (.cells #[.int .u8 0, .slice p (n * 2) cap] 61)) (w.heap.size + 1) #[.float .f64 0, .float .f64 0] 68 ∧ Blk (w1.alloc (.cells #[.int .u8 0, .slice p (n * 2) cap] 61)) g #[.int .u8 0, .slice p (n * 2) cap] 61) :=
    Lib.hid ⟨((((Bel.refl w).alloc _).alloc _).trans HB1.out).alloc _, ((Blk.new' _ _ _ (by simp)).bel HB1.out).alloc _, Blk.new' _ _ _ hg.symm⟩
  clear hg HB1 hl1
  go_loopw [3, 5] (fun t i wr => ∃ k : Nat, k ≤ n ∧ i = .int .i64 k ∧ t = .float .f64 (st (k - 1)).l ∧ Bel w wr ∧ Blk wr (w.heap.size + 1) #[.float .f64 (st (k - 1)).x, .float .f64 (st (k - 1)).y] 68 ∧ Blk wr g #[.int .u8 0, .slice p (n * 2) cap] 61) (fun _ i _ => n - (intOf i).toNat)
  case atStart => exact ⟨0, Nat.zero_le _, rfl, by rw [H0.out], HST.out.1, by rw [H0.out]; exact HST.out.2.1, HST.out.2.2⟩
  case round =>
    obtain ⟨k, hk, rfl, rfl, hbel, hB1, hB2⟩ := hrel
    have HBEL := Lib.hid hbel
    have HB1 := Lib.hid hB1
    have HB2 := Lib.hid hB2
    obtain ⟨r1', z1', l1'⟩ := hB1.facts
    obtain ⟨r2', z2', l2'⟩ := hB2.facts
    have hsz := hbel.size
    have wk1 : IntKind.i64.wrap ((k : Int) + 1) = (k : Int) + 1 := IntWalk.i64_in _ (by omega)
    clear HST
    by_cases hkn : k < n
    · rcases k with _ | m
      · clear hbel hB1 hB2
        go_wp2_with (first
          | (go_at_call 53; refine (length_xy p n cap (by omega) _).mono ?_; rintro e w2 ⟨rfl, hb2⟩; have hl2 := hb2.size; have hB1 := HB1.out.bel hb2; have hB2 := HB2.out.bel hb2; clear r1' z1' l1' r2' z2' l2'; obtain ⟨r1', z1', l1'⟩ := hB1.facts; obtain ⟨r2', z2', l2'⟩ := hB2.facts)
          | (go_at_call 61; refine (getLine_zero _ p (n * 2) cap rfl _).mono ?_; rintro e w3 ⟨rfl, hb3⟩; have hl3 := hb3.size))
        refine ⟨⟨1, hkn, rfl, rfl, HBEL.out.trans (by (repeat (first | with_reducible assumption | with_reducible exact Bel.refl _ | with_reducible apply Bel.alloc | with_reducible apply Bel.drew | with_reducible apply Bel.drewN | ((with_reducible apply Bel.setCellR); (simp <;> omega)) | with_reducible refine Bel.behind (by with_reducible assumption) ?_))), by (repeat (first | with_reducible assumption | with_reducible exact Blk.new _ _ _ | ((with_reducible refine Blk.new' _ _ _ ?_); (focus ((simp; done)))) | with_reducible apply Blk.drew | with_reducible apply Blk.drewN | with_reducible refine Blk.alloc ?_ _ | with_reducible apply Blk.same | (with_reducible refine Blk.bel ?_ (by with_reducible assumption)) | ((with_reducible refine Blk.otherR ?_ ?_); (focus ((simp <;> omega); done))))), by (repeat (first | with_reducible assumption | with_reducible exact Blk.new _ _ _ | ((with_reducible refine Blk.new' _ _ _ ?_); (focus ((simp; done)))) | with_reducible apply Blk.drew | with_reducible apply Blk.drewN | with_reducible refine Blk.alloc ?_ _ | with_reducible apply Blk.same | (with_reducible refine Blk.bel ?_ (by with_reducible assumption)) | ((with_reducible refine Blk.otherR ?_ ?_); (focus ((simp <;> omega); done)))))⟩, ?_⟩
        simp [intOf]
        omega
      · obtain ⟨k, hkm⟩ : ∃ k, k = m + 1 := ⟨_, rfl⟩
        rw [← hkm] at hk HB1 hB1 r1' wk1 hkn ⊢
        obtain ⟨a, b, c, d, x1, x2, x3, x4, hc⟩ := HS.out m (by omega)
        have hm1 : k - 1 = m := by omega
        rw [← hm1, show k - 1 + 1 = k by omega] at hc
        have HC := Lib.hid hc
        have LG := Lib.hid fun w h => getLine_k F p (n * 2) cap m k _ rfl hkm xs w h (by omega) (by omega) a b c d x1 x2 x3 x4
        have HKM := Lib.hid hkm
        clear hbel hB1 hB2 hc x1 x2 x3 x4 hkm hm1
        rcases HC.out with ⟨hsame, hst⟩ | ⟨hsame, r1, r2, m1, m2, q, gl, t1, t2, h1, h2, k1, k2, ⟨e1, e2, e3, e4, e5, e6⟩, ⟨e7, e8, e9, e10⟩, ⟨e11, e12⟩, ⟨e13, e14⟩, e15⟩
        · rw [hsame] at LG
          have HST := Lib.hid hst
          clear HC hst hsame
          go_wp2_with (first
            | (go_at_call 53; refine (length_xy p n cap (by omega) _).mono ?_; rintro e w2 ⟨rfl, hb2⟩; have hl2 := hb2.size; have hB1 := HB1.out.bel hb2; have hB2 := HB2.out.bel hb2; clear r1' z1' l1' r2' z2' l2'; obtain ⟨r1', z1', l1'⟩ := hB1.facts; obtain ⟨r2', z2', l2'⟩ := hB2.facts)
            | (go_at_call 61; refine (LG.out _ ?hf).mono ?_; (case hf => exact HX.out.bel (HBEL.out.trans (by (repeat (first | with_reducible assumption | with_reducible exact Bel.refl _ | with_reducible apply Bel.alloc | with_reducible apply Bel.drew | with_reducible apply Bel.drewN | ((with_reducible apply Bel.setCellR); (simp <;> omega)) | with_reducible refine Bel.behind (by with_reducible assumption) ?_))))); rintro e w3 ⟨rfl, hb3⟩; have hl3 := hb3.size))
          refine ⟨⟨k + 1, by omega, by go_num, ?_, HBEL.out.trans (by (repeat (first | with_reducible assumption | with_reducible exact Bel.refl _ | with_reducible apply Bel.alloc | with_reducible apply Bel.drew | with_reducible apply Bel.drewN | ((with_reducible apply Bel.setCellR); (simp <;> omega)) | with_reducible refine Bel.behind (by with_reducible assumption) ?_))), ?_, by (repeat (first | with_reducible assumption | with_reducible exact Blk.new _ _ _ | ((with_reducible refine Blk.new' _ _ _ ?_); (focus ((simp; done)))) | with_reducible apply Blk.drew | with_reducible apply Blk.drewN | with_reducible refine Blk.alloc ?_ _ | with_reducible apply Blk.same | (with_reducible refine Blk.bel ?_ (by with_reducible assumption)) | ((with_reducible refine Blk.otherR ?_ ?_); (focus ((simp <;> omega); done)))))⟩, ?_⟩
          · rw [show k + 1 - 1 = k by omega, HST.out]
          · rw [show k + 1 - 1 = k by omega, HST.out]
            (repeat (first | with_reducible assumption | with_reducible exact Blk.new _ _ _ | ((with_reducible refine Blk.new' _ _ _ ?_); (focus ((simp; done)))) | with_reducible apply Blk.drew | with_reducible apply Blk.drewN | with_reducible refine Blk.alloc ?_ _ | with_reducible apply Blk.same | (with_reducible refine Blk.bel ?_ (by with_reducible assumption)) | ((with_reducible refine Blk.otherR ?_ ?_); (focus ((simp <;> omega); done)))))
          · simp [intOf]
            omega
        · rw [hsame] at LG
          have L1 := Lib.hid fun w => lineLength_any a b c d r1 r2 m1 m2 q gl e1 e2 e3 e4 e5 e6 w
          have L2 := Lib.hid fun w => lineCentroid_any a b c d t1 t2 h1 h2 e7 e8 e9 e10 w
          have L3 := Lib.hid fun w => xyScale_any h1 h2 gl k1 k2 e11 e12 w
          have L4 := Lib.hid fun w => xyAdd_any (st (k - 1)).x (st (k - 1)).y k1 k2 (st k).x (st k).y e13 e14 w
          have f1 := ra .add _ _ _ e15
          clear HC hsame e1 e2 e3 e4 e5 e6 e7 e8 e9 e10 e11 e12 e13 e14 e15
          go_wp2_with (first
            | (go_at_call 53; refine (length_xy p n cap (by omega) _).mono ?_; rintro e w2 ⟨rfl, hb2⟩; have hl2 := hb2.size; have hB1 := HB1.out.bel hb2; have hB2 := HB2.out.bel hb2; clear r1' z1' l1' r2' z2' l2'; obtain ⟨r1', z1', l1'⟩ := hB1.facts; obtain ⟨r2', z2', l2'⟩ := hB2.facts)
            | (go_at_call 61; refine (LG.out _ ?hf).mono ?_; (case hf => exact HX.out.bel (HBEL.out.trans (by (repeat (first | with_reducible assumption | with_reducible exact Bel.refl _ | with_reducible apply Bel.alloc | with_reducible apply Bel.drew | with_reducible apply Bel.drewN | ((with_reducible apply Bel.setCellR); (simp <;> omega)) | with_reducible refine Bel.behind (by with_reducible assumption) ?_))))); rintro e w3 ⟨rfl, hb3⟩; have hl3 := hb3.size)
            | (go_at_call 62; refine (L1.out _).mono ?_; rintro e w4 ⟨rfl, hb4⟩; have hl4 := hb4.size; (try simp at hl4); have B7 : Blk w4 w3.heap.size #[.float .f64 a, .float .f64 b, .float .f64 c, .float .f64 d] 104 := (Blk.new w3 #[.float .f64 a, .float .f64 b, .float .f64 c, .float .f64 d] 104).bel hb4; obtain ⟨r7, z7, l7⟩ := B7.facts)
            | (go_at_call 63; refine (L2.out _).mono ?_; rintro e w5 ⟨rfl, hb5⟩; have hl5 := hb5.size; (try simp at hl5)))
          have D1 := (((hB1.bel hb3).alloc (.cells #[.float .f64 a, .float .f64 b, .float .f64 c, .float .f64 d] 104)).bel hb4).bel hb5 |>.alloc (.cells #[.float .f64 h1, .float .f64 h2] 68)
          have D2 := (((hB2.bel hb3).alloc (.cells #[.float .f64 a, .float .f64 b, .float .f64 c, .float .f64 d] 104)).bel hb4).bel hb5 |>.alloc (.cells #[.float .f64 h1, .float .f64 h2] 68)
          have D9 := Blk.new w5 #[.float .f64 h1, .float .f64 h2] 68
          have hb9 : Bel w (w5.alloc (.cells #[.float .f64 h1, .float .f64 h2] 68)) := HBEL.out.trans (by (repeat (first | with_reducible assumption | with_reducible exact Bel.refl _ | with_reducible apply Bel.alloc | with_reducible apply Bel.drew | with_reducible apply Bel.drewN | ((with_reducible apply Bel.setCellR); (simp <;> omega)) | with_reducible refine Bel.behind (by with_reducible assumption) ?_)))
          have hne : w.heap.size + 1 < w5.heap.size := by omega
          clear r1' z1' l1' r2' z2' l2' r7 z7 l7 B7 hB1 hB2 hb2 hb3 hb4 hb5
          obtain ⟨r1', z1', l1'⟩ := D1.facts
          obtain ⟨r9, z9, l9⟩ := D9.facts
          go_region_with (first
              | (go_at_call 65; (with_reducible refine (L3.out _).mono ?_); rintro e w6 ⟨rfl, hb6⟩; have hl6 := hb6.size; (try simp at hl6); (refine (fun (B7 : Blk w6 (w.heap.size + 1) #[.float .f64 (st (k - 1)).x, .float .f64 (st (k - 1)).y] 68) => ?_) ?_); rotate_left; (focus ((repeat (first | with_reducible assumption | with_reducible exact Blk.new _ _ _ | ((with_reducible refine Blk.new' _ _ _ ?_); (focus ((simp; done)))) | with_reducible apply Blk.drew | with_reducible apply Blk.drewN | with_reducible refine Blk.alloc ?_ _ | with_reducible apply Blk.same | (with_reducible refine Blk.bel ?_ (by with_reducible assumption)) | ((with_reducible refine Blk.otherR ?_ ?_); (focus ((simp <;> omega); done))))); done)); obtain ⟨q6, z6, n6⟩ := B7.facts; (refine (fun (B8 : Blk w6 w5.heap.size #[.float .f64 h1, .float .f64 h2] 68) => ?_) ?_); rotate_left; (focus ((repeat (first | with_reducible assumption | with_reducible exact Blk.new _ _ _ | ((with_reducible refine Blk.new' _ _ _ ?_); (focus ((simp; done)))) | with_reducible apply Blk.drew | with_reducible apply Blk.drewN | with_reducible refine Blk.alloc ?_ _ | with_reducible apply Blk.same | (with_reducible refine Blk.bel ?_ (by with_reducible assumption)) | ((with_reducible refine Blk.otherR ?_ ?_); (focus ((simp <;> omega); done))))); done)); obtain ⟨p6, y6, m6⟩ := B8.facts)
              | (go_at_call 64; (with_reducible refine (L4.out _).mono ?_); rintro e w7 ⟨rfl, hb7⟩; have hl7 := hb7.size; (try simp at hl7); (refine (fun (B7 : Blk w7 (w.heap.size + 1) #[.float .f64 (st (k - 1)).x, .float .f64 (st (k - 1)).y] 68) => ?_) ?_); rotate_left; (focus ((repeat (first | with_reducible assumption | with_reducible exact Blk.new _ _ _ | ((with_reducible refine Blk.new' _ _ _ ?_); (focus ((simp; done)))) | with_reducible apply Blk.drew | with_reducible apply Blk.drewN | with_reducible refine Blk.alloc ?_ _ | with_reducible apply Blk.same | (with_reducible refine Blk.bel ?_ (by with_reducible assumption)) | ((with_reducible refine Blk.otherR ?_ ?_); (focus ((simp <;> omega); done))))); done)); obtain ⟨q7, z7, n7⟩ := B7.facts; (refine (fun (B8 : Blk w7 w5.heap.size #[.float .f64 h1, .float .f64 h2] 68) => ?_) ?_); rotate_left; (focus ((repeat (first | with_reducible assumption | with_reducible exact Blk.new _ _ _ | ((with_reducible refine Blk.new' _ _ _ ?_); (focus ((simp; done)))) | with_reducible apply Blk.drew | with_reducible apply Blk.drewN | with_reducible refine Blk.alloc ?_ _ | with_reducible apply Blk.same | (with_reducible refine Blk.bel ?_ (by with_reducible assumption)) | ((with_reducible refine Blk.otherR ?_ ?_); (focus ((simp <;> omega); done))))); done)); obtain ⟨p7, y7, m7⟩ := B8.facts))
          all_goals
            go_wp2
          all_goals
            refine ⟨⟨k + 1, by omega, by go_num, by rw [show k + 1 - 1 = k by omega], by (repeat (first | with_reducible assumption | with_reducible exact Bel.refl _ | with_reducible apply Bel.alloc | with_reducible apply Bel.drew | with_reducible apply Bel.drewN | ((with_reducible apply Bel.setCellR); (simp <;> omega)) | with_reducible refine Bel.behind (by with_reducible assumption) ?_)), ?_, by (repeat (first | with_reducible assumption | with_reducible exact Blk.new _ _ _ | ((with_reducible refine Blk.new' _ _ _ ?_); (focus ((simp; done)))) | with_reducible apply Blk.drew | with_reducible apply Blk.drewN | with_reducible refine Blk.alloc ?_ _ | with_reducible apply Blk.same | (with_reducible refine Blk.bel ?_ (by with_reducible assumption)) | ((with_reducible refine Blk.otherR ?_ ?_); (focus ((simp <;> omega); done)))))⟩, ?_⟩
            · rw [show k + 1 - 1 = k by omega]
              (apply Blk.cast; (repeat (first | with_reducible assumption | with_reducible apply Blk.set | ((with_reducible apply Blk.otherR); (focus ((simp <;> omega); done))) | with_reducible exact Blk.new _ _ _ | ((with_reducible apply Blk.new'); (focus (simp; done))) | with_reducible apply Blk.alloc | with_reducible apply Blk.drew | with_reducible apply Blk.drewN | (with_reducible refine Blk.bel ?_ (by with_reducible assumption)))); rfl)
            · simp [intOf]
              omega
    · have hk' : k = n := by omega
      subst hk'
      clear hbel hB1 hB2
      go_wp2_with (first
          | (go_at_call 53; refine (length_xy p k cap (by omega) _).mono ?_; rintro e w2 ⟨rfl, hb2⟩; have hl2 := hb2.size; have hB1 := HB1.out.bel hb2; have hB2 := HB2.out.bel hb2; clear r1' z1' l1' r2' z2' l2'; obtain ⟨r1', z1', l1'⟩ := hB1.facts; obtain ⟨r2', z2', l2'⟩ := hB2.facts))
      refine post_ret (results_two rfl (resIs_agg (n := 2) (cs := #[.float .f64 (st (k - 1)).x, .float .f64 (st (k - 1)).y]) (by rfl) Try.underlying68 (by kernel_rfl) (T := 68) ?_ rfl) (resIs_tmp (by rfl))) ⟨rfl, ?_⟩
      · (apply Blk.cast; (repeat (first | with_reducible assumption | with_reducible apply Blk.set | ((with_reducible apply Blk.otherR); (focus ((simp <;> omega); done))) | with_reducible exact Blk.new _ _ _ | ((with_reducible apply Blk.new'); (focus (simp; done))) | with_reducible apply Blk.alloc | with_reducible apply Blk.drew | with_reducible apply Blk.drewN | (with_reducible refine Blk.bel ?_ (by with_reducible assumption)))); rfl)
      · exact (HBEL.out.trans hb2) |> fun h => by (repeat (first | with_reducible assumption | with_reducible exact Bel.refl _ | with_reducible apply Bel.alloc | with_reducible apply Bel.drew | with_reducible apply Bel.drewN | ((with_reducible apply Bel.setCellR); (simp <;> omega)) | with_reducible refine Bel.behind (by with_reducible assumption) ?_))
end Go.Proofs.Ytnpgmoiiiemghaa
