/-
  The running lengths of a line string: newLinearInterpolator, DoorCumulative, impl.RunLengths. No panic; what stood in memory has not turned.
-/
import Derived.Test.YtnpgmoiiiemghaaSeq
import Derived.Test.YtnpgmoiiiemghaaFar
namespace Go.Proofs.Ytnpgmoiiiemghaa
open Go.ChangeShapes Go.WideShapes Go.ChangeAt Go.RowKit
/-- g are the bits of the length from place i to the next one. -/
def Seg (xs : List Nat) (i g : Nat) : Prop := ∃ a b c d r1 r2 m1 m2 s, xs[i * 2]? = some a ∧ xs[i * 2 + 1]? = some b ∧ xs[(i + 1) * 2]? = some c ∧ xs[(i + 1) * 2 + 1]? = some d ∧
  floatBits .sub .f64 c a = some r1 ∧ floatBits .sub .f64 d b = some r2 ∧ floatBits .mul .f64 r1 r1 = some m1 ∧ floatBits .mul .f64 r2 r2 = some m2 ∧ floatBits .add .f64 m1 m2 = some s ∧ FloatKind.f64.format.sqrt s = some g
theorem getXY_int (F : Nat → Prop) (p : Option Addr) (n cap i : Nat) (iv : Int) (hiv : iv = (i : Int)) (xs : List Nat) (w : World) (h : FlSl F w (.slice p n cap) xs) (hi : i * 2 + 1 < n) (h31 : n ≤ 2147483647) (x y : Nat) (hx : xs[i * 2]? = some x) (hy : xs[i * 2 + 1]? = some y) :
    Calls Try.prog 54 #[.agg #[.int .u8 0, .slice p n cap], .int .i64 iv] w fun e w' => e = .returned (.agg #[.float .f64 x, .float .f64 y]) ∧ Bel w w' := by
  subst hiv
  exact getXY_any F p n cap 0 i xs (by decide) w h hi h31 x y hx hy
theorem length_xy (p : Option Addr) (n cap : Nat) (hn : n * 2 ≤ 9223372036854775807) (w : World) :
    Calls Try.prog 53 #[.agg #[.int .u8 0, .slice p (n * 2) cap]] w fun e w' => e = .returned (.int .i64 n) ∧ Bel w w' := by
  refine (length_any p (n * 2) cap 0 (by decide) hn w).mono fun e w' h => ⟨?_, h.2⟩
  rw [h.1]
  have : n * 2 / wd 0 = n := Nat.mul_div_cancel _ (by decide)
  rw [this]
/-- The first k cells hold the running lengths. -/
def Cum (cs : Array Value) (m k : Nat) (tot : Nat → Nat) : Prop := cs.size = m ∧ ∀ j, j < k → cs[j]? = some (.float .f64 (tot (j + 1)))
def cumOf (tot : Nat → Nat) (m : Nat) : List Nat := (List.range m).map fun j => tot (j + 1)
theorem Cum.list {cs : Array Value} {m : Nat} {tot : Nat → Nat} (h : Cum cs m m tot) : cs = ((cumOf tot m).map flv).toArray := by
  obtain ⟨h1, h2⟩ := h
  apply Array.ext
  · simp [cumOf, h1]
  · intro i hi1 hi2
    have := h2 i (by omega)
    rw [Array.getElem?_eq_getElem hi1] at this
    simp [cumOf, flv]
    exact Option.some.inj this
theorem Cum.step {cs : Array Value} {m k : Nat} {tot : Nat → Nat} (h : Cum cs m k tot) (hk : k < m) : Cum (cs.setIfInBounds k (.float .f64 (tot (k + 1)))) m (k + 1) tot := by
  obtain ⟨h1, h2⟩ := h
  refine ⟨by simpa using h1, fun j hj => ?_⟩
  by_cases e : k = j
  · subst e
    rw [Array.getElem?_setIfInBounds, if_pos rfl, if_pos (by omega)]
  · rw [Array.getElem?_setIfInBounds, if_neg e]
    exact h2 j (by omega)
/-- What comes back: the sequence, its running lengths, the whole length. -/
def IsInterp (F : Nat → Prop) (w : World) (p : Option Addr) (n cap : Nat) (cum : List Nat) (t : Nat) (e : Ending) (w' : World) : Prop :=
  ∃ p1 n1 c1, e = .returned (.agg #[.int .u8 0, .slice p n cap, .slice p1 n1 c1, .float .f64 t]) ∧ FlSl F w' (.slice p1 n1 c1) cum ∧ Bel w w'

set_option maxRecDepth 100000 in
set_option maxHeartbeats 2000000 in
theorem interp_any (F : Nat → Prop) (p : Option Addr) (n cap : Nat) (xs : List Nat) (sg tot : Nat → Nat) (w : World) (hF : New F w) (h : FlSl F w (.slice p (n * 2) cap) xs) (h31 : n ≤ 100000000) (hpos : 0 < n)
    (h0 : tot 0 = 0) (hs : ∀ i, i + 1 < n → Seg xs i (sg i)) (ha : ∀ i, i + 1 < n → floatBits .add .f64 (tot i) (sg i) = some (tot (i + 1))) :
    Calls Try.prog 41 #[.agg #[.int .u8 0, .slice p (n * 2) cap]] w (IsInterp F w p (n * 2) cap (cumOf tot (n - 1)) (tot (n - 1))) := by
  have HX := Lib.hid h
  have HS := Lib.hid hs
  have HA := Lib.hid ha
  have H0 := Lib.hid h0
  clear h hs ha h0
  obtain ⟨i0, hi, hz0, hz1, hz2⟩ := info_parts infoF
  have hn0 : ((n : Int) == 0) = false := by simp; omega
  have hmi : (n : Int) - 1 = ((n - 1 : Nat) : Int) := by omega
  have HMI := Lib.hid hmi
  clear hmi
  go_enter Try.func41, Try.ntmps41
  go_wp2_with (first
    | (go_at_call 53; refine (length_xy p n cap (by omega) _).mono ?_; rintro e w1 ⟨rfl, hb1⟩; have HB1 := Lib.hid hb1; have hl1 := hb1.size; simp at hl1; clear hb1)
    | (at_make; refine wpList_make_full _ rfl (.tmp 13) (.tmp 13) 24 rfl w1.heap.size 25 i0 (.float .f64 0) 1 Try.underlying24 hi hz0 hz1 .i64 .i64 _ _ (n - 1) rfl rfl HMI.out HMI.out ?b2 ?b3 ?b4 ?_; (case b2 => (rw [hz2]; omega)); (case b3 => (unfold maxLen; omega)); (case b4 => exact Nat.le_refl _); intro w2 hown hgrow; obtain ⟨cs0, hB0, hs0⟩ := hown.blk; have HB0 := Lib.hid hB0; have HS0 := Lib.hid hs0; have HB2 : Hid (Bel w1 w2) := Lib.hid (Bel.of_grown0 hgrow); clear hown hgrow hB0 hs0))
  have hgs : w.heap.size + 1 + 1 ≤ w1.heap.size := hl1
  generalize hg : w1.heap.size = g at *
  have hl2 : g ≤ w2.heap.size := by have := HB2.out.size; omega
  have HST : Hid (Bel w w2 ∧ Blk w2 w.heap.size #[.int .u8 0, .slice p (n * 2) cap] 61 ∧ Blk w2 (w.heap.size + 1) #[.int .u8 0, .slice none 0 0, .slice none 0 0, .float .f64 0] 88) :=
    Lib.hid ⟨((((Bel.refl w).alloc _).alloc _).trans HB1.out).trans HB2.out, ((((Blk.new w _ _).alloc _).bel HB1.out).bel HB2.out), (((Blk.new' _ _ _ (by simp)).bel HB1.out).bel HB2.out)⟩
  clear hg HB1 HB2 hl1
  go_loopw [4, 6] (fun t i wr => ∃ (k : Nat) (cs : Array Value), k ≤ n - 1 ∧ i = .int .i64 k ∧ t = .float .f64 (tot k) ∧ Bel w wr ∧ Blk wr w.heap.size #[.int .u8 0, .slice p (n * 2) cap] 61 ∧ Blk wr (w.heap.size + 1) #[.int .u8 0, .slice none 0 0, .slice none 0 0, .float .f64 0] 88 ∧ Blk wr g cs 25 ∧ Cum cs (n - 1) k tot) (fun _ i _ => n - 1 - (intOf i).toNat)
  case atStart => exact ⟨0, cs0, Nat.zero_le _, rfl, by rw [H0.out], HST.out.1, HST.out.2.1, HST.out.2.2, HB0.out, by have := HS0.out; omega, fun j hj => absurd hj (by omega)⟩
  case round =>
    obtain ⟨k, cs, hk, rfl, rfl, hbel, hB1, hB2, hB3, hcum⟩ := hrel
    have HBEL := Lib.hid hbel
    have HB1 := Lib.hid hB1
    have HB2 := Lib.hid hB2
    have HB3 := Lib.hid hB3
    have HCUM := Lib.hid hcum
    obtain ⟨r1', z1', l1'⟩ := hB1.facts
    clear HB0 HS0 HST
    by_cases hkn : k < n - 1
    · obtain ⟨a, b, c, d, r1, r2, m1, m2, s, x1, x2, x3, x4, e1, e2, e3, e4, e5, e6⟩ := HS.out k (by omega)
      have X1 := Lib.hid x1
      have X2 := Lib.hid x2
      have X3 := Lib.hid x3
      have X4 := Lib.hid x4
      have E1 := Lib.hid e1
      have E2 := Lib.hid e2
      have E3 := Lib.hid e3
      have E4 := Lib.hid e4
      have E5 := Lib.hid e5
      have E6 := Lib.hid e6
      have f1 := ra .add (tot k) (sg k) (tot (k + 1)) (HA.out k (by omega))
      obtain ⟨u1, hu1⟩ : ∃ u, cs[k]? = some u := ⟨_, Array.getElem?_eq_getElem (by have := hcum.1; omega)⟩
      have HU1 := Lib.hid hu1
      have hsz := hbel.size
      have hg2 : g < wr.heap.size := hB3.lt
      clear x1 x2 x3 x4 e1 e2 e3 e4 e5 e6 hu1 hbel hB1 hB2 hB3 hcum
      have wk1 : IntKind.i64.wrap ((k : Int) + 1) = (k : Int) + 1 := IntWalk.i64_in _ (by omega)
      go_wp2
      go_region_held3 (fun w' => (∀ o, w'.cell? ⟨w.heap.size, o, none⟩ = (#[Value.int .u8 0, .slice p (n * 2) cap] : Array Value)[o]?) ∧ Bel wr w')
        ((refine keepB HB1.out ?_; ((repeat (first | with_reducible assumption | with_reducible exact Bel.refl _ | with_reducible apply Bel.alloc | with_reducible apply Bel.drew | with_reducible apply Bel.drewN | ((with_reducible apply Bel.setCellR); (simp <;> omega)) | with_reducible refine Bel.behind (by with_reducible assumption) ?_)); done)))
        (first
          | (go_at_call 54; (with_reducible refine (getXY_int F p (n * 2) cap k _ (by rfl) xs _ (HX.out.bel (HBEL.out.trans ?hb)) ?h1 ?h2 a b X1.out X2.out).mono ?_); (case hb => (repeat (first | with_reducible assumption | with_reducible exact Bel.refl _ | with_reducible apply Bel.alloc | with_reducible apply Bel.drew | with_reducible apply Bel.drewN | ((with_reducible apply Bel.setCellR); (simp <;> omega)) | with_reducible refine Bel.behind (by with_reducible assumption) ?_))); (case h1 => (clear wk1; omega)); (case h2 => (clear wk1; omega)); rintro e w4 ⟨rfl, hb4⟩)
          | (go_at_call 54; (with_reducible refine (getXY_int F p (n * 2) cap (k + 1) _ ?h0 xs _ (HX.out.bel (HBEL.out.trans ?hb)) ?h1 ?h2 c d X3.out X4.out).mono ?_); (case hb => (repeat (first | with_reducible assumption | with_reducible exact Bel.refl _ | with_reducible apply Bel.alloc | with_reducible apply Bel.drew | with_reducible apply Bel.drewN | ((with_reducible apply Bel.setCellR); (simp <;> omega)) | with_reducible refine Bel.behind (by with_reducible assumption) ?_))); (case h0 => (clear wk1; omega)); (case h1 => (clear wk1; omega)); (case h2 => (clear wk1; omega)); rintro e w5 ⟨rfl, hb5⟩)
          | (go_at_call 55; (with_reducible refine (dist_any a b c d r1 r2 m1 m2 s (sg k) E1.out E2.out E3.out E4.out E5.out E6.out _).mono ?_); rintro e w6 ⟨rfl, hb6⟩; have HB6 : Hid (Bel wr w6) := Lib.hid (by (repeat (first | with_reducible assumption | with_reducible exact Bel.refl _ | with_reducible apply Bel.alloc | with_reducible apply Bel.drew | with_reducible apply Bel.drewN | ((with_reducible apply Bel.setCellR); (simp <;> omega)) | with_reducible refine Bel.behind (by with_reducible assumption) ?_))); have B6 := HB3.out.bel HB6.out; obtain ⟨s6, t6, m6⟩ := B6.facts; have d6 := (s6 k).trans HU1.out; clear s6))
      clear wk1
      go_wp2
      go_roundw
      case rel => exact ⟨k + 1, _, by omega, by go_num, rfl, (HBEL.out.trans HB6.out).setCell (by show w.heap.size ≤ g; omega) _, (HB1.out.bel HB6.out).other (by show w.heap.size ≠ g; omega) _, (HB2.out.bel HB6.out).other (by show w.heap.size + 1 ≠ g; omega) _, B6.set k _, HCUM.out.step hkn⟩
      case measure => simp [intOf]; omega
    · have hk' : k = n - 1 := by omega
      subst hk'
      obtain ⟨r2', z2', l2'⟩ := hB2.facts
      have HBC := Lib.hid (hB3.cast hcum.list)
      clear hbel hB1 hB2 hB3 hcum
      go_wp2
      refine post_ret (results_one rfl (resIs_agg (n := 4) (cs := #[.int .u8 0, .slice p (n * 2) cap, .slice (some ⟨g, 0, none⟩) (n - 1) (n - 1), .float .f64 (tot (n - 1))]) (by rfl) Try.underlying88 (by kernel_rfl) (T := 88) ?_ rfl)) ?_
      · exact (((HB2.out.set 0 _).set 1 _).set 2 _).set 3 _
      · exact ⟨_, _, _, rfl, FlSl.of_blk ((((HBC.out.other (a := ⟨w.heap.size + 1, 0, none⟩) (by show g ≠ w.heap.size + 1; omega) _).other (a := ⟨w.heap.size + 1, 1, none⟩) (by show g ≠ w.heap.size + 1; omega) _).other (a := ⟨w.heap.size + 1, 2, none⟩) (by show g ≠ w.heap.size + 1; omega) _).other (a := ⟨w.heap.size + 1, 3, none⟩) (by show g ≠ w.heap.size + 1; omega) _) (by simp [cumOf]) (by omega) (hF _ (by omega)),
          (((HBEL.out.setCell (by simp) _).setCell (by simp) _).setCell (by simp) _).setCell (by simp) _⟩

/-- What comes back: the running lengths and the whole length. -/
def IsCum (F : Nat → Prop) (w : World) (cum : List Nat) (t : Nat) (e : Ending) (w' : World) : Prop :=
  ∃ p1 n1 c1, e = .returned (.tuple #[.slice p1 n1 c1, .float .f64 t]) ∧ FlSl F w' (.slice p1 n1 c1) cum ∧ Bel w w'
theorem doorCumulative_any (F : Nat → Prop) (p : Option Addr) (n cap : Nat) (xs : List Nat) (sg tot : Nat → Nat) (w : World) (hF : New F w) (h : FlSl F w (.slice p (n * 2) cap) xs) (h31 : n ≤ 100000000) (hpos : 0 < n)
    (h0 : tot 0 = 0) (hs : ∀ i, i + 1 < n → Seg xs i (sg i)) (ha : ∀ i, i + 1 < n → floatBits .add .f64 (tot i) (sg i) = some (tot (i + 1))) :
    Calls Try.prog 22 #[.agg #[.int .u8 0, .slice p (n * 2) cap]] w (IsCum F w (cumOf tot (n - 1)) (tot (n - 1))) := by
  have HX := Lib.hid h
  have HS := Lib.hid hs
  have HA := Lib.hid ha
  have H0 := Lib.hid h0
  clear h hs ha h0
  generalize hT : tot (n - 1) = T
  have HT := Lib.hid hT
  clear hT
  go_enter Try.func22, Try.ntmps22
  go_wp2_with (go_at_call 41; refine (interp_any F p n cap xs sg tot _ (hF.of_le (by simp)) (HX.out.bel (Bel.alloc1 _ _)) h31 hpos H0.out HS.out HA.out).mono ?_; rw [HT.out]; rintro e w1 ⟨p1, n1, c1, rfl, hf1, hb1⟩; have HF1 := Lib.hid hf1; have HB1 := Lib.hid hb1; have hl := hb1.size; simp at hl; clear hf1 hb1)
  go_quiet (fail)
  go_wp2
  refine post_ret (results_two rfl (resIs_tmp (by rfl)) (resIs_tmp (by rfl))) ⟨_, _, _, rfl, HF1.out.bel (by (repeat (first | with_reducible assumption | with_reducible exact Bel.refl _ | with_reducible apply Bel.alloc | with_reducible apply Bel.drew | with_reducible apply Bel.drewN | ((with_reducible apply Bel.setCellR); (simp <;> omega)) | with_reducible refine Bel.behind (by with_reducible assumption) ?_))), ?_⟩
  exact (((Bel.alloc1 w _).trans HB1.out).alloc _).drewN _
theorem runIdle (p q r : Addr) (w : World) :
    CallsD Try.prog 21 #[.pointer (some p), .pointer (some q), .pointer (some r)] .returning w fun e u' w' => e = .returned (.tuple #[]) ∧ u' = .returning ∧ w' = w := by
  refine callsD_of_wpS Try.func21 rfl fun c₀ cs hu => ?_
  apply wpS_seq
  apply wpS_region
  simp [wpOpsS, go_sem, recoverD, hu, Try.ntmps21, Exit.thenS]
  refine wpS_cond (t := false) (by simp [Act.eval, Array.replicate]) ?_
  simp only [Bool.false_eq_true, if_false]
  refine wpS_of_wp (wp_skip ?_)
  cases c₀
  simp_all [bodyPostS, results, Try.results21]

/-- What comes back: the running lengths, the whole length, and that all is well. -/
def IsRun (F : Nat → Prop) (w : World) (cum : List Nat) (t : Nat) (e : Ending) (w' : World) : Prop :=
  ∃ p1 n1 c1, e = .returned (.tuple #[.slice p1 n1 c1, .float .f64 t, .bool true]) ∧ FlSl F w' (.slice p1 n1 c1) cum ∧ Bel w w'
set_option maxHeartbeats 1000000 in
set_option maxRecDepth 100000 in
theorem runLengths_any (F : Nat → Prop) (p : Option Addr) (n cap : Nat) (xs : List Nat) (sg tot : Nat → Nat) (pk : Option Addr) (nk ck : Nat) (w : World) (hF : New F w) (h : FlSl F w (.slice p (n * 2) cap) xs) (h31 : n ≤ 100000000) (hpos : 0 < n)
    (h0 : tot 0 = 0) (hs : ∀ i, i + 1 < n → Seg xs i (sg i)) (ha : ∀ i, i + 1 < n → floatBits .add .f64 (tot i) (sg i) = some (tot (i + 1))) :
    Calls Try.prog 8 #[.agg #[.int .i64 2, .int .i64 0, .slice p (n * 2) cap, .slice pk nk ck]] w (IsRun F w (cumOf tot (n - 1)) (tot (n - 1))) := by
  have HX := Lib.hid h
  have HS := Lib.hid hs
  have HA := Lib.hid ha
  have H0 := Lib.hid h0
  have hl := h.len.1
  have hw : wholeNums (ct 0) xs = xs := by
    unfold wholeNums
    rw [hl, show wd (ct 0) = 2 from rfl, Nat.mul_mod_left, Nat.sub_zero]
    exact List.take_of_length_le (by omega)
  have HW := Lib.hid hw
  have HL := Lib.hid hl
  clear h hs ha h0 hl hw
  generalize hT : tot (n - 1) = T
  have HT := Lib.hid hT
  clear hT
  have hmf : ∀ (fn : Fn) (first cap : Array Value) (w : World), (Instr.makeFunc fn first cap).run Try.prog w = .ok (.func fn first cap) w := fun _ _ _ _ => rfl
  go_enter_defers Try.func8, Try.ntmps8
  go_wp2_with (first
    | (go_at_call 23; refine (line_any (Loc F w.heap.size 4) p (n * 2) cap xs 0 pk nk ck _ ?hn ((HX.out.loc 4).bel ?hb) (by omega)).mono ?_; (case hn => exact hF.loc (by simp)); (case hb => (repeat (first | with_reducible assumption | with_reducible exact Bel.refl _ | with_reducible apply Bel.alloc | with_reducible apply Bel.drew | with_reducible apply Bel.drewN | ((with_reducible apply Bel.setCellR); (simp <;> omega)) | with_reducible refine Bel.behind (by with_reducible assumption) ?_))); rw [HW.out]; rintro e w1 ⟨p1, n1, c1, rfl, hf1, hb1⟩; have HF1 := Lib.hid hf1; have HB1 := Lib.hid hb1; have e9 : n1 = n * 2 := (by have h1 := hf1.len.1; have h2 := HL.out; omega); subst e9; clear hf1 hb1)
    | (go_at_call 24; refine (coordinates_any _ _ _ _ _).mono ?_; rintro e w2 ⟨rfl, hb2⟩; have HB2 := Lib.hid hb2; clear hb2)
    | (go_at_call 22; refine (doorCumulative_any (Loc F w.heap.size 4) p1 n c1 xs sg tot _ ?hn (HF1.out.bel HB2.out) h31 hpos H0.out HS.out HA.out).mono ?_; (case hn => exact hF.loc (by (have h1 := HB1.out.size; have h2 := HB2.out.size; simp at h1 h2; omega))); rw [HT.out]; rintro e w3 ⟨p3, n3, c3, rfl, hf3, hb3⟩; have HF3 := Lib.hid hf3; have HB3 := Lib.hid hb3; clear hf3 hb3; have B2 := ((((((Blk.new' (w.alloc _) #[.slice none 0 0] 24 (b := w.heap.size + 1) (by simp)).alloc _).alloc _).bel HB1.out).bel HB2.out).bel HB3.out); have B3 := (((((Blk.new' ((w.alloc _).alloc _) #[.float .f64 0] 25 (b := w.heap.size + 1 + 1) (by simp)).alloc _).bel HB1.out).bel HB2.out).bel HB3.out); have B4 := ((((Blk.new' (((w.alloc _).alloc _).alloc _) #[.bool false] 4 (b := w.heap.size + 1 + 1 + 1) (by simp)).bel HB1.out).bel HB2.out).bel HB3.out); obtain ⟨r2, z2, l2⟩ := B2.facts; obtain ⟨r3, z3, l3⟩ := B3.facts; obtain ⟨r4, z4, l4⟩ := B4.facts))
  generalize hW : World.setCell (World.setCell _ _ _) _ _ = w4
  have C2 : Blk w4 (w.heap.size + 1) #[.slice p3 n3 c3] 24 := by subst hW; exact (B2.set 0 _).other (by simp) _
  have C3 : Blk w4 (w.heap.size + 1 + 1) #[.float .f64 T] 25 := by subst hW; exact (B3.other (by simp) _).set 0 _
  have C4 : Blk w4 (w.heap.size + 1 + 1 + 1) #[.bool false] 4 := by subst hW; exact (B4.other (by simp; omega) _).other (by simp) _
  have HF4 : Hid (FlSl (Loc F w.heap.size 4) w4 (.slice p3 n3 c3) (cumOf tot (n - 1))) := by subst hW; exact Lib.hid ((HF3.out.set (g := w.heap.size + 1) (Loc.not (by omega) (by omega)) _ _).set (g := w.heap.size + 1 + 1) (Loc.not (by omega) (by omega)) _ _)
  have HB4 : Bel w w4 := by subst hW; exact ((((((((Bel.refl w).alloc _).alloc _).alloc _).alloc _).trans HB1.out).trans HB2.out).trans HB3.out).setCell (by simp) _ |>.setCell (by simp; omega) _
  clear hW r2 z2 l2 r3 z3 l3 r4 z4 l4 B2 B3 B4
  obtain ⟨r2, z2, l2⟩ := C2.facts
  obtain ⟨r3, z3, l3⟩ := C3.facts
  obtain ⟨r4, z4, l4⟩ := C4.facts
  go_region_held3 (fun w' => (∀ o, w'.cell? ⟨w.heap.size + 1, o, none⟩ = (#[Value.slice p3 n3 c3] : Array Value)[o]?) ∧ (∀ o, w'.cell? ⟨w.heap.size + 1 + 1, o, none⟩ = (#[Value.float .f64 T] : Array Value)[o]?) ∧ Blk w' (w.heap.size + 1) #[.slice p3 n3 c3] 24 ∧ Blk w' (w.heap.size + 1 + 1) #[.float .f64 T] 25 ∧ Bel w w')
    ((refine keep2i ?_ ?_ ?_ <;> (first | ((repeat (first | with_reducible assumption | with_reducible exact Blk.new _ _ _ | ((with_reducible refine Blk.new' _ _ _ ?_); (focus ((simp; done)))) | with_reducible apply Blk.drew | with_reducible apply Blk.drewN | with_reducible refine Blk.alloc ?_ _ | with_reducible apply Blk.same | (with_reducible refine Blk.bel ?_ (by with_reducible assumption)) | ((with_reducible refine Blk.otherR ?_ ?_); (focus ((simp <;> omega); done))))); done) | ((repeat (first | with_reducible assumption | with_reducible exact Bel.refl _ | with_reducible apply Bel.alloc | with_reducible apply Bel.drew | with_reducible apply Bel.drewN | ((with_reducible apply Bel.setCellR); (simp <;> omega)) | with_reducible refine Bel.behind (by with_reducible assumption) ?_)); done))))
    (fail)
  go_wp2
  rename _ ∧ _ ∧ _ ∧ _ ∧ Bel _ _ => hHeld5
  clear hHeld5
  clear r2 z2 l2 r3 z3 l3 r4 z4 l4
  generalize hW : World.setCell (World.setCell (World.setCell _ _ _) _ _) _ _ = w5
  have D2 : Blk w5 (w.heap.size + 1) #[.slice p3 n3 c3] 24 := by subst hW; (repeat (first | with_reducible assumption | with_reducible exact Blk.new _ _ _ | ((with_reducible refine Blk.new' _ _ _ ?_); (focus ((simp; done)))) | with_reducible apply Blk.drew | with_reducible apply Blk.drewN | with_reducible refine Blk.alloc ?_ _ | with_reducible apply Blk.same | (with_reducible refine Blk.bel ?_ (by with_reducible assumption)) | ((with_reducible refine Blk.otherR ?_ ?_); (focus ((simp <;> omega); done)))))
  have D3 : Blk w5 (w.heap.size + 1 + 1) #[.float .f64 T] 25 := by subst hW; (repeat (first | with_reducible assumption | with_reducible exact Blk.new _ _ _ | ((with_reducible refine Blk.new' _ _ _ ?_); (focus ((simp; done)))) | with_reducible apply Blk.drew | with_reducible apply Blk.drewN | with_reducible refine Blk.alloc ?_ _ | with_reducible apply Blk.same | (with_reducible refine Blk.bel ?_ (by with_reducible assumption)) | ((with_reducible refine Blk.otherR ?_ ?_); (focus ((simp <;> omega); done)))))
  have D4 : Blk w5 (w.heap.size + 1 + 1 + 1) #[.bool true] 4 := by subst hW; exact ((C4.other (by simp; omega) _).other (by simp) _).set 0 _
  have HF5 : Hid (FlSl F w5 (.slice p3 n3 c3) (cumOf tot (n - 1))) := by subst hW; exact Lib.hid (((HF4.out.set (g := w.heap.size + 1) (Loc.not (by omega) (by omega)) _ _).set (g := w.heap.size + 1 + 1) (Loc.not (by omega) (by omega)) _ _).set (g := w.heap.size + 1 + 1 + 1) (Loc.not (by omega) (by omega)) _ _).out
  have HB5 : Hid (Bel w w5) := by subst hW; exact Lib.hid (by (repeat (first | with_reducible assumption | with_reducible exact Bel.refl _ | with_reducible apply Bel.alloc | with_reducible apply Bel.drew | with_reducible apply Bel.drewN | ((with_reducible apply Bel.setCellR); (simp <;> omega)) | with_reducible refine Bel.behind (by with_reducible assumption) ?_)))
  clear hW C2 C3 C4 HB4
  have q2 := D2.rules.1 0
  have q3 := D3.rules.1 0
  have q4 := D4.rules.1 0
  simp at q2 q3 q4
  refine leaves_cons (f := 21) (args := #[.pointer (some ⟨w.heap.size + 1, 0, none⟩), .pointer (some ⟨w.heap.size + 1 + 1, 0, none⟩), .pointer (some ⟨w.heap.size + 1 + 1 + 1, 0, none⟩)]) (by simp) (by simp [go_sem]) ?_
  refine (runIdle ⟨w.heap.size + 1, 0, none⟩ ⟨w.heap.size + 1 + 1, 0, none⟩ ⟨w.heap.size + 1 + 1 + 1, 0, none⟩ _).mono ?_
  rintro e u' w'' ⟨rfl, rfl, rfl⟩
  simp [Leaves, settle, results, Try.results8, go_sem, q2, q3, q4]
  exact ⟨_, _, _, rfl, HF5.out.bel (Bel.refl _).drew, HB5.out.drew⟩
theorem runLengths_succ (F : Nat → Prop) (p : Option Addr) (m cap : Nat) (xs : List Nat) (sg tot : Nat → Nat) (pk : Option Addr) (nk ck : Nat) (w : World) (hF : New F w) (h : FlSl F w (.slice p ((m + 1) * 2) cap) xs) (h31 : m + 1 ≤ 100000000)
    (h0 : tot 0 = 0) (hs : ∀ i, i < m → Seg xs i (sg i)) (ha : ∀ i, i < m → floatBits .add .f64 (tot i) (sg i) = some (tot (i + 1))) :
    Calls Try.prog 8 #[.agg #[.int .i64 2, .int .i64 0, .slice p ((m + 1) * 2) cap, .slice pk nk ck]] w (IsRun F w (cumOf tot m) (tot m)) :=
  runLengths_any F p (m + 1) cap xs sg tot pk nk ck w hF h h31 (by omega) h0 (fun i hi => hs i (by omega)) (fun i hi => ha i (by omega))
theorem runLengths_m (F : Nat → Prop) (p : Option Addr) (n m cap : Nat) (hnm : n = m + 1) (xs : List Nat) (sg tot : Nat → Nat) (pk : Option Addr) (nk ck : Nat) (w : World) (hF : New F w) (h : FlSl F w (.slice p (n * 2) cap) xs) (h31 : n ≤ 100000000)
    (h0 : tot 0 = 0) (hs : ∀ i, i < m → Seg xs i (sg i)) (ha : ∀ i, i < m → floatBits .add .f64 (tot i) (sg i) = some (tot (i + 1))) :
    Calls Try.prog 8 #[.agg #[.int .i64 2, .int .i64 0, .slice p (n * 2) cap, .slice pk nk ck]] w (IsRun F w (cumOf tot m) (tot m)) := by
  subst hnm
  exact runLengths_succ F p m cap xs sg tot pk nk ck w hF h h31 h0 hs ha
theorem cumOf_get (tot : Nat → Nat) {m i : Nat} (hi : i < m) : (cumOf tot m)[i]? = some (tot (i + 1)) := by
  simp [cumOf, hi]
theorem cumOf_len (tot : Nat → Nat) (m : Nat) : (cumOf tot m).length = m := by simp [cumOf]
end Go.Proofs.Ytnpgmoiiiemghaa
