/-
  FnLineSums: the law answers true and changes nothing that stood in memory. Proved for every input.
-/
import Derived.Test.YtnpgmoiiiemghaaSumNum
import Derived.Test.YtnpgmoiiiemghaaGeomOf
import Derived.Test.YtnpgmoiiiemghaaOpen
namespace Go.Proofs.Ytnpgmoiiiemghaa
open Go.ChangeShapes Go.WideShapes Go.ChangeAt Go.RowKit
def oneLine : List (Int × Int) := [(0, 0), (1, 0)]
theorem oneLine_small : oneLine.all (smallB 1000) = true := by decide
set_option maxRecDepth 100000 in
theorem one_ok : FloatKind.f64.format.order (stN oneLine 1).l 4607182418800017408 = some .eq := by decide +kernel
theorem PtSl.oneLine {w : World} {g : Nat} {t : TypeId} (h : Blk w g #[.int .i64 0, .int .i64 0, .int .i64 1, .int .i64 0] t) : PtSl w (.slice (some ⟨g, 0, none⟩) 2 2) oneLine := by
  refine ⟨_, 2, rfl, by decide, by decide, ?_, fun _ => ⟨g, 0, rfl, h.lt, ?_⟩⟩
  · intro i q hq
    match i, hq with
    | 0, hq => injection hq with hq; subst hq; decide
    | 1, hq => injection hq with hq; subst hq; decide
  · intro i q hq
    match i, hq with
    | 0, hq => injection hq with hq; subst hq; exact ⟨h.rules.1 0, h.rules.1 1⟩
    | 1, hq => injection hq with hq; subst hq; exact ⟨h.rules.1 2, h.rules.1 3⟩
theorem one_le : oneLine.length ≤ 200 := by decide
theorem one_len : oneLine.length = 2 := rfl
theorem one_nums {n : Nat} (h : (numsOf oneLine).length = n) : n = 2 * 2 := by
  rw [← h, numsOf_len, one_len]
theorem lineSums_n (F : Nat → Prop) (ps : List (Int × Int)) (h1 : ps.all (smallB 1000) = true) (h200 : ps.length ≤ 200) (p : Option Addr) (n n2 cap : Nat) (hn : ps.length = n) (hn2 : n2 = n * 2) (w : World) (hF : New F w) (h : FlSl F w (.slice p n2 cap) (numsOf ps)) :
    Calls Try.prog 14 #[.agg #[.int .i64 2, .int .i64 0, .slice p n2 cap, .slice none 0 0]] w (IsSums w (stN ps (n - 1))) := by
  subst hn hn2
  exact lineSums_any F p ps.length cap (numsOf ps) (stN ps) none 0 0 w hF h (by omega) rfl (fun i hi => step_num ps h1 h200 i hi)

theorem order_is {x y : Nat} {q : Rat} (hx : Is x q) (hy : Is y q) : FloatKind.f64.format.order x y = some .eq := by
  rw [show FloatKind.f64.format.order x y = _ from hx.order hy]
  unfold cmpQ
  rw [if_neg (Rat.lt_irrefl), if_pos rfl]
set_option maxRecDepth 100000 in
theorem abs_z (r : Nat) (h : r = 0 ∨ r = 9223372036854775808) (w : World) : Calls Try.prog 15 #[.float .f64 r] w fun e w' => e = .returned (.float .f64 0) ∧ w = w' := by
  rcases h with rfl | rfl
  · exact abs_zero w
  · have h1 : ∀ w, (callFunc 33 #[.float .f64 9223372036854775808]).run Try.prog w = .ok (.value (.int .u64 9223372036854775808)) w := fun _ => by kernel_rfl
    have h2 : ∀ w, (callFunc 32 #[.int .u64 0]).run Try.prog w = .ok (.value (.float .f64 0)) w := fun _ => by kernel_rfl
    have h3 : bits BinOp.andNot IntKind.u64 9223372036854775808 9223372036854775808 = 0 := by decide
    go_enter Try.func15, Try.ntmps15
    go_wp2
    go_ret
    exact ⟨rfl, rfl⟩
set_option maxRecDepth 100000 in
theorem close20_is {x y : Nat} {q : Rat} (hx : Is x q) (hy : Is y q) (w : World) : Calls Try.prog 11 #[.float .f64 x, .float .f64 y] w fun e w' => e = .returned (.bool true) ∧ w = w' := by
  obtain ⟨r, hr, hz⟩ := diff_same hx hy
  have f1 := ra .sub x y r hr
  have HZ := Lib.hid hz
  clear hr hz hx hy
  have ho : FloatKind.f64.format.order 0 4517110426252607488 = some .lt := by decide
  go_enter Try.func11, Try.ntmps11
  go_wp2_with (go_at_call 15; refine (abs_z r HZ.out _).mono ?_; rintro e w1 ⟨rfl, rfl⟩)
  go_ret
  exact ⟨rfl, rfl⟩
set_option maxRecDepth 100000 in
set_option maxHeartbeats 8000000 in
theorem sumLaw_main (ps : List (Int × Int)) (v : Value) (w : World) (h : PtSl w v ps) (h200 : ps.length ≤ 200) (hs : ps.all (smallB 1000) = true) :
    Calls Try.prog 5 #[v] w fun e w' => e = .returned (.bool true) ∧ Bel w w' := by
  have HP := Lib.hid h
  have HS := Lib.hid hs
  obtain ⟨p, cap, rfl, hl, hc, -⟩ := h
  have hlin : (decide (ps.length ≤ 200) && ps.all (smallB 1000)) = true := by rw [hs]; simp [h200]
  have HLIN := Lib.hid hlin
  have HNL := Lib.hid (numsOf_len ps)
  have H200 := Lib.hid h200
  have hone := one_ok
  clear hs hlin
  generalize hn : ps.length = n at *
  have HN := Lib.hid hn
  obtain ⟨T, hT⟩ : ∃ T, stN ps (n - 1) = T := ⟨_, rfl⟩
  obtain ⟨U, hU⟩ : ∃ U, stN oneLine 1 = U := ⟨_, rfl⟩
  rw [hU] at hone
  have HT := Lib.hid hT
  have HU := Lib.hid hU
  clear hn hT hU
  go_enter Try.func5, Try.ntmps5
  go_wp2_with (first
    | (go_at_call 7; refine (lined_any ps _ 1000 (by decide) (by decide) _ HP.out).mono ?_; rw [HN.out, HLIN.out]; rintro e w1 ⟨rfl, hb1⟩; have HB1 := Lib.hid hb1; have hl1 := hb1.size; clear hb1)
    | (go_at_call 9; (with_reducible refine (lineOf_any (fun _ => True) ps _ _ (New.any _) (HP.out.bel HB1.out) ?hlen).mono ?_); (case hlen => (have := HN.out; omega)); rintro e w2 ⟨p2, n2, c2, rfl, hf2, hb2⟩; have e9 : n2 = n * 2 := (by have h1 := hf2.len.1; have h2 := HNL.out; have h3 := HN.out; omega); have E9 := Lib.hid e9; clear e9; have HF2 := Lib.hid hf2; have HB2 := Lib.hid hb2; have hl2 := hb2.size; clear hf2 hb2)
    | (go_at_call 14; (with_reducible refine (lineSums_n (fun _ => True) ps HS.out ?hlen p2 n n2 c2 HN.out E9.out _ (New.any _) HF2.out).mono ?_); (case hlen => (have := HN.out; omega)); rw [HT.out]; rintro e w3 ⟨rfl, hb3⟩; have HB3 := Lib.hid hb3; have hl3 := hb3.size; clear hb3)
    | (go_at_call 9; have hq1 := PtSl.oneLine (Blk.new' (w3.alloc (.cells #[.float .f64 T.x, .float .f64 T.y] 43)) #[.int .i64 0, .int .i64 0, .int .i64 1, .int .i64 0] 33 (b := w3.heap.size + 1) (by simp)); (with_reducible refine (lineOf_any (fun _ => True) oneLine _ _ (New.any _) hq1 ?hlen).mono ?_); (case hlen => exact Nat.le_trans one_le (by decide)); rintro e w4 ⟨p4, n4, c4, rfl, hf4, hb4⟩; have E4 := Lib.hid hf4.len.1; have HF4 := Lib.hid hf4; have HB4 := Lib.hid hb4; have hl4 := hb4.size; (try simp at hl4); clear hf4 hb4)
    | (go_at_call 14; (with_reducible refine (lineSums_n (fun _ => True) oneLine oneLine_small one_le p4 2 n4 c4 one_len (one_nums E4.out) _ (New.any _) HF4.out).mono ?_); rw [HU.out]; rintro e w5 ⟨rfl, hb5⟩; have HB5 := Lib.hid hb5; have hl5 := hb5.size; clear hb5))
  have hBX : Blk (w5.alloc (.cells #[.float .f64 U.x, .float .f64 U.y] 43)) w3.heap.size #[.float .f64 T.x, .float .f64 T.y] 43 := ((((Blk.new w3 #[.float .f64 T.x, .float .f64 T.y] 43).alloc _).bel HB4.out).bel HB5.out).alloc _
  have hBW : Bel w (w5.alloc (.cells #[.float .f64 U.x, .float .f64 U.y] 43)) := ((((((HB1.out.trans HB2.out).trans HB3.out).alloc _).alloc _).trans HB4.out).trans HB5.out).alloc _
  generalize hw6 : w5.alloc (.cells #[.float .f64 U.x, .float .f64 U.y] 43) = w6 at *
  generalize hg3 : w3.heap.size = g3 at *
  have HBX := Lib.hid hBX
  have HBW := Lib.hid hBW
  clear hBX hBW hw6 hg3 HF2 HF4 HB1 HB2 HB3 HB4 HB5 hl1 hl2 hl3 hl4 hl5 E9 E4
  clear hq1
  go_loopw [7, 8, 9, 10, 11] (fun x y l e i wr => ∃ (k : Nat) (b : Bool), k ≤ n - 1 ∧ i = .int .i64 ((k : Int) + 1) ∧ x = .float .f64 (lx ps k) ∧ y = .float .f64 (ly ps k) ∧ l = .float .f64 (ln ps k) ∧ e = .bool b ∧ Bel w6 wr) (fun _ _ _ _ i _ => n - (intOf i).toNat)
  case atStart => exact ⟨0, true, Nat.zero_le _, rfl, rfl, rfl, rfl, rfl, Bel.refl _⟩
  case round =>
    obtain ⟨k, b, hk, rfl, rfl, rfl, rfl, rfl, hbel⟩ := hrel
    have HBEL := Lib.hid hbel
    by_cases hkm : k + 1 < n
    · have hlen := HN.out
      obtain ⟨_, _, hv, _, _, hrg, hcl⟩ := HP.out
      simp only [Value.slice.injEq] at hv
      obtain ⟨rfl, -, rfl⟩ := hv
      obtain ⟨bp, op, rfl, hltp, hcell⟩ := hcl (by intro e; rw [e] at hlen; simp at hlen; omega)
      obtain ⟨P, hP⟩ : ∃ P, ps[k]? = some P := ⟨_, List.getElem?_eq_getElem (by omega)⟩
      obtain ⟨Q, hQ⟩ : ∃ Q, ps[k + 1]? = some Q := ⟨_, List.getElem?_eq_getElem (by omega)⟩
      have hbw := HBW.out.trans hbel
      have d1 := (hbw.cell (p := ⟨bp, op + k * 2, none⟩) hltp).trans (hcell k P hP).1
      have d2 := (hbw.cell (p := ⟨bp, op + k * 2 + 1, none⟩) hltp).trans (hcell k P hP).2
      have d3 := (hbw.cell (p := ⟨bp, op + (k + 1) * 2, none⟩) hltp).trans (hcell (k + 1) Q hQ).1
      have d4 := (hbw.cell (p := ⟨bp, op + (k + 1) * 2 + 1, none⟩) hltp).trans (hcell (k + 1) Q hQ).2
      have sP := small_pt HS.out (i := k) (by omega)
      have sQ := small_pt HS.out (i := k + 1) (by omega)
      obtain ⟨m1, m2, s, _, e1, e2, e3, e4, _⟩ := seg_full (pt ps k) (pt ps (k + 1)) sP sQ
      have e4' : FloatKind.f64.format.sqrt s = some (sgB ps k) := e4
      obtain ⟨⟨_, u1, u2, _⟩, ⟨_, v1, v2, _⟩, _⟩ := terms ps HS.out k (by omega)
      have a1 := (track_add (by have := HN.out; omega) (okX ps HS.out) k (by omega)).1
      have a2 := (track_add (by have := HN.out; omega) (okY ps HS.out) k (by omega)).1
      have a3 := (track_add (by have := HN.out; omega) (okL ps HS.out) k (by omega)).1
      have sP := small_le sP
      have sQ := small_le sQ
      have pP : pt ps k = P := by unfold pt; rw [List.getD, hP]; rfl
      have pQ : pt ps (k + 1) = Q := by unfold pt; rw [List.getD, hQ]; rfl
      rw [pP, pQ] at e1 e2 u1 u2 v1 v2
      rw [pP] at sP
      rw [pQ] at sQ
      obtain ⟨x0, y0⟩ := P
      obtain ⟨x1, y1⟩ := Q
      simp only at d1 d2 d3 d4 e1 e2 u1 u2 v1 v2 sP sQ
      have wx : IntKind.i64.wrap (x1 - x0) = x1 - x0 := IntWalk.i64_in _ (by omega)
      have wy : IntKind.i64.wrap (y1 - y0) = y1 - y0 := IntWalk.i64_in _ (by omega)
      have wx2 : IntKind.i64.wrap (x1 + x0) = x1 + x0 := IntWalk.i64_in _ (by omega)
      have wy2 : IntKind.i64.wrap (y1 + y0) = y1 + y0 := IntWalk.i64_in _ (by omega)
      have wk0 : IntKind.i64.wrap (k : Int) = (k : Int) := IntWalk.i64_in _ (by omega)
      have wk1 : IntKind.i64.wrap ((k : Int) + 1 + 1) = (k : Int) + 1 + 1 := IntWalk.i64_in _ (by omega)
      have k1 : (0 : Int) ≤ (k : Int) + 1 := by omega
      have k2 : (k : Int) + 1 < (n : Int) := by omega
      have k3 : ((k : Int) + 1).toNat = k + 1 := by omega
      have k4 : (k : Int) < (n : Int) := by omega
      have k5 : (0 : Int) ≤ (k : Int) := by omega
      generalize hX : x1 - x0 = dx at *
      generalize hY : y1 - y0 = dy at *
      generalize hX2 : x1 + x0 = sx at *
      generalize hY2 : y1 + y0 = sy at *
      have f1 := ra .mul (floatOfInt .f64 dx) (floatOfInt .f64 dx) m1 e1
      have f2 := ra .mul (floatOfInt .f64 dy) (floatOfInt .f64 dy) m2 e2
      have f3 := ra .add m1 m2 s e3
      have f4 := ra .mul (sgB ps k) (floatOfInt .f64 sx) _ u1
      have f5 := ra .quo _ 4611686018427387904 _ u2
      have f6 := ra .add (lx ps k) (tLx ps k) (lx ps (k + 1)) a1
      have f7 := ra .mul (sgB ps k) (floatOfInt .f64 sy) _ v1
      have f8 := ra .quo _ 4611686018427387904 _ v2
      have f9 := ra .add (ly ps k) (tLy ps k) (ly ps (k + 1)) a2
      have f10 := ra .add (ln ps k) (sgB ps k) (ln ps (k + 1)) a3
      generalize fB .mul (sgB ps k) (fl sx) = M1 at *
      generalize fB .mul (sgB ps k) (fl sy) = M2 at *
      have E4 := Lib.hid e4'
      obtain ⟨b1, hb1⟩ : ∃ b1, (Go.FloatKind.f64.format.order (floatOfInt .f64 dx) 0 == some .eq) = b1 := ⟨_, rfl⟩
      obtain ⟨b2, hb2⟩ : ∃ b2, (Go.FloatKind.f64.format.order (floatOfInt .f64 dy) 0 == some .eq) = b2 := ⟨_, rfl⟩
      clear hbel hlen hrg hcl hcell hP hQ hbw e1 e2 e3 e4 e4' u1 u2 v1 v2 a1 a2 a3 pP pQ
      go_wp2
      go_quiet (fail)
      go_wp2_with (go_at_call 10; refine (sqrt_any s (sgB ps k) E4.out _).mono ?_; rintro e w4 ⟨rfl, rfl⟩)
      go_quiet (fail)
      go_wp2
      go_quiet (fail)
      cases b <;> cases b1
      all_goals
        go_wp2
      all_goals
        go_roundw
        case rel => exact ⟨k + 1, _, by omega, by go_num, rfl, rfl, rfl, rfl, HBEL.out.trans (by (repeat (first | with_reducible assumption | with_reducible exact Bel.refl _ | with_reducible apply Bel.alloc | with_reducible apply Bel.drew | with_reducible apply Bel.drewN | ((with_reducible apply Bel.setCellR); (simp <;> omega)) | with_reducible refine Bel.behind (by with_reducible assumption) ?_)))⟩
        case measure => simp [intOf]; omega
    · have hk' : k = n - 1 := by omega
      have hlen := HN.out
      obtain ⟨qx, x1, x2, -, -⟩ := track_ok (by have := H200.out; omega) (okX ps HS.out) k (by omega)
      obtain ⟨qy, y1, y2, -, -⟩ := track_ok (by have := H200.out; omega) (okY ps HS.out) k (by omega)
      obtain ⟨ql, l1, l2, -, -⟩ := track_ok (by have := H200.out; omega) (okL ps HS.out) k (by omega)
      have hTk : stN ps k = T := by rw [hk']; exact HT.out
      have x1 : Is T.x qx := by rw [← hTk]; exact x1
      have y1 : Is T.y qy := by rw [← hTk]; exact y1
      have l1 : Is T.l ql := by rw [← hTk]; exact l1
      have x2 : Is (lx ps k) qx := x2
      have y2 : Is (ly ps k) qy := y2
      have l2 : Is (ln ps k) ql := l2
      have o1 := order_is x1 x2
      have o2 := order_is y1 y2
      have o3 := order_is l1 l2
      obtain ⟨rx, dx, zx⟩ := diff_same x1 x2
      obtain ⟨ry, dy, zy⟩ := diff_same y1 y2
      have f1 := ra .sub _ _ _ dx
      have f2 := ra .sub _ _ _ dy
      have ZX := Lib.hid zx
      have ZY := Lib.hid zy
      have HCL := Lib.hid fun w => close20_is l1 l2 w
      have hlt : ¬ ((k : Int) + 1 < (n : Int)) := by omega
      have hB := HBX.out.bel hbel
      obtain ⟨rb, zb, lb⟩ := hB.facts
      generalize lx ps k = X at *
      generalize ly ps k = Y at *
      generalize ln ps k = L at *
      clear hk hkm hk' hlen hTk x1 x2 y1 y2 l1 l2 dx dy zx zy hbel
      cases b
      all_goals
        go_wp2_with (first
          | (go_at_call 15; refine (abs_z rx ZX.out _).mono ?_; rintro e w7 ⟨rfl, rfl⟩)
          | (go_at_call 15; refine (abs_z ry ZY.out _).mono ?_; rintro e w8 ⟨rfl, rfl⟩)
          | (go_at_call 11; refine (HCL.out _).mono ?_; rintro e w9 ⟨rfl, rfl⟩))
      all_goals
        go_ret
        exact ⟨rfl, (HBW.out.trans HBEL.out)⟩
end Go.Proofs.Ytnpgmoiiiemghaa
