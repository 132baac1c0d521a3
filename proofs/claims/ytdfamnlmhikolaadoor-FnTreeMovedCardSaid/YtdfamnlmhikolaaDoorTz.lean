/-
  FnTreeMoved.
-/
import Derived.Test.YtdfamnlmhikolaaDoorTmz
import Derived.Test.YtdfamnlmhikolaaDoorApp
import Derived.BigQuiet
set_option linter.unusedVariables false
namespace Go.Proofs.YtdfamnlmhikolaaDoor
open Go.ChangeShapes Go.WideShapes Go.ChangeAt Go.RowKit Go.Maps
def ItMv (X Y : Int) (x y : Raw) : Prop := y.id = x.id ∧ ∃ q, BxB x.a x.b x.c x.d q ∧ BxB y.a y.b y.c y.d (q.mv X Y) ∧ q.Small 1048576 ∧ (q.mv X Y).Small 1048576
theorem both_items (X Y : Int) (xs ys : List Raw) (hl : ys.length = xs.length) (h : ∀ (i : Nat) (x y : Raw), xs[i]? = some x → ys[i]? = some y → ItMv X Y x y) :
    ∃ L : List It, L.length = xs.length ∧ (∀ (i : Nat) (x : Raw) (t : It), xs[i]? = some x → L[i]? = some t → x.Is t) ∧ (∀ (i : Nat) (y : Raw) (t : It), ys[i]? = some y → (L.map (It.mv X Y))[i]? = some t → y.Is t) ∧ (∀ t ∈ L, t.b.Small 1048576) ∧ ∀ t ∈ L.map (It.mv X Y), t.b.Small 1048576 := by
  obtain ⟨L, hL, hp⟩ := list_of (P := fun i (t : It) => ∀ x y, xs[i]? = some x → ys[i]? = some y → x.Is t ∧ y.Is (t.mv X Y) ∧ t.b.Small 1048576 ∧ (t.b.mv X Y).Small 1048576) xs.length (fun i hi => by
    obtain ⟨x, hx⟩ : ∃ x, xs[i]? = some x := ⟨_, List.getElem?_eq_getElem hi⟩
    obtain ⟨y, hy⟩ : ∃ y, ys[i]? = some y := ⟨_, List.getElem?_eq_getElem (by omega)⟩
    obtain ⟨h0, q, q1, q2, q3, q4⟩ := h i x y hx hy
    refine ⟨⟨q, x.id⟩, fun x' y' hx' hy' => ?_⟩
    obtain rfl := Option.some.inj (hx.symm.trans hx')
    obtain rfl := Option.some.inj (hy.symm.trans hy')
    exact ⟨⟨q1, rfl⟩, ⟨q2, h0.symm⟩, q3, q4⟩)
  have at_ : ∀ (i : Nat), i < xs.length → ∃ x y, xs[i]? = some x ∧ ys[i]? = some y := fun i hi => ⟨_, _, List.getElem?_eq_getElem hi, List.getElem?_eq_getElem (by omega)⟩
  refine ⟨L, hL, fun i x t hx ht => ?_, fun i y t hy ht => ?_, fun t ht => ?_, fun t ht => ?_⟩
  · obtain ⟨x', y, hx', hy⟩ := at_ i (List.getElem?_eq_some_iff.1 hx).1
    exact (hp i t ht x y hx hy).1
  · rw [List.getElem?_map] at ht
    obtain ⟨s, hs, rfl⟩ := Option.map_eq_some_iff.1 ht
    obtain ⟨x, y', hx, _⟩ := at_ i (by have := (List.getElem?_eq_some_iff.1 hy).1; omega)
    exact (hp i s hs x y hx hy).2.1
  · obtain ⟨i, hi⟩ := List.mem_iff_getElem?.1 ht
    obtain ⟨x, y, hx, hy⟩ := at_ i (by have := (List.getElem?_eq_some_iff.1 hi).1; omega)
    exact (hp i t hi x y hx hy).2.2.1
  · obtain ⟨s, hs, rfl⟩ := List.mem_map.1 ht
    obtain ⟨i, hi⟩ := List.mem_iff_getElem?.1 hs
    obtain ⟨x, y, hx, hy⟩ := at_ i (by have := (List.getElem?_eq_some_iff.1 hi).1; omega)
    exact (hp i s hi x y hx hy).2.2.2
theorem Bel.of_row {w0 w w' : World} {row : Option Nat} (h : Bel w0 w) (hg : w.grownBy w' row) (hn : ∀ g, row = some g → w0.heap.size ≤ g) : Bel w0 w' := Below.grown h hg (Below.size h) (fun k hk => hn k hk)
def IsYes (w : World) (e : Ending) (w' : World) : Prop := e = .returned (.bool true) ∧ Bel w w'
theorem infoIt : (Tryd.prog.info? 32).map (fun i => (i.zero, i.size, i.bytes)) = some (some (.agg #[.float .f64 0, .float .f64 0, .float .f64 0, .float .f64 0, .int .i64 0]), 5, 40) := by kernel_rfl
theorem infoAsk : (Tryd.prog.info? 34).map (fun i => (i.zero, i.size, i.bytes)) = some (some (.agg #[.int .i64 0, .float .f64 0, .float .f64 0, .float .f64 0, .float .f64 0, .int .i64 0, .int .i64 0]), 7, 56) := by kernel_rfl
theorem moved_ways (X Y : Int) : (X < -524288 ∨ (-524288 ≤ X ∧ 524288 < X) ∨ (-524288 ≤ X ∧ X ≤ 524288 ∧ Y < -524288) ∨ (-524288 ≤ X ∧ X ≤ 524288 ∧ -524288 ≤ Y ∧ 524288 < Y)) ∨ (-524288 ≤ X ∧ X ≤ 524288 ∧ -524288 ≤ Y ∧ Y ≤ 524288) := by omega
set_option maxHeartbeats 8000000 in
set_option maxRecDepth 100000 in
theorem treeMoved_any (a : Addr) (v1 v2 : Value) (xs : List Raw) (X Y : Int) (asks : List RawAsk) (hid : ∀ x ∈ xs, (Lit.int .i64 x.id).wf = true) (w : World) (h1 : RawSl w v1 xs) (h2 : AskSl w v2 asks) (hg : w.cell? ⟨0, 0, none⟩ = some (.iface 128 (.pointer (some a)))) :
    Calls Tryd.prog 3 #[v1, .int .i64 X, .int .i64 Y, v2] w (IsYes w) := by
  have HX1 := Lib.hid h1
  have HX2 := Lib.hid h2
  have HG := Lib.hid hg
  have HD := Lib.hid hid
  obtain ⟨p1, c1, rfl, hl1, hc1, hr1⟩ := h1
  obtain ⟨p2, c2, rfl, hl2, hc2, hr2⟩ := h2
  have HR1 := Lib.hid hr1
  have HR2 := Lib.hid hr2
  clear hg hid hr1 hr2
  generalize hn1 : xs.length = n1 at *
  generalize hn2 : asks.length = n2 at *
  have HN1 := Lib.hid hn1
  have HN2 := Lib.hid hn2
  clear hn1 hn2
  by_cases hz1 : n1 ≤ 2147483647
  · by_cases hz2 : n2 ≤ 2147483647
    · rcases moved_ways X Y with hbad | ⟨g1, g2, g3, g4⟩
      · rcases hbad with g1 | ⟨g1, g2⟩ | ⟨g1, g2, g3⟩ | ⟨g1, g2, g3, g4⟩
        all_goals
          go_enter Tryd.func3, Tryd.ntmps3
          go_wp2_with (first
            | (go_at_call 5; (with_reducible refine (kItems_any _ xs HD.out _ (HX1.out.bel ?hb)).mono ?_); (case hb => (repeat (first | with_reducible assumption | with_reducible exact Bel.refl _ | with_reducible apply Bel.alloc | with_reducible apply Bel.drew | with_reducible apply Bel.drewN | ((with_reducible apply Bel.setCellR); (simp <;> omega)) | with_reducible refine Bel.behind (by with_reducible assumption) ?_))); rintro e w1 ⟨r, rfl, hr, hb1⟩; have BX := ((Blk.new w #[.int .i64 X] 3).alloc (.cells #[.int .i64 Y] 3)).bel hb1; have BY := (show Blk ((w.alloc (.cells #[.int .i64 X] 3)).alloc (.cells #[.int .i64 Y] 3)) (w.heap.size + 1) #[.int .i64 Y] 3 from Blk.new' _ _ _ (by simp)).bel hb1; obtain ⟨r4, z4, l4⟩ := BX.facts; obtain ⟨r5, z5, l5⟩ := BY.facts; have HBX := Lib.hid BX; have HBY := Lib.hid BY; have HB1 : Hid (Bel w w1) := Lib.hid (((Bel.alloc1 w _).alloc _).trans hb1); clear hr hb1 BX BY; cases r)
            | (go_at_call 6; (with_reducible refine (kAsked_any _ asks _ _ (HX2.out.bel HB1.out)).mono ?_); rintro e w2 ⟨r, rfl, hr, hb2⟩; have BX := HBX.out.bel hb2; have BY := HBY.out.bel hb2; obtain ⟨r6, z6, l6⟩ := BX.facts; obtain ⟨r7, z7, l7⟩ := BY.facts; have HB2 : Hid (Bel w w2) := Lib.hid (HB1.out.trans hb2); clear hr hb2 BX BY; cases r))
          all_goals
            go_ret
            first
              | exact ⟨rfl, HB2.out⟩
              | exact ⟨rfl, HB1.out⟩
      · go_enter Tryd.func3, Tryd.ntmps3
        go_wp2_with (first
          | (go_at_call 5; (with_reducible refine (kItems_any _ xs HD.out _ (HX1.out.bel ?hb)).mono ?_); (case hb => (repeat (first | with_reducible assumption | with_reducible exact Bel.refl _ | with_reducible apply Bel.alloc | with_reducible apply Bel.drew | with_reducible apply Bel.drewN | ((with_reducible apply Bel.setCellR); (simp <;> omega)) | with_reducible refine Bel.behind (by with_reducible assumption) ?_))); rintro e w1 ⟨r, rfl, hr, hb1⟩; have BX := ((Blk.new w #[.int .i64 X] 3).alloc (.cells #[.int .i64 Y] 3)).bel hb1; have BY := (show Blk ((w.alloc (.cells #[.int .i64 X] 3)).alloc (.cells #[.int .i64 Y] 3)) (w.heap.size + 1) #[.int .i64 Y] 3 from Blk.new' _ _ _ (by simp)).bel hb1; obtain ⟨r4, z4, l4⟩ := BX.facts; obtain ⟨r5, z5, l5⟩ := BY.facts; have HBX := Lib.hid BX; have HBY := Lib.hid BY; have HB1 : Hid (Bel w w1) := Lib.hid (((Bel.alloc1 w _).alloc _).trans hb1); have HR := Lib.hid hr; clear hr hb1 BX BY; cases r)
          | (go_at_call 6; (with_reducible refine (kAsked_any _ asks _ _ (HX2.out.bel HB1.out)).mono ?_); rintro e w2 ⟨r, rfl, hr, hb2⟩; have BX := HBX.out.bel hb2; have BY := HBY.out.bel hb2; obtain ⟨r6, z6, l6⟩ := BX.facts; obtain ⟨r7, z7, l7⟩ := BY.facts; have HA := Lib.hid hr; have HB2 : Hid (Bel w w2) := Lib.hid (HB1.out.trans hb2); have HBX2 := Lib.hid BX; have HBY2 := Lib.hid BY; clear hr hb2 BX BY; cases r))
        all_goals try (go_ret; first | exact ⟨rfl, HB2.out⟩ | exact ⟨rfl, HB1.out⟩)
        have hiok := HR.out (by simp)
        have haok := HA.out (by simp)
        have HIOK := Lib.hid hiok
        have HAOK := Lib.hid haok
        have hf1 := hiok.1
        have hf2 := haok.1
        rw [HN1.out] at hf1
        rw [HN2.out] at hf2
        clear hiok haok HR HA r4 r5 z4 z5 l4 l5
        have HMV : Hid (∀ (W : World) (b0 b1 b2 b3 : Nat) (q : Bx), BxB b0 b1 b2 b3 q → q.Small 1048576 → Bel w2 W → Calls Tryd.prog 8 #[.agg #[.float .f64 b0, .float .f64 b1, .float .f64 b2, .float .f64 b3], .pointer (some ⟨w.heap.size, 0, none⟩), .pointer (some ⟨w.heap.size + 1, 0, none⟩)] W (IsMoved q X Y W)) :=
          Lib.hid fun W b0 b1 b2 b3 q hq hs hW => moved_any b0 b1 b2 b3 hq hs _ _ X Y g1 g2 g3 g4 W (cell_kept hW ((HBX2.out.rules.1 0).trans rfl)) (cell_kept hW ((HBY2.out.rules.1 0).trans rfl))
        have HNM : Hid (∀ q : Bx, q.Small 524288 → (q.mv X Y).Small 1048576) := Lib.hid fun q h => h.mv g1 g2 g3 g4
        obtain ⟨i0, hi, hz0, hz1, hz2⟩ := info_parts infoIt
        obtain ⟨j0, hj', hy0, hy1, hy2⟩ := info_parts infoAsk
        go_loopw [11, 59] (fun ov iv wr => ∃ (k : Nat) (ys : List Raw), iv = .int .i64 k ∧ k ≤ n1 ∧ ys.length = k ∧ Bel w2 wr ∧ wr.ownsRow w2.heap.size 32 5 ov k (rowI ys) ∧ ∀ (i : Nat) (x y : Raw), xs[i]? = some x → ys[i]? = some y → ItMv X Y x y) (fun _ iv _ => n1 - (intOf iv).toNat)
        case atStart => exact ⟨0, [], rfl, Nat.zero_le _, rfl, Bel.refl _, World.ownsRow_nil _ _ _ _, fun i x y _ h => by simp at h⟩
        case round =>
          obtain ⟨k, ys, rfl, hk, hyl, hbel, hown, hmv⟩ := hrel
          obtain ⟨pv, cv, rfl⟩ := hown.isSlice
          have HBEL := Lib.hid hbel
          have HOWN := Lib.hid hown
          have HMVS := Lib.hid hmv
          have HYL := Lib.hid hyl
          by_cases hkn : k < n1
          · have hxl : k < xs.length := by have := HN1.out; omega
            obtain ⟨b, off, rfl, hlt, hq⟩ := HR1.out (by intro e; rw [e] at hxl; simp at hxl)
            obtain ⟨x, hx⟩ : ∃ x, xs[k]? = some x := ⟨_, List.getElem?_eq_getElem hxl⟩
            obtain ⟨d0, d1, d2, d3, d4⟩ := hq k x hx
            have hbb := HB2.out.trans hbel
            have D0 := cell_kept hbb d0
            have D1 := cell_kept hbb d1
            have D2 := cell_kept hbb d2
            have D3 := cell_kept hbb d3
            have D4 := cell_kept hbb d4
            have hbl : b < wr.heap.size := Nat.lt_of_lt_of_le hlt hbb.size
            have HXK := Lib.hid hx
            have HBK := Lib.hid (HIOK.out.2 x (List.mem_iff_getElem?.2 ⟨k, hx⟩))
            clear hown hmv hq hx d0 d1 d2 d3 d4 hbel hbb hyl
            generalize hNB : nearB x.a x.b x.c x.d = NB at *
            have HNB := Lib.hid hNB
            clear hNB
            cases NB
            · go_wp2_with (first
                | (go_at_call 7; (with_reducible refine (near_any _ _ _ _ _).mono ?_); rw [HNB.out]; rintro e w3 ⟨rfl, hb3⟩; have HB3 : Hid (Bel wr w3) := Lib.hid ((Bel.alloc1 wr _).trans hb3); clear hb3))
              go_ret
              exact ⟨rfl, (HB2.out.trans HBEL.out).trans HB3.out⟩
            · obtain ⟨q, q1, q2⟩ := box_is HBK.out
              have hqn := near_is q1 HBK.out HNB.out
              have HQ1 := Lib.hid q1
              have HQ2 := Lib.hid q2
              have HQN := Lib.hid (HNM.out q hqn)
              clear q1 q2 hqn
              go_wp2_with (first
                | (go_at_call 7; (with_reducible refine (near_any _ _ _ _ _).mono ?_); rw [HNB.out]; rintro e w3 ⟨rfl, hb3⟩; have HB3 : Hid (Bel wr w3) := Lib.hid ((Bel.alloc1 wr _).trans hb3); have B4 := (Blk.new wr #[.float .f64 x.a, .float .f64 x.b, .float .f64 x.c, .float .f64 x.d, .int .i64 x.id] 32).bel hb3; obtain ⟨r4, z4, l4⟩ := B4.facts; have HB4 := Lib.hid B4; clear hb3 B4))
              go_region_law (first
                | (go_simp; go_at_call 8; (with_reducible refine (HMV.out _ _ _ _ _ q HQ1.out HQ2.out ?hb).mono ?_); (case hb => exact (HBEL.out.trans HB3.out).drew); rintro e w4 ⟨m0, m1, m2, m3, rfl, hM, hb4⟩; have HM := Lib.hid hM; have HB5 : Hid (Bel wr w4) := Lib.hid ((HB3.out.drew).trans hb4); have B5 := (HB4.out.drew).bel hb4; obtain ⟨r5, z5, l5⟩ := B5.facts; clear hM hb4 B5)
                | (refine step_append_row _ rfl (.tmp 68) (.tmp 76) 22 rfl w2.heap.size 32 i0 _ 5 40 Tryd.underlying22 hi hz0 hz1 hz2 rfl (by decide) (.slice pv k cv) k (rowI ys) rfl ((HOWN.out.kept (World.grownBy.of_bel HB5.out none) (by simp [Value.ownBlock]; cases pv <;> simp)).alloc _) ⟨w4.heap.size, 0, none⟩ 1 1 [.float .f64 m0, .float .f64 m1, .float .f64 m2, .float .f64 m3, .int .i64 x.id] rfl rfl (cells_arr _ _ _ (by simp)) (by simp [Value.oneCell']) (by decide) (by unfold maxLen; omega) (by omega) (by have := HB5.out.size; have := HBEL.out.size; simp; omega) ?_; intro v' w5 ho5 hg5 hb5; obtain ⟨p5, c5, rfl⟩ := ho5.isSlice; have HO5 := Lib.hid ho5; have HG5 := Lib.hid hg5; have HGB5 := Lib.hid hb5; clear ho5 hg5 hb5))
              all_goals
                go_wp2
                go_roundw
                case rel => exact ⟨k + 1, ys ++ [⟨m0, m1, m2, m3, x.id⟩], by go_num, by omega, by simp [HYL.out], ((HBEL.out.trans HB5.out).alloc _).of_row HG5.out (fun g hg => (HOWN.out.lt g hg).1), by rw [rowI_snoc]; exact HO5.out, fun i x' y' hx' hy' => by
                    rcases Nat.lt_or_ge i ys.length with e | e
                    · rw [List.getElem?_append_left e] at hy'
                      exact HMVS.out i x' y' hx' hy'
                    · rw [List.getElem?_append_right e] at hy'
                      have hlt2 := (List.getElem?_eq_some_iff.1 hy').1
                      simp at hlt2
                      have hik : i = k := by have := HYL.out; omega
                      subst hik
                      obtain rfl : x = x' := Option.some.inj (HXK.out.symm.trans hx')
                      rw [HYL.out, Nat.sub_self] at hy'
                      simp at hy'
                      subst hy'
                      exact ⟨rfl, q, HQ1.out, HM.out, HQ2.out, HQN.out⟩⟩
                case measure => simp [intOf]; omega
          · obtain rfl : k = n1 := by omega
            obtain ⟨L, hL1, hL2, hL3, hL4, hL5⟩ := both_items X Y xs ys (by rw [hyl, HN1.out]) hmv
            have HL2 := Lib.hid hL2
            have HL3 := Lib.hid hL3
            have HL4 := Lib.hid hL4
            have HL5 := Lib.hid hL5
            have HL1 := Lib.hid hL1
            have HROW := Lib.hid (own_raw hown hyl)
            have HB3 := Lib.hid (HB2.out.trans hbel)
            clear hL1 hL2 hL3 hL4 hL5 hown hmv HMVS HOWN hyl
            obtain ⟨w3, hw3⟩ : ∃ w3, w3 = wr := ⟨_, rfl⟩
            subst hw3
            go_wp2
            go_loopw [14, 81] (fun ov iv wr => ∃ (j : Nat) (zs : List RawAsk), iv = .int .i64 j ∧ j ≤ n2 ∧ zs.length = j ∧ Bel w3 wr ∧ wr.ownsRow w3.heap.size 34 7 ov j (rowA zs) ∧ ∀ (i : Nat) (x y : RawAsk), asks[i]? = some x → zs[i]? = some y → AskMv X Y x y) (fun _ iv _ => n2 - (intOf iv).toNat)
            case atStart => exact ⟨0, [], rfl, Nat.zero_le _, rfl, Bel.refl _, World.ownsRow_nil _ _ _ _, fun i x y _ h => by simp at h⟩
            case round =>
              obtain ⟨j, zs, rfl, hj, hzl, hbel3, hown, hmv⟩ := hrel
              obtain ⟨qv, cq, rfl⟩ := hown.isSlice
              have HBEL3 := Lib.hid hbel3
              have HOWN := Lib.hid hown
              have HMVS := Lib.hid hmv
              have HZL := Lib.hid hzl
              by_cases hjn : j < n2
              · have hxl : j < asks.length := by have := HN2.out; omega
                obtain ⟨b, off, rfl, hlt, hq⟩ := HR2.out (by intro e; rw [e] at hxl; simp at hxl)
                obtain ⟨x, hx⟩ : ∃ x, asks[j]? = some x := ⟨_, List.getElem?_eq_getElem hxl⟩
                obtain ⟨d0, d1, d2, d3, d4, d5, d6⟩ := hq j x hx
                have hbb := HB3.out.trans hbel3
                have D0 := cell_kept hbb d0
                have D1 := cell_kept hbb d1
                have D2 := cell_kept hbb d2
                have D3 := cell_kept hbb d3
                have D4 := cell_kept hbb d4
                have D5 := cell_kept hbb d5
                have D6 := cell_kept hbb d6
                have hbl : b < wr.heap.size := Nat.lt_of_lt_of_le hlt hbb.size
                have HXK := Lib.hid hx
                have HBK := Lib.hid (HAOK.out.2 x (List.mem_iff_getElem?.2 ⟨j, hx⟩)).2
                clear hown hmv hq hx d0 d1 d2 d3 d4 d5 d6 hbel3 hbb hzl
                generalize hNB : nearB x.a x.b x.c x.d = NB at *
                have HNB := Lib.hid hNB
                clear hNB
                cases NB
                · go_wp2_with (first
                    | (go_at_call 7; (with_reducible refine (near_any _ _ _ _ _).mono ?_); rw [HNB.out]; rintro e w4 ⟨rfl, hb4⟩; have HB4 : Hid (Bel wr w4) := Lib.hid ((Bel.alloc1 wr _).trans hb4); clear hb4))
                  go_ret
                  exact ⟨rfl, (HB3.out.trans HBEL3.out).trans HB4.out⟩
                · obtain ⟨q, q1, q2⟩ := box_is HBK.out
                  have hqn := near_is q1 HBK.out HNB.out
                  have HQ1 := Lib.hid q1
                  have HQ2 := Lib.hid q2
                  have HQN := Lib.hid (HNM.out q hqn)
                  clear q1 q2 hqn
                  have HMV2 : Hid (∀ (W : World), Bel wr W → Calls Tryd.prog 8 #[.agg #[.float .f64 x.a, .float .f64 x.b, .float .f64 x.c, .float .f64 x.d], .pointer (some ⟨w.heap.size, 0, none⟩), .pointer (some ⟨w.heap.size + 1, 0, none⟩)] W (IsMoved q X Y W)) := Lib.hid fun W hW => HMV.out W _ _ _ _ q HQ1.out HQ2.out ((HBEL.out.trans HBEL3.out).trans hW)
                  go_wp2_with (first
                    | (go_at_call 7; (with_reducible refine (near_any _ _ _ _ _).mono ?_); rw [HNB.out]; rintro e w4 ⟨rfl, hb4⟩; have HB4 : Hid (Bel wr w4) := Lib.hid ((Bel.alloc1 wr _).trans hb4); have B4 := (Blk.new wr #[.int .i64 x.dov, .float .f64 x.a, .float .f64 x.b, .float .f64 x.c, .float .f64 x.d, .int .i64 x.stop, .int .i64 x.how] 34).bel hb4; obtain ⟨r4, z4, l4⟩ := B4.facts; have HBLK4 := Lib.hid B4; clear hb4 B4)
                    | (go_at_call 8; (with_reducible refine (HMV2.out _ HB4.out).mono ?_); rintro e w5 ⟨m0, m1, m2, m3, rfl, hM, hb5⟩; have HM := Lib.hid hM; have HB5 : Hid (Bel wr w5) := Lib.hid (HB4.out.trans hb5); have B5 := HBLK4.out.bel hb5; obtain ⟨r5, z5, l5⟩ := B5.facts; have HBLK5 := Lib.hid B5; clear hM hb5 B5)
                    | (at_builtin; refine wpList_append_row _ rfl (.tmp 95) (.tmp 97) 23 rfl w3.heap.size 34 j0 _ 7 56 Tryd.underlying23 hj' hy0 hy1 hy2 rfl (by decide) (.slice qv j cq) j (rowA zs) rfl ((HOWN.out.kept (World.grownBy.of_bel ((((HB5.out.setCell (by simp) _).setCell (by simp) _).setCell (by simp) _).setCell (by simp) _) none) (by simp [Value.ownBlock]; cases qv <;> simp)).alloc _) ⟨w5.heap.size, 0, none⟩ 1 1 [.int .i64 x.dov, .float .f64 m0, .float .f64 m1, .float .f64 m2, .float .f64 m3, .int .i64 x.stop, .int .i64 x.how] rfl rfl (cells_arr _ _ _ (by simp)) (by simp [Value.oneCell']) (by decide) (by unfold maxLen; omega) (by omega) (by have := HB5.out.size; have := HBEL3.out.size; simp; omega) ?_; intro v' w6 ho6 hg6 hb6; obtain ⟨p6, c6, rfl⟩ := ho6.isSlice; have HO6 := Lib.hid ho6; have HB6 : Hid (Bel w3 w6) := Lib.hid (((HBEL3.out.trans ((((HB5.out.setCell (by simp) _).setCell (by simp) _).setCell (by simp) _).setCell (by simp) _)).alloc _).of_row hg6 (fun g hg => (HOWN.out.lt g hg).1)); clear ho6 hg6 hb6))
                  go_roundw
                  case rel => exact ⟨j + 1, zs ++ [⟨x.dov, m0, m1, m2, m3, x.stop, x.how⟩], by go_num, by omega, by simp [HZL.out], HB6.out, by rw [rowA_snoc]; exact HO6.out, fun i x' y' hx' hy' => by
                      rcases Nat.lt_or_ge i zs.length with e | e
                      · rw [List.getElem?_append_left e] at hy'
                        exact HMVS.out i x' y' hx' hy'
                      · rw [List.getElem?_append_right e] at hy'
                        have hlt2 := (List.getElem?_eq_some_iff.1 hy').1
                        simp at hlt2
                        have hik : i = j := by have := HZL.out; omega
                        subst hik
                        obtain rfl : x = x' := Option.some.inj (HXK.out.symm.trans hx')
                        rw [HZL.out, Nat.sub_self] at hy'
                        simp at hy'
                        subst hy'
                        exact ⟨rfl, rfl, rfl, q, HQ1.out, HM.out, HQ2.out, HQN.out⟩⟩
                  case measure => simp [intOf]; omega
              · obtain rfl : j = n2 := by omega
                obtain ⟨ts, ts', hA1, hA2, hA3⟩ := both_asked X Y L HL4.out asks zs (by rw [hzl, HN2.out]) (fun x hx => (HAOK.out.2 x hx).1) hmv
                have HA1 := Lib.hid hA1
                have HA2 := Lib.hid hA2
                have HA3 := Lib.hid hA3
                have HROW2 := Lib.hid (own_ask hown hzl)
                have HTL : Hid (ts.length = j) := Lib.hid (by rw [hA1.1]; exact HN2.out)
                have HTL' : Hid (ts'.length = j) := Lib.hid (by rw [hA2.1]; exact hzl)
                have HZL := Lib.hid hzl
                clear hA1 hA2 hA3 hown hmv HMVS HOWN hzl
                have HW0 := Lib.hid (HB3.out.trans hbel3)
                have HBEL3 := Lib.hid hbel3
                have P1 : Hid (∀ W, Bel wr W → Calls Tryd.prog 9 #[.slice p1 k c1, .slice p2 j c2] W (IsPlay ts W)) := Lib.hid fun W hW => treePlay_any a _ _ xs L asks ts HL1.out HL2.out (by have := HL1.out; have := HN1.out; omega) HL4.out HA1.out (by have := HN2.out; omega) W (HX1.out.bel (HW0.out.trans hW)) (HX2.out.bel (HW0.out.trans hW)) (cell_kept (HW0.out.trans hW) HG.out)
                have P2 : Hid (∀ W, Bel wr W → Calls Tryd.prog 9 #[.slice pv k cv, .slice qv j cq] W (IsPlay ts' W)) := Lib.hid fun W hW => treePlay_any a _ _ ys (L.map (It.mv X Y)) zs ts' (by rw [List.length_map, HL1.out, HN1.out, HYL.out]) HL3.out (by rw [List.length_map]; have := HL1.out; have := HN1.out; omega) HL5.out HA2.out (by have := HZL.out; omega) W (HROW.out.bel (HBEL3.out.trans hW)) (HROW2.out.bel hW) (cell_kept (HW0.out.trans hW) HG.out)
                clear hbel3
                go_wp2_with (first
                  | (go_at_call 9; (with_reducible refine (P1.out _ ?hb).mono ?_); (case hb => exact Bel.refl _); rintro e w5 ⟨l1, rfl, hT, hb5⟩; obtain ⟨lp, lc, rfl⟩ : ∃ p c, l1 = .slice p j c := (by obtain ⟨p, c, h, _⟩ := hT; rw [HTL.out] at h; exact ⟨_, _, h⟩); have HT1 := Lib.hid hT; have HB5 := Lib.hid hb5; clear hT hb5)
                  | (go_at_call 9; (with_reducible refine (P2.out _ HB5.out).mono ?_); rintro e w6 ⟨l2, rfl, hT, hb6⟩; obtain ⟨mp, mc, rfl⟩ : ∃ p c, l2 = .slice p j c := (by obtain ⟨p, c, h, _⟩ := hT; rw [HTL'.out] at h; exact ⟨_, _, h⟩); have HT2 := Lib.hid hT; have HB6 := Lib.hid hb6; clear hT hb6))
                obtain ⟨w4, hw4⟩ : ∃ w4, w4 = wr := ⟨_, rfl⟩
                subst hw4
                by_cases hj0 : j = 0
                · subst hj0
                  have e1 : ts = [] := List.length_eq_zero_iff.1 HTL.out
                  have e2 : ts' = [] := List.length_eq_zero_iff.1 HTL'.out
                  have S1 : Hid (ToldSl w6 (.slice lp 0 lc) ts') := Lib.hid (by
                    obtain ⟨p, cap, h1, h2, h3, _⟩ := HT1.out
                    refine ⟨p, cap, by rw [h1, e1, e2], by rw [e2]; simp, h3, fun hn => absurd e2 hn⟩)
                  have S2 : Hid (ToldSl w6 (.slice mp 0 mc) ts') := Lib.hid HT2.out.sl
                  clear e1 e2
                  go_wp2
                  go_loopw [134] (fun iv wr => iv = .int .i64 0 ∧ wr = w6) (fun iv _ => 0)
                  case atStart => exact ⟨rfl, rfl⟩
                  case round =>
                    obtain ⟨rfl, rfl⟩ := hrel
                    go_wp2_with (first
                      | (go_at_call 10; (with_reducible refine (kSameAll_any _ _ ts' _ S1.out S2.out).mono ?_); rintro e w8 ⟨rfl, hb8⟩; have HB8 := Lib.hid hb8; clear hb8))
                    go_ret
                    exact ⟨rfl, ((HW0.out.trans HB5.out).trans HB6.out).trans HB8.out⟩
                · obtain ⟨bl, cc, hv, hl1, hl2, hbl, hbl5, hst⟩ := MvSt.start (X := X) (Y := Y) (ds := asks) HT1.out (by intro e; have := HTL.out; rw [e] at this; exact hj0 this.symm) HB5.out HB6.out
                  obtain ⟨rfl, rfl⟩ : lp = some ⟨bl, 0, none⟩ ∧ lc = cc := by
                    rw [HTL.out] at hv
                    simpa using hv
                  have HST := Lib.hid hst
                  have HBL := Lib.hid hbl
                  have HBL5 := Lib.hid hbl5
                  have HL12 := Lib.hid (And.intro hl1 hl2)
                  clear hv hl1 hl2 hbl hbl5 hst
                  go_wp2
                  go_loopw [134] (fun iv wr => ∃ i : Nat, iv = .int .i64 i ∧ i ≤ j ∧ MvSt X Y w4 w6 wr bl asks ts i) (fun iv _ => j - (intOf iv).toNat)
                  case atStart => exact ⟨0, rfl, Nat.zero_le _, HST.out⟩
                  case round =>
                    obtain ⟨i, rfl, hi, hm⟩ := hrel
                    have HMS := Lib.hid hm
                    by_cases hij : i < j
                    · have hxl : i < asks.length := by have := HN2.out; omega
                      obtain ⟨x, hx⟩ : ∃ x, asks[i]? = some x := ⟨_, List.getElem?_eq_getElem hxl⟩
                      obtain ⟨t, ht⟩ : ∃ t, ts[i]? = some t := ⟨_, List.getElem?_eq_getElem (by have := HTL.out; omega)⟩
                      obtain ⟨t', ht'⟩ : ∃ t', ts'[i]? = some t' := ⟨_, List.getElem?_eq_getElem (by have := HTL'.out; omega)⟩
                      obtain ⟨cs, d0, d1, d2, d3, hB, k3, k5, k6, k7, k8, hq⟩ := hm.at hx ht
                      obtain ⟨b, off, rfl, hlt, hqa⟩ := HR2.out (by intro e; rw [e] at hxl; simp at hxl)
                      obtain ⟨e0, _, _, _, _, _, _⟩ := hqa i x hx
                      have hwq := HW0.out.trans hm.bel
                      have D0 := cell_kept hwq e0
                      have hblt : b < wr.heap.size := Nat.lt_of_lt_of_le hlt hwq.size
                      have K3 := (hB.rules.1 (i * 10 + 3)).trans k3
                      have K5 := (hB.rules.1 (i * 10 + 5)).trans k5
                      have K6 := (hB.rules.1 (i * 10 + 6)).trans k6
                      have K7 := (hB.rules.1 (i * 10 + 7)).trans k7
                      have K8 := (hB.rules.1 (i * 10 + 8)).trans k8
                      have Z := hB.rules.2
                      have hbw := hB.lt
                      have HIDLE : Hid (¬ (x.dov = 3 ∧ t.found = true) → MvSt X Y w4 w6 wr bl asks ts (i + 1)) := Lib.hid fun h => hm.idle hx ht h
                      have HSTEP : Hid (x.dov = 3 → t.found = true → ∀ (w7 : World) (m0 m1 m2 m3 : Nat), BxB m0 m1 m2 m3 (t.bx.mv X Y) → Bel wr w7 → MvSt X Y w4 w6 ((((w7.setCell ⟨bl, i * 10 + 5, none⟩ (.float .f64 m0)).setCell ⟨bl, i * 10 + 6, none⟩ (.float .f64 m1)).setCell ⟨bl, i * 10 + 7, none⟩ (.float .f64 m2)).setCell ⟨bl, i * 10 + 8, none⟩ (.float .f64 m3)) bl asks ts (i + 1)) := Lib.hid fun g1 g2 w7 m0 m1 m2 m3 hM hb => hm.step HBL.out hx ht g1 g2 hM hb
                      have HMOV : Hid (x.dov = 3 → ∀ W, Bel wr W → Calls Tryd.prog 8 #[.agg #[.float .f64 d0, .float .f64 d1, .float .f64 d2, .float .f64 d3], .pointer (some ⟨w.heap.size, 0, none⟩), .pointer (some ⟨w.heap.size + 1, 0, none⟩)] W (IsMoved t.bx X Y W)) := Lib.hid fun g W hW => HMV.out W _ _ _ _ t.bx hq ((HA3.out i x t t' hx ht ht').2 g) ((HBEL.out.trans HBEL3.out).trans (hm.bel.trans hW))
                      have HBK := Lib.hid hB
                      clear hm hx ht ht' hB k3 k5 k6 k7 k8 hq hqa e0 hwq
                      generalize t.found = fo at *
                      generalize t.bx = tb at *
                      generalize x.dov = dv at *
                      by_cases h3 : dv = 3
                      · subst h3
                        cases fo
                        · have HQ := Lib.hid (HIDLE.out (by simp))
                          clear HIDLE HSTEP HMOV
                          go_wp2
                          go_roundw
                          case rel => exact ⟨i + 1, by go_num, by omega, HQ.out⟩
                          case measure => simp [intOf]; omega
                        · have HST2 := Lib.hid (HSTEP.out rfl rfl)
                          have K56 : wr.cell? ⟨bl, i * 10 + 5 + 1, none⟩ = some (.float .f64 d1) := K6
                          have K57 : wr.cell? ⟨bl, i * 10 + 5 + 2, none⟩ = some (.float .f64 d2) := K7
                          have K58 : wr.cell? ⟨bl, i * 10 + 5 + 3, none⟩ = some (.float .f64 d3) := K8
                          have HMV3 := Lib.hid (HMOV.out rfl)
                          clear HIDLE HSTEP HMOV
                          go_wp2_with (first
                            | (go_at_call 8; (with_reducible refine (HMV3.out _ ?hb).mono ?_); (case hb => (repeat (first | with_reducible assumption | with_reducible exact Bel.refl _ | with_reducible apply Bel.alloc | with_reducible apply Bel.drew | with_reducible apply Bel.drewN | ((with_reducible apply Bel.setCellR); (simp <;> omega)) | with_reducible refine Bel.behind (by with_reducible assumption) ?_))); rintro e w7 ⟨m0, m1, m2, m3, rfl, hM, hb7⟩; have HM := Lib.hid hM; have HB7 : Hid (Bel wr w7) := Lib.hid (by (repeat (first | with_reducible assumption | with_reducible exact Bel.refl _ | with_reducible apply Bel.alloc | with_reducible apply Bel.drew | with_reducible apply Bel.drewN | ((with_reducible apply Bel.setCellR); (simp <;> omega)) | with_reducible refine Bel.behind (by with_reducible assumption) ?_))); have c5 := cell_kept HB7.out K5; have c6 := cell_kept HB7.out K56; have c7 := cell_kept HB7.out K57; have c8 := cell_kept HB7.out K58; have B7 := HBK.out.bel HB7.out; have z7 := B7.rules.2; have l7 := B7.lt; clear hM hb7 B7))
                          all_goals
                            go_wp2
                            go_roundw
                            case rel => exact ⟨i + 1, by go_num, by omega, HST2.out _ _ _ _ _ HM.out HB7.out⟩
                            case measure => simp [intOf]; omega
                      · have HQ := Lib.hid (HIDLE.out (fun h => h3 h.1))
                        clear HIDLE HSTEP HMOV
                        cases fo
                        all_goals
                          go_wp2
                          go_roundw
                          case rel => exact ⟨i + 1, by go_num, by omega, HQ.out⟩
                          case measure => simp [intOf]; omega
                    · obtain rfl : i = j := by omega
                      have S1 : Hid (ToldSl wr (.slice (some ⟨bl, 0, none⟩) i lc) ts') := Lib.hid (hm.fin HN2.out HTL.out HTL'.out (fun i x t t' h1 h2 h3 => (HA3.out i x t t' h1 h2 h3).1) (by have := HL12.out.1; have := HTL.out; omega) HL12.out.2)
                      have S2 : Hid (ToldSl wr (.slice mp i mc) ts') := Lib.hid (HT2.out.later hm HBL5.out)
                      have HBQ := Lib.hid (HW0.out.trans hm.bel)
                      clear hm
                      go_wp2_with (first
                        | (go_at_call 10; (with_reducible refine (kSameAll_any _ _ ts' _ S1.out S2.out).mono ?_); rintro e w8 ⟨rfl, hb8⟩; have HB8 := Lib.hid hb8; clear hb8))
                      go_ret
                      exact ⟨rfl, HBQ.out.trans HB8.out⟩
    · go_enter Tryd.func3, Tryd.ntmps3
      go_wp2
      go_ret
      exact ⟨rfl, (Bel.alloc1 _ _).alloc _⟩
  · go_enter Tryd.func3, Tryd.ntmps3
    go_wp2
    go_ret
    exact ⟨rfl, (Bel.alloc1 _ _).alloc _⟩
end Go.Proofs.YtdfamnlmhikolaaDoor
