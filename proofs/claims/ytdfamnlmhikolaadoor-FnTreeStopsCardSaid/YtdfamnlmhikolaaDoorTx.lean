/-
  FnTreeStops.
-/
import Derived.Test.YtdfamnlmhikolaaDoorTv
import Derived.BigQuiet
import Derived.BigRegion
set_option linter.unusedVariables false
namespace Go.Proofs.YtdfamnlmhikolaaDoor
open Go.ChangeShapes Go.WideShapes Go.ChangeAt Go.RowKit Go.Maps
theorem items_is : ∀ xs : List Raw, (∀ x ∈ xs, boxB x.a x.b x.c x.d = true) → ∃ L : List It, L.length = xs.length ∧ (∀ (i : Nat) (x : Raw) (t : It), xs[i]? = some x → L[i]? = some t → x.Is t) ∧ ∀ t ∈ L, t.b.Small 1048576
  | [], _ => ⟨[], rfl, fun i x t h => by simp at h, fun t ht => by simp at ht⟩
  | y :: r, h => by
    obtain ⟨L, h1, h2, h3⟩ := items_is r fun x hx => h x (by simp [hx])
    obtain ⟨q, k1, k2⟩ := box_is (h y (by simp))
    refine ⟨⟨q, y.id⟩ :: L, by simp [h1], fun i x t hx ht => ?_, fun t ht => ?_⟩
    · cases i with
      | zero =>
        simp at hx ht
        subst hx ht
        exact ⟨k1, rfl⟩
      | succ i => exact h2 i x t (by simpa using hx) (by simpa using ht)
    · simp only [List.mem_cons] at ht
      rcases ht with rfl | ht
      · exact k2
      · exact h3 t ht
theorem ask_sl (w : World) (x y : RawAsk) (n : Nat) (hn : n = w.heap.size) :
    AskSl (w.alloc (.cells #[.int .i64 x.dov, .float .f64 x.a, .float .f64 x.b, .float .f64 x.c, .float .f64 x.d, .int .i64 x.stop, .int .i64 x.how, .int .i64 y.dov, .float .f64 y.a, .float .f64 y.b, .float .f64 y.c, .float .f64 y.d, .int .i64 y.stop, .int .i64 y.how] 34)) (.slice (some ⟨n, 0, none⟩) 2 2) [x, y] := by
  subst hn
  refine ⟨_, _, rfl, Nat.le_refl _, by omega, fun _ => ⟨_, 0, rfl, by simp, fun i z hz => ?_⟩⟩
  have r := (Blk.new w #[.int .i64 x.dov, .float .f64 x.a, .float .f64 x.b, .float .f64 x.c, .float .f64 x.d, .int .i64 x.stop, .int .i64 x.how, .int .i64 y.dov, .float .f64 y.a, .float .f64 y.b, .float .f64 y.c, .float .f64 y.d, .int .i64 y.stop, .int .i64 y.how] 34).rules.1
  rcases i with _ | _ | i
  · simp at hz
    subst hz
    exact ⟨(r 0).trans rfl, (r 1).trans rfl, (r 2).trans rfl, (r 3).trans rfl, (r 4).trans rfl, (r 5).trans rfl, (r 6).trans rfl⟩
  · simp at hz
    subst hz
    exact ⟨(r 7).trans rfl, (r 8).trans rfl, (r 9).trans rfl, (r 10).trans rfl, (r 11).trans rfl, (r 12).trans rfl, (r 13).trans rfl⟩
  · simp at hz
/-- Both answers, read. -/
theorem told_two {w : World} {v : Value} {s t : Told} (h : ToldSl w v [s, t]) : ∃ b off cap p0 c0 p1 c1, v = .slice (some ⟨b, off, none⟩) 2 cap ∧ w.cell? ⟨b, off, none⟩ = some (.slice p0 s.ids.length c0) ∧ w.cell? ⟨b, off + 1, none⟩ = some (.bool s.err) ∧ w.cell? ⟨b, off + 2, none⟩ = some (.bool s.own) ∧
    w.cell? ⟨b, off + 10, none⟩ = some (.slice p1 t.ids.length c1) ∧ w.cell? ⟨b, off + 11, none⟩ = some (.bool t.err) ∧ IntSl (fun _ => True) w (.slice p0 s.ids.length c0) s.ids ∧ IntSl (fun _ => True) w (.slice p1 t.ids.length c1) t.ids ∧ 2 ≤ cap ∧ cap ≤ 9223372036854775807 := by
  obtain ⟨p, cap, rfl, h1, h2, h⟩ := h
  obtain ⟨b, off, rfl, hlt, hq⟩ := h (by simp)
  obtain ⟨v0, d0, d1, d2, d3, k0, k1, k2, k3, k4, k5, k6, k7, k8, k9, kI, kq⟩ := hq 0 s rfl
  obtain ⟨u0, e0, e1, e2, e3, l0, l1, l2, l3, l4, l5, l6, l7, l8, l9, lI, lq⟩ := hq 1 t rfl
  have kI' := kI
  have lI' := lI
  obtain ⟨p0, c0, rfl, _⟩ := kI'
  obtain ⟨p1, c1, rfl, _⟩ := lI'
  exact ⟨b, off, cap, p0, c0, p1, c1, rfl, k0, k1, k2, l0, l1, kI, lI, h1, h2⟩
/-- What is read of them. -/
structure TwoAt (w : World) (v : Value) (n0 n1 : Nat) (e : Bool) (b off cap c0 c1 : Nat) (p0 p1 : Option Addr) : Prop where
  hv : v = .slice (some ⟨b, off, none⟩) 2 cap
  ids0 : w.cell? ⟨b, off, none⟩ = some (.slice p0 n0 c0)
  err : w.cell? ⟨b, off + 1, none⟩ = some (.bool e)
  own : w.cell? ⟨b, off + 2, none⟩ = some (.bool e)
  ids1 : w.cell? ⟨b, off + 10, none⟩ = some (.slice p1 n1 c1)
  noErr : w.cell? ⟨b, off + 11, none⟩ = some (.bool false)
  rows : ∀ i, i < n0 → ∃ b0 o0 b1 o1 c, p0 = some ⟨b0, o0, none⟩ ∧ p1 = some ⟨b1, o1, none⟩ ∧ w.cell? ⟨b0, o0 + i, none⟩ = some (.int .i64 c) ∧ w.cell? ⟨b1, o1 + i, none⟩ = some (.int .i64 c)
  le : n0 ≤ n1
  cap0 : n0 ≤ 9223372036854775807
  cap1 : n1 ≤ 9223372036854775807
theorem two_at {w : World} {v : Value} {l : List Int} {n : Nat} {e : Bool} {bx : Bx} (h : ToldSl w v [⟨l.take n, e, e, false, 0, bx, 0⟩, ⟨l, false, false, false, 0, bx, 0⟩]) : ∃ b off cap c0 c1 p0 p1, TwoAt w v (min n l.length) l.length e b off cap c0 c1 p0 p1 := by
  obtain ⟨b, off, cap, p0, c0, p1, c1, hv, k0, k1, k2, k3, k4, I0, I1, h1, h2⟩ := told_two h
  simp only [List.length_take] at k0 k3 I0 I1
  refine ⟨b, off, cap, c0, c1, p0, p1, hv, k0, k1, k2, k3, k4, fun i hi => ?_, Nat.min_le_right _ _, ?_, ?_⟩
  · obtain ⟨p, c, e1, _, _, r0⟩ := I0
    obtain ⟨p', c', e2, _, _, r1⟩ := I1
    simp only [List.length_take, Value.slice.injEq, true_and] at e1 e2
    obtain ⟨rfl, rfl⟩ := e1
    obtain ⟨rfl, rfl⟩ := e2
    have hil : i < l.length := by omega
    obtain ⟨b0, o0, rfl, _, _, q0⟩ := r0 (fun hh => by
      have := congrArg List.length hh
      simp only [List.length_take, List.length_nil] at this
      omega)
    obtain ⟨b1, o1, rfl, _, _, q1⟩ := r1 (fun hh => by simp [hh] at hil)
    refine ⟨b0, o0, b1, o1, l[i], rfl, rfl, q0 i _ ?_, q1 i _ ?_⟩
    · rw [List.getElem?_take_of_lt (by omega)]
      exact List.getElem?_eq_getElem hil
    · exact List.getElem?_eq_getElem hil
  · obtain ⟨p, c, e1, g1, g2, _⟩ := I0
    simp only [List.length_take] at g1
    omega
  · obtain ⟨p, c, e1, g1, g2, _⟩ := I1
    exact Nat.le_trans g1 g2
def dovOf (priority : Bool) : Int := if priority then 1 else 0
theorem play_stops (a : Addr) (v : Value) (xs : List Raw) (x y z u : Nat) (n : Nat) (how : Int) (priority : Bool) (hok : ItemsOk xs) (hB : boxB x y z u = true) (h1 : 1 ≤ n) (h2 : 0 ≤ how) (h3 : how ≤ 3) (h4 : priority = false → 2 ≤ how) (w : World) (hR : RawSl w v xs) (hg : w.cell? ⟨0, 0, none⟩ = some (.iface 128 (.pointer (some a)))) :
    ∃ n1, ∀ W A, Bel w W → AskSl W A [⟨dovOf priority, x, y, z, u, n, how⟩, ⟨dovOf priority, x, y, z, u, 0, 0⟩] → Calls Tryd.prog 9 #[v, A] W fun e w' => ∃ v' b off cap c0 c1 p0 p1, e = .returned (.tuple #[v', .bool true]) ∧ TwoAt w' v' (min n n1) n1 (decide (1 < how ∧ (n : Int) ≤ n1)) b off cap c0 c1 p0 p1 ∧ Bel W w' := by
  obtain ⟨L, k1, k2, k3⟩ := items_is xs hok.2
  obtain ⟨q, q1, q2⟩ := box_is hB
  refine ⟨(fullOf L q (dovOf priority)).length, fun W A hb hA => ?_⟩
  have hd : dovOf priority = 0 ∨ dovOf priority = 1 := by cases priority <;> simp [dovOf]
  have hd2 : (dovOf priority = 0 ∧ 2 ≤ how) ∨ dovOf priority = 1 := by
    cases priority
    · exact Or.inl ⟨rfl, h4 rfl⟩
    · exact Or.inr rfl
  have e1 := told_cut L q (dovOf priority) how n h1 h2 h3 hd2
  have e2 := told_full L q (dovOf priority) hd
  refine (treePlay_any a v A xs L _ [toldOf L q (dovOf priority) n how, toldOf L q (dovOf priority) 0 0] k1 k2 (by have := hok.1; omega) k3 ⟨rfl, fun i r t hr ht => ?_⟩ (by simp) W (hR.bel hb) hA (cell_kept hb hg)).mono ?_
  · rcases i with _ | _ | i
    · simp at hr ht
      subst hr ht
      exact ⟨q, q1, q2, ⟨by rcases hd with h | h <;> simp [h], by rcases hd with h | h <;> simp [h]⟩, rfl⟩
    · simp at hr ht
      subst hr ht
      exact ⟨q, q1, q2, ⟨by rcases hd with h | h <;> simp [h], by rcases hd with h | h <;> simp [h]⟩, rfl⟩
    · simp at hr
  · rintro e w' ⟨v', rfl, hT, hb'⟩
    rw [e1, e2] at hT
    obtain ⟨b, off, cap, c0, c1, p0, p1, hT2⟩ := two_at hT
    exact ⟨v', b, off, cap, c0, c1, p0, p1, rfl, hT2, hb'⟩
def IsStops (w : World) (e : Ending) (w' : World) : Prop := e = .returned (.bool true) ∧ Bel w w'
set_option maxHeartbeats 4000000 in
set_option maxRecDepth 100000 in
theorem treeStops_any (a : Addr) (v : Value) (xs : List Raw) (x y z u : Nat) (stop how : Int) (priority : Bool) (hid : ∀ x ∈ xs, (Lit.int .i64 x.id).wf = true) (hw1 : (Lit.int .i64 stop).wf = true) (w : World) (h1 : RawSl w v xs) (hg : w.cell? ⟨0, 0, none⟩ = some (.iface 128 (.pointer (some a)))) :
    Calls Tryd.prog 4 #[v, .agg #[.float .f64 x, .float .f64 y, .float .f64 z, .float .f64 u], .int .i64 stop, .int .i64 how, .bool priority] w (IsStops w) := by
  have HX1 := Lib.hid h1
  have HG := Lib.hid hg
  have HD := Lib.hid hid
  obtain ⟨p1, c1, rfl, _⟩ := h1
  clear hg hid
  generalize hn : xs.length = n at *
  have HN := Lib.hid hn
  clear hn
  have HS0 : Hid (stop = stop) := Lib.hid rfl
  by_cases hz : n ≤ 2147483647
  · have HZ := Lib.hid hz
    generalize hb : boxB x y z u = B at *
    have HB := Lib.hid hb
    clear hb
    by_cases hgood : 1 ≤ stop ∧ 0 ≤ how ∧ how ≤ 3 ∧ (priority = false → 2 ≤ how)
    · obtain ⟨g1, g2, g3, g4⟩ := hgood
      have HPLAY := Lib.hid (fun (h : ItemsOk xs) (hB : boxB x y z u = true) => play_stops a (.slice p1 n c1) xs x y z u stop.toNat how priority h hB (by omega) g2 g3 g4 w HX1.out HG.out)
      rw [show ((stop.toNat : Nat) : Int) = stop by omega] at HPLAY
      have HST : Hid (stop = (stop.toNat : Int)) := Lib.hid (by omega)
      generalize stop.toNat = m at *
      cases priority
      all_goals
        simp only [dovOf, if_true, Bool.false_eq_true, if_false] at HPLAY
        cases B
      all_goals
        go_enter Tryd.func4, Tryd.ntmps4
        go_wp2_with (first
          | (go_at_call 5; (with_reducible refine (kItems_any _ xs HD.out _ (HX1.out.bel ?hb)).mono ?_); (case hb => (repeat (first | with_reducible assumption | with_reducible exact Bel.refl _ | with_reducible apply Bel.alloc | with_reducible apply Bel.drew | with_reducible apply Bel.drewN | ((with_reducible apply Bel.setCellR); (simp <;> omega)) | with_reducible refine Bel.behind (by with_reducible assumption) ?_))); rintro e w1 ⟨r, rfl, hr, hb1⟩; have HR := Lib.hid hr; have B4 := (Blk.new w #[.float .f64 x, .float .f64 y, .float .f64 z, .float .f64 u] 28).bel hb1; obtain ⟨r4, z4, l4⟩ := B4.facts; have HB4 := Lib.hid B4; have HB1 : Hid (Bel w w1) := Lib.hid ((Bel.alloc1 w _).trans hb1); clear hr hb1 B4; cases r)
          | (go_at_call 11; (with_reducible refine (kBox_any _ _ _ _ _).mono ?_); rw [HB.out]; rintro e w3 ⟨rfl, hb3⟩; have B5 := HB4.out.bel hb3; obtain ⟨r5, z5, l5⟩ := B5.facts; have HB3 : Hid (Bel w w3) := Lib.hid (HB1.out.trans hb3); clear hb3 B5)
          | (go_at_call 9; (have hP1 := HPLAY.out (HR.out (by simp)) HB.out; obtain ⟨n1, hP⟩ := hP1; (with_reducible refine (hP _ _ ?hb ?ha).mono ?_); (case hb => exact HB3.out.alloc _); (case ha => exact ask_sl _ ⟨_, x, y, z, u, stop, how⟩ ⟨_, x, y, z, u, 0, 0⟩ _ rfl); rintro e w5 ⟨v', b, off, cap, c0, c1', p0, p1', rfl, hT, hb5⟩; obtain ⟨rfl, t0, t1, t2, t3, t4, t5, t6, t7, t8⟩ := hT; have HT5 := Lib.hid t5; have HT0 := Lib.hid t0; have HT3 := Lib.hid t3; have HT1 := Lib.hid t1; have HT2 := Lib.hid t2; have HB5 : Hid (Bel w w5) := Lib.hid ((HB3.out.alloc _).trans hb5); clear t5 hb5 hP)))
        all_goals try (go_ret; first | exact ⟨rfl, HB3.out⟩ | exact ⟨rfl, HB1.out⟩)
        all_goals
          generalize hN0 : min m n1 = n0 at *
          generalize hE : decide (1 < how ∧ stop ≤ (n1 : Int)) = e at *
          have hst := HST.out
          subst hst
          have hmn : (if n1 < m then (n1 : Int) else (m : Int)) = (n0 : Int) := by
            split <;> omega
          have hcs : (1 < how ∧ m ≤ n1 ∧ e = true) ∨ (1 < how ∧ n1 < m ∧ e = false) ∨ (how ≤ 1 ∧ e = false) := by
            subst hE
            by_cases k1 : 1 < how <;> by_cases k2 : m ≤ n1
            · exact Or.inl ⟨k1, k2, by simp; omega⟩
            · exact Or.inr (Or.inl ⟨k1, by omega, by simp; omega⟩)
            · exact Or.inr (Or.inr ⟨by omega, by simp; omega⟩)
            · exact Or.inr (Or.inr ⟨by omega, by simp; omega⟩)
          have HCS := Lib.hid hcs
          clear hN0 hE HST hcs
          go_quiet (fail)
          go_wp2
          go_loopw [95] (fun iv wr => ∃ k : Nat, iv = .int .i64 k ∧ k ≤ n0 ∧ Bel w5 wr) (fun iv _ => n0 - (intOf iv).toNat)
          case atStart => exact ⟨0, rfl, Nat.zero_le _, by (repeat (first | with_reducible assumption | with_reducible exact Bel.refl _ | with_reducible apply Bel.alloc | with_reducible apply Bel.drew | with_reducible apply Bel.drewN | ((with_reducible apply Bel.setCellR); (simp <;> omega)) | with_reducible refine Bel.behind (by with_reducible assumption) ?_))⟩
          case round =>
            obtain ⟨k, rfl, hk, hbel⟩ := hrel
            have HBEL := Lib.hid hbel
            have D1 := cell_kept hbel HT1.out
            have D2 := cell_kept hbel HT2.out
            have D3 := cell_kept hbel HT3.out
            clear t0 t1 t2 t3 t4
            by_cases hkn : k < n0
            · obtain ⟨b0, o0, b1, o1, c, rfl, rfl, e0, e1⟩ := HT5.out k hkn
              have E0 := cell_kept hbel e0
              have E1 := cell_kept hbel e1
              clear e0 e1 hbel
              go_wp2
              go_roundw
              case rel => exact ⟨k + 1, by go_num, by omega, HBEL.out⟩
              case measure => simp [intOf]; omega
            · clear hbel
              rcases HCS.out with ⟨q1, q2, rfl⟩ | ⟨q1, q2, rfl⟩ | ⟨q1, rfl⟩
              all_goals
                try have hd : decide (m ≤ n1) = false := decide_eq_false (by omega)
                try have hd2 : decide (1 < how) = false := decide_eq_false (by omega)
                go_wp2
                go_quiet (fail)
                go_wp2
                go_ret
                exact ⟨rfl, (HB5.out.trans HBEL.out).drewN _⟩
    · have hbad : stop < 1 ∨ (1 ≤ stop ∧ how < 0) ∨ (1 ≤ stop ∧ 0 ≤ how ∧ 3 < how) ∨ (1 ≤ stop ∧ 0 ≤ how ∧ how ≤ 3 ∧ priority = false ∧ how < 2) := by
        cases priority <;> simp at hgood ⊢ <;> omega
      clear hgood
      rcases hbad with g1 | ⟨g1, g2⟩ | ⟨g1, g2, g3⟩ | ⟨g1, g2, g3, rfl, g4⟩
      all_goals
        cases B
      all_goals
        go_enter Tryd.func4, Tryd.ntmps4
        go_wp2_with (first
          | (go_at_call 5; (with_reducible refine (kItems_any _ xs HD.out _ (HX1.out.bel ?hb)).mono ?_); (case hb => (repeat (first | with_reducible assumption | with_reducible exact Bel.refl _ | with_reducible apply Bel.alloc | with_reducible apply Bel.drew | with_reducible apply Bel.drewN | ((with_reducible apply Bel.setCellR); (simp <;> omega)) | with_reducible refine Bel.behind (by with_reducible assumption) ?_))); rintro e w1 ⟨r, rfl, hr, hb1⟩; have HR := Lib.hid hr; have B4 := (Blk.new w #[.float .f64 x, .float .f64 y, .float .f64 z, .float .f64 u] 28).bel hb1; obtain ⟨r4, z4, l4⟩ := B4.facts; have HB1 : Hid (Bel w w1) := Lib.hid ((Bel.alloc1 w _).trans hb1); clear hr hb1 B4; cases r)
          | (go_at_call 11; (with_reducible refine (kBox_any _ _ _ _ _).mono ?_); rw [HB.out]; rintro e w3 ⟨rfl, hb3⟩; have HB3 : Hid (Bel w w3) := Lib.hid (HB1.out.trans hb3); clear hb3))
        all_goals
          go_ret
          first
            | exact ⟨rfl, HB3.out⟩
            | exact ⟨rfl, HB1.out⟩
  · go_enter Tryd.func4, Tryd.ntmps4
    go_wp2
    go_ret
    exact ⟨rfl, Bel.alloc1 _ _⟩
end Go.Proofs.YtdfamnlmhikolaaDoor
