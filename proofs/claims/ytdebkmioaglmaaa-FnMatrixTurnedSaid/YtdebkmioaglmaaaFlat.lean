import Derived.Test.YtdebkmioaglmaaaFlatLaw
import Derived.Lib.SmallJoins
import Derived.Deep.Slices
namespace Go.Proofs.Ytdebkmioaglmaaa
open Go.ChangeShapes Go.WideShapes Go.ChangeAt Go.RowKit
theorem f23_even (ps : List (Int × Int)) (v : Value) (w : World) (h : XySl w v (ps.map flXy)) (h200 : ps.length ≤ 200) (he : ps.length % 2 = 0) : Calls Try.prog 23 #[v] w (IsFlat3 w [] false) :=
  f23_any _ _ _ _ _ h (by simpa using h200) (by simp) (fun u w' hu => f77_even _ _ _ hu (by simpa using he))
theorem f23_odd (ps : List (Int × Int)) (v : Value) (w : World) (m : Nat) (p1 p2 : Int × Int) (h : XySl w v (ps.map flXy)) (h200 : ps.length ≤ 200) (hs : ps.all (smallB 1048576) = true)
    (he : ps.length = 2 * m + 3) (h1 : ps[m]? = some p1) (h2 : ps[m + 2]? = some p2) (f : Bool) (hf : decide (p1 = p2) = f) : Calls Try.prog 23 #[v] w (IsFlat3 w (if f then (ps.take (m + 2)).map flXy else []) f) := by
  have e : (if f then (ps.take (m + 2)).map flXy else []) = if f then (ps.map flXy).take (m + 2) else [] := by rw [List.map_take]
  rw [e]
  have s1 := smallB_fl (Int.le_refl _) (List.all_eq_true.1 hs p1 (List.mem_of_getElem? h1))
  have s2 := smallB_fl (Int.le_refl _) (List.all_eq_true.1 hs p2 (List.mem_of_getElem? h2))
  refine f23_any _ _ _ _ _ h (by simpa using h200) (by cases f <;> simp; omega) (fun u w' hu => f77_odd _ _ _ m (by omega) (flXy p1) (flXy p2) hu (by simpa using he) (by simp [h1]) (by simp [h2]) f (Lib.hid ?_))
  rw [eqB_fl p1 p2 s1 s2]
  exact hf
theorem f23_three (v : Value) (w : World) (h : XySl w v ([((1 : Int), (0 : Int)), (2, 0), (1, 0)].map flXy)) : Calls Try.prog 23 #[v] w (IsFlat3 w ([((1 : Int), (0 : Int)), (2, 0)].map flXy) true) :=
  f23_odd [(1, 0), (2, 0), (1, 0)] v w 0 (1, 0) (1, 0) h (by decide) (by decide) (by decide) rfl rfl true (by decide)
theorem PtSl.take {w : World} {p : Option Addr} {n cap : Nat} {ps : List (Int × Int)} (h : PtSl w (.slice p n cap) ps) (k : Nat) (hk : k ≤ n) : PtSl w (.slice p k cap) (ps.take k) := by
  obtain ⟨p', cap', hv, hl, hc, hr, h⟩ := h
  cases hv
  refine ⟨p, cap, by rw [List.length_take, Nat.min_eq_left hk], by rw [List.length_take]; omega, hc, fun i q hi => ?_, fun hn => ?_⟩
  · rw [List.getElem?_take] at hi
    split at hi
    · exact hr i q hi
    · cases hi
  · obtain ⟨b, off, hp, hlt, hq⟩ := h (by intro e; subst e; simp at hn)
    refine ⟨b, off, hp, hlt, fun i q hi => ?_⟩
    rw [List.getElem?_take] at hi
    split at hi
    · exact hq i q hi
    · cases hi
theorem row_self (ps : List (Int × Int)) (hs : ps.all (smallB 1048576) = true) : ∀ q ∈ ps.map flXy, eqB q q = true := by
  intro q hq
  obtain ⟨p, hp, rfl⟩ := List.mem_map.1 hq
  have s := smallB_fl (Int.le_refl _) (List.all_eq_true.1 hs p hp)
  rw [eqB_fl p p s s]
  simp
theorem PtSl.three {w : World} {b : Nat} {t : TypeId} (h : Blk w b #[.int .i64 1, .int .i64 0, .int .i64 2, .int .i64 0, .int .i64 1, .int .i64 0] t) : PtSl w (.slice (some ⟨b, 0, none⟩) 3 3) [(1, 0), (2, 0), (1, 0)] := by
  refine ⟨_, _, rfl, by decide, by decide, fun i q hi => ?_, fun _ => ⟨b, 0, rfl, h.lt, fun i q hi => ?_⟩⟩
  · match i, hi with
    | 0, hi => cases hi; decide
    | 1, hi => cases hi; decide
    | 2, hi => cases hi; decide
    | n + 3, hi => cases hi
  · rw [h.rules.1, h.rules.1]
    match i, hi with
    | 0, hi => cases hi; exact ⟨rfl, rfl⟩
    | 1, hi => cases hi; exact ⟨rfl, rfl⟩
    | 2, hi => cases hi; exact ⟨rfl, rfl⟩
    | n + 3, hi => cases hi
set_option maxRecDepth 100000 in
set_option maxHeartbeats 2000000 in
theorem f8_even (ps : List (Int × Int)) (v : Value) (h1 : 2 ≤ ps.length) (h2 : ps.length ≤ 200) (w : World) (h : PtSl w v ps) (hs : Hid (ps.all (smallB 1048576) = true)) (he : ps.length % 2 = 0) : Calls Try.prog 8 #[v] w fun e w' => e = .returned (.bool true) ∧ Bel w w' := by
  have HH := Lib.hid h
  have hv : ps.length ≤ 200 := h2
  have hS : Hid ((decide (ps.length ≤ 200) && ps.all (smallB 1048576)) = true) := Lib.hid (by rw [hs.out, decide_eq_true hv]; rfl)
  obtain ⟨p, cap, rfl, hl, hc, _⟩ := h
  have HE := Lib.hid he
  have hodd : (((ps.length : Int)) % 2 == 1) = false := by
    have : ¬ (ps.length : Int) % 2 = 1 := by omega
    simpa using this
  clear he
  go_enter Try.func8, Try.ntmps8
  go_wp2_with (first | (go_at_call 22; (with_reducible refine (f22_any ps _ 1048576 (by decide) (by decide) _ HH.out).mono ?_); rw [hS.out]; rintro e w1 ⟨rfl, hb1⟩) | (go_at_call 24; (with_reducible refine (f24_any ps _ _ (HH.out.bel ?hb) hv).mono ?_); (case hb => assumption); rintro e w2 ⟨v2, rfl, hx2, hb2⟩; have HX2 := Lib.hid hx2; clear hx2) | (go_at_call 23; (with_reducible refine (f23_even ps _ _ HX2.out hv HE.out).mono ?_); rintro e w3 ⟨v3, rfl, hx3, hb3⟩; have HX3 := Lib.hid hx3; obtain ⟨p3, cap3, rfl, _⟩ := hx3))
  go_quiet (fail)
  go_wp2_with (first | (go_at_call 24; (with_reducible refine (f24_any [(1, 0), (2, 0), (1, 0)] _ _ (PtSl.three (t := 52) ?hB) (by decide)).mono ?_); (case hB => exact Blk.new' _ _ _ rfl); rintro e w4 ⟨v4, rfl, hx4, hb4⟩; have HX4 := Lib.hid hx4; clear hx4) | (go_at_call 23; (with_reducible refine (f23_three _ _ HX4.out).mono ?_); rintro e w5 ⟨v5, rfl, hx5, hb5⟩; obtain ⟨p5, cap5, rfl, _⟩ := hx5))
  go_ret
  exact ⟨rfl, by have hq : Bel w3 (w3.drewN nq) := (Bel.refl _).drewN _; have h3 := (hb1.trans hb2).trans hb3; have h4 := h3.trans hq; exact ((h4.alloc _).trans hb4).trans hb5⟩
set_option maxRecDepth 100000 in
set_option maxHeartbeats 2000000 in
theorem f8_odd (ps : List (Int × Int)) (v : Value) (h1 : 2 ≤ ps.length) (h2 : ps.length ≤ 200) (w : World) (h : PtSl w v ps) (hs : Hid (ps.all (smallB 1048576) = true)) (m : Nat) (he : ps.length = 2 * m + 3) (p1 p2 : Int × Int) (q1 : ps[m]? = some p1) (q2 : ps[m + 2]? = some p2) : Calls Try.prog 8 #[v] w fun e w' => e = .returned (.bool true) ∧ Bel w w' := by
  have HH := Lib.hid h
  have hv : ps.length ≤ 200 := h2
  have hS : Hid ((decide (ps.length ≤ 200) && ps.all (smallB 1048576)) = true) := Lib.hid (by rw [hs.out, decide_eq_true hv]; rfl)
  have HL : Hid (((ps.take (m + 2)).map flXy).length = m + 2) := Lib.hid (by rw [List.length_map, List.length_take, Nat.min_eq_left (by omega)])
  have HP : Hid ((ps.take (m + 2)).map flXy ≠ []) := Lib.hid (by intro e; have := congrArg List.length e; rw [List.length_map, List.length_take] at this; simp only [List.length_nil] at this; omega)
  have HR : Hid (∀ q ∈ (ps.take (m + 2)).map flXy, eqB q q = true) := Lib.hid (row_self _ (List.all_eq_true.2 fun q hq => List.all_eq_true.1 hs.out q (List.mem_of_mem_take hq)))
  obtain ⟨p, cap, rfl, hl, hc, _, h⟩ := h
  obtain ⟨b, off, rfl, hlt, hq⟩ := h (by intro e; subst e; simp at he)
  obtain ⟨c1, c2⟩ := hq m p1 q1
  obtain ⟨c3, c4⟩ := hq (m + 2) p2 q2
  clear hq h
  have Q1 := Lib.hid q1
  have Q2 := Lib.hid q2
  clear q1 q2
  have HE := Lib.hid he
  have hi3 : (ps.length : Int) = 2 * (m : Int) + 3 := by omega
  have hodd : ((ps.length : Int) % 2 == 1) = true := by
    have : (ps.length : Int) % 2 = 1 := by omega
    simp [this]
  have hd2 : (ps.length : Int) / 2 = (m : Int) + 1 := by omega
  have t1 : ((m : Int) + 2).toNat = m + 2 := by omega
  have b1 : (m : Int) < (ps.length : Int) := by omega
  have b2 : (m : Int) + 2 < (ps.length : Int) := by omega
  have b3 : 0 ≤ (m : Int) + 2 := by omega
  have b4 : (m : Int) + 2 ≤ (cap : Int) := by omega
  have y1 : IntKind.i64.wrap ((m : Int) + 1 - 1) = (m : Int) := by rw [show (m : Int) + 1 - 1 = (m : Int) by omega]; exact IntWalk.i64_in _ (by omega)
  have y2 : IntKind.i64.wrap ((m : Int) + 1 + 1) = (m : Int) + 2 := by rw [show (m : Int) + 1 + 1 = (m : Int) + 2 by omega]; exact IntWalk.i64_in _ (by omega)
  have HI := Lib.hid hi3
  clear hi3 he
  obtain ⟨x1, y1'⟩ := p1
  obtain ⟨x2, y2'⟩ := p2
  simp only at c1 c2 c3 c4
  by_cases hpp : (x1, y1') = (x2, y2')
  · cases hpp
    go_enter Try.func8, Try.ntmps8
    go_wp2_with (first | (go_at_call 22; (with_reducible refine (f22_any ps _ 1048576 (by decide) (by decide) _ HH.out).mono ?_); rw [hS.out]; rintro e w1 ⟨rfl, hb1⟩) | (go_at_call 24; (with_reducible refine (f24_any ps _ _ (HH.out.bel ?hb) hv).mono ?_); (case hb => assumption); rintro e w2 ⟨v2, rfl, hx2, hb2⟩; have HX2 := Lib.hid hx2; clear hx2) | (go_at_call 23; (with_reducible refine (f23_odd ps _ _ m _ _ HX2.out hv hs.out HE.out Q1.out Q2.out true (decide_eq_true rfl)).mono ?_); rintro e w3 ⟨v3, rfl, hx3, hb3⟩; have d1 := (((hb1.trans hb2).trans hb3).cell (p := ⟨b, off + m * 2, none⟩) hlt).trans c1; have d2 := (((hb1.trans hb2).trans hb3).cell (p := ⟨b, off + m * 2 + 1, none⟩) hlt).trans c2; have d3 := (((hb1.trans hb2).trans hb3).cell (p := ⟨b, off + (m + 2) * 2, none⟩) hlt).trans c3; have d4 := (((hb1.trans hb2).trans hb3).cell (p := ⟨b, off + (m + 2) * 2 + 1, none⟩) hlt).trans c4; have hx3 : XySl w3 v3 ((ps.take (m + 2)).map flXy) := hx3; have HX3 := Lib.hid hx3; obtain ⟨p3, cap3, hv3, _⟩ := hx3; rw [HL.out] at hv3; subst hv3))
    go_quiet (fail)
    have hq : Bel w3 (w3.drewN nq) := (Bel.refl _).drewN _
    go_wp2_with (first | (go_at_call 24; (with_reducible refine (f24_any [(1, 0), (2, 0), (1, 0)] _ _ (PtSl.three (t := 52) ?hB) (by decide)).mono ?_); (case hB => exact Blk.new' _ _ _ rfl); rintro e w4 ⟨v4, rfl, hx4, hb4⟩; have HX4 := Lib.hid hx4; clear hx4) | (go_at_call 23; (with_reducible refine (f23_three _ _ HX4.out).mono ?_); rintro e w5 ⟨v5, rfl, hx5, hb5⟩; obtain ⟨p5, cap5, rfl, _⟩ := hx5) | (go_at_call 24; (with_reducible refine (f24_any (ps.take (m + 2)) _ _ ((HH.out.take (m + 2) ?hk).bel ?hb) ?hlen).mono ?_); (case hk => omega); (case hb => repeat (first | with_reducible assumption | with_reducible exact Bel.refl _ | with_reducible apply Bel.alloc | with_reducible apply Bel.drew | (with_reducible apply Bel.setCellR; (simp <;> omega)) | with_reducible refine Bel.behind (by with_reducible assumption) ?_)); (case hlen => (simp; omega)); rintro e w6 ⟨v6, rfl, hx6, hb6⟩; have HX6 := Lib.hid hx6; clear hx6) | (go_at_call 25; (with_reducible refine (f25_self ((ps.take (m + 2)).map flXy) _ _ _ (HX3.out.bel ?hb) HX6.out ?hp ?hr).mono ?_); (case hb => repeat (first | with_reducible assumption | with_reducible exact Bel.refl _ | with_reducible apply Bel.alloc | with_reducible apply Bel.drew | (with_reducible apply Bel.setCellR; (simp <;> omega)) | with_reducible refine Bel.behind (by with_reducible assumption) ?_)); (case hp => exact HP.out); (case hr => exact HR.out); rintro e w7 ⟨rfl, hb7⟩))
    go_ret
    exact ⟨rfl, by repeat (first | with_reducible assumption | with_reducible exact Bel.refl _ | with_reducible apply Bel.alloc | with_reducible apply Bel.drew | (with_reducible apply Bel.setCellR; (simp <;> omega)) | with_reducible refine Bel.behind (by with_reducible assumption) ?_)⟩
  · have PP := Lib.hid (decide_eq_false hpp)
    have hx : (x1 == x2) = false ∨ (y1' == y2') = false := by
      by_cases e : x1 = x2
      · right
        have : ¬ y1' = y2' := fun e' => hpp (by rw [e, e'])
        simp [this]
      · left
        simp [e]
    clear hpp
    rcases hx with hx | hx
    all_goals
      go_enter Try.func8, Try.ntmps8
      go_wp2_with (first | (go_at_call 22; (with_reducible refine (f22_any ps _ 1048576 (by decide) (by decide) _ HH.out).mono ?_); rw [hS.out]; rintro e w1 ⟨rfl, hb1⟩) | (go_at_call 24; (with_reducible refine (f24_any ps _ _ (HH.out.bel ?hb) hv).mono ?_); (case hb => assumption); rintro e w2 ⟨v2, rfl, hx2, hb2⟩; have HX2 := Lib.hid hx2; clear hx2) | (go_at_call 23; (with_reducible refine (f23_odd ps _ _ m _ _ HX2.out hv hs.out HE.out Q1.out Q2.out false PP.out).mono ?_); rintro e w3 ⟨v3, rfl, hx3, hb3⟩; have d1 := (((hb1.trans hb2).trans hb3).cell (p := ⟨b, off + m * 2, none⟩) hlt).trans c1; have d2 := (((hb1.trans hb2).trans hb3).cell (p := ⟨b, off + m * 2 + 1, none⟩) hlt).trans c2; have d3 := (((hb1.trans hb2).trans hb3).cell (p := ⟨b, off + (m + 2) * 2, none⟩) hlt).trans c3; have d4 := (((hb1.trans hb2).trans hb3).cell (p := ⟨b, off + (m + 2) * 2 + 1, none⟩) hlt).trans c4; rw [if_neg Bool.false_ne_true] at hx3; have HX3 := Lib.hid hx3; obtain ⟨p3, cap3, rfl, _⟩ := hx3))
      go_quiet (fail)
      go_wp2_with (first | (go_at_call 24; (with_reducible refine (f24_any [(1, 0), (2, 0), (1, 0)] _ _ (PtSl.three (t := 52) ?hB) (by decide)).mono ?_); (case hB => exact Blk.new' _ _ _ rfl); rintro e w4 ⟨v4, rfl, hx4, hb4⟩; have HX4 := Lib.hid hx4; clear hx4) | (go_at_call 23; (with_reducible refine (f23_three _ _ HX4.out).mono ?_); rintro e w5 ⟨v5, rfl, hx5, hb5⟩; obtain ⟨p5, cap5, rfl, _⟩ := hx5))
      go_ret
      exact ⟨rfl, by have hq : Bel w3 (w3.drewN nq) := (Bel.refl _).drewN _; have h3 := (hb1.trans hb2).trans hb3; have h4 := h3.trans hq; exact ((h4.alloc _).trans hb4).trans hb5⟩

theorem list_of {α : Type} {P : Nat → α → Prop} : ∀ (n : Nat), (∀ i, i < n → ∃ a, P i a) → ∃ l : List α, l.length = n ∧ ∀ (i : Nat) (a : α), l[i]? = some a → P i a
  | 0, _ => ⟨[], rfl, fun i a h => by simp at h⟩
  | n + 1, h => by
    obtain ⟨l, hl, hp⟩ := list_of n (fun i hi => h i (by omega))
    obtain ⟨a, ha⟩ := h n (by omega)
    refine ⟨l ++ [a], by simp [hl], fun i b hb => ?_⟩
    rcases Nat.lt_or_ge i n with k | k
    · rw [List.getElem?_append_left (by omega)] at hb
      exact hp i b hb
    · rw [List.getElem?_append_right (by omega)] at hb
      obtain ⟨hlt, he⟩ := List.getElem?_eq_some_iff.1 hb
      simp at hlt he
      have : i = n := by omega
      subst this
      rw [← he]
      exact ha

theorem spot_none {w : World} {a : Addr} {v : Value} (h : w.cell? a = some v) : a.spot = none := by
  unfold World.cell? at h
  split at h
  · split at h
    · cases h
    · rename_i k
      cases hs : a.spot <;> simp_all
  · cases h

theorem wf_range {n : Int} (h : (Lit.int .i64 n).wf = true) : -9223372036854775808 ≤ n ∧ n ≤ 9223372036854775807 := by
  simp only [Lit.wf, Bool.and_eq_true, decide_eq_true_eq] at h
  have e1 : IntKind.i64.min = -9223372036854775808 := by decide
  have e2 : IntKind.i64.max = 9223372036854775807 := by decide
  omega

theorem open_pts {H : Type} {enc : TypeId × Value → H} {w : World} {base fuel : Nat} {sp : Nat → Bool} {held : Bool} {v : Value} {x : DataW H × List MemPlace} (h : DataW.trod enc Try.prog w base sp held fuel 45 [v] = some x) : ∃ ps, PtSl w v ps := by
  have hc52 : Try.prog.cellsOf 52 = 2 := by kernel_rfl
  have hc3 : Try.prog.cellsOf 3 = 1 := by kernel_rfl
  rcases Go.Deep.open_slice Try.underlying45 h with ⟨hv, _⟩ | ⟨a, len, cap, m, n, D, Pl, hv, _, hl, hm, hmm, _, hi⟩
  · cases hv
    exact ⟨[], none, 0, rfl, by simp, by simp, fun i q hq => by simp at hq, fun k => absurd rfl k⟩
  · cases hv
    have hlm : len ≤ m := by rw [hmm]; split <;> omega
    obtain ⟨ps, hps, hp⟩ := list_of (P := fun i (q : Int × Int) => (w.cell? (a.add (i * 2)) = some (.int .i64 q.1) ∧ w.cell? ((a.add (i * 2)).add 1) = some (.int .i64 q.2)) ∧ (-9223372036854775808 ≤ q.1 ∧ q.1 ≤ 9223372036854775807) ∧ (-9223372036854775808 ≤ q.2 ∧ q.2 ≤ 9223372036854775807)) len (fun i hlt => by
      obtain ⟨cs, hcs, ht⟩ := hi i (by omega)
      rw [hc52] at hcs
      obtain ⟨_, hlen, hat⟩ := World.cells?_some hcs
      obtain ⟨c0, c1, rfl⟩ : ∃ c0 c1, cs = [c0, c1] := by
        match cs, hlen with
        | [c0, c1], _ => exact ⟨c0, c1, rfl⟩
      obtain ⟨_, _, e0⟩ := field_of Try.underlying52 ht 0 _ rfl
      obtain ⟨_, _, e1⟩ := field_of Try.underlying52 ht 1 _ rfl
      simp [hc3] at e0 e1
      obtain ⟨n0, k0, _, r0⟩ := DataW.trod_int Try.underlying3 e0
      obtain ⟨n1, k1, _, r1⟩ := DataW.trod_int Try.underlying3 e1
      simp at k0 k1
      subst k0 k1
      exact ⟨(n0, n1), ⟨hat 0 (by decide), hat 1 (by decide)⟩, wf_range r0, wf_range r1⟩)
    subst hps
    refine ⟨ps, some a, cap, rfl, hl, by unfold maxLen at hm; omega, fun i q hq => (hp i q hq).2, fun hne => ?_⟩
    cases hps : ps with
    | nil => exact absurd hps hne
    | cons q0 r =>
      have hz := spot_none (hp 0 q0 (by rw [hps]; rfl)).1.1
      obtain ⟨b, off, spot⟩ := a
      have hz' : spot = none := by simpa [Addr.add] using hz
      subst hz'
      rw [← hps]
      refine ⟨b, off, rfl, ?_, fun i q hq => ?_⟩
      · have := (hp 0 q0 (by rw [hps]; rfl)).1.1
        rcases Nat.lt_or_ge b w.heap.size with g | g
        · exact g
        · simp [World.cell?, Addr.add, Array.getElem?_eq_none g] at this
      · have h1 := (hp i q hq).1
        have e : Addr.add ⟨b, off, none⟩ (i * 2) = ⟨b, off + i * 2, none⟩ := by
          unfold Addr.add
          split
          · rename_i hz2; rw [hz2]; rfl
          · rfl
        rw [e] at h1
        exact h1

theorem f8_any (ps : List (Int × Int)) (v : Value) (w : World) (h : PtSl w v ps) : Calls Try.prog 8 #[v] w fun e w' => e = .returned (.bool true) ∧ Bel w w' := by
  have h0 := h
  obtain ⟨p, cap, rfl, hl, hc, _⟩ := h0
  by_cases h1 : 2147483647 < ps.length
  · exact f8_long _ p cap h1 w
  by_cases h2 : ps.length < 2
  · exact f8_short _ p cap h2 w
  by_cases hs : (decide (ps.length ≤ 200) && ps.all (smallB 1048576)) = true
  · obtain ⟨h3, h4⟩ := Bool.and_eq_true_iff.1 hs
    have h3 := of_decide_eq_true h3
    by_cases he : ps.length % 2 = 0
    · exact f8_even ps _ (by omega) h3 w h (Lib.hid h4) he
    · exact f8_odd ps _ (by omega) h3 w h (Lib.hid h4) ((ps.length - 3) / 2) (by omega) (ps[(ps.length - 3) / 2]'(by omega)) (ps[(ps.length - 3) / 2 + 2]'(by omega)) (List.getElem?_eq_getElem _) (List.getElem?_eq_getElem _)
  · exact f8_wide ps _ (by omega) (by omega) w h (Lib.hid (by simpa using hs))
/-! ### The row's step -/
set_option maxRecDepth 100000 in
set_option maxHeartbeats 2000000 in
theorem fnFlatHull_lifted (os : Os) (started : os.Started) (H : Type) (enc : TypeId × Value → H) :
    ReturnsInHanded {} Try.checked os 8 .any (Rows.fnFlatHullSpec.pre6 enc Try.prog Try.f8 Rows.fnFlatHullRow.domain false) (Rows.fnFlatHullSpec.post enc Try.prog Try.f8 false true false false) := by
  refine returnsInHanded_of_change (C := Try.checked) own started (by kernel_rfl) Try.func8
    (ChangeSpec.witness6 (enc := enc) (C := Try.checked) false ⟨#[], #[.slice none 0 0], []⟩ 8 (by kernel_rfl) (by kernel_rfl) (by kernel_rfl) (by kernel_rfl)) ?_
  intro W base args ds gs before hval0 hW hcnd _
  have hval : ∀ (j : Nat) t v, Try.f8.params[j]? = some t → args[j]? = some v → Value.okWide Try.prog W .any base t v := hval0
  have hW' := hW
  obtain ⟨p, q, hA0, hV, rfl, hfz, hnd⟩ := hW
  have hA : DataW.TrodAll enc Try.prog W 0 (fun _ => true) true Try.f8.params.toList args.toList ds p := hA0
  rw [Try.params8] at hA hval
  obtain ⟨rfl, rfl⟩ := trodVars_none hV
  obtain ⟨v0, vs0, d0, ds0, p0, q0, hargs, rfl, rfl, h0, r0⟩ := trodAll_cons hA
  obtain ⟨rfl, rfl, rfl⟩ := trodAll_nil r0
  obtain rfl : args = #[v0] := by cases args; simp_all
  obtain ⟨fuel, hf⟩ := h0
  obtain ⟨ps, hps⟩ : ∃ ps, PtSl W v0 ps := by
    obtain ⟨a0, l0, c0, rfl⟩ := okWide_slice Try.underlying45 (hval 0 45 v0 rfl rfl)
    exact open_pts hf
  refine (f8_any ps _ W hps).mono fun e W' ⟨he, hg⟩ => ?_
  subst he
  exact ⟨_, rfl, law_post (tb := 4) laidOut hW' rfl rfl rfl Try.underlying4 (by rw [Try.params8]; intro t ht; simp at ht; first | (subst ht; exact ⟨by kernel_rfl, of_decide_eq_true (by kernel_rfl)⟩) | (rcases ht with rfl <;> exact ⟨by kernel_rfl, of_decide_eq_true (by kernel_rfl)⟩)) hg⟩

theorem fnFlatHull_over : Rows.fnFlatHullRow.holds Try.pinned (OpenSpec.ofChange Rows.fnFlatHullSpec) :=
  OpenClaim.holds_of_wide 8 Try.f8 rfl rfl rfl rfl rfl rfl rfl ⟨rfl, rfl, rfl, rfl, rfl⟩ rfl rfl rfl rfl rfl (by kernel_rfl) Try.func8 (by kernel_rfl)
    (of_decide_eq_true (by kernel_rfl)) (by unfold Func.isWrapper; first | (rw [if_pos (by decide +kernel)]; kernel_rfl) | (rw [if_neg (by decide +kernel)]; exact ⟨rfl, rfl⟩))
    (fun os started H enc _ => fnFlatHull_lifted os started H enc)

/-- The statement. -/
theorem fnFlatHull_holds : Rows.FnFlatHullSaid :=
  fnFlatHull_over
#print axioms fnFlatHull_holds
end Go.Proofs.Ytdebkmioaglmaaa
