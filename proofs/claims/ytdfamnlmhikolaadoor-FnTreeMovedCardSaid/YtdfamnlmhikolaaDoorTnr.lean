/-
  FnTreeMoved's own functions: a box that lies near, a box that is moved. kAsked: what a true answer says of the questions.
-/
import Derived.Test.YtdfamnlmhikolaaDoorTk
set_option linter.unusedVariables false
namespace Go.Proofs.YtdfamnlmhikolaaDoor
open Go.ChangeShapes Go.WideShapes Go.ChangeAt Go.RowKit
def nearB (a b c d : Nat) : Bool := geB a 13916122848574832640 && (geB b 13916122848574832640 && (leB c 4692750811720056832 && leB d 4692750811720056832))
theorem near_lo : Is 13916122848574832640 ((-524288 : Int) : Rat) := by
  have h := Is.ofInt (-524288) (by decide)
  have e : FloatKind.f64.nearest (-524288) = 13916122848574832640 := by kernel_rfl
  rw [e] at h
  exact h
theorem near_hi : Is 4692750811720056832 ((524288 : Int) : Rat) := by
  have h := Is.ofInt 524288 (by decide)
  have e : FloatKind.f64.nearest 524288 = 4692750811720056832 := by kernel_rfl
  rw [e] at h
  exact h
theorem box_order {a b c d : Nat} (h : boxB a b c d = true) : leB a c = true ∧ leB b d = true := by
  unfold boxB at h
  simp only [Bool.and_eq_true] at h
  exact ⟨h.2.2.2.2.1, h.2.2.2.2.2⟩
theorem near_is {a b c d : Nat} {q : Bx} (hq : BxB a b c d q) (hb : boxB a b c d = true) (h : nearB a b c d = true) : q.Small 524288 := by
  unfold nearB at h
  simp only [Bool.and_eq_true] at h
  obtain ⟨h1, h2, h3, h4⟩ := h
  obtain ⟨o1, o2⟩ := box_order hb
  rw [hq.x0.geB near_lo] at h1
  rw [hq.y0.geB near_lo] at h2
  rw [hq.x1.leB near_hi] at h3
  rw [hq.y1.leB near_hi] at h4
  rw [hq.x0.leB hq.x1] at o1
  rw [hq.y0.leB hq.y1] at o2
  simp only [decide_eq_true_eq] at *
  unfold Bx.Small
  omega
theorem Bx.Small.mv {q : Bx} (h : q.Small 524288) {x y : Int} (h1 : -524288 ≤ x) (h2 : x ≤ 524288) (h3 : -524288 ≤ y) (h4 : y ≤ 524288) : (q.mv x y).Small 1048576 := by
  unfold Bx.Small at *
  simp only [Bx.mv]
  omega
set_option maxRecDepth 100000 in
theorem near_any (a b c d : Nat) (w : World) : Calls Tryd.prog 7 #[.agg #[.float .f64 a, .float .f64 b, .float .f64 c, .float .f64 d]] w fun e w' => e = .returned (.bool (nearB a b c d)) ∧ Bel w w' := by
  unfold nearB
  rcases bool_cases (geB a 13916122848574832640) with k1 | k1
  · rcases bool_cases (geB b 13916122848574832640) with k2 | k2
    · rcases bool_cases (leB c 4692750811720056832) with k3 | k3
      · rcases bool_cases (leB d 4692750811720056832) with k4 | k4
        all_goals
          rw [k1, k2, k3, k4]
          simp
          unfold geB at k1
          unfold geB at k2
          unfold leB at k3
          unfold leB at k4
          go_enter Tryd.func7, Tryd.ntmps7
          go_wp2
          go_ret
          exact ⟨rfl, by (repeat (first | with_reducible assumption | with_reducible exact Bel.refl _ | with_reducible apply Bel.alloc | with_reducible apply Bel.drew | with_reducible apply Bel.drewN | ((with_reducible apply Bel.setCellR); (simp <;> omega)) | with_reducible refine Bel.behind (by with_reducible assumption) ?_))⟩
      · rw [k1, k2, k3]
        simp
        unfold geB at k1
        unfold geB at k2
        unfold leB at k3
        go_enter Tryd.func7, Tryd.ntmps7
        go_wp2
        go_ret
        exact ⟨rfl, by (repeat (first | with_reducible assumption | with_reducible exact Bel.refl _ | with_reducible apply Bel.alloc | with_reducible apply Bel.drew | with_reducible apply Bel.drewN | ((with_reducible apply Bel.setCellR); (simp <;> omega)) | with_reducible refine Bel.behind (by with_reducible assumption) ?_))⟩
    · rw [k1, k2]
      simp
      unfold geB at k1
      unfold geB at k2
      go_enter Tryd.func7, Tryd.ntmps7
      go_wp2
      go_ret
      exact ⟨rfl, by (repeat (first | with_reducible assumption | with_reducible exact Bel.refl _ | with_reducible apply Bel.alloc | with_reducible apply Bel.drew | with_reducible apply Bel.drewN | ((with_reducible apply Bel.setCellR); (simp <;> omega)) | with_reducible refine Bel.behind (by with_reducible assumption) ?_))⟩
  · rw [k1]
    simp
    unfold geB at k1
    go_enter Tryd.func7, Tryd.ntmps7
    go_wp2
    go_ret
    exact ⟨rfl, by (repeat (first | with_reducible assumption | with_reducible exact Bel.refl _ | with_reducible apply Bel.alloc | with_reducible apply Bel.drew | with_reducible apply Bel.drewN | ((with_reducible apply Bel.setCellR); (simp <;> omega)) | with_reducible refine Bel.behind (by with_reducible assumption) ?_))⟩
theorem Is.fl {n : Int} (h : n.natAbs < 2 ^ 53) : Is (fl n) (n : Rat) := Is.ofInt n h
def IsMoved (q : Bx) (x y : Int) (w : World) (e : Ending) (w' : World) : Prop := ∃ a b c d, e = .returned (.agg #[.float .f64 a, .float .f64 b, .float .f64 c, .float .f64 d]) ∧ BxB a b c d (q.mv x y) ∧ Bel w w'
set_option maxRecDepth 100000 in
theorem moved_any (a b c d : Nat) {q : Bx} (hq : BxB a b c d q) (hs : q.Small 1048576) (px py : Nat) (x y : Int) (h1 : -524288 ≤ x) (h2 : x ≤ 524288) (h3 : -524288 ≤ y) (h4 : y ≤ 524288) (w : World) (hx : w.cell? ⟨px, 0, none⟩ = some (.int .i64 x)) (hy : w.cell? ⟨py, 0, none⟩ = some (.int .i64 y)) :
    Calls Tryd.prog 8 (#[.agg #[.float .f64 a, .float .f64 b, .float .f64 c, .float .f64 d]] ++ #[.pointer (some ⟨px, 0, none⟩), .pointer (some ⟨py, 0, none⟩)]) w (IsMoved q x y w) := by
  have ix : Is (Go.Proofs.YtdfamnlmhikolaaDoor.fl x) (x : Rat) := Is.fl (by omega)
  have iy : Is (Go.Proofs.YtdfamnlmhikolaaDoor.fl y) (y : Rat) := Is.fl (by omega)
  unfold Bx.Small at hs
  obtain ⟨s1, j1⟩ := hq.x0.fadd ix (by omega)
  obtain ⟨s2, j2⟩ := hq.y0.fadd iy (by omega)
  obtain ⟨s3, j3⟩ := hq.x1.fadd ix (by omega)
  obtain ⟨s4, j4⟩ := hq.y1.fadd iy (by omega)
  have f1 := ra .add _ _ _ s1
  have f2 := ra .add _ _ _ s2
  have f3 := ra .add _ _ _ s3
  have f4 := ra .add _ _ _ s4
  have J : Hid (BxB (fadd a (Go.Proofs.YtdfamnlmhikolaaDoor.fl x)) (fadd b (Go.Proofs.YtdfamnlmhikolaaDoor.fl y)) (fadd c (Go.Proofs.YtdfamnlmhikolaaDoor.fl x)) (fadd d (Go.Proofs.YtdfamnlmhikolaaDoor.fl y)) (q.mv x y)) := Lib.hid ⟨j1, j2, j3, j4⟩
  generalize fadd a (Go.Proofs.YtdfamnlmhikolaaDoor.fl x) = z1 at *
  generalize fadd b (Go.Proofs.YtdfamnlmhikolaaDoor.fl y) = z2 at *
  generalize fadd c (Go.Proofs.YtdfamnlmhikolaaDoor.fl x) = z3 at *
  generalize fadd d (Go.Proofs.YtdfamnlmhikolaaDoor.fl y) = z4 at *
  clear s1 s2 s3 s4 j1 j2 j3 j4 ix iy hs hq h1 h2 h3 h4
  unfold Go.Proofs.YtdfamnlmhikolaaDoor.fl at f1 f2 f3 f4
  have lx := World.block_lt_of_cell? w _ hx
  have ly := World.block_lt_of_cell? w _ hy
  simp only at lx ly
  show Calls Tryd.prog 8 #[.agg #[.float .f64 a, .float .f64 b, .float .f64 c, .float .f64 d], .pointer (some ⟨px, 0, none⟩), .pointer (some ⟨py, 0, none⟩)] w _
  go_enter Tryd.func8, Tryd.ntmps8
  go_wp2
  refine post_ret (results_one rfl (resIs_agg (n := 4) (cs := #[.float .f64 z1, .float .f64 z2, .float .f64 z3, .float .f64 z4]) (by rfl) Tryd.underlying28 (by kernel_rfl) (T := 28) ?_ rfl)) ⟨z1, z2, z3, z4, rfl, J.out, ?_⟩
  · (repeat (first | with_reducible assumption | with_reducible exact Blk.new _ _ _ | ((with_reducible refine Blk.new' _ _ _ ?_); (focus ((simp; done)))) | with_reducible apply Blk.drew | with_reducible apply Blk.drewN | with_reducible refine Blk.alloc ?_ _ | with_reducible apply Blk.same | (with_reducible refine Blk.bel ?_ (by with_reducible assumption)) | ((with_reducible refine Blk.otherR ?_ ?_); (focus ((simp <;> omega); done)))))
  · (repeat (first | with_reducible assumption | with_reducible exact Bel.refl _ | with_reducible apply Bel.alloc | with_reducible apply Bel.drew | with_reducible apply Bel.drewN | ((with_reducible apply Bel.setCellR); (simp <;> omega)) | with_reducible refine Bel.behind (by with_reducible assumption) ?_))
/-! ### Questions -/
def AskOk (x : RawAsk) : Prop := (0 ≤ x.dov ∧ x.dov ≤ 4) ∧ boxB x.a x.b x.c x.d = true
def AsksOk (xs : List RawAsk) : Prop := xs.length ≤ 60 ∧ ∀ x ∈ xs, AskOk x
def IsAsks (xs : List RawAsk) (w : World) (e : Ending) (w' : World) : Prop := ∃ r, e = .returned (.bool r) ∧ (r = true → AsksOk xs) ∧ Bel w w'
theorem ask_ways (dov stop how : Int) (B : Bool) (n : Nat) : (dov < 0 ∨ (0 ≤ dov ∧ 4 < dov) ∨ (0 ≤ dov ∧ dov ≤ 4 ∧ B = false) ∨ (0 ≤ dov ∧ dov ≤ 4 ∧ B = true ∧ stop < 0) ∨ (0 ≤ dov ∧ dov ≤ 4 ∧ B = true ∧ 0 ≤ stop ∧ how < 0) ∨ (0 ≤ dov ∧ dov ≤ 4 ∧ B = true ∧ 0 ≤ stop ∧ 0 ≤ how ∧ 3 < how) ∨ (dov = 0 ∧ B = true ∧ 0 < stop ∧ 0 ≤ how ∧ how < 2 ∧ (4 : Int) < (n : Int))) ∨
    ((0 < dov ∧ dov ≤ 4 ∧ B = true ∧ 0 ≤ stop ∧ 0 ≤ how ∧ how ≤ 3) ∨ (dov = 0 ∧ B = true ∧ stop = 0 ∧ 0 ≤ how ∧ how ≤ 3) ∨ (dov = 0 ∧ B = true ∧ 0 < stop ∧ 2 ≤ how ∧ how ≤ 3) ∨ (dov = 0 ∧ B = true ∧ 0 < stop ∧ 0 ≤ how ∧ how < 2 ∧ (n : Int) ≤ 4)) := by
  by_cases h1 : dov < 0
  · exact Or.inl (Or.inl h1)
  by_cases h2 : 4 < dov
  · exact Or.inl (Or.inr (Or.inl ⟨by omega, h2⟩))
  cases B
  · exact Or.inl (Or.inr (Or.inr (Or.inl ⟨by omega, by omega, rfl⟩)))
  by_cases h3 : stop < 0
  · exact Or.inl (Or.inr (Or.inr (Or.inr (Or.inl ⟨by omega, by omega, rfl, h3⟩))))
  by_cases h4 : how < 0
  · exact Or.inl (Or.inr (Or.inr (Or.inr (Or.inr (Or.inl ⟨by omega, by omega, rfl, by omega, h4⟩)))))
  by_cases h5 : 3 < how
  · exact Or.inl (Or.inr (Or.inr (Or.inr (Or.inr (Or.inr (Or.inl ⟨by omega, by omega, rfl, by omega, by omega, h5⟩))))))
  by_cases h6 : 0 < dov
  · exact Or.inr (Or.inl ⟨h6, by omega, rfl, by omega, by omega, by omega⟩)
  by_cases h7 : stop = 0
  · exact Or.inr (Or.inr (Or.inl ⟨by omega, rfl, h7, by omega, by omega⟩))
  by_cases h8 : 2 ≤ how
  · exact Or.inr (Or.inr (Or.inr (Or.inl ⟨by omega, rfl, by omega, h8, by omega⟩)))
  by_cases h9 : (n : Int) ≤ 4
  · exact Or.inr (Or.inr (Or.inr (Or.inr ⟨by omega, rfl, by omega, by omega, by omega, h9⟩)))
  · exact Or.inl (Or.inr (Or.inr (Or.inr (Or.inr (Or.inr (Or.inr ⟨by omega, rfl, by omega, by omega, by omega, by omega⟩))))))
set_option maxHeartbeats 4000000 in
set_option maxRecDepth 100000 in
theorem kAsked_any (v : Value) (xs : List RawAsk) (m : Nat) (w : World) (h : AskSl w v xs) :
    Calls Tryd.prog 6 #[v, .int .i64 m] w (IsAsks xs w) := by
  obtain ⟨p, cap, rfl, hl, hc, h⟩ := h
  have HR := Lib.hid h
  generalize hn : xs.length = n at *
  have HN := Lib.hid hn
  clear h hn
  by_cases h6 : 60 < n
  · go_enter Tryd.func6, Tryd.ntmps6
    go_wp2
    go_ret
    exact ⟨false, rfl, by simp, Bel.refl _⟩
  · go_enter Tryd.func6, Tryd.ntmps6
    go_wp2
    go_loopw [12] (fun iv wr => ∃ (k : Nat), iv = .int .i64 k ∧ k ≤ n ∧ Bel w wr ∧ ∀ (i : Nat) (x : RawAsk), i < k → xs[i]? = some x → AskOk x) (fun iv _ => n - (intOf iv).toNat)
    case atStart => exact ⟨0, rfl, Nat.zero_le _, by (repeat (first | with_reducible assumption | with_reducible exact Bel.refl _ | with_reducible apply Bel.alloc | with_reducible apply Bel.drew | with_reducible apply Bel.drewN | ((with_reducible apply Bel.setCellR); (simp <;> omega)) | with_reducible refine Bel.behind (by with_reducible assumption) ?_)), fun i x hi => absurd hi (by omega)⟩
    case round =>
      obtain ⟨k, rfl, hk, hbel, hall⟩ := hrel
      have HBEL := Lib.hid hbel
      have HALL := Lib.hid hall
      by_cases hkn : k < n
      · have hxl : k < xs.length := by have := HN.out; omega
        obtain ⟨b, off, rfl, hlt, hq⟩ := HR.out (by intro e; rw [e] at hxl; simp at hxl)
        obtain ⟨x, hx⟩ : ∃ x, xs[k]? = some x := ⟨_, List.getElem?_eq_getElem hxl⟩
        obtain ⟨d0, d1, d2, d3, d4, d5, d6⟩ := hq k x hx
        have D0 := cell_kept hbel d0
        have D1 := cell_kept hbel d1
        have D2 := cell_kept hbel d2
        have D3 := cell_kept hbel d3
        have D4 := cell_kept hbel d4
        have D5 := cell_kept hbel d5
        have D6 := cell_kept hbel d6
        have hbl : b < wr.heap.size := Nat.lt_of_lt_of_le hlt hbel.size
        have HX := Lib.hid hx
        clear hall hq hx d0 d1 d2 d3 d4 d5 d6
        have HOK : Hid (0 ≤ x.dov ∧ x.dov ≤ 4 ∧ boxB x.a x.b x.c x.d = true → AskOk x) := Lib.hid fun h => ⟨⟨h.1, h.2.1⟩, h.2.2⟩
        have hways := ask_ways x.dov x.stop x.how (boxB x.a x.b x.c x.d) m
        generalize hB : boxB x.a x.b x.c x.d = B at *
        have HB := Lib.hid hB
        clear hB
        generalize x.dov = dov at *
        generalize x.stop = stop at *
        generalize x.how = how at *
        generalize x.a = xa at *
        generalize x.b = xb at *
        generalize x.c = xc at *
        generalize x.d = xd at *
        rcases hways with h | h
        · rcases h with g1 | ⟨g1, g2⟩ | ⟨g1, g2, rfl⟩ | ⟨g1, g2, rfl, g3⟩ | ⟨g1, g2, rfl, g3, g4⟩ | ⟨g1, g2, rfl, g3, g4, g5⟩ | ⟨rfl, rfl, g3, g4, g5, g6⟩
          all_goals
            go_wp2_with (first
              | (go_at_call 11; (with_reducible refine (kBox_any _ _ _ _ _).mono ?_); rw [HB.out]; rintro e w3 ⟨rfl, hb3⟩; have HB3 : Hid (Bel wr w3) := Lib.hid ((Bel.alloc1 wr _).trans hb3); have B4 := (Blk.new wr #[.int .i64 _, .float .f64 xa, .float .f64 xb, .float .f64 xc, .float .f64 xd, .int .i64 stop, .int .i64 how] 34).bel hb3; obtain ⟨r4, z4, l4⟩ := B4.facts; clear hb3 B4))
            go_ret
            first
              | exact ⟨false, rfl, by simp, HBEL.out.trans HB3.out⟩
              | exact ⟨false, rfl, by simp, HBEL.out.alloc _⟩
        · rcases h with ⟨g1, g2, rfl, g3, g4, g5⟩ | ⟨rfl, rfl, rfl, g4, g5⟩ | ⟨rfl, rfl, g3, g4, g5⟩ | ⟨rfl, rfl, g3, g4, g5, g6⟩
          all_goals
            have hok : Hid (AskOk x) := Lib.hid (HOK.out ⟨by omega, by omega, rfl⟩)
            clear HOK
            go_wp2_with (first
              | (go_at_call 11; (with_reducible refine (kBox_any _ _ _ _ _).mono ?_); rw [HB.out]; rintro e w3 ⟨rfl, hb3⟩; have HB3 : Hid (Bel wr w3) := Lib.hid ((Bel.alloc1 wr _).trans hb3); have B4 := (Blk.new wr #[.int .i64 _, .float .f64 xa, .float .f64 xb, .float .f64 xc, .float .f64 xd, .int .i64 _, .int .i64 how] 34).bel hb3; obtain ⟨r4, z4, l4⟩ := B4.facts; clear hb3 B4))
            go_roundw
            case rel => exact ⟨k + 1, by go_num, by omega, HBEL.out.trans HB3.out, fun i y hi hy => by
              by_cases e : i < k
              · exact HALL.out i y e hy
              · obtain rfl : i = k := by omega
                obtain rfl : x = y := Option.some.inj (HX.out.symm.trans hy)
                exact hok.out⟩
            case measure => simp [intOf]; omega
      · obtain rfl : k = n := by omega
        go_wp2
        go_ret
        exact ⟨true, rfl, fun _ => ⟨by rw [HN.out]; omega, fun x hx => by
          obtain ⟨i, hi⟩ := List.mem_iff_getElem?.1 hx
          exact HALL.out i x (by have := (List.getElem?_eq_some_iff.1 hi).1; have := HN.out; omega) hi⟩, HBEL.out⟩
end Go.Proofs.YtdfamnlmhikolaaDoor
