/-
  For every row of places the law FnFlatHull answers true. No condition.
-/
import Derived.Test.YtdebkmioaglmaaaPts
import Derived.Test.YtdebkmioaglmaaaRat
import Derived.Laws.StructEq
import Derived.Deep.QuietTactic
import Derived.BigQuiet
import Derived.IntWalk
import Derived.Outline
namespace Go.Proofs.Ytdebkmioaglmaaa
open Go.ChangeShapes Go.WideShapes Go.ChangeAt Go.RowKit

/-- Are two places of floats equal? -/
def eqB (p q : Nat × Nat) : Bool := FloatKind.f64.format.order p.1 q.1 == some .eq && FloatKind.f64.format.order p.2 q.2 == some .eq

/-- A hull's half, if it is flat. -/
def IsFlat (w : World) (half : List (Nat × Nat)) (f : Bool) (e : Ending) (w' : World) : Prop := ∃ v, e = .returned (.tuple #[v, .bool f]) ∧ XySl w' v half ∧ Bel w w'

theorem f77_even (qs : List (Nat × Nat)) (v : Value) (w : World) (h : XySl w v qs) (he : qs.length % 2 = 0) : Calls Try.prog 77 #[v] w (IsFlat w [] false) := by
  obtain ⟨p, cap, rfl, hl, hc, h⟩ := h
  clear h
  generalize qs.length = n at *
  have hn : (((n : Int)) % 2 == 0) = true := by
    have : (n : Int) % 2 = 0 := by omega
    simp
    omega
  have HE := Lib.hid he
  clear he
  go_enter Try.func77, Try.ntmps77
  go_wp2
  refine post_ret (results_two rfl (resIs_tmp (by rfl)) (resIs_tmp (by rfl))) ⟨_, rfl, ⟨none, 0, rfl, by simp, by simp, fun h => absurd rfl h⟩, Bel.refl _⟩

set_option maxRecDepth 100000 in
set_option maxHeartbeats 1000000 in
theorem f77_odd (qs : List (Nat × Nat)) (v : Value) (w : World) (m : Nat) (hm : m ≤ 1000000) (q1 q2 : Nat × Nat) (h : XySl w v qs) (he : qs.length = 2 * m + 3) (h1 : qs[m]? = some q1) (h2 : qs[m + 2]? = some q2) (f : Bool) (hf : Hid (eqB q1 q2 = f)) :
    Calls Try.prog 77 #[v] w (IsFlat w (if f then qs.take (m + 2) else []) f) := by
  obtain ⟨p, cap, rfl, hl, hc, h⟩ := h
  obtain ⟨b, off, rfl, hlt, hq⟩ := h (by intro e; rw [e] at he; simp at he)
  obtain ⟨c1, c2⟩ := hq m q1 h1
  obtain ⟨c3, c4⟩ := hq (m + 2) q2 h2
  have HQ := Lib.hid hq
  clear hq h
  rw [he] at hl
  have HE := Lib.hid he
  have H1 := Lib.hid h1
  have H2 := Lib.hid h2
  rw [he]
  clear he h1 h2
  have hn : ((2 * (m : Int) + 3) % 2 == 0) = false := by
    have : ¬ (2 * (m : Int) + 3) % 2 = 0 := by omega
    simp
  have hd : (2 * (m : Int) + 3) / 2 = (m : Int) + 1 := by omega
  have g1 : Try.prog.stoodInHeld 81 = false := by kernel_rfl
  have g3 : Try.prog.eqGuardType Try.prog.depth 81 = false := by kernel_rfl
  have t1 : ((m : Int) + 2).toNat = m + 2 := by omega
  have b1 : (m : Int) < 2 * (m : Int) + 3 := by omega
  have b2 : (m : Int) + 2 < 2 * (m : Int) + 3 := by omega
  have b3 : 0 ≤ (m : Int) + 2 := by omega
  have w1 : IntKind.i64.wrap ((m : Int) + 1 - 1) = (m : Int) := by rw [show (m : Int) + 1 - 1 = (m : Int) by omega]; exact IntWalk.i64_in _ (by omega)
  have w2 : IntKind.i64.wrap ((m : Int) + 1 + 1) = (m : Int) + 2 := by rw [show (m : Int) + 1 + 1 = (m : Int) + 2 by omega]; exact IntWalk.i64_in _ (by omega)
  obtain ⟨x1, y1⟩ := q1
  obtain ⟨x2, y2⟩ := q2
  simp only at c1 c2 c3 c4
  cases f
  · have hb := hf.out
    unfold eqB at hb
    simp only [Bool.false_eq_true, if_false]
    rcases (Bool.and_eq_false_iff.1 hb) with k | k
    all_goals
      simp only at k
      clear hb
      go_enter Try.func77, Try.ntmps77
      go_wp2
      go_quiet (fail)
      go_wp2
      refine post_ret (results_two rfl (resIs_tmp (by rfl)) (resIs_tmp (by rfl))) ⟨_, rfl, ⟨none, 0, rfl, by simp, by simp, fun h => absurd rfl h⟩, (Bel.refl _).drewN _⟩
  · have hb := hf.out
    unfold eqB at hb
    simp only [if_true]
    obtain ⟨k1, k2⟩ := Bool.and_eq_true_iff.1 hb
    simp only at k1 k2
    clear hb
    have b4 : (m : Int) + 2 ≤ (cap : Int) := by omega
    have HL := Lib.hid hl
    go_enter Try.func77, Try.ntmps77
    go_wp2
    go_quiet (fail)
    go_wp2
    have hx : XySl (w.drewN nq) (.slice (some ⟨b, off, none⟩) (m + 2) cap) (qs.take (m + 2)) := by
      have he := HE.out
      refine ⟨_, cap, by rw [List.length_take, Nat.min_eq_left (by omega)], by rw [List.length_take]; omega, hc, fun _ => ⟨b, off, rfl, hlt, fun i q hi => ?_⟩⟩
      have hi' : qs[i]? = some q := by
        rw [List.getElem?_take] at hi
        split at hi
        · exact hi
        · cases hi
      exact HQ.out i q hi'
    refine post_ret (results_two rfl (resIs_tmp (by rfl)) (resIs_tmp (by rfl))) ⟨_, rfl, hx, (Bel.refl _).drewN _⟩

theorem f49_any {half : List (Nat × Nat)} {f : Bool} {v : Value} {w : World} (h : Calls Try.prog 77 #[v] w (IsFlat w half f)) : Calls Try.prog 49 #[v] w (IsFlat w half f) := by
  go_enter Try.func49, Try.ntmps49
  go_wp2_with (go_at_call 77; refine h.mono ?_; rintro e w1 ⟨u, rfl, hx, hb⟩)
  refine post_ret (results_two rfl (resIs_tmp (by rfl)) (resIs_tmp (by rfl))) ⟨_, rfl, hx, hb⟩

theorem XySl.set_one {w : World} {v z u : Value} {qs : List (Nat × Nat)} {c : Nat} {t : TypeId} (h : XySl w v qs) (hB : Blk w c #[z] t) (hz : ∀ k b, z ≠ .float k b) : XySl (w.setCell ⟨c, 0, none⟩ u) v qs := by
  obtain ⟨p, cap, hv, hl, hc, h⟩ := h
  refine ⟨p, cap, hv, hl, hc, fun hn => ?_⟩
  obtain ⟨b, off, hp, hlt, hq⟩ := h hn
  have hne : b ≠ c := by
    intro e
    subst e
    cases qs with
    | nil => exact hn rfl
    | cons q r =>
      have h1 := (hq 0 q rfl).1
      rw [hB.rules.1] at h1
      have hs := (Array.getElem?_eq_some_iff.1 h1)
      obtain ⟨ho, he⟩ := hs
      have ho' : off + 0 * 2 = 0 := by simp at ho; omega
      simp [ho'] at he
      exact hz _ _ he
  exact ⟨b, off, hp, by simp [World.setCell]; exact hlt, fun i q hi => ⟨cell_set_other hne (hq i q hi).1, cell_set_other hne (hq i q hi).2⟩⟩

theorem f48_idle (p q r : Addr) (w : World) :
    CallsD Try.prog 48 #[.pointer (some p), .pointer (some q), .pointer (some r)] .returning w fun e u' w' => e = .returned (.tuple #[]) ∧ u' = .returning ∧ w' = w := by
  refine callsD_of_wpS Try.func48 rfl fun c₀ cs hu => ?_
  apply wpS_seq
  apply wpS_region
  simp [wpOpsS, go_sem, recoverD, hu, Try.ntmps48, Exit.thenS]
  refine wpS_cond (t := false) (by simp [Act.eval, Array.replicate]) ?_
  simp only [Bool.false_eq_true, if_false]
  refine wpS_of_wp (wp_skip ?_)
  cases c₀
  simp_all [bodyPostS, results, Try.results48]

theorem keep1e {v w : World} {b o : Nat} {E : Array Value} {s : TypeId} {u : Value} (hE : E.setIfInBounds o u = E) (hv : v.heap.size ≤ b)
    (h : (∀ o, w.cell? ⟨b, o, none⟩ = E[o]?) ∧ Blk w b E s ∧ Bel v w) : (∀ p, (w.setCell ⟨b, o, none⟩ u).cell? ⟨b, p, none⟩ = E[p]?) ∧ Blk (w.setCell ⟨b, o, none⟩ u) b E s ∧ Bel v (w.setCell ⟨b, o, none⟩ u) :=
  have k := (h.2.1.set o u).cast hE
  ⟨k.rules.1, k, h.2.2.setCell hv u⟩

/-- impl.FlatHull's answer. -/
def IsFlat3 (w : World) (half : List (Nat × Nat)) (f : Bool) (e : Ending) (w' : World) : Prop := ∃ v, e = .returned (.tuple #[v, .bool f, .bool true]) ∧ XySl w' v half ∧ Bel w w'

set_option maxRecDepth 100000 in
set_option maxHeartbeats 2000000 in
theorem f23_any (qs half : List (Nat × Nat)) (f : Bool) (v : Value) (w : World) (h : XySl w v qs) (h200 : qs.length ≤ 200) (hh : half.length ≤ 200)
    (hflat : ∀ (u : Value) (w' : World), XySl w' u qs → Calls Try.prog 77 #[u] w' (IsFlat w' half f)) : Calls Try.prog 23 #[v] w (IsFlat3 w half f) := by
  have HX := Lib.hid h
  have HF := Lib.hid hflat
  obtain ⟨p, cap, rfl, _⟩ := h
  clear hflat
  have hmf : ∀ (fn : Fn) (first cap : Array Value) (w : World), (Instr.makeFunc fn first cap).run Try.prog w = .ok (.func fn first cap) w := fun _ _ _ _ => rfl
  go_enter_defers Try.func23, Try.ntmps23
  go_wp2_with (first | (go_at_call 50; refine (f50_any qs _ _ (HX.out.bel ?hb) h200).mono ?_; (case hb => exact (((Bel.refl _).alloc _).alloc _).alloc _); rintro e w1 ⟨v1, rfl, hx1, hb1⟩; have HX1 := Lib.hid hx1; clear hx1; have B10 : Blk w1 (w.heap.size) #[.slice none 0 0] 47 := Blk.bel (by (apply Blk.cast; (repeat (first | with_reducible assumption | with_reducible apply Blk.set | (with_reducible apply Blk.otherR; (simp <;> omega)) | with_reducible exact Blk.new _ _ _ | (with_reducible apply Blk.new'; (focus (simp; done))) | with_reducible apply Blk.alloc | with_reducible apply Blk.drew)); rfl)) hb1; obtain ⟨r11, z12, z12l⟩ := B10.facts; have B13 : Blk w1 (w.heap.size + 1) #[.bool false] 4 := Blk.bel (by (apply Blk.cast; (repeat (first | with_reducible assumption | with_reducible apply Blk.set | (with_reducible apply Blk.otherR; (simp <;> omega)) | with_reducible exact Blk.new _ _ _ | (with_reducible apply Blk.new'; (focus (simp; done))) | with_reducible apply Blk.alloc | with_reducible apply Blk.drew)); rfl)) hb1; obtain ⟨r14, z15, z15l⟩ := B13.facts; have B16 : Blk w1 (w.heap.size + 1 + 1) #[.bool false] 4 := Blk.bel (by (apply Blk.cast; (repeat (first | with_reducible assumption | with_reducible apply Blk.set | (with_reducible apply Blk.otherR; (simp <;> omega)) | with_reducible exact Blk.new _ _ _ | (with_reducible apply Blk.new'; (focus (simp; done))) | with_reducible apply Blk.alloc | with_reducible apply Blk.drew)); rfl)) hb1; obtain ⟨r17, z18, z18l⟩ := B16.facts) | (go_at_call 49; refine (f49_any (HF.out _ _ HX1.out)).mono ?_; rintro e w2 ⟨v2, rfl, hx2, hb2⟩; have HX2 := Lib.hid hx2; clear hx2; have B19 : Blk w2 (w.heap.size) #[.slice none 0 0] 47 := Blk.bel (by (apply Blk.cast; (repeat (first | with_reducible assumption | with_reducible apply Blk.set | (with_reducible apply Blk.otherR; (simp <;> omega)) | with_reducible exact Blk.new _ _ _ | (with_reducible apply Blk.new'; (focus (simp; done))) | with_reducible apply Blk.alloc | with_reducible apply Blk.drew)); rfl)) hb2; obtain ⟨r20, z21, z21l⟩ := B19.facts; have B22 : Blk w2 (w.heap.size + 1) #[.bool false] 4 := Blk.bel (by (apply Blk.cast; (repeat (first | with_reducible assumption | with_reducible apply Blk.set | (with_reducible apply Blk.otherR; (simp <;> omega)) | with_reducible exact Blk.new _ _ _ | (with_reducible apply Blk.new'; (focus (simp; done))) | with_reducible apply Blk.alloc | with_reducible apply Blk.drew)); rfl)) hb2; obtain ⟨r23, z24, z24l⟩ := B22.facts; have B25 : Blk w2 (w.heap.size + 1 + 1) #[.bool false] 4 := Blk.bel (by (apply Blk.cast; (repeat (first | with_reducible assumption | with_reducible apply Blk.set | (with_reducible apply Blk.otherR; (simp <;> omega)) | with_reducible exact Blk.new _ _ _ | (with_reducible apply Blk.new'; (focus (simp; done))) | with_reducible apply Blk.alloc | with_reducible apply Blk.drew)); rfl)) hb2; obtain ⟨r26, z27, z27l⟩ := B25.facts))
  have hs0 := hb1.size
  have hs1 := hb2.size
  simp only [World.size_alloc] at hs0
  generalize hW28 : World.setCell _ _ _ = w3
  have hb29 : Bel w w3 := by subst hW28; repeat (first | with_reducible assumption | with_reducible exact Bel.refl _ | with_reducible apply Bel.alloc | with_reducible apply Bel.drew | (with_reducible apply Bel.setCellR; (simp <;> omega)) | with_reducible refine Bel.behind (by with_reducible assumption) ?_)
  have B30 : Blk w3 (w.heap.size) #[.slice none 0 0] 47 := by subst hW28; (apply Blk.cast; (repeat (first | with_reducible assumption | with_reducible apply Blk.set | (with_reducible apply Blk.otherR; (simp <;> omega)) | with_reducible exact Blk.new _ _ _ | (with_reducible apply Blk.new'; (focus (simp; done))) | with_reducible apply Blk.alloc | with_reducible apply Blk.drew)); rfl)
  obtain ⟨r31, z32, z32l⟩ := B30.facts
  have B33 : Blk w3 (w.heap.size + 1) #[.bool f] 4 := by subst hW28; (apply Blk.cast; (repeat (first | with_reducible assumption | with_reducible apply Blk.set | (with_reducible apply Blk.otherR; (simp <;> omega)) | with_reducible exact Blk.new _ _ _ | (with_reducible apply Blk.new'; (focus (simp; done))) | with_reducible apply Blk.alloc | with_reducible apply Blk.drew)); rfl)
  obtain ⟨r34, z35, z35l⟩ := B33.facts
  have B36 : Blk w3 (w.heap.size + 1 + 1) #[.bool false] 4 := by subst hW28; (apply Blk.cast; (repeat (first | with_reducible assumption | with_reducible apply Blk.set | (with_reducible apply Blk.otherR; (simp <;> omega)) | with_reducible exact Blk.new _ _ _ | (with_reducible apply Blk.new'; (focus (simp; done))) | with_reducible apply Blk.alloc | with_reducible apply Blk.drew)); rfl)
  obtain ⟨r37, z38, z38l⟩ := B36.facts
  have HX3 : Hid (XySl w3 v2 half) := by subst hW28; exact Lib.hid (HX2.out.set_one ‹Blk w2 (w.heap.size + 1) #[.bool false] 4› (by simp))
  clear hW28

  go_region_held3 (fun w' => (∀ o, w'.cell? ⟨w.heap.size + 1, o, none⟩ = (#[.bool f] : Array Value)[o]?) ∧ Blk w' (w.heap.size + 1) #[.bool f] 4 ∧ Bel w w')
    (first | (with_reducible apply keep1; with_reducible assumption; with_reducible assumption) | (with_reducible apply keep1; (with_reducible exact Bel.alloc1 _ _); with_reducible assumption) | ((repeat (first | with_reducible assumption | (with_reducible apply keep1s; (simp <;> omega); (simp <;> omega)))); done) | ((with_reducible refine keep1e rfl ?_ ?_); (simp <;> omega); with_reducible assumption) | (refine keep1i ?_ ?_; (focus ((repeat (first | with_reducible assumption | with_reducible apply Blk.set | (with_reducible apply Blk.otherR; (simp <;> omega)) | with_reducible exact Blk.new _ _ _ | (with_reducible apply Blk.new'; (focus (simp; done))) | with_reducible apply Blk.alloc | with_reducible apply Blk.drew)); done)); (focus ((repeat (first | with_reducible assumption | with_reducible exact Bel.refl _ | with_reducible apply Bel.alloc | with_reducible apply Bel.drew | (with_reducible apply Bel.setCellR; (simp <;> omega)) | with_reducible refine Bel.behind (by with_reducible assumption) ?_)); done))))
    (first | (go_at_call 51; refine (f51_any half _ _ (HX3.out.bel ?hb) hh).mono ?_; (case hb => repeat (first | with_reducible assumption | with_reducible exact Bel.refl _ | with_reducible apply Bel.alloc | with_reducible apply Bel.drew | (with_reducible apply Bel.setCellR; (simp <;> omega)) | with_reducible refine Bel.behind (by with_reducible assumption) ?_)); rintro e w4 ⟨v3, rfl, hx4, hb4⟩; have HX4 := Lib.hid hx4; obtain ⟨p3, cap3, rfl, _⟩ := hx4; have B1 : Blk w4 (w.heap.size) #[.slice none 0 0] 47 := Blk.bel (by (apply Blk.cast; (repeat (first | with_reducible assumption | with_reducible apply Blk.set | (with_reducible apply Blk.otherR; (simp <;> omega)) | with_reducible exact Blk.new _ _ _ | (with_reducible apply Blk.new'; (focus (simp; done))) | with_reducible apply Blk.alloc | with_reducible apply Blk.drew)); rfl)) hb4; obtain ⟨r2, z3, z3l⟩ := B1.facts; have B4 : Blk w4 (w.heap.size + 1) #[.bool f] 4 := Blk.bel (by (apply Blk.cast; (repeat (first | with_reducible assumption | with_reducible apply Blk.set | (with_reducible apply Blk.otherR; (simp <;> omega)) | with_reducible exact Blk.new _ _ _ | (with_reducible apply Blk.new'; (focus (simp; done))) | with_reducible apply Blk.alloc | with_reducible apply Blk.drew)); rfl)) hb4; obtain ⟨r5, z6, z6l⟩ := B4.facts; have B7 : Blk w4 (w.heap.size + 1 + 1) #[.bool false] 4 := Blk.bel (by (apply Blk.cast; (repeat (first | with_reducible assumption | with_reducible apply Blk.set | (with_reducible apply Blk.otherR; (simp <;> omega)) | with_reducible exact Blk.new _ _ _ | (with_reducible apply Blk.new'; (focus (simp; done))) | with_reducible apply Blk.alloc | with_reducible apply Blk.drew)); rfl)) hb4; obtain ⟨r8, z9, z9l⟩ := B7.facts))

  have hs2 := hb4.size
  simp only [World.drew] at hs2
  generalize hW39 : World.setCell (World.setCell (World.setCell _ _ _) _ _) _ _ = w5
  have hb40 : Bel w w5 := by subst hW39; repeat (first | with_reducible assumption | with_reducible exact Bel.refl _ | with_reducible apply Bel.alloc | with_reducible apply Bel.drew | (with_reducible apply Bel.setCellR; (simp <;> omega)) | with_reducible refine Bel.behind (by with_reducible assumption) ?_)
  have B41 : Blk w5 (w.heap.size) #[.slice p3 half.length cap3] 47 := by subst hW39; (apply Blk.cast; (repeat (first | with_reducible assumption | with_reducible apply Blk.set | (with_reducible apply Blk.otherR; (simp <;> omega)) | with_reducible exact Blk.new _ _ _ | (with_reducible apply Blk.new'; (focus (simp; done))) | with_reducible apply Blk.alloc | with_reducible apply Blk.drew)); rfl)
  obtain ⟨r42, z43, z43l⟩ := B41.facts
  have B44 : Blk w5 (w.heap.size + 1) #[.bool f] 4 := by subst hW39; (apply Blk.cast; (repeat (first | with_reducible assumption | with_reducible apply Blk.set | (with_reducible apply Blk.otherR; (simp <;> omega)) | with_reducible exact Blk.new _ _ _ | (with_reducible apply Blk.new'; (focus (simp; done))) | with_reducible apply Blk.alloc | with_reducible apply Blk.drew)); rfl)
  obtain ⟨r45, z46, z46l⟩ := B44.facts
  have B47 : Blk w5 (w.heap.size + 1 + 1) #[.bool true] 4 := by subst hW39; (apply Blk.cast; (repeat (first | with_reducible assumption | with_reducible apply Blk.set | (with_reducible apply Blk.otherR; (simp <;> omega)) | with_reducible exact Blk.new _ _ _ | (with_reducible apply Blk.new'; (focus (simp; done))) | with_reducible apply Blk.alloc | with_reducible apply Blk.drew)); rfl)
  obtain ⟨r48, z49, z49l⟩ := B47.facts
  have HX5 : Hid (XySl w5 (.slice p3 half.length cap3) half) := by subst hW39; exact Lib.hid (((HX4.out.set_one ‹Blk w4 w.heap.size #[.slice none 0 0] 47› (by simp)).set_one ((‹Blk w4 (w.heap.size + 1) #[.bool f] 4›).other (by simp) _) (by simp)).set_one (((‹Blk w4 (w.heap.size + 1 + 1) #[.bool false] 4›).other (by simp; omega) _).other (by simp) _) (by simp))
  clear hW39

  go_wp2
  refine leaves_cons (f := 48) (args := #[.pointer (some ⟨w.heap.size, 0, none⟩), .pointer (some ⟨w.heap.size + 1, 0, none⟩), .pointer (some ⟨w.heap.size + 1 + 1, 0, none⟩)]) (by simp) (by simp [go_sem]) ?_
  refine (f48_idle ⟨w.heap.size, 0, none⟩ ⟨w.heap.size + 1, 0, none⟩ ⟨w.heap.size + 1 + 1, 0, none⟩ _).mono ?_
  rintro e u' w'' ⟨rfl, rfl, rfl⟩
  simp [Leaves, settle, results, Try.results23, go_sem, *]
  exact ⟨_, rfl, HX5.out, ‹Bel w w''›⟩
set_option maxRecDepth 100000 in
set_option maxHeartbeats 1000000 in
theorem f25_self (qs : List (Nat × Nat)) (va vb : Value) (w : World) (ha : XySl w va qs) (hb : XySl w vb qs) (hpos : qs ≠ []) (hr : ∀ q ∈ qs, eqB q q = true) :
    Calls Try.prog 25 #[va, vb] w fun e w' => e = .returned (.bool true) ∧ Bel w w' := by
  obtain ⟨p, cap, rfl, hl, hc, ha⟩ := ha
  obtain ⟨p', cap', rfl, hl', hc', hb⟩ := hb
  obtain ⟨ba, oa, rfl, hlta, hca⟩ := ha hpos
  obtain ⟨bb, ob, rfl, hltb, hcb⟩ := hb hpos
  have CA := Lib.hid hca
  have CB := Lib.hid hcb
  have HR := Lib.hid hr
  clear hca hcb ha hb hr hpos
  have hne : ((qs.length : Int) != (qs.length : Int)) = false := by simp
  have g1 : Try.prog.stoodInHeld 37 = false := by kernel_rfl
  have g3 : Try.prog.eqGuardType Try.prog.depth 37 = false := by kernel_rfl
  generalize hn : qs.length = n at *
  have HN := Lib.hid hn
  clear hn
  go_enter Try.func25, Try.ntmps25
  go_wp2
  go_loopw [14] (fun i wr => ∃ k : Nat, k ≤ n ∧ i = .int .i64 k ∧ Bel w wr) (fun i _ => n - (intOf i).toNat)
  case atStart => exact ⟨0, Nat.zero_le _, rfl, Bel.refl _⟩
  case round =>
    obtain ⟨k, hk, rfl, hbel⟩ := hrel
    by_cases hlt : k < n
    · obtain ⟨⟨x, y⟩, hq⟩ : ∃ q, qs[k]? = some q := ⟨qs[k]'(by have := HN.out; omega), List.getElem?_eq_getElem _⟩
      obtain ⟨a1, a2⟩ := CA.out k _ hq
      obtain ⟨b1, b2⟩ := CB.out k _ hq
      have a1 := (hbel.cell (p := ⟨ba, oa + k * 2, none⟩) hlta).trans a1
      have a2 := (hbel.cell (p := ⟨ba, oa + k * 2 + 1, none⟩) hlta).trans a2
      have b1 := (hbel.cell (p := ⟨bb, ob + k * 2, none⟩) hltb).trans b1
      have b2 := (hbel.cell (p := ⟨bb, ob + k * 2 + 1, none⟩) hltb).trans b2
      have he := HR.out (x, y) (List.mem_of_getElem? hq)
      unfold eqB at he
      obtain ⟨k1, k2⟩ := Bool.and_eq_true_iff.1 he
      simp only at a1 a2 b1 b2 k1 k2
      clear he
      have HQ := Lib.hid hq
      have HB := Lib.hid hbel
      have hsz := hbel.size
      clear hbel hq
      have n1 : bb ≠ wr.heap.size := by omega
      have n2 : bb < wr.heap.size := by omega
      go_wp2
      have hB : Blk (wr.alloc (Obj.cells #[Value.float FloatKind.f64 x, Value.float FloatKind.f64 y] 37)) wr.heap.size #[Value.float FloatKind.f64 x, Value.float FloatKind.f64 y] 37 := Blk.new _ _ _
      have b1 := ((Bel.alloc1 wr (Obj.cells #[Value.float FloatKind.f64 x, Value.float FloatKind.f64 y] 37)).cell (p := ⟨bb, ob + k * 2, none⟩) n2).trans b1
      have b2 := ((Bel.alloc1 wr (Obj.cells #[Value.float FloatKind.f64 x, Value.float FloatKind.f64 y] 37)).cell (p := ⟨bb, ob + k * 2 + 1, none⟩) n2).trans b2
      obtain ⟨hB1, -⟩ := hB.rules
      have hb' : Hid (Bel w (wr.alloc (Obj.cells #[Value.float FloatKind.f64 x, Value.float FloatKind.f64 y] 37))) := Lib.hid (HB.out.alloc _)
      generalize wr.alloc (Obj.cells #[Value.float FloatKind.f64 x, Value.float FloatKind.f64 y] 37) = ws at *
      go_quiet (fail)
      go_wp2
      go_roundw
      case rel => exact ⟨k + 1, by omega, by go_num, Bel.drewN hb'.out _⟩
      case measure => simp [intOf]; omega
    · go_wp2
      go_ret
      exact ⟨rfl, hbel⟩
theorem f8_long (n : Nat) (p : Option Addr) (cap : Nat) (h : 2147483647 < n) (w : World) : Calls Try.prog 8 #[.slice p n cap] w fun e w' => e = .returned (.bool true) ∧ Bel w w' := by
  go_enter Try.func8, Try.ntmps8
  go_wp2
  go_ret
  exact ⟨rfl, Bel.refl _⟩
theorem f8_short (n : Nat) (p : Option Addr) (cap : Nat) (h : n < 2) (w : World) : Calls Try.prog 8 #[.slice p n cap] w fun e w' => e = .returned (.bool true) ∧ Bel w w' := by
  go_enter Try.func8, Try.ntmps8
  go_wp2
  go_ret
  exact ⟨rfl, Bel.refl _⟩
theorem f8_wide (ps : List (Int × Int)) (v : Value) (h1 : 2 ≤ ps.length) (h2 : ps.length ≤ 2147483647) (w : World) (h : PtSl w v ps) (hs : Hid ((decide (ps.length ≤ 200) && ps.all (smallB 1048576)) = false)) : Calls Try.prog 8 #[v] w fun e w' => e = .returned (.bool true) ∧ Bel w w' := by
  have HH := Lib.hid h
  obtain ⟨p, cap, rfl, hl, hc, _⟩ := h
  go_enter Try.func8, Try.ntmps8
  go_wp2_with (go_at_call 22; (with_reducible refine (f22_any ps _ 1048576 (by decide) (by decide) _ HH.out).mono ?_); rw [hs.out]; rintro e w1 ⟨rfl, hb1⟩)
  go_ret
  exact ⟨rfl, hb1⟩

theorem smallB_fl {m : Int} {q : Int × Int} (hm : m ≤ 1048576) (h : smallB m q = true) : q.1.natAbs < 2 ^ 53 ∧ q.2.natAbs < 2 ^ 53 := by
  unfold smallB at h
  have := of_decide_eq_true h
  omega

theorem cmp_eq (a b : Int) : (some (cmpQ (a : Rat) (b : Rat)) == some Ordering.eq) = decide (a = b) := by
  unfold cmpQ
  by_cases h : a = b
  · subst h
    rw [if_neg (Rat.lt_irrefl), if_pos rfl]
    simp
  · rw [decide_eq_false h]
    by_cases k : (a : Rat) < (b : Rat)
    · rw [if_pos k]; rfl
    · rw [if_neg k, if_neg (fun e => h (Rat.intCast_inj.1 e))]; rfl

theorem eqB_fl (p q : Int × Int) (hp : p.1.natAbs < 2 ^ 53 ∧ p.2.natAbs < 2 ^ 53) (hq : q.1.natAbs < 2 ^ 53 ∧ q.2.natAbs < 2 ^ 53) : eqB (flXy p) (flXy q) = decide (p = q) := by
  have h1 := (Is.ofInt p.1 hp.1).order (Is.ofInt q.1 hq.1)
  have h2 := (Is.ofInt p.2 hp.2).order (Is.ofInt q.2 hq.2)
  show ((Ieee.double.order (FloatKind.f64.nearest p.1) (FloatKind.f64.nearest q.1) == some .eq) && (Ieee.double.order (FloatKind.f64.nearest p.2) (FloatKind.f64.nearest q.2) == some .eq)) = _
  rw [h1, h2, cmp_eq, cmp_eq]
  obtain ⟨a, b⟩ := p
  obtain ⟨c, d⟩ := q
  simp [Prod.mk.injEq, Bool.decide_and]
end Go.Proofs.Ytdebkmioaglmaaa
