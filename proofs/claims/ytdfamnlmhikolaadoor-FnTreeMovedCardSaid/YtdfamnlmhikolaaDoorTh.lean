/-
  container/heap over the queue of a search by distance: up, down, Push, Pop. No panic; nothing but the queue and its row has turned.
-/
import Derived.Test.YtdfamnlmhikolaaDoorTp2
set_option linter.unusedVariables false
namespace Go.Proofs.YtdfamnlmhikolaaDoor
open Go.ChangeShapes Go.WideShapes Go.ChangeAt Go.RowKit
theorem mLess (v : Value) (w : World) : (Go.method 265 87 v "Less").run Tryd.prog w = .ok (68, v) w := by kernel_rfl
theorem mSwap (v : Value) (w : World) : (Go.method 265 87 v "Swap").run Tryd.prog w = .ok (71, v) w := by kernel_rfl
theorem mLen (v : Value) (w : World) : (Go.method 265 87 v "Len").run Tryd.prog w = .ok (67, v) w := by kernel_rfl
theorem mPush (v : Value) (w : World) : (Go.method 265 87 v "Push").run Tryd.prog w = .ok (70, v) w := by kernel_rfl
theorem mPop (v : Value) (w : World) : (Go.method 265 87 v "Pop").run Tryd.prog w = .ok (69, v) w := by kernel_rfl
/-- Less and Swap at numbers that are reckoned. -/
theorem less_h {w0 w : World} {Q x y z u : Nat} {o : Bx} {v : Value} {es : List En} (h : PQ w0 w Q x y z u o v es) (i j : Nat) (iv jv : Int) (ei : iv = (i : Int)) (ej : jv = (j : Int)) (hi : i < es.length) (hj : j < es.length) (B : Bool) (hB : ltAt (enLt o) es i j = B) :
    Calls Tryd.prog 68 #[.pointer (some ⟨Q, 0, none⟩), .int .i64 iv, .int .i64 jv] w fun e w' => e = .returned (.bool B) ∧ PQ w0 w' Q x y z u o v es ∧ QRel Q w v w' v := by
  subst ei ej hB
  exact (lessQ_any h i j hi hj).mono fun e w' k => ⟨k.1, h.bel k.2, QRel.bel k.2 v⟩
theorem swap_h {w0 w : World} {Q x y z u : Nat} {o : Bx} {v : Value} {es : List En} (h : PQ w0 w Q x y z u o v es) (i j : Nat) (iv jv : Int) (ei : iv = (i : Int)) (ej : jv = (j : Int)) (hi : i < es.length) (hj : j < es.length) :
    Calls Tryd.prog 71 #[.pointer (some ⟨Q, 0, none⟩), .int .i64 iv, .int .i64 jv] w fun e w' => e = .returned (.tuple #[]) ∧ PQ w0 w' Q x y z u o v (swapAt es i j) ∧ QRel Q w v w' v := by
  subst ei ej
  exact swapQ_any h i j hi hj
set_option maxHeartbeats 2000000 in
set_option maxRecDepth 100000 in
theorem up_any {w0 w : World} {Q x y z u : Nat} {o : Bx} {v : Value} {es : List En} (h : PQ w0 w Q x y z u o v es) (j0 f0 : Nat) (jv : Int) (ejv : jv = (j0 : Int)) (hj : j0 < es.length) (hf : j0 < f0) :
    Calls Tryd.prog 38 #[.iface 87 (.pointer (some ⟨Q, 0, none⟩)), .int .i64 jv] w fun e w' => e = .returned (.tuple #[]) ∧ PQ w0 w' Q x y z u o v (up (enLt o) f0 j0 es) ∧ QRel Q w v w' v := by
  subst ejv
  have HH := Lib.hid h
  have hfew := h.few
  generalize hF : up (enLt o) f0 j0 es = F
  have HF := Lib.hid hF
  have HJ := Lib.hid hj
  have HFF := Lib.hid hf
  generalize hN : es.length = N at *
  have HN := Lib.hid hN
  have m1 := mLess
  have m2 := mSwap
  clear h hF hj hf hN
  go_enter Tryd.func38, Tryd.ntmps38
  go_wp2
  go_loopw [1] (fun jv wr => ∃ (j f : Nat) (l : List En), jv = .int .i64 j ∧ j < l.length ∧ l.length = N ∧ j < f ∧ up (enLt o) f j l = F ∧ PQ w0 wr Q x y z u o v l ∧ QRel Q w v wr v) (fun jv _ => (intOf jv).toNat)
  case atStart => exact ⟨j0, f0, es, rfl, by have := HJ.out; have := HN.out; omega, HN.out, HFF.out, HF.out, HH.out, QRel.bel (Bel.refl _) v⟩
  case round =>
    obtain ⟨j, f, l, rfl, hjl, hlN, hjf, hup, hpq, hrel⟩ := hrel
    have HP := Lib.hid hpq
    have HR := Lib.hid hrel
    have HU := Lib.hid hup
    clear hpq hrel hup HH HF HJ HFF HN
    obtain ⟨f, rfl⟩ : ∃ f', f = f' + 1 := ⟨f - 1, by omega⟩
    by_cases h0 : j = 0
    · subst h0
      go_wp2
      go_end0
      have := HU.out
      rw [up, if_pos rfl] at this
      rw [← this]
      exact ⟨rfl, HP.out, HR.out⟩
    · have hd : ((j : Int) - 1) / 2 = (((j - 1) / 2 : Nat) : Int) := by omega
      have hne : ¬ (j - 1) / 2 = j := by omega
      obtain ⟨i, hi⟩ : ∃ i, (j - 1) / 2 = i := ⟨_, rfl⟩
      have hilt : i < j := by omega
      have hij : ¬ (i : Int) = (j : Int) := by omega
      have hup := HU.out
      rw [up, if_neg hne, hi] at hup
      rw [hi] at hd
      rcases bool_cases (ltAt (enLt o) l j i) with hb | hb
      · rw [hb, if_pos rfl] at hup
        have HU2 := Lib.hid hup
        have HB := Lib.hid hb
        clear hb hup hi hne
        go_wp2_with (first
          | (go_at_call 68; (with_reducible refine (less_h HP.out j i _ _ ?ei ?ej ?hi ?hj _ HB.out).mono ?_); (case ei => omega); (case ej => omega); (case hi => omega); (case hj => omega); rintro e w5 ⟨rfl, hq1, hr1⟩; have Q5 := Lib.hid hq1; have R5 := Lib.hid hr1; clear hq1 hr1)
          | (go_at_call 71; (with_reducible refine (swap_h Q5.out i j _ _ ?ei ?ej ?hi ?hj).mono ?_); (case ei => omega); (case ej => omega); (case hi => omega); (case hj => omega); rintro e w6 ⟨rfl, hq1, hr1⟩; have Q6 := Lib.hid hq1; have R6 := Lib.hid hr1; clear hq1 hr1))
        go_roundw
        case rel => exact ⟨i, f, swapAt l i j, rfl, by rw [swapAt_len]; omega, by rw [swapAt_len]; exact hlN, by omega, HU2.out, Q6.out, (HR.out.trans R5.out).trans R6.out⟩
        case measure => simp [intOf]; omega
      · rw [hb, if_neg (by simp)] at hup
        have HU2 := Lib.hid hup
        have HB := Lib.hid hb
        clear hb hup hi hne
        go_wp2_with (first
          | (go_at_call 68; (with_reducible refine (less_h HP.out j i _ _ ?ei ?ej ?hi ?hj _ HB.out).mono ?_); (case ei => omega); (case ej => omega); (case hi => omega); (case hj => omega); rintro e w5 ⟨rfl, hq1, hr1⟩; have Q5 := Lib.hid hq1; have R5 := Lib.hid hr1; clear hq1 hr1))
        go_end0
        rw [← HU2.out]
        exact ⟨rfl, Q5.out, HR.out.trans R5.out⟩

set_option maxHeartbeats 4000000 in
set_option maxRecDepth 100000 in
theorem down_any {w0 w : World} {Q x y z u : Nat} {o : Bx} {v : Value} {es : List En} (h : PQ w0 w Q x y z u o v es) (n f0 : Nat) (nv : Int) (env : nv = (n : Int)) (hn : n ≤ es.length) (hf : n < f0) :
    Calls Tryd.prog 39 #[.iface 87 (.pointer (some ⟨Q, 0, none⟩)), .int .i64 0, .int .i64 nv] w fun e w' => ∃ b, e = .returned (.bool b) ∧ PQ w0 w' Q x y z u o v (down (enLt o) f0 0 n es) ∧ QRel Q w v w' v := by
  subst env
  have HH := Lib.hid h
  have hfew := h.few
  generalize hF : down (enLt o) f0 0 n es = F
  have HF := Lib.hid hF
  have HFF := Lib.hid hf
  generalize hN : es.length = N at *
  have HN := Lib.hid hN
  have m1 := mLess
  have m2 := mSwap
  clear h hF hf hN
  go_enter Tryd.func39, Tryd.ntmps39
  go_wp2
  go_loopw [7] (fun iv wr => ∃ (i f : Nat) (l : List En), iv = .int .i64 i ∧ l.length = N ∧ i ≤ n ∧ n < i + f ∧ down (enLt o) f i n l = F ∧ PQ w0 wr Q x y z u o v l ∧ QRel Q w v wr v) (fun iv _ => n - (intOf iv).toNat)
  case atStart => exact ⟨0, f0, es, rfl, HN.out, Nat.zero_le _, by have := HFF.out; omega, HF.out, HH.out, QRel.bel (Bel.refl _) v⟩
  case round =>
    obtain ⟨i, f, l, rfl, hlN, hin, hif, hdn, hpq, hrel⟩ := hrel
    have HP := Lib.hid hpq
    have HR := Lib.hid hrel
    have HD := Lib.hid hdn
    clear hpq hrel hdn HH HF HFF HN
    obtain ⟨f, rfl⟩ : ∃ f', f = f' + 1 := ⟨f - 1, by omega⟩
    by_cases h0 : n ≤ 2 * i + 1
    · have c0 : (n : Int) ≤ 2 * (i : Int) + 1 := by omega
      have hd := HD.out
      rw [down, if_pos h0] at hd
      have HD2 := Lib.hid hd
      clear hd
      go_wp2
      go_ret
      rw [← HD2.out]
      exact ⟨_, rfl, HP.out, HR.out⟩
    · have c0 : ¬ (n : Int) ≤ 2 * (i : Int) + 1 := by omega
      have c1 : ¬ 2 * (i : Int) + 1 < 0 := by omega
      have hd := HD.out
      rw [down, if_neg h0] at hd
      by_cases h2 : 2 * i + 2 < n
      · have c2 : 2 * (i : Int) + 1 + 1 < (n : Int) := by omega
        rcases bool_cases (ltAt (enLt o) l (2 * i + 2) (2 * i + 1)) with hk | hk
        · have hkid : kidAt (enLt o) i n l = 2 * i + 2 := by unfold kidAt; rw [if_pos ⟨h2, hk⟩]
          rw [hkid] at hd
          have HK := Lib.hid hk
          clear hk hkid
          rcases bool_cases (ltAt (enLt o) l (2 * i + 2) i) with hb | hb
          · rw [hb, if_pos rfl] at hd
            have HD2 := Lib.hid hd
            have HB := Lib.hid hb
            clear hb hd
            go_wp2_with (first
              | (go_at_call 71; (with_reducible refine (swap_h Q7.out i (2 * i + 2) _ _ ?ei ?ej ?hi ?hj).mono ?_); (case ei => omega); (case ej => omega); (case hi => omega); (case hj => omega); rintro e w8 ⟨rfl, hq1, hr1⟩; have Q8 := Lib.hid hq1; have R8 := Lib.hid hr1; clear hq1 hr1)
              | (go_at_call 68; (with_reducible refine (less_h Q5.out (2 * i + 2) i _ _ ?ei ?ej ?hi ?hj _ HB.out).mono ?_); (case ei => omega); (case ej => omega); (case hi => omega); (case hj => omega); rintro e w7 ⟨rfl, hq1, hr1⟩; have Q7 := Lib.hid hq1; have R7 := Lib.hid hr1; clear hq1 hr1)
              | (go_at_call 68; (with_reducible refine (less_h HP.out (2 * i + 2) (2 * i + 1) _ _ ?ei ?ej ?hi ?hj _ HK.out).mono ?_); (case ei => omega); (case ej => omega); (case hi => omega); (case hj => omega); rintro e w5 ⟨rfl, hq1, hr1⟩; have Q5 := Lib.hid hq1; have R5 := Lib.hid hr1; clear hq1 hr1))
            go_roundw
            case rel => exact ⟨2 * i + 2, f, swapAt l i (2 * i + 2), by go_num, by rw [swapAt_len]; exact hlN, by omega, by omega, HD2.out, Q8.out, ((HR.out.trans R5.out).trans R7.out).trans R8.out⟩
            case measure => simp [intOf]; omega
          · rw [hb, if_neg (by simp)] at hd
            have HD2 := Lib.hid hd
            have HB := Lib.hid hb
            clear hb hd
            go_wp2_with (first
              | (go_at_call 68; (with_reducible refine (less_h Q5.out (2 * i + 2) i _ _ ?ei ?ej ?hi ?hj _ HB.out).mono ?_); (case ei => omega); (case ej => omega); (case hi => omega); (case hj => omega); rintro e w7 ⟨rfl, hq1, hr1⟩; have Q7 := Lib.hid hq1; have R7 := Lib.hid hr1; clear hq1 hr1)
              | (go_at_call 68; (with_reducible refine (less_h HP.out (2 * i + 2) (2 * i + 1) _ _ ?ei ?ej ?hi ?hj _ HK.out).mono ?_); (case ei => omega); (case ej => omega); (case hi => omega); (case hj => omega); rintro e w5 ⟨rfl, hq1, hr1⟩; have Q5 := Lib.hid hq1; have R5 := Lib.hid hr1; clear hq1 hr1))
            go_ret
            rw [← HD2.out]
            exact ⟨_, rfl, Q7.out, ((HR.out.trans R5.out).trans R7.out)⟩
        · have hkid : kidAt (enLt o) i n l = 2 * i + 1 := by unfold kidAt; rw [if_neg (by rw [hk]; simp)]
          rw [hkid] at hd
          have HK := Lib.hid hk
          clear hk hkid
          rcases bool_cases (ltAt (enLt o) l (2 * i + 1) i) with hb | hb
          · rw [hb, if_pos rfl] at hd
            have HD2 := Lib.hid hd
            have HB := Lib.hid hb
            clear hb hd
            go_wp2_with (first
              | (go_at_call 71; (with_reducible refine (swap_h Q7.out i (2 * i + 1) _ _ ?ei ?ej ?hi ?hj).mono ?_); (case ei => omega); (case ej => omega); (case hi => omega); (case hj => omega); rintro e w8 ⟨rfl, hq1, hr1⟩; have Q8 := Lib.hid hq1; have R8 := Lib.hid hr1; clear hq1 hr1)
              | (go_at_call 68; (with_reducible refine (less_h Q5.out (2 * i + 1) i _ _ ?ei ?ej ?hi ?hj _ HB.out).mono ?_); (case ei => omega); (case ej => omega); (case hi => omega); (case hj => omega); rintro e w7 ⟨rfl, hq1, hr1⟩; have Q7 := Lib.hid hq1; have R7 := Lib.hid hr1; clear hq1 hr1)
              | (go_at_call 68; (with_reducible refine (less_h HP.out (2 * i + 2) (2 * i + 1) _ _ ?ei ?ej ?hi ?hj _ HK.out).mono ?_); (case ei => omega); (case ej => omega); (case hi => omega); (case hj => omega); rintro e w5 ⟨rfl, hq1, hr1⟩; have Q5 := Lib.hid hq1; have R5 := Lib.hid hr1; clear hq1 hr1))
            go_roundw
            case rel => exact ⟨2 * i + 1, f, swapAt l i (2 * i + 1), by go_num, by rw [swapAt_len]; exact hlN, by omega, by omega, HD2.out, Q8.out, ((HR.out.trans R5.out).trans R7.out).trans R8.out⟩
            case measure => simp [intOf]; omega
          · rw [hb, if_neg (by simp)] at hd
            have HD2 := Lib.hid hd
            have HB := Lib.hid hb
            clear hb hd
            go_wp2_with (first
              | (go_at_call 68; (with_reducible refine (less_h Q5.out (2 * i + 1) i _ _ ?ei ?ej ?hi ?hj _ HB.out).mono ?_); (case ei => omega); (case ej => omega); (case hi => omega); (case hj => omega); rintro e w7 ⟨rfl, hq1, hr1⟩; have Q7 := Lib.hid hq1; have R7 := Lib.hid hr1; clear hq1 hr1)
              | (go_at_call 68; (with_reducible refine (less_h HP.out (2 * i + 2) (2 * i + 1) _ _ ?ei ?ej ?hi ?hj _ HK.out).mono ?_); (case ei => omega); (case ej => omega); (case hi => omega); (case hj => omega); rintro e w5 ⟨rfl, hq1, hr1⟩; have Q5 := Lib.hid hq1; have R5 := Lib.hid hr1; clear hq1 hr1))
            go_ret
            rw [← HD2.out]
            exact ⟨_, rfl, Q7.out, ((HR.out.trans R5.out).trans R7.out)⟩
      · have c2 : ¬ 2 * (i : Int) + 1 + 1 < (n : Int) := by omega
        have hkid : kidAt (enLt o) i n l = 2 * i + 1 := by unfold kidAt; rw [if_neg (by omega)]
        rw [hkid] at hd
        clear hkid
        rcases bool_cases (ltAt (enLt o) l (2 * i + 1) i) with hb | hb
        · rw [hb, if_pos rfl] at hd
          have HD2 := Lib.hid hd
          have HB := Lib.hid hb
          clear hb hd
          go_wp2_with (first
            | (go_at_call 71; (with_reducible refine (swap_h Q7.out i (2 * i + 1) _ _ ?ei ?ej ?hi ?hj).mono ?_); (case ei => omega); (case ej => omega); (case hi => omega); (case hj => omega); rintro e w8 ⟨rfl, hq1, hr1⟩; have Q8 := Lib.hid hq1; have R8 := Lib.hid hr1; clear hq1 hr1)
            | (go_at_call 68; (with_reducible refine (less_h HP.out (2 * i + 1) i _ _ ?ei ?ej ?hi ?hj _ HB.out).mono ?_); (case ei => omega); (case ej => omega); (case hi => omega); (case hj => omega); rintro e w7 ⟨rfl, hq1, hr1⟩; have Q7 := Lib.hid hq1; have R7 := Lib.hid hr1; clear hq1 hr1))
          go_roundw
          case rel => exact ⟨2 * i + 1, f, swapAt l i (2 * i + 1), by go_num, by rw [swapAt_len]; exact hlN, by omega, by omega, HD2.out, Q8.out, (HR.out.trans R7.out).trans R8.out⟩
          case measure => simp [intOf]; omega
        · rw [hb, if_neg (by simp)] at hd
          have HD2 := Lib.hid hd
          have HB := Lib.hid hb
          clear hb hd
          go_wp2_with (first
            | (go_at_call 68; (with_reducible refine (less_h HP.out (2 * i + 1) i _ _ ?ei ?ej ?hi ?hj _ HB.out).mono ?_); (case ei => omega); (case ej => omega); (case hi => omega); (case hj => omega); rintro e w7 ⟨rfl, hq1, hr1⟩; have Q7 := Lib.hid hq1; have R7 := Lib.hid hr1; clear hq1 hr1))
          go_ret
          rw [← HD2.out]
          exact ⟨_, rfl, Q7.out, (HR.out.trans R7.out)⟩
end Go.Proofs.YtdfamnlmhikolaaDoor
