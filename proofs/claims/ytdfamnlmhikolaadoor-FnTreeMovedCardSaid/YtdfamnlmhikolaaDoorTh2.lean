/-
  heap.Push, heap.Pop over the queue of a search by distance, and the closure that puts a node's entries there. No panic; nothing but the queue and its row has turned.
-/
import Derived.Test.YtdfamnlmhikolaaDoorTh
set_option linter.unusedVariables false
namespace Go.Proofs.YtdfamnlmhikolaaDoor
open Go.ChangeShapes Go.WideShapes Go.ChangeAt Go.RowKit
set_option maxHeartbeats 2000000 in
set_option maxRecDepth 100000 in
theorem heapPush_any {w0 w : World} {Q x y z u : Nat} {o : Bx} {v : Value} {es : List En} (h : PQ w0 w Q x y z u o v es) (k j : Nat) (e0 : En) (he : EnAt w0 (.pointer (some ⟨k, j, none⟩)) e0) (hs : e0.b.Small 1048576) (hf : es.length + 1 ≤ 1000000) :
    Calls Tryd.prog 30 #[.iface 87 (.pointer (some ⟨Q, 0, none⟩)), .iface 88 (.pointer (some ⟨k, j, none⟩))] w fun e w' => ∃ v', e = .returned (.tuple #[]) ∧ PQ w0 w' Q x y z u o v' (push (enLt o) es e0) ∧ QRel Q w v w' v' := by
  have HH := Lib.hid h
  have HE := Lib.hid he
  have HS := Lib.hid hs
  have m1 := mLen
  have m2 := mPush
  have hl : (es ++ [e0]).length = es.length + 1 := by simp
  have HL := Lib.hid hl
  clear h he hs hl
  go_enter Tryd.func30, Tryd.ntmps30
  go_wp2_with (first
    | (go_at_call 70; (with_reducible refine (pushQ_any HH.out k j e0 HE.out HS.out hf).mono ?_); rintro e w1 ⟨v1, rfl, hq1, hr1⟩; have Q1 := Lib.hid hq1; have R1 := Lib.hid hr1; clear hq1 hr1)
    | (go_at_call 67; (with_reducible refine (len_any Q1.out).mono ?_); rw [HL.out]; rintro e w2 ⟨rfl, rfl⟩)
    | (go_at_call 38; (with_reducible refine (up_any Q1.out es.length (es.length + 1) _ ?ej ?hj ?hf).mono ?_); (case ej => omega); (case hj => (rw [HL.out]; omega)); (case hf => omega); rintro e w3 ⟨rfl, hq3, hr3⟩; have Q3 := Lib.hid hq3; have R3 := Lib.hid hr3; clear hq3 hr3))
  go_end0
  exact ⟨v1, rfl, Q3.out, R1.out.trans R3.out⟩
set_option maxHeartbeats 2000000 in
set_option maxRecDepth 100000 in
theorem heapPop_any {w0 w : World} {Q x y z u : Nat} {o : Bx} {v : Value} {es : List En} (h : PQ w0 w Q x y z u o v es) (m : Nat) (hm : es.length = m + 1) :
    Calls Tryd.prog 31 #[.iface 87 (.pointer (some ⟨Q, 0, none⟩))] w fun e w' => ∃ pv v' e0, e = .returned (.iface 88 pv) ∧ (sunk (enLt o) es)[m]? = some e0 ∧ EnAt w0 pv e0 ∧ PQ w0 w' Q x y z u o v' ((sunk (enLt o) es).take m) ∧ QRel Q w v w' v' := by
  have HH := Lib.hid h
  have m1 := mLen
  have m2 := mSwap
  have m3 := mPop
  have hsl := sunk_len (enLt o) es
  obtain ⟨e0, he0⟩ : ∃ e0, (sunk (enLt o) es)[m]? = some e0 := ⟨_, List.getElem?_eq_getElem (by omega)⟩
  have hsk : down (enLt o) es.length 0 m (swapAt es 0 m) = sunk (enLt o) es := by
    unfold sunk
    rw [hm]
    rfl
  have HSK := Lib.hid hsk
  have HSL := Lib.hid hsl
  have HE0 := Lib.hid he0
  have hfew := h.few
  have hml : (swapAt es 0 m).length = m + 1 := by rw [swapAt_len, hm]
  have HML := Lib.hid hml
  have HM := Lib.hid hm
  have hmi : (es.length : Int) - 1 = (m : Int) := by omega
  clear h hsl he0 hsk hml hm
  go_enter Tryd.func31, Tryd.ntmps31
  go_wp2_with (first
    | (go_at_call 67; (with_reducible refine (len_any HH.out).mono ?_); rintro e w2 ⟨rfl, rfl⟩)
    | (go_at_call 71; (with_reducible refine (swap_h HH.out 0 m _ _ ?ei ?ej ?hi ?hj).mono ?_); (case ei => omega); (case ej => omega); (case hi => (have := HM.out; omega)); (case hj => (have := HM.out; omega)); rintro e w3 ⟨rfl, hq1, hr1⟩; have Q3 := Lib.hid hq1; have R3 := Lib.hid hr1; clear hq1 hr1)
    | (go_at_call 39; (with_reducible refine (down_any Q3.out m es.length _ ?en ?hn ?hf).mono ?_); (case en => omega); (case hn => (rw [HML.out]; omega)); (case hf => (have := HM.out; omega)); rintro e w4 ⟨b4, rfl, hq4, hr4⟩; rw [HSK.out] at hq4; have Q4 := Lib.hid hq4; have R4 := Lib.hid hr4; clear hq4 hr4)
    | (go_at_call 69; (with_reducible refine (popQ_any Q4.out m ?hm e0 HE0.out).mono ?_); (case hm => (rw [HSL.out]; exact HM.out)); rintro e w5 ⟨pv, v5, rfl, hen, hq5, hr5⟩; have Q5 := Lib.hid hq5; have R5 := Lib.hid hr5; have HEN := Lib.hid hen; clear hq5 hr5 hen))
  go_ret
  exact ⟨pv, v5, e0, rfl, HE0.out, HEN.out, Q5.out, (R3.out.trans R4.out).trans R5.out⟩
theorem push_small {o : Bx} {es : List En} {e0 : En} : (push (enLt o) es e0).length = es.length + 1 := push_len _ _ _
def Tr.Sm : Tr → Prop
  | .nil => True
  | .item b _ r => b.Small 1048576 ∧ r.Sm
  | .sub b k r => b.Small 1048576 ∧ k.Sm ∧ r.Sm
set_option maxHeartbeats 2000000 in
set_option maxRecDepth 100000 in
theorem enqueue_any {w0 w : World} {Q x y z u : Nat} {o : Bx} {v : Value} {es : List En} (h : PQ w0 w Q x y z u o v es) (t : Tr) (k : Nat) (hn : IsNode 0 w0 t k) (hs : t.Sm) (hf : es.length + 4 ≤ 1000000) :
    Calls Tryd.prog 29 #[.pointer (some ⟨k, 0, none⟩), .pointer (some ⟨Q, 0, none⟩)] w fun e w' => ∃ v', e = .returned (.tuple #[]) ∧ PQ w0 w' Q x y z u o v' (enqueue o t es) ∧ QRel Q w v w' v' := by
  have HH := Lib.hid h
  have HNUM := Lib.hid hn.num
  have HENT := Lib.hid hn.ents
  have hle := hn.le
  have HS := Lib.hid hs
  generalize hF : enqueue o t es = F
  have HF := Lib.hid hF
  generalize hN : t.len = n at *
  have HN := Lib.hid hN
  generalize hE : es.length = N at *
  have HE := Lib.hid hE
  clear h hn hs hF hN hE
  go_enter Tryd.func29, Tryd.ntmps29
  go_wp2
  go_loopw [3] (fun iv wr => ∃ (i : Nat) (r : Tr) (l : List En) (v' : Value), iv = .int .i64 i ∧ r.len + i = n ∧ l.length = N + i ∧ NodeAt 0 w0 r k i ∧ r.Sm ∧ enqueue o r l = F ∧ PQ w0 wr Q x y z u o v' l ∧ QRel Q w v wr v') (fun iv _ => n - (intOf iv).toNat)
  case atStart => exact ⟨0, t, es, v, rfl, by have := HN.out; omega, by have := HE.out; omega, HENT.out, HS.out, HF.out, HH.out, QRel.bel (Bel.refl _) v⟩
  case round =>
    obtain ⟨i, r, l, v', rfl, hri, hl, hna, hsm, hen, hpq, hrel⟩ := hrel
    have HP := Lib.hid hpq
    have HR := Lib.hid hrel
    have HEN := Lib.hid hen
    have hnum := (hpq.below.cell (World.block_lt_of_cell? w0 _ HNUM.out)).trans HNUM.out
    have hkl := World.block_lt_of_cell? wr _ hnum
    simp only at hkl
    have HNA := Lib.hid hna
    have HSM := Lib.hid hsm
    clear hpq hrel hen hna hsm HH HS HF HENT HE HN
    cases r with
    | nil =>
      have hin : ¬ (i : Int) < (n : Int) := by simp only [Tr.len] at hri; omega
      go_wp2
      go_end0
      rw [← HEN.out]
      exact ⟨rfl, v', HP.out, HR.out⟩
    | item b id r =>
      have hin : (i : Int) < (n : Int) := by simp only [Tr.len] at hri; omega
      have hi4 : (i : Int) < 4 := by omega
      go_wp2_with (first
        | (go_at_call 30; (with_reducible refine (heapPush_any HP.out k (i * 6) ⟨b, none, id⟩ ?he ?hs ?hf).mono ?_); (case he => exact ⟨k, i, rfl, HNA.out.1⟩); (case hs => exact HSM.out.1); (case hf => omega); rintro e w1 ⟨v1, rfl, hq1, hr1⟩; have Q1 := Lib.hid hq1; have R1 := Lib.hid hr1; clear hq1 hr1))
      go_roundw
      case rel => exact ⟨i + 1, r, push (enLt o) l ⟨b, none, id⟩, v1, by go_num, by simp only [Tr.len] at hri; omega, by rw [push_len]; omega, HNA.out.2, HSM.out.2, HEN.out, Q1.out, HR.out.trans R1.out⟩
      case measure => simp [intOf]; omega
    | sub b kid r =>
      have hin : (i : Int) < (n : Int) := by simp only [Tr.len] at hri; omega
      have hi4 : (i : Int) < 4 := by omega
      go_wp2_with (first
        | (go_at_call 30; (with_reducible refine (heapPush_any HP.out k (i * 6) ⟨b, some kid, 0⟩ ?he ?hs ?hf).mono ?_); (case he => (obtain ⟨⟨c, _, h1, h2, h3, h4, h5⟩, _⟩ := HNA.out; exact ⟨k, i, rfl, c, h1, h2, h3, h4, Nat.zero_le _, h5⟩)); (case hs => exact HSM.out.1); (case hf => omega); rintro e w1 ⟨v1, rfl, hq1, hr1⟩; have Q1 := Lib.hid hq1; have R1 := Lib.hid hr1; clear hq1 hr1))
      go_roundw
      case rel => exact ⟨i + 1, r, push (enLt o) l ⟨b, some kid, 0⟩, v1, by go_num, by simp only [Tr.len] at hri; omega, by rw [push_len]; omega, HNA.out.2, HSM.out.2.2, HEN.out, Q1.out, HR.out.trans R1.out⟩
      case measure => simp [intOf]; omega
end Go.Proofs.YtdfamnlmhikolaaDoor
