/-
  quickPartition: what it makes of a row of items. No panic; nothing but the row has turned.
-/
import Derived.Test.YtdfamnlmhikolaaDoorTq
namespace Go.Proofs.YtdfamnlmhikolaaDoor
open Go.ChangeShapes Go.WideShapes Go.ChangeAt Go.RowKit
/-- The partition's state: the row, and its own three cells. -/
structure QSt (w0 w : World) (g lo n cap : Nat) (h : Bool) (s : Nat) (A l C : List It) : Prop where
  grown : w0.grownBy w (some g)
  row : ItBlk w g (A ++ l ++ C)
  b1 : Blk w w0.heap.size #[.slice (some ⟨g, lo * 5, none⟩) n cap] 50
  b2 : Blk w (w0.heap.size + 1) #[.bool h] 4
  b3 : Blk w (w0.heap.size + 1 + 1) #[.int .u32 s] 124
  len : l.length = n
  alen : A.length = lo
  small : ∀ t ∈ A ++ l ++ C, t.b.Small 1048576
  hs : s < 4294967296
  hg : g < w0.heap.size
  hn : n ≤ 100000
theorem QSt.bel {w0 w w' : World} {g lo n cap s : Nat} {h : Bool} {A l C : List It} (q : QSt w0 w g lo n cap h s A l C) (hb : Bel w w') : QSt w0 w' g lo n cap h s A l C :=
  ⟨q.grown.trans (World.grownBy.of_bel hb _), q.row.bel hb, q.b1.bel hb, q.b2.bel hb, q.b3.bel hb, q.len, q.alen, q.small, q.hs, q.hg, q.hn⟩
theorem QSt.swapped {w0 w w' : World} {g lo n cap s : Nat} {h : Bool} {A l C : List It} (q : QSt w0 w g lo n cap h s A l C) {i j : Nat} (hi : i < n) (hj : j < n) (hb : w.grownBy w' (some g)) (hr : ItBlk w' g (swapAt (A ++ l ++ C) (lo + i) (lo + j))) : QSt w0 w' g lo n cap h s A (swapAt l i j) C := by
  have hg := q.hg
  have e : swapAt (A ++ l ++ C) (lo + i) (lo + j) = A ++ swapAt l i j ++ C := by
    rw [← q.alen]
    exact mid_swap A l C (by rw [q.len]; exact hi) (by rw [q.len]; exact hj)
  rw [e] at hr
  refine ⟨q.grown.trans hb, hr, grownBy_blk hb q.b1 (by simp; omega), grownBy_blk hb q.b2 (by simp; omega), grownBy_blk hb q.b3 (by simp; omega), (swapAt_len _ _ _).trans q.len, q.alen, ?_, q.hs, q.hg, q.hn⟩
  rw [← e]
  exact swapAt_mem _ _ q.small
theorem QSt.rnd {w0 w w' : World} {g lo n cap s s' : Nat} {h : Bool} {A l C : List It} (q : QSt w0 w g lo n cap h s A l C) (hw : w' = w.setCell ⟨w0.heap.size + 1 + 1, 0, none⟩ (.int .u32 s')) (hs : s' < 4294967296) : QSt w0 w' g lo n cap h s' A l C := by
  have hg := q.hg
  subst hw
  refine ⟨⟨q.grown.os, q.grown.tape, q.grown.output, by simpa using q.grown.size, fun k hk hne => ?_⟩, ?_, q.b1.other (by simp; omega) _, q.b2.other (by simp) _, (q.b3.set 0 _).cast (by simp), q.len, q.alen, q.small, hs, q.hg, q.hn⟩
  · rw [Below.heap_setCell _ _ _ _ (by simp; omega)]
    exact q.grown.block k hk hne
  · obtain ⟨cs, hb, hc⟩ := q.row
    exact ⟨cs, hb.other (by simp; omega) _, hc⟩
theorem QSt.same {w0 w : World} {g lo n cap s : Nat} {h : Bool} {A l l' C : List It} (q : QSt w0 w g lo n cap h s A l C) (e : l = l') : QSt w0 w g lo n cap h s A l' C := e ▸ q
theorem less_q {w0 w : World} {g lo n cap s : Nat} {h : Bool} {A l C : List It} (q : QSt w0 w g lo n cap h s A l C) (i j : Nat) (iv jv : Int) (ei : iv = (i : Int)) (ej : jv = (j : Int)) (hi : i < n) (hj : j < n) (B : Bool) (hB : ltAt (itLt h) l i j = B) :
    Calls Tryd.prog 46 #[.int .i64 iv, .int .i64 jv, .pointer (some ⟨w0.heap.size, 0, none⟩), .pointer (some ⟨w0.heap.size + 1, 0, none⟩)] w fun e w' => e = .returned (.bool B) ∧ QSt w0 w' g lo n cap h s A l C := by
  subst ei ej hB
  have e1 : l[i]? = some (l[i]'(by rw [q.len]; exact hi)) := List.getElem?_eq_getElem _
  have e2 : l[j]? = some (l[j]'(by rw [q.len]; exact hj)) := List.getElem?_eq_getElem _
  have g1 := mid_get A l C (i := i) (by rw [q.len]; exact hi)
  have g2 := mid_get A l C (i := j) (by rw [q.len]; exact hj)
  rw [q.alen] at g1 g2
  rw [ltAt_some e1 e2]
  exact (less_any g lo n cap i j _ _ h (A ++ l ++ C) _ _ q.small (g1.trans e1) (g2.trans e2) hi hj q.hn w q.b1 q.b2 q.row).mono fun e w' k => ⟨k.1, q.bel k.2⟩
theorem swap_q {w0 w : World} {g lo n cap s : Nat} {h : Bool} {A l C : List It} (q : QSt w0 w g lo n cap h s A l C) (i j : Nat) (iv jv : Int) (ei : iv = (i : Int)) (ej : jv = (j : Int)) (hi : i < n) (hj : j < n) :
    Calls Tryd.prog 47 #[.int .i64 iv, .int .i64 jv, .pointer (some ⟨w0.heap.size, 0, none⟩)] w fun e w' => e = .returned (.tuple #[]) ∧ QSt w0 w' g lo n cap h s A (swapAt l i j) C := by
  subst ei ej
  have hg := q.hg
  have e1 : l[i]? = some (l[i]'(by rw [q.len]; exact hi)) := List.getElem?_eq_getElem _
  have e2 : l[j]? = some (l[j]'(by rw [q.len]; exact hj)) := List.getElem?_eq_getElem _
  have g1 := mid_get A l C (i := i) (by rw [q.len]; exact hi)
  have g2 := mid_get A l C (i := j) (by rw [q.len]; exact hj)
  rw [q.alen] at g1 g2
  exact (swap_any g lo n cap i j _ (A ++ l ++ C) _ _ (g1.trans e1) (g2.trans e2) hi hj q.hn w q.b1 q.row (by omega)).mono fun e w' k => ⟨k.1, q.swapped hi hj k.2.1 k.2.2⟩
theorem rnd_q {w0 w : World} {g lo n cap s : Nat} {h : Bool} {A l C : List It} (q : QSt w0 w g lo n cap h s A l C) (m : Nat) (mv : Int) (em : mv = (m : Int)) (hm : m ≤ 100000) :
    Calls Tryd.prog 45 #[.int .i64 mv, .pointer (some ⟨w0.heap.size + 1 + 1, 0, none⟩)] w fun e w' => e = .returned (.int .i64 (pick (nextRnd s) m : Nat)) ∧ QSt w0 w' g lo n cap h (nextRnd s) A l C := by
  subst em
  exact (rnd_any m s _ hm q.hs w q.b3).mono fun e w' k => ⟨k.1, q.rnd k.2 (Nat.mod_lt _ (by decide))⟩
theorem pick_lt {r m : Nat} (hr : r < 4294967296) (hm : 0 < m) : pick r m < m := by
  unfold pick
  rw [Nat.div_lt_iff_lt_mul (by decide), Nat.mul_comm m]
  exact Nat.mul_lt_mul_of_pos_right hr hm

set_option maxHeartbeats 4000000 in
set_option maxRecDepth 100000 in
theorem quick_any (g lo n cap k0 : Nat) (h : Bool) (A l0 C : List It) (hA : A.length = lo) (hl : l0.length = n) (hk : k0 < n) (hn : n ≤ 100000) (hm : ∀ t ∈ A ++ l0 ++ C, t.b.Small 1048576) (w : World) (hL : ItBlk w g (A ++ l0 ++ C)) :
    Calls Tryd.prog 42 #[.slice (some ⟨g, lo * 5, none⟩) n cap, .int .i64 k0, .bool h] w fun e w' => e = .returned (.tuple #[]) ∧ w.grownBy w' (some g) ∧ ItBlk w' g (A ++ qp (itLt h) n 0 (n - 1) k0 0 l0 ++ C) := by
  have hg := hL.lt
  have hQ : Hid (QSt w (((w.alloc (.cells #[.slice (some ⟨g, lo * 5, none⟩) n cap] 50)).alloc (.cells #[.bool h] 4)).alloc (.cells #[.int .u32 0] 124)) g lo n cap h 0 A l0 C) := by
    refine Lib.hid ⟨World.grownBy.of_bel ?_ _, ((hL.bel (Bel.alloc1 _ _)).bel (Bel.alloc1 _ _)).bel (Bel.alloc1 _ _), ?_, ?_, ?_, hl, hA, hm, by decide, hg, hn⟩
    · (repeat (first | with_reducible assumption | with_reducible exact Bel.refl _ | with_reducible apply Bel.alloc | with_reducible apply Bel.drew | with_reducible apply Bel.drewN | ((with_reducible apply Bel.setCellR); (simp <;> omega)) | with_reducible refine Bel.behind (by with_reducible assumption) ?_))
    · exact ((Blk.new w _ _).alloc _).alloc _
    · exact (Blk.new' _ _ _ (by simp)).alloc _
    · exact Blk.new' _ _ _ (by simp)
  generalize hF : qp (itLt h) n 0 (n - 1) k0 0 l0 = F
  have HF := Lib.hid hF
  clear hF hm hL hl hA
  have hmf : ∀ (fn : Fn) (first cap : Array Value) (w : World), (Instr.makeFunc fn first cap).run Tryd.prog w = .ok (.func fn first cap) w := fun _ _ _ _ => rfl
  go_enter Tryd.func42, Tryd.ntmps42
  go_wp2
  go_quiet (fail)
  go_wp2
  go_loopw [1, 10, 11] (fun kv lv rv wr => ∃ (f left right k s : Nat) (l : List It), kv = .int .i64 k ∧ lv = .int .i64 left ∧ rv = .int .i64 right ∧ right < left + f ∧ left + k ≤ right ∧ right < n ∧ qp (itLt h) f left right k s l = F ∧ QSt w wr g lo n cap h s A l C) (fun _ lv rv _ => (intOf rv).toNat - (intOf lv).toNat)
  case atStart => exact ⟨n, 0, n - 1, k0, 0, l0, rfl, rfl, by go_num, by omega, by omega, by omega, HF.out, hQ.out.bel (by (repeat (first | with_reducible assumption | with_reducible exact Bel.refl _ | with_reducible apply Bel.alloc | with_reducible apply Bel.drew | with_reducible apply Bel.drewN | ((with_reducible apply Bel.setCellR); (simp <;> omega)) | with_reducible refine Bel.behind (by with_reducible assumption) ?_)))⟩
  case round =>
    obtain ⟨f, left, right, k, s, l, rfl, rfl, rfl, hf, hlk, hrn, hqp, hq⟩ := hrel
    have Q0 := Lib.hid hq
    have HP := Lib.hid hqp
    clear hq hqp hQ HF
    obtain ⟨f, rfl⟩ : ∃ f', f = f' + 1 := ⟨f - 1, by omega⟩
    by_cases h1 : right = left + 1
    · subst h1
      have h2a : ((left + 1 : Nat) : Int) - (left : Int) = 1 := by omega
      have hqe : qp (itLt h) (f + 1) left (left + 1) k s l = two (itLt h) l (left + 1) left := by
        rw [qp, if_pos rfl]
      have hrr := hqe.symm.trans HP.out
      unfold two at hrr
      rcases bool_cases (ltAt (itLt h) l (left + 1) left) with hb | hb
      · rw [hb, if_pos rfl] at hrr
        have HB := Lib.hid hb
        have HRR := Lib.hid hrr
        clear hb hrr hqe HP
        go_wp2_with (first
          | (go_at_call 46; (with_reducible refine (less_q Q0.out (left + 1) left _ _ ?ei ?ej ?hi ?hj _ HB.out).mono ?_); (case ei => omega); (case ej => omega); (case hi => omega); (case hj => omega); rintro e w5 ⟨rfl, hq1⟩; have Q5 := Lib.hid hq1; clear hq1)
          | (go_at_call 47; (with_reducible refine (swap_q Q5.out (left + 1) left _ _ ?ei ?ej ?hi ?hj).mono ?_); (case ei => omega); (case ej => omega); (case hi => omega); (case hj => omega); rintro e w6 ⟨rfl, hq1⟩; have Q6 := Lib.hid hq1; clear hq1))
        refine post_ret (results_none rfl _ _ _) ?_
        exact ⟨rfl, Q6.out.grown, by rw [← HRR.out]; exact Q6.out.row⟩
      · rw [hb, if_neg (by simp)] at hrr
        have HB := Lib.hid hb
        have HRR := Lib.hid hrr
        clear hb hrr hqe HP
        go_wp2_with (first
          | (go_at_call 46; (with_reducible refine (less_q Q0.out (left + 1) left _ _ ?ei ?ej ?hi ?hj _ HB.out).mono ?_); (case ei => omega); (case ej => omega); (case hi => omega); (case hj => omega); rintro e w5 ⟨rfl, hq1⟩; have Q5 := Lib.hid hq1; clear hq1))
        refine post_ret (results_none rfl _ _ _) ?_
        exact ⟨rfl, Q5.out.grown, by rw [← HRR.out]; exact Q5.out.row⟩
    · by_cases h2 : right = left + 2
      · subst h2
        have n1 : ¬ ((left + 2 : Nat) : Int) - (left : Int) = 1 := by omega
        have n2 : ((left + 2 : Nat) : Int) - (left : Int) = 2 := by omega
        have hqe : qp (itLt h) (f + 1) left (left + 2) k s l = three (itLt h) l left := by
          rw [qp, if_neg h1, if_pos rfl]
        have hrr := hqe.symm.trans HP.out
        clear hqe HP
        unfold three two at hrr
        rcases bool_cases (ltAt (itLt h) l (left + 1) left) with ha | ha
        · rw [ha] at hrr
          simp only [if_true] at hrr
          rcases bool_cases (ltAt (itLt h) (swapAt l (left + 1) left) (left + 2) (left + 1)) with hb | hb
          · rw [hb] at hrr
            simp only [if_true] at hrr
            rcases bool_cases (ltAt (itLt h) (swapAt (swapAt l (left + 1) left) (left + 2) (left + 1)) (left + 1) left) with hc | hc
            · rw [hc] at hrr
              simp only [if_true] at hrr
              have HA := Lib.hid ha
              have HB := Lib.hid hb
              have HC := Lib.hid hc
              have HRR := Lib.hid hrr
              clear hrr ha hb hc
              go_wp2_with (first
                | (go_at_call 47; (with_reducible refine (swap_q Q9.out (left + 1) left _ _ ?ei ?ej ?hi ?hj).mono ?_); (case ei => omega); (case ej => omega); (case hi => omega); (case hj => omega); rintro e w10 ⟨rfl, hq1⟩; have Q10 := Lib.hid hq1; clear hq1)
                | (go_at_call 46; (with_reducible refine (less_q Q8.out (left + 1) left _ _ ?ei ?ej ?hi ?hj _ HC.out).mono ?_); (case ei => omega); (case ej => omega); (case hi => omega); (case hj => omega); rintro e w9 ⟨rfl, hq1⟩; have Q9 := Lib.hid hq1; clear hq1)
                | (go_at_call 47; (with_reducible refine (swap_q Q7.out (left + 2) (left + 1) _ _ ?ei ?ej ?hi ?hj).mono ?_); (case ei => omega); (case ej => omega); (case hi => omega); (case hj => omega); rintro e w8 ⟨rfl, hq1⟩; have Q8 := Lib.hid hq1; clear hq1)
                | (go_at_call 46; (with_reducible refine (less_q Q6.out (left + 2) (left + 1) _ _ ?ei ?ej ?hi ?hj _ HB.out).mono ?_); (case ei => omega); (case ej => omega); (case hi => omega); (case hj => omega); rintro e w7 ⟨rfl, hq1⟩; have Q7 := Lib.hid hq1; clear hq1)
                | (go_at_call 47; (with_reducible refine (swap_q Q5.out (left + 1) left _ _ ?ei ?ej ?hi ?hj).mono ?_); (case ei => omega); (case ej => omega); (case hi => omega); (case hj => omega); rintro e w6 ⟨rfl, hq1⟩; have Q6 := Lib.hid hq1; clear hq1)
                | (go_at_call 46; (with_reducible refine (less_q Q0.out (left + 1) left _ _ ?ei ?ej ?hi ?hj _ HA.out).mono ?_); (case ei => omega); (case ej => omega); (case hi => omega); (case hj => omega); rintro e w5 ⟨rfl, hq1⟩; have Q5 := Lib.hid hq1; clear hq1))
              refine post_ret (results_none rfl _ _ _) ?_
              exact ⟨rfl, Q10.out.grown, by rw [← HRR.out]; exact Q10.out.row⟩
            · rw [hc] at hrr
              simp only [Bool.false_eq_true, if_false] at hrr
              have HA := Lib.hid ha
              have HB := Lib.hid hb
              have HC := Lib.hid hc
              have HRR := Lib.hid hrr
              clear hrr ha hb hc
              go_wp2_with (first
                | (go_at_call 46; (with_reducible refine (less_q Q8.out (left + 1) left _ _ ?ei ?ej ?hi ?hj _ HC.out).mono ?_); (case ei => omega); (case ej => omega); (case hi => omega); (case hj => omega); rintro e w9 ⟨rfl, hq1⟩; have Q9 := Lib.hid hq1; clear hq1)
                | (go_at_call 47; (with_reducible refine (swap_q Q7.out (left + 2) (left + 1) _ _ ?ei ?ej ?hi ?hj).mono ?_); (case ei => omega); (case ej => omega); (case hi => omega); (case hj => omega); rintro e w8 ⟨rfl, hq1⟩; have Q8 := Lib.hid hq1; clear hq1)
                | (go_at_call 46; (with_reducible refine (less_q Q6.out (left + 2) (left + 1) _ _ ?ei ?ej ?hi ?hj _ HB.out).mono ?_); (case ei => omega); (case ej => omega); (case hi => omega); (case hj => omega); rintro e w7 ⟨rfl, hq1⟩; have Q7 := Lib.hid hq1; clear hq1)
                | (go_at_call 47; (with_reducible refine (swap_q Q5.out (left + 1) left _ _ ?ei ?ej ?hi ?hj).mono ?_); (case ei => omega); (case ej => omega); (case hi => omega); (case hj => omega); rintro e w6 ⟨rfl, hq1⟩; have Q6 := Lib.hid hq1; clear hq1)
                | (go_at_call 46; (with_reducible refine (less_q Q0.out (left + 1) left _ _ ?ei ?ej ?hi ?hj _ HA.out).mono ?_); (case ei => omega); (case ej => omega); (case hi => omega); (case hj => omega); rintro e w5 ⟨rfl, hq1⟩; have Q5 := Lib.hid hq1; clear hq1))
              refine post_ret (results_none rfl _ _ _) ?_
              exact ⟨rfl, Q9.out.grown, by rw [← HRR.out]; exact Q9.out.row⟩
          · rw [hb] at hrr
            simp only [Bool.false_eq_true, if_false] at hrr
            have HA := Lib.hid ha
            have HB := Lib.hid hb
            have HRR := Lib.hid hrr
            clear hrr ha hb
            go_wp2_with (first
              | (go_at_call 46; (with_reducible refine (less_q Q6.out (left + 2) (left + 1) _ _ ?ei ?ej ?hi ?hj _ HB.out).mono ?_); (case ei => omega); (case ej => omega); (case hi => omega); (case hj => omega); rintro e w7 ⟨rfl, hq1⟩; have Q7 := Lib.hid hq1; clear hq1)
              | (go_at_call 47; (with_reducible refine (swap_q Q5.out (left + 1) left _ _ ?ei ?ej ?hi ?hj).mono ?_); (case ei => omega); (case ej => omega); (case hi => omega); (case hj => omega); rintro e w6 ⟨rfl, hq1⟩; have Q6 := Lib.hid hq1; clear hq1)
              | (go_at_call 46; (with_reducible refine (less_q Q0.out (left + 1) left _ _ ?ei ?ej ?hi ?hj _ HA.out).mono ?_); (case ei => omega); (case ej => omega); (case hi => omega); (case hj => omega); rintro e w5 ⟨rfl, hq1⟩; have Q5 := Lib.hid hq1; clear hq1))
            refine post_ret (results_none rfl _ _ _) ?_
            exact ⟨rfl, Q7.out.grown, by rw [← HRR.out]; exact Q7.out.row⟩
        · rw [ha] at hrr
          simp only [Bool.false_eq_true, if_false] at hrr
          rcases bool_cases (ltAt (itLt h) l (left + 2) (left + 1)) with hb | hb
          · rw [hb] at hrr
            simp only [if_true] at hrr
            rcases bool_cases (ltAt (itLt h) (swapAt l (left + 2) (left + 1)) (left + 1) left) with hc | hc
            · rw [hc] at hrr
              simp only [if_true] at hrr
              have HA := Lib.hid ha
              have HB := Lib.hid hb
              have HC := Lib.hid hc
              have HRR := Lib.hid hrr
              clear hrr ha hb hc
              go_wp2_with (first
                | (go_at_call 47; (with_reducible refine (swap_q Q9.out (left + 1) left _ _ ?ei ?ej ?hi ?hj).mono ?_); (case ei => omega); (case ej => omega); (case hi => omega); (case hj => omega); rintro e w10 ⟨rfl, hq1⟩; have Q10 := Lib.hid hq1; clear hq1)
                | (go_at_call 46; (with_reducible refine (less_q Q8.out (left + 1) left _ _ ?ei ?ej ?hi ?hj _ HC.out).mono ?_); (case ei => omega); (case ej => omega); (case hi => omega); (case hj => omega); rintro e w9 ⟨rfl, hq1⟩; have Q9 := Lib.hid hq1; clear hq1)
                | (go_at_call 47; (with_reducible refine (swap_q Q7.out (left + 2) (left + 1) _ _ ?ei ?ej ?hi ?hj).mono ?_); (case ei => omega); (case ej => omega); (case hi => omega); (case hj => omega); rintro e w8 ⟨rfl, hq1⟩; have Q8 := Lib.hid hq1; clear hq1)
                | (go_at_call 46; (with_reducible refine (less_q Q5.out (left + 2) (left + 1) _ _ ?ei ?ej ?hi ?hj _ HB.out).mono ?_); (case ei => omega); (case ej => omega); (case hi => omega); (case hj => omega); rintro e w7 ⟨rfl, hq1⟩; have Q7 := Lib.hid hq1; clear hq1)
                | (go_at_call 46; (with_reducible refine (less_q Q0.out (left + 1) left _ _ ?ei ?ej ?hi ?hj _ HA.out).mono ?_); (case ei => omega); (case ej => omega); (case hi => omega); (case hj => omega); rintro e w5 ⟨rfl, hq1⟩; have Q5 := Lib.hid hq1; clear hq1))
              refine post_ret (results_none rfl _ _ _) ?_
              exact ⟨rfl, Q10.out.grown, by rw [← HRR.out]; exact Q10.out.row⟩
            · rw [hc] at hrr
              simp only [Bool.false_eq_true, if_false] at hrr
              have HA := Lib.hid ha
              have HB := Lib.hid hb
              have HC := Lib.hid hc
              have HRR := Lib.hid hrr
              clear hrr ha hb hc
              go_wp2_with (first
                | (go_at_call 46; (with_reducible refine (less_q Q8.out (left + 1) left _ _ ?ei ?ej ?hi ?hj _ HC.out).mono ?_); (case ei => omega); (case ej => omega); (case hi => omega); (case hj => omega); rintro e w9 ⟨rfl, hq1⟩; have Q9 := Lib.hid hq1; clear hq1)
                | (go_at_call 47; (with_reducible refine (swap_q Q7.out (left + 2) (left + 1) _ _ ?ei ?ej ?hi ?hj).mono ?_); (case ei => omega); (case ej => omega); (case hi => omega); (case hj => omega); rintro e w8 ⟨rfl, hq1⟩; have Q8 := Lib.hid hq1; clear hq1)
                | (go_at_call 46; (with_reducible refine (less_q Q5.out (left + 2) (left + 1) _ _ ?ei ?ej ?hi ?hj _ HB.out).mono ?_); (case ei => omega); (case ej => omega); (case hi => omega); (case hj => omega); rintro e w7 ⟨rfl, hq1⟩; have Q7 := Lib.hid hq1; clear hq1)
                | (go_at_call 46; (with_reducible refine (less_q Q0.out (left + 1) left _ _ ?ei ?ej ?hi ?hj _ HA.out).mono ?_); (case ei => omega); (case ej => omega); (case hi => omega); (case hj => omega); rintro e w5 ⟨rfl, hq1⟩; have Q5 := Lib.hid hq1; clear hq1))
              refine post_ret (results_none rfl _ _ _) ?_
              exact ⟨rfl, Q9.out.grown, by rw [← HRR.out]; exact Q9.out.row⟩
          · rw [hb] at hrr
            simp only [Bool.false_eq_true, if_false] at hrr
            have HA := Lib.hid ha
            have HB := Lib.hid hb
            have HRR := Lib.hid hrr
            clear hrr ha hb
            go_wp2_with (first
              | (go_at_call 46; (with_reducible refine (less_q Q5.out (left + 2) (left + 1) _ _ ?ei ?ej ?hi ?hj _ HB.out).mono ?_); (case ei => omega); (case ej => omega); (case hi => omega); (case hj => omega); rintro e w7 ⟨rfl, hq1⟩; have Q7 := Lib.hid hq1; clear hq1)
              | (go_at_call 46; (with_reducible refine (less_q Q0.out (left + 1) left _ _ ?ei ?ej ?hi ?hj _ HA.out).mono ?_); (case ei => omega); (case ej => omega); (case hi => omega); (case hj => omega); rintro e w5 ⟨rfl, hq1⟩; have Q5 := Lib.hid hq1; clear hq1))
            refine post_ret (results_none rfl _ _ _) ?_
            exact ⟨rfl, Q7.out.grown, by rw [← HRR.out]; exact Q7.out.row⟩
      · have n1 : ¬ (right : Int) - (left : Int) = 1 := by omega
        have n2 : ¬ (right : Int) - (left : Int) = 2 := by omega
        have hs' : nextRnd s < 4294967296 := Nat.mod_lt _ (by decide)
        have hp := pick_lt hs' (show 0 < right - left + 1 by omega)
        have hpi : left + pick (nextRnd s) (right - left + 1) ≤ right := by omega
        clear hp hs'
        generalize hV : pick (nextRnd s) (right - left + 1) = pv at *
        have HV := Lib.hid hV
        have hAP : atPivot l left right (nextRnd s) = if left + pv = right then l else swapAt l (left + pv) right := by
          unfold atPivot
          rw [hV]
        have HAP := Lib.hid hAP
        clear hV hAP
        obtain ⟨l2, j2, hpa⟩ : ∃ l2 j2, parts (itLt h) right (right - left) left left (atPivot l left right (nextRnd s)) = (l2, j2) := ⟨_, _, rfl⟩
        have hend := parts_at (itLt h) right (right - left) left left (atPivot l left right (nextRnd s)) (Nat.le_refl _)
        rw [hpa] at hend
        obtain ⟨he1, he2⟩ := hend
        simp only at he1 he2
        have HR := Lib.hid ((qp_round (itLt h) f left right k s l l2 j2 h1 h2 hpa).symm.trans HP.out)
        have HPA := Lib.hid hpa
        clear hpa
        by_cases hv : left + pv = right
        · have hvi : (left : Int) + (pv : Int) = (right : Int) := by omega
          go_wp2_with (first
            | (go_at_call 45; (with_reducible refine (rnd_q Q0.out (right - left + 1) _ ?em ?hm).mono ?_); (case em => omega); (case hm => omega); rintro e w1 ⟨rfl, hq1⟩; rw [HV.out]; have Q1 := Lib.hid hq1; clear hq1))
          have Q2 : Hid (QSt w w1 g lo n cap h (nextRnd s) A (atPivot l left right (nextRnd s)) C) := Lib.hid (Q1.out.same (by rw [HAP.out, if_pos hv]))
          clear Q1 Q0 HP HAP HV
          go_loopw [13, 14] (fun jv iv wr => ∃ (i j : Nat) (m : List It), iv = .int .i64 i ∧ jv = .int .i64 j ∧ left ≤ j ∧ j ≤ i ∧ i ≤ right ∧ parts (itLt h) right (right - i) i j m = (l2, j2) ∧ QSt w wr g lo n cap h (nextRnd s) A m C) (fun _ iv _ => right - (intOf iv).toNat)
          case atStart => exact ⟨left, left, _, rfl, rfl, Nat.le_refl _, Nat.le_refl _, by omega, HPA.out, Q2.out⟩
          case round =>
            obtain ⟨i, j, m, rfl, rfl, hlj, hji, hir, hpp, hqq⟩ := hrel
            have Q4 := Lib.hid hqq
            have HPP := Lib.hid hpp
            clear hqq hpp Q2 HPA
            by_cases hlt : i < right
            · have hlti : (i : Int) < (right : Int) := by omega
              obtain ⟨d, hd⟩ : ∃ d, right - i = d + 1 := ⟨right - i - 1, by omega⟩
              have hst := HPP.out
              rw [hd, parts_step] at hst
              rcases bool_cases (ltAt (itLt h) m i right) with hb | hb
              · rw [hb, if_pos rfl] at hst
                have HB := Lib.hid hb
                have HST := Lib.hid hst
                clear hb hst
                go_wp2_with (first
                  | (go_at_call 46; (with_reducible refine (less_q Q4.out i right _ _ ?ei ?ej ?hi ?hj _ HB.out).mono ?_); (case ei => omega); (case ej => omega); (case hi => omega); (case hj => omega); rintro e w5 ⟨rfl, hq1⟩; have Q5 := Lib.hid hq1; clear hq1)
                  | (go_at_call 47; (with_reducible refine (swap_q Q5.out i j _ _ ?ei ?ej ?hi ?hj).mono ?_); (case ei => omega); (case ej => omega); (case hi => omega); (case hj => omega); rintro e w6 ⟨rfl, hq1⟩; have Q6 := Lib.hid hq1; clear hq1))
                go_roundw
                case rel => exact ⟨i + 1, j + 1, swapAt m i j, by go_num, by go_num, by omega, by omega, by omega, (by rw [show right - (i + 1) = d by omega]; exact HST.out), Q6.out⟩
                case measure => simp [intOf]; omega
              · rw [hb, if_neg (by simp)] at hst
                have HB := Lib.hid hb
                have HST := Lib.hid hst
                clear hb hst
                go_wp2_with (first
                  | (go_at_call 46; (with_reducible refine (less_q Q4.out i right _ _ ?ei ?ej ?hi ?hj _ HB.out).mono ?_); (case ei => omega); (case ej => omega); (case hi => omega); (case hj => omega); rintro e w5 ⟨rfl, hq1⟩; have Q5 := Lib.hid hq1; clear hq1))
                go_roundw
                case rel => exact ⟨i + 1, j, m, by go_num, by go_num, by omega, by omega, by omega, (by rw [show right - (i + 1) = d by omega]; exact HST.out), Q5.out⟩
                case measure => simp [intOf]; omega
            · have hie : i = right := by omega
              subst hie
              have hlti : ¬ (i : Int) < (i : Int) := by omega
              have he := HPP.out
              rw [Nat.sub_self, parts] at he
              obtain ⟨e1, e2⟩ := Prod.mk.inj he
              subst e1 e2
              clear he HPP
              by_cases c1 : j - left < k
              · have c1i : (j : Int) - (left : Int) < (k : Int) := by omega
                have hr := HR.out
                rw [if_pos c1] at hr
                have HR2 := Lib.hid hr
                clear hr HR
                go_wp2_with (first
                  | (go_at_call 47; (with_reducible refine (swap_q Q4.out i j _ _ ?ei ?ej ?hi ?hj).mono ?_); (case ei => omega); (case ej => omega); (case hi => omega); (case hj => omega); rintro e w5 ⟨rfl, hq1⟩; have Q5 := Lib.hid hq1; clear hq1))
                go_roundw
                case rel => exact ⟨f, j + 1, i, k - (j - left + 1), nextRnd s, swapAt m i j, by go_num, by go_num, rfl, by omega, by omega, by omega, HR2.out, Q5.out⟩
                case measure => simp [intOf]; omega
              · have c1i : ¬ (j : Int) - (left : Int) < (k : Int) := by omega
                by_cases c2 : k < j - left
                · have c2i : (k : Int) < (j : Int) - (left : Int) := by omega
                  have hr := HR.out
                  rw [if_neg c1, if_pos c2] at hr
                  have HR2 := Lib.hid hr
                  clear hr HR
                  go_wp2_with (first
                    | (go_at_call 47; (with_reducible refine (swap_q Q4.out i j _ _ ?ei ?ej ?hi ?hj).mono ?_); (case ei => omega); (case ej => omega); (case hi => omega); (case hj => omega); rintro e w5 ⟨rfl, hq1⟩; have Q5 := Lib.hid hq1; clear hq1))
                  go_roundw
                  case rel => exact ⟨f, left, j - 1, k, nextRnd s, swapAt m i j, rfl, rfl, by go_num, by omega, by omega, by omega, HR2.out, Q5.out⟩
                  case measure => simp [intOf]; omega
                · have c2i : ¬ (k : Int) < (j : Int) - (left : Int) := by omega
                  have hr := HR.out
                  rw [if_neg c1, if_neg c2] at hr
                  have HR2 := Lib.hid hr
                  clear hr HR
                  go_wp2_with (first
                    | (go_at_call 47; (with_reducible refine (swap_q Q4.out i j _ _ ?ei ?ej ?hi ?hj).mono ?_); (case ei => omega); (case ej => omega); (case hi => omega); (case hj => omega); rintro e w5 ⟨rfl, hq1⟩; have Q5 := Lib.hid hq1; clear hq1))
                  refine post_ret (results_none rfl _ _ _) ?_
                  exact ⟨rfl, Q5.out.grown, by rw [← HR2.out]; exact Q5.out.row⟩
        · have hvi : ¬ (left : Int) + (pv : Int) = (right : Int) := by omega
          go_wp2_with (first
            | (go_at_call 45; (with_reducible refine (rnd_q Q0.out (right - left + 1) _ ?em ?hm).mono ?_); (case em => omega); (case hm => omega); rintro e w1 ⟨rfl, hq1⟩; rw [HV.out]; have Q1 := Lib.hid hq1; clear hq1)
            | (go_at_call 47; (with_reducible refine (swap_q Q1.out (left + pv) right _ _ ?ei ?ej ?hi ?hj).mono ?_); (case ei => omega); (case ej => omega); (case hi => omega); (case hj => omega); rintro e w2 ⟨rfl, hq1⟩; have Q3 := Lib.hid hq1; clear hq1))
          have Q2 : Hid (QSt w w2 g lo n cap h (nextRnd s) A (atPivot l left right (nextRnd s)) C) := Lib.hid (Q3.out.same (by rw [HAP.out, if_neg hv]))
          clear Q1 Q3 Q0 HP HAP HV
          go_loopw [13, 14] (fun jv iv wr => ∃ (i j : Nat) (m : List It), iv = .int .i64 i ∧ jv = .int .i64 j ∧ left ≤ j ∧ j ≤ i ∧ i ≤ right ∧ parts (itLt h) right (right - i) i j m = (l2, j2) ∧ QSt w wr g lo n cap h (nextRnd s) A m C) (fun _ iv _ => right - (intOf iv).toNat)
          case atStart => exact ⟨left, left, _, rfl, rfl, Nat.le_refl _, Nat.le_refl _, by omega, HPA.out, Q2.out⟩
          case round =>
            obtain ⟨i, j, m, rfl, rfl, hlj, hji, hir, hpp, hqq⟩ := hrel
            have Q4 := Lib.hid hqq
            have HPP := Lib.hid hpp
            clear hqq hpp Q2 HPA
            by_cases hlt : i < right
            · have hlti : (i : Int) < (right : Int) := by omega
              obtain ⟨d, hd⟩ : ∃ d, right - i = d + 1 := ⟨right - i - 1, by omega⟩
              have hst := HPP.out
              rw [hd, parts_step] at hst
              rcases bool_cases (ltAt (itLt h) m i right) with hb | hb
              · rw [hb, if_pos rfl] at hst
                have HB := Lib.hid hb
                have HST := Lib.hid hst
                clear hb hst
                go_wp2_with (first
                  | (go_at_call 46; (with_reducible refine (less_q Q4.out i right _ _ ?ei ?ej ?hi ?hj _ HB.out).mono ?_); (case ei => omega); (case ej => omega); (case hi => omega); (case hj => omega); rintro e w5 ⟨rfl, hq1⟩; have Q5 := Lib.hid hq1; clear hq1)
                  | (go_at_call 47; (with_reducible refine (swap_q Q5.out i j _ _ ?ei ?ej ?hi ?hj).mono ?_); (case ei => omega); (case ej => omega); (case hi => omega); (case hj => omega); rintro e w6 ⟨rfl, hq1⟩; have Q6 := Lib.hid hq1; clear hq1))
                go_roundw
                case rel => exact ⟨i + 1, j + 1, swapAt m i j, by go_num, by go_num, by omega, by omega, by omega, (by rw [show right - (i + 1) = d by omega]; exact HST.out), Q6.out⟩
                case measure => simp [intOf]; omega
              · rw [hb, if_neg (by simp)] at hst
                have HB := Lib.hid hb
                have HST := Lib.hid hst
                clear hb hst
                go_wp2_with (first
                  | (go_at_call 46; (with_reducible refine (less_q Q4.out i right _ _ ?ei ?ej ?hi ?hj _ HB.out).mono ?_); (case ei => omega); (case ej => omega); (case hi => omega); (case hj => omega); rintro e w5 ⟨rfl, hq1⟩; have Q5 := Lib.hid hq1; clear hq1))
                go_roundw
                case rel => exact ⟨i + 1, j, m, by go_num, by go_num, by omega, by omega, by omega, (by rw [show right - (i + 1) = d by omega]; exact HST.out), Q5.out⟩
                case measure => simp [intOf]; omega
            · have hie : i = right := by omega
              subst hie
              have hlti : ¬ (i : Int) < (i : Int) := by omega
              have he := HPP.out
              rw [Nat.sub_self, parts] at he
              obtain ⟨e1, e2⟩ := Prod.mk.inj he
              subst e1 e2
              clear he HPP
              by_cases c1 : j - left < k
              · have c1i : (j : Int) - (left : Int) < (k : Int) := by omega
                have hr := HR.out
                rw [if_pos c1] at hr
                have HR2 := Lib.hid hr
                clear hr HR
                go_wp2_with (first
                  | (go_at_call 47; (with_reducible refine (swap_q Q4.out i j _ _ ?ei ?ej ?hi ?hj).mono ?_); (case ei => omega); (case ej => omega); (case hi => omega); (case hj => omega); rintro e w5 ⟨rfl, hq1⟩; have Q5 := Lib.hid hq1; clear hq1))
                go_roundw
                case rel => exact ⟨f, j + 1, i, k - (j - left + 1), nextRnd s, swapAt m i j, by go_num, by go_num, rfl, by omega, by omega, by omega, HR2.out, Q5.out⟩
                case measure => simp [intOf]; omega
              · have c1i : ¬ (j : Int) - (left : Int) < (k : Int) := by omega
                by_cases c2 : k < j - left
                · have c2i : (k : Int) < (j : Int) - (left : Int) := by omega
                  have hr := HR.out
                  rw [if_neg c1, if_pos c2] at hr
                  have HR2 := Lib.hid hr
                  clear hr HR
                  go_wp2_with (first
                    | (go_at_call 47; (with_reducible refine (swap_q Q4.out i j _ _ ?ei ?ej ?hi ?hj).mono ?_); (case ei => omega); (case ej => omega); (case hi => omega); (case hj => omega); rintro e w5 ⟨rfl, hq1⟩; have Q5 := Lib.hid hq1; clear hq1))
                  go_roundw
                  case rel => exact ⟨f, left, j - 1, k, nextRnd s, swapAt m i j, rfl, rfl, by go_num, by omega, by omega, by omega, HR2.out, Q5.out⟩
                  case measure => simp [intOf]; omega
                · have c2i : ¬ (k : Int) < (j : Int) - (left : Int) := by omega
                  have hr := HR.out
                  rw [if_neg c1, if_neg c2] at hr
                  have HR2 := Lib.hid hr
                  clear hr HR
                  go_wp2_with (first
                    | (go_at_call 47; (with_reducible refine (swap_q Q4.out i j _ _ ?ei ?ej ?hi ?hj).mono ?_); (case ei => omega); (case ej => omega); (case hi => omega); (case hj => omega); rintro e w5 ⟨rfl, hq1⟩; have Q5 := Lib.hid hq1; clear hq1))
                  refine post_ret (results_none rfl _ _ _) ?_
                  exact ⟨rfl, Q5.out.grown, by rw [← HR2.out]; exact Q5.out.row⟩
end Go.Proofs.YtdfamnlmhikolaaDoor
