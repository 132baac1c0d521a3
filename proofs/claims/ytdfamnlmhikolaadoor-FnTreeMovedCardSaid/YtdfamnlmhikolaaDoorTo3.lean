/-
  told: what a tree answers to a question: the walks. No panic; what stood in memory has not turned.
-/
import Derived.Test.YtdfamnlmhikolaaDoorTo2
import Derived.Deep.Cut
set_option linter.unusedVariables false
namespace Go.Proofs.YtdfamnlmhikolaaDoor
open Go.ChangeShapes Go.WideShapes Go.ChangeAt Go.RowKit
theorem copy10 {w : World} {b : Nat} {cs : Array Value} {T : TypeId} (h : Blk w b cs T) (hs : cs.size = 10) (v0 v1 v2 v3 v4 v5 v6 v7 v8 v9 : Value) :
    Blk ((((((((((w.setCell ⟨b, 0, none⟩ v0).setCell ⟨b, 1, none⟩ v1).setCell ⟨b, 2, none⟩ v2).setCell ⟨b, 3, none⟩ v3).setCell ⟨b, 4, none⟩ v4).setCell ⟨b, 5, none⟩ v5).setCell ⟨b, 6, none⟩ v6).setCell ⟨b, 7, none⟩ v7).setCell ⟨b, 8, none⟩ v8).setCell ⟨b, 9, none⟩ v9) b #[v0, v1, v2, v3, v4, v5, v6, v7, v8, v9] T := by
  refine ((((((((((h.set 0 v0).set 1 v1).set 2 v2).set 3 v3).set 4 v4).set 5 v5).set 6 v6).set 7 v7).set 8 v8).set 9 v9).cast ?_
  obtain ⟨l⟩ := cs
  simp at hs
  match l, hs with
  | [_, _, _, _, _, _, _, _, _, _], _ => simp
theorem int10 {F : Nat → Prop} {w : World} {v : Value} {xs : List Int} (h : IntSl F w v xs) {b : Nat} (hb : ¬ F b) (v0 v1 v2 v3 v4 v5 v6 v7 v8 v9 : Value) :
    IntSl F ((((((((((w.setCell ⟨b, 0, none⟩ v0).setCell ⟨b, 1, none⟩ v1).setCell ⟨b, 2, none⟩ v2).setCell ⟨b, 3, none⟩ v3).setCell ⟨b, 4, none⟩ v4).setCell ⟨b, 5, none⟩ v5).setCell ⟨b, 6, none⟩ v6).setCell ⟨b, 7, none⟩ v7).setCell ⟨b, 8, none⟩ v8).setCell ⟨b, 9, none⟩ v9) v xs :=
  (((((((((h.set hb _ _).set hb _ _).set hb _ _).set hb _ _).set hb _ _).set hb _ _).set hb _ _).set hb _ _).set hb _ _).set hb _ _
theorem bel10 {a w : World} (h : Bel a w) {b : Nat} (hb : a.heap.size ≤ b) (v0 v1 v2 v3 v4 v5 v6 v7 v8 v9 : Value) :
    Bel a ((((((((((w.setCell ⟨b, 0, none⟩ v0).setCell ⟨b, 1, none⟩ v1).setCell ⟨b, 2, none⟩ v2).setCell ⟨b, 3, none⟩ v3).setCell ⟨b, 4, none⟩ v4).setCell ⟨b, 5, none⟩ v5).setCell ⟨b, 6, none⟩ v6).setCell ⟨b, 7, none⟩ v7).setCell ⟨b, 8, none⟩ v8).setCell ⟨b, 9, none⟩ v9) :=
  (((((((((h.setCell hb _).setCell hb _).setCell hb _).setCell hb _).setCell hb _).setCell hb _).setCell hb _).setCell hb _).setCell hb _).setCell hb _
theorem told0_out (w : World) (acs : Array Value) : Blk (told0 w acs) (w.heap.size + 1 + 1) #[.slice none 0 0, .bool false, .bool false, .bool false, .int .i64 0, .float .f64 0, .float .f64 0, .float .f64 0, .float .f64 0, .int .i64 0] 40 := by
  unfold told0
  exact Blk.new' _ _ _ (by simp)
theorem IntSl.nil (F : Nat → Prop) (w : World) : IntSl F w (.slice none 0 0) [] := ⟨none, 0, rfl, by simp, by simp, fun h => absurd rfl h⟩
theorem blk_eq {w : World} {b : Nat} {cs cs' : Array Value} {t : TypeId} (h : Blk w b cs t) (e : cs = cs') : Blk w b cs' t := e ▸ h

set_option maxHeartbeats 2000000 in
set_option maxRecDepth 100000 in
theorem told_range_none (a : Addr) (p x y z u : Nat) (stop how : Int) (ids : List Int) (w : World) (HS : Hid (Search 20 w p x y z u #[.int .i64 0, .float .f64 x, .float .f64 y, .float .f64 z, .float .f64 u, .int .i64 stop, .int .i64 how] a (ids, .none))) :
    Calls Tryd.prog 14 #[.pointer (some ⟨p, 0, none⟩), .agg #[.int .i64 0, .float .f64 x, .float .f64 y, .float .f64 z, .float .f64 u, .int .i64 stop, .int .i64 how]] w (IsTold (ofRun (ids, .none)) w) := by
  have hmf : ∀ (fn : Fn) (first cap : Array Value) (w : World), (Instr.makeFunc fn first cap).run Tryd.prog w = .ok (.func fn first cap) w := fun _ _ _ _ => rfl
  have f1 := asW_nil
  have f2 := asO_nil
  go_enter Tryd.func14, Tryd.ntmps14
  go_wp2_with (first
    | (go_at_call 17; (with_reducible refine (box_any _ _ _ _ _).mono ?_); rintro e w1 ⟨rfl, hb1⟩; have HB1 := Lib.hid hb1; have HT0 : Hid (Bel (told0 w #[.int .i64 0, .float .f64 x, .float .f64 y, .float .f64 z, .float .f64 u, .int .i64 stop, .int .i64 how]) w1) := Lib.hid (by unfold told0; exact hb1); clear hb1)
    | (go_at_call 20; (with_reducible refine (HS.out.run w1 HT0.out).mono ?_); rintro e w2 ⟨p2, n2, c2, rfl, hl⟩; obtain ⟨hO, hR, hA, hI, hB⟩ := hl; have BO := Lib.hid hO; have BR := Lib.hid hR; have BI := Lib.hid hI; have BB := Lib.hid hB; obtain ⟨r1, z1, l1⟩ := hO.facts; obtain ⟨r2, z2, l2⟩ := hR.facts; simp only [Ek.val]; clear hO hR hA hI hB))
  refine post_ret (results_one rfl (resIs_agg (n := 10) (cs := #[.slice p2 n2 c2, .bool false, .bool false, .bool false, .int .i64 0, .float .f64 0, .float .f64 0, .float .f64 0, .float .f64 0, .int .i64 0]) (by rfl) Tryd.underlying40 (by kernel_rfl) (T := 40) ?_ rfl)) ?_
  · first
      | exact (copy10 ((BR.out.other (by simp) _).other (by simp) _) rfl _ _ _ _ _ _ _ _ _ _).alloc _
      | exact copy10 (((BR.out.other (by simp) _).alloc _).other (by simp) _) rfl _ _ _ _ _ _ _ _ _ _
  · refine ⟨_, 0, 0, 0, 0, rfl, ?_, zeroBx_is, ?_⟩
    · exact (((int10 ((BI.out.set (g := w.heap.size + 1 + 1) (by show ¬ _ < _; omega) _ _).set (g := w.heap.size + 1 + 1) (by show ¬ _ < _; omega) _ _) (b := w.heap.size + 1) (by show ¬ _ < _; omega) _ _ _ _ _ _ _ _ _ _).bel (Bel.alloc1 _ _)).mono fun b _ hb => by omega)
    · exact (bel10 ((BB.out.setCell (by simp; omega) _).setCell (by simp; omega) _) (b := w.heap.size + 1) (by omega) _ _ _ _ _ _ _ _ _ _).alloc _
set_option maxHeartbeats 2000000 in
set_option maxRecDepth 100000 in
theorem told_prio_none (a : Addr) (p x y z u : Nat) (stop how : Int) (ids : List Int) (w : World) (HS : Hid (Search 21 w p x y z u #[.int .i64 1, .float .f64 x, .float .f64 y, .float .f64 z, .float .f64 u, .int .i64 stop, .int .i64 how] a (ids, .none))) :
    Calls Tryd.prog 14 #[.pointer (some ⟨p, 0, none⟩), .agg #[.int .i64 1, .float .f64 x, .float .f64 y, .float .f64 z, .float .f64 u, .int .i64 stop, .int .i64 how]] w (IsTold (ofRun (ids, .none)) w) := by
  have hmf : ∀ (fn : Fn) (first cap : Array Value) (w : World), (Instr.makeFunc fn first cap).run Tryd.prog w = .ok (.func fn first cap) w := fun _ _ _ _ => rfl
  have f1 := asW_nil
  have f2 := asO_nil
  go_enter Tryd.func14, Tryd.ntmps14
  go_wp2_with (first
    | (go_at_call 17; (with_reducible refine (box_any _ _ _ _ _).mono ?_); rintro e w1 ⟨rfl, hb1⟩; have HB1 := Lib.hid hb1; have HT0 : Hid (Bel (told0 w #[.int .i64 1, .float .f64 x, .float .f64 y, .float .f64 z, .float .f64 u, .int .i64 stop, .int .i64 how]) w1) := Lib.hid (by unfold told0; exact hb1); clear hb1)
    | (go_at_call 21; (with_reducible refine (HS.out.run w1 HT0.out).mono ?_); rintro e w2 ⟨p2, n2, c2, rfl, hl⟩; obtain ⟨hO, hR, hA, hI, hB⟩ := hl; have BO := Lib.hid hO; have BR := Lib.hid hR; have BI := Lib.hid hI; have BB := Lib.hid hB; obtain ⟨r1, z1, l1⟩ := hO.facts; obtain ⟨r2, z2, l2⟩ := hR.facts; simp only [Ek.val]; clear hO hR hA hI hB))
  refine post_ret (results_one rfl (resIs_agg (n := 10) (cs := #[.slice p2 n2 c2, .bool false, .bool false, .bool false, .int .i64 0, .float .f64 0, .float .f64 0, .float .f64 0, .float .f64 0, .int .i64 0]) (by rfl) Tryd.underlying40 (by kernel_rfl) (T := 40) ?_ rfl)) ?_
  · first
      | exact (copy10 ((BR.out.other (by simp) _).other (by simp) _) rfl _ _ _ _ _ _ _ _ _ _).alloc _
      | exact copy10 (((BR.out.other (by simp) _).alloc _).other (by simp) _) rfl _ _ _ _ _ _ _ _ _ _
  · refine ⟨_, 0, 0, 0, 0, rfl, ?_, zeroBx_is, ?_⟩
    · exact (((int10 ((BI.out.set (g := w.heap.size + 1 + 1) (by show ¬ _ < _; omega) _ _).set (g := w.heap.size + 1 + 1) (by show ¬ _ < _; omega) _ _) (b := w.heap.size + 1) (by show ¬ _ < _; omega) _ _ _ _ _ _ _ _ _ _).bel (Bel.alloc1 _ _)).mono fun b _ hb => by omega)
    · exact (bel10 ((BB.out.setCell (by simp; omega) _).setCell (by simp; omega) _) (b := w.heap.size + 1) (by omega) _ _ _ _ _ _ _ _ _ _).alloc _
set_option maxHeartbeats 2000000 in
set_option maxRecDepth 100000 in
theorem told_range_stop (a : Addr) (p x y z u : Nat) (stop how : Int) (ids : List Int) (w : World) (HS : Hid (Search 20 w p x y z u #[.int .i64 0, .float .f64 x, .float .f64 y, .float .f64 z, .float .f64 u, .int .i64 stop, .int .i64 how] a (ids, .stop))) :
    Calls Tryd.prog 14 #[.pointer (some ⟨p, 0, none⟩), .agg #[.int .i64 0, .float .f64 x, .float .f64 y, .float .f64 z, .float .f64 u, .int .i64 stop, .int .i64 how]] w (IsTold (ofRun (ids, .stop)) w) := by
  have hmf : ∀ (fn : Fn) (first cap : Array Value) (w : World), (Instr.makeFunc fn first cap).run Tryd.prog w = .ok (.func fn first cap) w := fun _ _ _ _ => rfl
  have f1 := asW_stop (.pointer (some a))
  have f2 := asO_stop (.pointer (some a))
  go_enter Tryd.func14, Tryd.ntmps14
  go_wp2_with (first
    | (go_at_call 17; (with_reducible refine (box_any _ _ _ _ _).mono ?_); rintro e w1 ⟨rfl, hb1⟩; have HB1 := Lib.hid hb1; have HT0 : Hid (Bel (told0 w #[.int .i64 0, .float .f64 x, .float .f64 y, .float .f64 z, .float .f64 u, .int .i64 stop, .int .i64 how]) w1) := Lib.hid (by unfold told0; exact hb1); clear hb1)
    | (go_at_call 20; (with_reducible refine (HS.out.run w1 HT0.out).mono ?_); rintro e w2 ⟨p2, n2, c2, rfl, hl⟩; obtain ⟨hO, hR, hA, hI, hB⟩ := hl; have BO := Lib.hid hO; have BR := Lib.hid hR; have BI := Lib.hid hI; have BB := Lib.hid hB; obtain ⟨r1, z1, l1⟩ := hO.facts; obtain ⟨r2, z2, l2⟩ := hR.facts; simp only [Ek.val]; clear hO hR hA hI hB))
  refine post_ret (results_one rfl (resIs_agg (n := 10) (cs := #[.slice p2 n2 c2, .bool true, .bool false, .bool false, .int .i64 0, .float .f64 0, .float .f64 0, .float .f64 0, .float .f64 0, .int .i64 0]) (by rfl) Tryd.underlying40 (by kernel_rfl) (T := 40) ?_ rfl)) ?_
  · first
      | exact (copy10 ((BR.out.other (by simp) _).other (by simp) _) rfl _ _ _ _ _ _ _ _ _ _).alloc _
      | exact copy10 (((BR.out.other (by simp) _).alloc _).other (by simp) _) rfl _ _ _ _ _ _ _ _ _ _
  · refine ⟨_, 0, 0, 0, 0, rfl, ?_, zeroBx_is, ?_⟩
    · exact (((int10 ((BI.out.set (g := w.heap.size + 1 + 1) (by show ¬ _ < _; omega) _ _).set (g := w.heap.size + 1 + 1) (by show ¬ _ < _; omega) _ _) (b := w.heap.size + 1) (by show ¬ _ < _; omega) _ _ _ _ _ _ _ _ _ _).bel (Bel.alloc1 _ _)).mono fun b _ hb => by omega)
    · exact (bel10 ((BB.out.setCell (by simp; omega) _).setCell (by simp; omega) _) (b := w.heap.size + 1) (by omega) _ _ _ _ _ _ _ _ _ _).alloc _
set_option maxHeartbeats 2000000 in
set_option maxRecDepth 100000 in
theorem told_prio_stop (a : Addr) (p x y z u : Nat) (stop how : Int) (ids : List Int) (w : World) (HS : Hid (Search 21 w p x y z u #[.int .i64 1, .float .f64 x, .float .f64 y, .float .f64 z, .float .f64 u, .int .i64 stop, .int .i64 how] a (ids, .stop))) :
    Calls Tryd.prog 14 #[.pointer (some ⟨p, 0, none⟩), .agg #[.int .i64 1, .float .f64 x, .float .f64 y, .float .f64 z, .float .f64 u, .int .i64 stop, .int .i64 how]] w (IsTold (ofRun (ids, .stop)) w) := by
  have hmf : ∀ (fn : Fn) (first cap : Array Value) (w : World), (Instr.makeFunc fn first cap).run Tryd.prog w = .ok (.func fn first cap) w := fun _ _ _ _ => rfl
  have f1 := asW_stop (.pointer (some a))
  have f2 := asO_stop (.pointer (some a))
  go_enter Tryd.func14, Tryd.ntmps14
  go_wp2_with (first
    | (go_at_call 17; (with_reducible refine (box_any _ _ _ _ _).mono ?_); rintro e w1 ⟨rfl, hb1⟩; have HB1 := Lib.hid hb1; have HT0 : Hid (Bel (told0 w #[.int .i64 1, .float .f64 x, .float .f64 y, .float .f64 z, .float .f64 u, .int .i64 stop, .int .i64 how]) w1) := Lib.hid (by unfold told0; exact hb1); clear hb1)
    | (go_at_call 21; (with_reducible refine (HS.out.run w1 HT0.out).mono ?_); rintro e w2 ⟨p2, n2, c2, rfl, hl⟩; obtain ⟨hO, hR, hA, hI, hB⟩ := hl; have BO := Lib.hid hO; have BR := Lib.hid hR; have BI := Lib.hid hI; have BB := Lib.hid hB; obtain ⟨r1, z1, l1⟩ := hO.facts; obtain ⟨r2, z2, l2⟩ := hR.facts; simp only [Ek.val]; clear hO hR hA hI hB))
  refine post_ret (results_one rfl (resIs_agg (n := 10) (cs := #[.slice p2 n2 c2, .bool true, .bool false, .bool false, .int .i64 0, .float .f64 0, .float .f64 0, .float .f64 0, .float .f64 0, .int .i64 0]) (by rfl) Tryd.underlying40 (by kernel_rfl) (T := 40) ?_ rfl)) ?_
  · first
      | exact (copy10 ((BR.out.other (by simp) _).other (by simp) _) rfl _ _ _ _ _ _ _ _ _ _).alloc _
      | exact copy10 (((BR.out.other (by simp) _).alloc _).other (by simp) _) rfl _ _ _ _ _ _ _ _ _ _
  · refine ⟨_, 0, 0, 0, 0, rfl, ?_, zeroBx_is, ?_⟩
    · exact (((int10 ((BI.out.set (g := w.heap.size + 1 + 1) (by show ¬ _ < _; omega) _ _).set (g := w.heap.size + 1 + 1) (by show ¬ _ < _; omega) _ _) (b := w.heap.size + 1) (by show ¬ _ < _; omega) _ _ _ _ _ _ _ _ _ _).bel (Bel.alloc1 _ _)).mono fun b _ hb => by omega)
    · exact (bel10 ((BB.out.setCell (by simp; omega) _).setCell (by simp; omega) _) (b := w.heap.size + 1) (by omega) _ _ _ _ _ _ _ _ _ _).alloc _
set_option maxHeartbeats 2000000 in
set_option maxRecDepth 100000 in
theorem told_range_wstop (a : Addr) (p x y z u : Nat) (stop how : Int) (ids : List Int) (w : World) (HS : Hid (Search 20 w p x y z u #[.int .i64 0, .float .f64 x, .float .f64 y, .float .f64 z, .float .f64 u, .int .i64 stop, .int .i64 how] a (ids, .wstop))) :
    Calls Tryd.prog 14 #[.pointer (some ⟨p, 0, none⟩), .agg #[.int .i64 0, .float .f64 x, .float .f64 y, .float .f64 z, .float .f64 u, .int .i64 stop, .int .i64 how]] w (IsTold (ofRun (ids, .wstop)) w) := by
  have hmf : ∀ (fn : Fn) (first cap : Array Value) (w : World), (Instr.makeFunc fn first cap).run Tryd.prog w = .ok (.func fn first cap) w := fun _ _ _ _ => rfl
  have f1 := asW_wrapped (.agg #[.iface 128 (.pointer (some a))])
  have f2 := asO_stop (.pointer (some a))
  go_enter Tryd.func14, Tryd.ntmps14
  go_wp2_with (first
    | (go_at_call 17; (with_reducible refine (box_any _ _ _ _ _).mono ?_); rintro e w1 ⟨rfl, hb1⟩; have HB1 := Lib.hid hb1; have HT0 : Hid (Bel (told0 w #[.int .i64 0, .float .f64 x, .float .f64 y, .float .f64 z, .float .f64 u, .int .i64 stop, .int .i64 how]) w1) := Lib.hid (by unfold told0; exact hb1); clear hb1)
    | (go_at_call 20; (with_reducible refine (HS.out.run w1 HT0.out).mono ?_); rintro e w2 ⟨p2, n2, c2, rfl, hl⟩; obtain ⟨hO, hR, hA, hI, hB⟩ := hl; have BO := Lib.hid hO; have BR := Lib.hid hR; have BI := Lib.hid hI; have BB := Lib.hid hB; obtain ⟨r1, z1, l1⟩ := hO.facts; obtain ⟨r2, z2, l2⟩ := hR.facts; simp only [Ek.val]; clear hO hR hA hI hB))
  refine post_ret (results_one rfl (resIs_agg (n := 10) (cs := #[.slice p2 n2 c2, .bool true, .bool false, .bool false, .int .i64 0, .float .f64 0, .float .f64 0, .float .f64 0, .float .f64 0, .int .i64 0]) (by rfl) Tryd.underlying40 (by kernel_rfl) (T := 40) ?_ rfl)) ?_
  · first
      | exact (copy10 ((BR.out.other (by simp) _).other (by simp) _) rfl _ _ _ _ _ _ _ _ _ _).alloc _
      | exact copy10 (((BR.out.other (by simp) _).alloc _).other (by simp) _) rfl _ _ _ _ _ _ _ _ _ _
  · refine ⟨_, 0, 0, 0, 0, rfl, ?_, zeroBx_is, ?_⟩
    · exact (((int10 ((BI.out.set (g := w.heap.size + 1 + 1) (by show ¬ _ < _; omega) _ _).set (g := w.heap.size + 1 + 1) (by show ¬ _ < _; omega) _ _) (b := w.heap.size + 1) (by show ¬ _ < _; omega) _ _ _ _ _ _ _ _ _ _).bel (Bel.alloc1 _ _)).mono fun b _ hb => by omega)
    · exact (bel10 ((BB.out.setCell (by simp; omega) _).setCell (by simp; omega) _) (b := w.heap.size + 1) (by omega) _ _ _ _ _ _ _ _ _ _).alloc _
set_option maxHeartbeats 2000000 in
set_option maxRecDepth 100000 in
theorem told_prio_wstop (a : Addr) (p x y z u : Nat) (stop how : Int) (ids : List Int) (w : World) (HS : Hid (Search 21 w p x y z u #[.int .i64 1, .float .f64 x, .float .f64 y, .float .f64 z, .float .f64 u, .int .i64 stop, .int .i64 how] a (ids, .wstop))) :
    Calls Tryd.prog 14 #[.pointer (some ⟨p, 0, none⟩), .agg #[.int .i64 1, .float .f64 x, .float .f64 y, .float .f64 z, .float .f64 u, .int .i64 stop, .int .i64 how]] w (IsTold (ofRun (ids, .wstop)) w) := by
  have hmf : ∀ (fn : Fn) (first cap : Array Value) (w : World), (Instr.makeFunc fn first cap).run Tryd.prog w = .ok (.func fn first cap) w := fun _ _ _ _ => rfl
  have f1 := asW_wrapped (.agg #[.iface 128 (.pointer (some a))])
  have f2 := asO_stop (.pointer (some a))
  go_enter Tryd.func14, Tryd.ntmps14
  go_wp2_with (first
    | (go_at_call 17; (with_reducible refine (box_any _ _ _ _ _).mono ?_); rintro e w1 ⟨rfl, hb1⟩; have HB1 := Lib.hid hb1; have HT0 : Hid (Bel (told0 w #[.int .i64 1, .float .f64 x, .float .f64 y, .float .f64 z, .float .f64 u, .int .i64 stop, .int .i64 how]) w1) := Lib.hid (by unfold told0; exact hb1); clear hb1)
    | (go_at_call 21; (with_reducible refine (HS.out.run w1 HT0.out).mono ?_); rintro e w2 ⟨p2, n2, c2, rfl, hl⟩; obtain ⟨hO, hR, hA, hI, hB⟩ := hl; have BO := Lib.hid hO; have BR := Lib.hid hR; have BI := Lib.hid hI; have BB := Lib.hid hB; obtain ⟨r1, z1, l1⟩ := hO.facts; obtain ⟨r2, z2, l2⟩ := hR.facts; simp only [Ek.val]; clear hO hR hA hI hB))
  refine post_ret (results_one rfl (resIs_agg (n := 10) (cs := #[.slice p2 n2 c2, .bool true, .bool false, .bool false, .int .i64 0, .float .f64 0, .float .f64 0, .float .f64 0, .float .f64 0, .int .i64 0]) (by rfl) Tryd.underlying40 (by kernel_rfl) (T := 40) ?_ rfl)) ?_
  · first
      | exact (copy10 ((BR.out.other (by simp) _).other (by simp) _) rfl _ _ _ _ _ _ _ _ _ _).alloc _
      | exact copy10 (((BR.out.other (by simp) _).alloc _).other (by simp) _) rfl _ _ _ _ _ _ _ _ _ _
  · refine ⟨_, 0, 0, 0, 0, rfl, ?_, zeroBx_is, ?_⟩
    · exact (((int10 ((BI.out.set (g := w.heap.size + 1 + 1) (by show ¬ _ < _; omega) _ _).set (g := w.heap.size + 1 + 1) (by show ¬ _ < _; omega) _ _) (b := w.heap.size + 1) (by show ¬ _ < _; omega) _ _ _ _ _ _ _ _ _ _).bel (Bel.alloc1 _ _)).mono fun b _ hb => by omega)
    · exact (bel10 ((BB.out.setCell (by simp; omega) _).setCell (by simp; omega) _) (b := w.heap.size + 1) (by omega) _ _ _ _ _ _ _ _ _ _).alloc _
set_option maxHeartbeats 2000000 in
set_option maxRecDepth 100000 in
theorem told_range_own (a : Addr) (p x y z u : Nat) (stop how : Int) (ids : List Int) (w : World) (HS : Hid (Search 20 w p x y z u #[.int .i64 0, .float .f64 x, .float .f64 y, .float .f64 z, .float .f64 u, .int .i64 stop, .int .i64 how] a (ids, .own))) :
    Calls Tryd.prog 14 #[.pointer (some ⟨p, 0, none⟩), .agg #[.int .i64 0, .float .f64 x, .float .f64 y, .float .f64 z, .float .f64 u, .int .i64 stop, .int .i64 how]] w (IsTold (ofRun (ids, .own)) w) := by
  have hmf : ∀ (fn : Fn) (first cap : Array Value) (w : World), (Instr.makeFunc fn first cap).run Tryd.prog w = .ok (.func fn first cap) w := fun _ _ _ _ => rfl
  have f1 := asW_own (.agg #[])
  have f2 := asO_own (.agg #[])
  go_enter Tryd.func14, Tryd.ntmps14
  go_wp2_with (first
    | (go_at_call 17; (with_reducible refine (box_any _ _ _ _ _).mono ?_); rintro e w1 ⟨rfl, hb1⟩; have HB1 := Lib.hid hb1; have HT0 : Hid (Bel (told0 w #[.int .i64 0, .float .f64 x, .float .f64 y, .float .f64 z, .float .f64 u, .int .i64 stop, .int .i64 how]) w1) := Lib.hid (by unfold told0; exact hb1); clear hb1)
    | (go_at_call 20; (with_reducible refine (HS.out.run w1 HT0.out).mono ?_); rintro e w2 ⟨p2, n2, c2, rfl, hl⟩; obtain ⟨hO, hR, hA, hI, hB⟩ := hl; have BO := Lib.hid hO; have BR := Lib.hid hR; have BI := Lib.hid hI; have BB := Lib.hid hB; obtain ⟨r1, z1, l1⟩ := hO.facts; obtain ⟨r2, z2, l2⟩ := hR.facts; simp only [Ek.val]; clear hO hR hA hI hB))
  refine post_ret (results_one rfl (resIs_agg (n := 10) (cs := #[.slice p2 n2 c2, .bool true, .bool true, .bool false, .int .i64 0, .float .f64 0, .float .f64 0, .float .f64 0, .float .f64 0, .int .i64 0]) (by rfl) Tryd.underlying40 (by kernel_rfl) (T := 40) ?_ rfl)) ?_
  · first
      | exact (copy10 ((BR.out.other (by simp) _).other (by simp) _) rfl _ _ _ _ _ _ _ _ _ _).alloc _
      | exact copy10 (((BR.out.other (by simp) _).alloc _).other (by simp) _) rfl _ _ _ _ _ _ _ _ _ _
  · refine ⟨_, 0, 0, 0, 0, rfl, ?_, zeroBx_is, ?_⟩
    · exact (((int10 ((BI.out.set (g := w.heap.size + 1 + 1) (by show ¬ _ < _; omega) _ _).set (g := w.heap.size + 1 + 1) (by show ¬ _ < _; omega) _ _) (b := w.heap.size + 1) (by show ¬ _ < _; omega) _ _ _ _ _ _ _ _ _ _).bel (Bel.alloc1 _ _)).mono fun b _ hb => by omega)
    · exact (bel10 ((BB.out.setCell (by simp; omega) _).setCell (by simp; omega) _) (b := w.heap.size + 1) (by omega) _ _ _ _ _ _ _ _ _ _).alloc _
set_option maxHeartbeats 2000000 in
set_option maxRecDepth 100000 in
theorem told_prio_own (a : Addr) (p x y z u : Nat) (stop how : Int) (ids : List Int) (w : World) (HS : Hid (Search 21 w p x y z u #[.int .i64 1, .float .f64 x, .float .f64 y, .float .f64 z, .float .f64 u, .int .i64 stop, .int .i64 how] a (ids, .own))) :
    Calls Tryd.prog 14 #[.pointer (some ⟨p, 0, none⟩), .agg #[.int .i64 1, .float .f64 x, .float .f64 y, .float .f64 z, .float .f64 u, .int .i64 stop, .int .i64 how]] w (IsTold (ofRun (ids, .own)) w) := by
  have hmf : ∀ (fn : Fn) (first cap : Array Value) (w : World), (Instr.makeFunc fn first cap).run Tryd.prog w = .ok (.func fn first cap) w := fun _ _ _ _ => rfl
  have f1 := asW_own (.agg #[])
  have f2 := asO_own (.agg #[])
  go_enter Tryd.func14, Tryd.ntmps14
  go_wp2_with (first
    | (go_at_call 17; (with_reducible refine (box_any _ _ _ _ _).mono ?_); rintro e w1 ⟨rfl, hb1⟩; have HB1 := Lib.hid hb1; have HT0 : Hid (Bel (told0 w #[.int .i64 1, .float .f64 x, .float .f64 y, .float .f64 z, .float .f64 u, .int .i64 stop, .int .i64 how]) w1) := Lib.hid (by unfold told0; exact hb1); clear hb1)
    | (go_at_call 21; (with_reducible refine (HS.out.run w1 HT0.out).mono ?_); rintro e w2 ⟨p2, n2, c2, rfl, hl⟩; obtain ⟨hO, hR, hA, hI, hB⟩ := hl; have BO := Lib.hid hO; have BR := Lib.hid hR; have BI := Lib.hid hI; have BB := Lib.hid hB; obtain ⟨r1, z1, l1⟩ := hO.facts; obtain ⟨r2, z2, l2⟩ := hR.facts; simp only [Ek.val]; clear hO hR hA hI hB))
  refine post_ret (results_one rfl (resIs_agg (n := 10) (cs := #[.slice p2 n2 c2, .bool true, .bool true, .bool false, .int .i64 0, .float .f64 0, .float .f64 0, .float .f64 0, .float .f64 0, .int .i64 0]) (by rfl) Tryd.underlying40 (by kernel_rfl) (T := 40) ?_ rfl)) ?_
  · first
      | exact (copy10 ((BR.out.other (by simp) _).other (by simp) _) rfl _ _ _ _ _ _ _ _ _ _).alloc _
      | exact copy10 (((BR.out.other (by simp) _).alloc _).other (by simp) _) rfl _ _ _ _ _ _ _ _ _ _
  · refine ⟨_, 0, 0, 0, 0, rfl, ?_, zeroBx_is, ?_⟩
    · exact (((int10 ((BI.out.set (g := w.heap.size + 1 + 1) (by show ¬ _ < _; omega) _ _).set (g := w.heap.size + 1 + 1) (by show ¬ _ < _; omega) _ _) (b := w.heap.size + 1) (by show ¬ _ < _; omega) _ _ _ _ _ _ _ _ _ _).bel (Bel.alloc1 _ _)).mono fun b _ hb => by omega)
    · exact (bel10 ((BB.out.setCell (by simp; omega) _).setCell (by simp; omega) _) (b := w.heap.size + 1) (by omega) _ _ _ _ _ _ _ _ _ _).alloc _
set_option maxHeartbeats 2000000 in
set_option maxRecDepth 100000 in
theorem told_range_wown (a : Addr) (p x y z u : Nat) (stop how : Int) (ids : List Int) (w : World) (HS : Hid (Search 20 w p x y z u #[.int .i64 0, .float .f64 x, .float .f64 y, .float .f64 z, .float .f64 u, .int .i64 stop, .int .i64 how] a (ids, .wown))) :
    Calls Tryd.prog 14 #[.pointer (some ⟨p, 0, none⟩), .agg #[.int .i64 0, .float .f64 x, .float .f64 y, .float .f64 z, .float .f64 u, .int .i64 stop, .int .i64 how]] w (IsTold (ofRun (ids, .wown)) w) := by
  have hmf : ∀ (fn : Fn) (first cap : Array Value) (w : World), (Instr.makeFunc fn first cap).run Tryd.prog w = .ok (.func fn first cap) w := fun _ _ _ _ => rfl
  have f1 := asW_wrapped (.agg #[.iface 61 (.agg #[])])
  have f2 := asO_own (.agg #[])
  go_enter Tryd.func14, Tryd.ntmps14
  go_wp2_with (first
    | (go_at_call 17; (with_reducible refine (box_any _ _ _ _ _).mono ?_); rintro e w1 ⟨rfl, hb1⟩; have HB1 := Lib.hid hb1; have HT0 : Hid (Bel (told0 w #[.int .i64 0, .float .f64 x, .float .f64 y, .float .f64 z, .float .f64 u, .int .i64 stop, .int .i64 how]) w1) := Lib.hid (by unfold told0; exact hb1); clear hb1)
    | (go_at_call 20; (with_reducible refine (HS.out.run w1 HT0.out).mono ?_); rintro e w2 ⟨p2, n2, c2, rfl, hl⟩; obtain ⟨hO, hR, hA, hI, hB⟩ := hl; have BO := Lib.hid hO; have BR := Lib.hid hR; have BI := Lib.hid hI; have BB := Lib.hid hB; obtain ⟨r1, z1, l1⟩ := hO.facts; obtain ⟨r2, z2, l2⟩ := hR.facts; simp only [Ek.val]; clear hO hR hA hI hB))
  refine post_ret (results_one rfl (resIs_agg (n := 10) (cs := #[.slice p2 n2 c2, .bool true, .bool true, .bool false, .int .i64 0, .float .f64 0, .float .f64 0, .float .f64 0, .float .f64 0, .int .i64 0]) (by rfl) Tryd.underlying40 (by kernel_rfl) (T := 40) ?_ rfl)) ?_
  · first
      | exact (copy10 ((BR.out.other (by simp) _).other (by simp) _) rfl _ _ _ _ _ _ _ _ _ _).alloc _
      | exact copy10 (((BR.out.other (by simp) _).alloc _).other (by simp) _) rfl _ _ _ _ _ _ _ _ _ _
  · refine ⟨_, 0, 0, 0, 0, rfl, ?_, zeroBx_is, ?_⟩
    · exact (((int10 ((BI.out.set (g := w.heap.size + 1 + 1) (by show ¬ _ < _; omega) _ _).set (g := w.heap.size + 1 + 1) (by show ¬ _ < _; omega) _ _) (b := w.heap.size + 1) (by show ¬ _ < _; omega) _ _ _ _ _ _ _ _ _ _).bel (Bel.alloc1 _ _)).mono fun b _ hb => by omega)
    · exact (bel10 ((BB.out.setCell (by simp; omega) _).setCell (by simp; omega) _) (b := w.heap.size + 1) (by omega) _ _ _ _ _ _ _ _ _ _).alloc _
set_option maxHeartbeats 2000000 in
set_option maxRecDepth 100000 in
theorem told_prio_wown (a : Addr) (p x y z u : Nat) (stop how : Int) (ids : List Int) (w : World) (HS : Hid (Search 21 w p x y z u #[.int .i64 1, .float .f64 x, .float .f64 y, .float .f64 z, .float .f64 u, .int .i64 stop, .int .i64 how] a (ids, .wown))) :
    Calls Tryd.prog 14 #[.pointer (some ⟨p, 0, none⟩), .agg #[.int .i64 1, .float .f64 x, .float .f64 y, .float .f64 z, .float .f64 u, .int .i64 stop, .int .i64 how]] w (IsTold (ofRun (ids, .wown)) w) := by
  have hmf : ∀ (fn : Fn) (first cap : Array Value) (w : World), (Instr.makeFunc fn first cap).run Tryd.prog w = .ok (.func fn first cap) w := fun _ _ _ _ => rfl
  have f1 := asW_wrapped (.agg #[.iface 61 (.agg #[])])
  have f2 := asO_own (.agg #[])
  go_enter Tryd.func14, Tryd.ntmps14
  go_wp2_with (first
    | (go_at_call 17; (with_reducible refine (box_any _ _ _ _ _).mono ?_); rintro e w1 ⟨rfl, hb1⟩; have HB1 := Lib.hid hb1; have HT0 : Hid (Bel (told0 w #[.int .i64 1, .float .f64 x, .float .f64 y, .float .f64 z, .float .f64 u, .int .i64 stop, .int .i64 how]) w1) := Lib.hid (by unfold told0; exact hb1); clear hb1)
    | (go_at_call 21; (with_reducible refine (HS.out.run w1 HT0.out).mono ?_); rintro e w2 ⟨p2, n2, c2, rfl, hl⟩; obtain ⟨hO, hR, hA, hI, hB⟩ := hl; have BO := Lib.hid hO; have BR := Lib.hid hR; have BI := Lib.hid hI; have BB := Lib.hid hB; obtain ⟨r1, z1, l1⟩ := hO.facts; obtain ⟨r2, z2, l2⟩ := hR.facts; simp only [Ek.val]; clear hO hR hA hI hB))
  refine post_ret (results_one rfl (resIs_agg (n := 10) (cs := #[.slice p2 n2 c2, .bool true, .bool true, .bool false, .int .i64 0, .float .f64 0, .float .f64 0, .float .f64 0, .float .f64 0, .int .i64 0]) (by rfl) Tryd.underlying40 (by kernel_rfl) (T := 40) ?_ rfl)) ?_
  · first
      | exact (copy10 ((BR.out.other (by simp) _).other (by simp) _) rfl _ _ _ _ _ _ _ _ _ _).alloc _
      | exact copy10 (((BR.out.other (by simp) _).alloc _).other (by simp) _) rfl _ _ _ _ _ _ _ _ _ _
  · refine ⟨_, 0, 0, 0, 0, rfl, ?_, zeroBx_is, ?_⟩
    · exact (((int10 ((BI.out.set (g := w.heap.size + 1 + 1) (by show ¬ _ < _; omega) _ _).set (g := w.heap.size + 1 + 1) (by show ¬ _ < _; omega) _ _) (b := w.heap.size + 1) (by show ¬ _ < _; omega) _ _ _ _ _ _ _ _ _ _).bel (Bel.alloc1 _ _)).mono fun b _ hb => by omega)
    · exact (bel10 ((BB.out.setCell (by simp; omega) _).setCell (by simp; omega) _) (b := w.heap.size + 1) (by omega) _ _ _ _ _ _ _ _ _ _).alloc _
set_option maxHeartbeats 2000000 in
set_option maxRecDepth 100000 in
theorem told_near (p x y z u : Nat) (stop how : Int) (r : Int × Bool) (w : World) (HN : Hid (∀ w1, Bel w w1 → Calls Tryd.prog 22 #[.pointer (some ⟨p, 0, none⟩), .agg #[.float .f64 x, .float .f64 y, .float .f64 z, .float .f64 u]] w1 fun e w2 => e = .returned (.tuple #[.int .i64 r.1, .bool r.2]) ∧ Bel w1 w2)) :
    Calls Tryd.prog 14 #[.pointer (some ⟨p, 0, none⟩), .agg #[.int .i64 2, .float .f64 x, .float .f64 y, .float .f64 z, .float .f64 u, .int .i64 stop, .int .i64 how]] w (IsTold ⟨[], false, false, r.2, r.1, zeroBx, 0⟩ w) := by
  have hmf : ∀ (fn : Fn) (first cap : Array Value) (w : World), (Instr.makeFunc fn first cap).run Tryd.prog w = .ok (.func fn first cap) w := fun _ _ _ _ => rfl
  have f1 := asW_nil
  have f2 := asO_nil
  go_enter Tryd.func14, Tryd.ntmps14
  go_wp2_with (first
    | (go_at_call 17; (with_reducible refine (box_any _ _ _ _ _).mono ?_); rintro e w1 ⟨rfl, hb1⟩; have HB1 := Lib.hid hb1; have HT0 : Hid (Bel (told0 w #[.int .i64 2, .float .f64 x, .float .f64 y, .float .f64 z, .float .f64 u, .int .i64 stop, .int .i64 how]) w1) := Lib.hid (by unfold told0; exact hb1); clear hb1)
    | (go_at_call 22; (with_reducible refine (HN.out w1 ((told0_bel w #[.int .i64 2, .float .f64 x, .float .f64 y, .float .f64 z, .float .f64 u, .int .i64 stop, .int .i64 how]).trans HT0.out)).mono ?_); rintro e w2 ⟨rfl, hb2⟩; have hb3 := HT0.out.trans hb2; have BO := (told0_out w #[.int .i64 2, .float .f64 x, .float .f64 y, .float .f64 z, .float .f64 u, .int .i64 stop, .int .i64 how]).bel hb3; have BR := (told0_res w #[.int .i64 2, .float .f64 x, .float .f64 y, .float .f64 z, .float .f64 u, .int .i64 stop, .int .i64 how]).bel hb3; have BB := (told0_bel w #[.int .i64 2, .float .f64 x, .float .f64 y, .float .f64 z, .float .f64 u, .int .i64 stop, .int .i64 how]).trans hb3; obtain ⟨r1, z1, l1⟩ := BO.facts; obtain ⟨r2, z2, l2⟩ := BR.facts; clear hb2))
  refine post_ret (results_one rfl (resIs_agg (n := 10) (cs := #[.slice none 0 0, .bool false, .bool false, .bool r.2, .int .i64 r.1, .float .f64 0, .float .f64 0, .float .f64 0, .float .f64 0, .int .i64 0]) (by rfl) Tryd.underlying40 (by kernel_rfl) (T := 40) ?_ rfl)) ?_
  · first
      | exact (copy10 ((((BR.other (by simp) _).other (by simp) _).other (by simp) _).other (by simp) _) rfl _ _ _ _ _ _ _ _ _ _).alloc _
  · refine ⟨.slice none 0 0, 0, 0, 0, 0, rfl, IntSl.nil _ _, zeroBx_is, ?_⟩
    first
      | exact (bel10 ((((BB.setCell (by simp; omega) _).setCell (by simp; omega) _).setCell (by simp; omega) _).setCell (by simp; omega) _) (b := w.heap.size + 1) (by omega) _ _ _ _ _ _ _ _ _ _).alloc _
set_option maxHeartbeats 2000000 in
set_option maxRecDepth 100000 in
theorem told_count (p x y z u : Nat) (stop how : Int) (n : Nat) (w : World) (HN : Hid (∀ w1, Bel w w1 → Calls Tryd.prog 24 #[.pointer (some ⟨p, 0, none⟩)] w1 fun e w2 => e = .returned (.int .i64 n) ∧ w1 = w2)) :
    Calls Tryd.prog 14 #[.pointer (some ⟨p, 0, none⟩), .agg #[.int .i64 4, .float .f64 x, .float .f64 y, .float .f64 z, .float .f64 u, .int .i64 stop, .int .i64 how]] w (IsTold ⟨[], false, false, false, 0, zeroBx, (n : Int)⟩ w) := by
  have hmf : ∀ (fn : Fn) (first cap : Array Value) (w : World), (Instr.makeFunc fn first cap).run Tryd.prog w = .ok (.func fn first cap) w := fun _ _ _ _ => rfl
  have f1 := asW_nil
  have f2 := asO_nil
  go_enter Tryd.func14, Tryd.ntmps14
  go_wp2_with (first
    | (go_at_call 17; (with_reducible refine (box_any _ _ _ _ _).mono ?_); rintro e w1 ⟨rfl, hb1⟩; have HB1 := Lib.hid hb1; have HT0 : Hid (Bel (told0 w #[.int .i64 4, .float .f64 x, .float .f64 y, .float .f64 z, .float .f64 u, .int .i64 stop, .int .i64 how]) w1) := Lib.hid (by unfold told0; exact hb1); clear hb1)
    | (go_at_call 24; (with_reducible refine (HN.out _ ?hb).mono ?_); (case hb => (repeat (first | with_reducible assumption | with_reducible exact Bel.refl _ | with_reducible apply Bel.alloc | with_reducible apply Bel.drew | with_reducible apply Bel.drewN | ((with_reducible apply Bel.setCellR); (simp <;> omega)) | with_reducible refine Bel.behind (by with_reducible assumption) ?_))); rintro e w2 ⟨rfl, rfl⟩))
  refine post_ret (results_one rfl (resIs_agg (n := 10) (cs := #[.slice none 0 0, .bool false, .bool false, .bool false, .int .i64 0, .float .f64 0, .float .f64 0, .float .f64 0, .float .f64 0, .int .i64 n]) (by rfl) Tryd.underlying40 (by kernel_rfl) (T := 40) ?_ rfl)) ?_
  · first
      | exact ((((Blk.new' _ _ _ (by simp)).alloc _).alloc _).cast rfl)
  · refine ⟨.slice none 0 0, 0, 0, 0, 0, rfl, IntSl.nil _ _, zeroBx_is, ?_⟩
    (repeat (first | with_reducible assumption | with_reducible exact Bel.refl _ | with_reducible apply Bel.alloc | with_reducible apply Bel.drew | with_reducible apply Bel.drewN | ((with_reducible apply Bel.setCellR); (simp <;> omega)) | with_reducible refine Bel.behind (by with_reducible assumption) ?_))
set_option maxHeartbeats 2000000 in
set_option maxRecDepth 100000 in
theorem told_ext (p x y z u : Nat) (stop how : Int) (fd : Bool) (bx : Bx) (w : World) (HN : Hid (∀ w1, Bel w w1 → Calls Tryd.prog 23 #[.pointer (some ⟨p, 0, none⟩)] w1 fun e w2 => ∃ c0 c1 c2 c3, e = .returned (.tuple #[.agg #[.float .f64 c0, .float .f64 c1, .float .f64 c2, .float .f64 c3], .bool fd]) ∧ Hid (BxB c0 c1 c2 c3 bx) ∧ Bel w1 w2)) :
    Calls Tryd.prog 14 #[.pointer (some ⟨p, 0, none⟩), .agg #[.int .i64 3, .float .f64 x, .float .f64 y, .float .f64 z, .float .f64 u, .int .i64 stop, .int .i64 how]] w (IsTold ⟨[], false, false, fd, 0, bx, 0⟩ w) := by
  have hmf : ∀ (fn : Fn) (first cap : Array Value) (w : World), (Instr.makeFunc fn first cap).run Tryd.prog w = .ok (.func fn first cap) w := fun _ _ _ _ => rfl
  have f1 := asW_nil
  have f2 := asO_nil
  go_enter Tryd.func14, Tryd.ntmps14
  go_upto_region 16 with (first
    | (go_at_call 17; (with_reducible refine (box_any _ _ _ _ _).mono ?_); rintro e w1 ⟨rfl, hb1⟩; have HB1 := Lib.hid hb1; have HT0 : Hid (Bel (told0 w #[.int .i64 3, .float .f64 x, .float .f64 y, .float .f64 z, .float .f64 u, .int .i64 stop, .int .i64 how]) w1) := Lib.hid (by unfold told0; exact hb1); clear hb1)
    | (go_at_call 23; (with_reducible refine (HN.out _ ?hb).mono ?_); (case hb => (repeat (first | with_reducible assumption | with_reducible exact Bel.refl _ | with_reducible apply Bel.alloc | with_reducible apply Bel.drew | with_reducible apply Bel.drewN | ((with_reducible apply Bel.setCellR); (simp <;> omega)) | with_reducible refine Bel.behind (by with_reducible assumption) ?_))); rintro e w2 ⟨c0, c1, c2, c3, rfl, HQ1, hb2⟩; have HB3 : Hid (Bel (told0 w #[.int .i64 3, .float .f64 x, .float .f64 y, .float .f64 z, .float .f64 u, .int .i64 stop, .int .i64 how]) w2) := Lib.hid (by unfold told0; exact hb2); have BO := Lib.hid ((told0_out w #[.int .i64 3, .float .f64 x, .float .f64 y, .float .f64 z, .float .f64 u, .int .i64 stop, .int .i64 how]).bel HB3.out); have BR := Lib.hid ((told0_res w #[.int .i64 3, .float .f64 x, .float .f64 y, .float .f64 z, .float .f64 u, .int .i64 stop, .int .i64 how]).bel HB3.out); obtain ⟨r1, z1, l1⟩ := BO.out.facts; obtain ⟨r2, z2, l2⟩ := BR.out.facts; clear hb2))
  generalize hW : World.alloc (World.setCell (World.setCell _ _ _) _ _) _ = w3
  have BO3 : Blk w3 (w.heap.size + 1 + 1) #[.slice none 0 0, .bool false, .bool false, .bool fd, .int .i64 0, .float .f64 c0, .float .f64 c1, .float .f64 c2, .float .f64 c3, .int .i64 0] 40 := by
    subst hW
    exact ((((((BO.out.set 5 _).set 6 _).set 7 _).set 8 _).set 3 _).alloc _).cast (by rfl)
  have BR3 : Blk w3 (w.heap.size + 1) #[.slice none 0 0, .bool false, .bool false, .bool false, .int .i64 0, .float .f64 0, .float .f64 0, .float .f64 0, .float .f64 0, .int .i64 0] 40 := by
    subst hW
    exact (((((BR.out.other (by simp) _).other (by simp) _).other (by simp) _).other (by simp) _).other (by simp) _).alloc _
  have HB4 : Hid (Bel w w3) := Lib.hid (by
    subst hW
    exact (((((((told0_bel w _).trans HB3.out).setCell (by simp; omega) _).setCell (by simp; omega) _).setCell (by simp; omega) _).setCell (by simp; omega) _).setCell (by simp; omega) _).alloc _)
  clear hW r1 z1 l1 r2 z2 l2
  obtain ⟨r1, z1, l1⟩ := BO3.facts
  obtain ⟨r2, z2, l2⟩ := BR3.facts
  have BR4 := Lib.hid BR3
  clear BO3 BR3
  go_wp2
  refine post_ret (results_one rfl (resIs_agg (n := 10) (cs := #[.slice none 0 0, .bool false, .bool false, .bool fd, .int .i64 0, .float .f64 c0, .float .f64 c1, .float .f64 c2, .float .f64 c3, .int .i64 0]) (by rfl) Tryd.underlying40 (by kernel_rfl) (T := 40) ?_ rfl)) ?_
  · exact (copy10 ((BR4.out.other (by simp) _).other (by simp) _) rfl _ _ _ _ _ _ _ _ _ _).alloc _
  · refine ⟨.slice none 0 0, c0, c1, c2, c3, rfl, IntSl.nil _ _, HQ1.out, ?_⟩
    exact (bel10 ((HB4.out.setCell (by simp; omega) _).setCell (by simp; omega) _) (b := w.heap.size + 1) (by omega) _ _ _ _ _ _ _ _ _ _).alloc _
end Go.Proofs.YtdfamnlmhikolaaDoor
