import Derived.Test.YtdebkmioaglmaaaMat4
namespace Go.Proofs.Ytdebkmioaglmaaa
open Go.ChangeShapes Go.WideShapes Go.ChangeAt Go.RowKit
set_option maxRecDepth 100000 in
theorem f53_none (p q r : Option Addr) (c1 c2 c3 : Nat) (t : Bool) (w : World) :
    Calls Try.prog 53 #[.slice p 0 c1, .slice q 0 c2, .slice r 0 c3, .bool t] w fun x w' => x = .returned (.string (strOfNums (turnIf t (List.replicate 9 70)))) ∧ Bel w w' := by
  go_enter Try.func53, Try.ntmps53
  go_wp2_with (go_at_call 78; (with_reducible refine (f78_lit _).mono ?_); rintro e w1 ⟨rfl, hb1⟩)
  have hg : w.heap.size ≤ w1.heap.size := hb1.size
  have h0 : MB (w1.alloc (Obj.cells (mc (List.replicate 9 70)) 141)) w1.heap.size (List.replicate 9 70) := ⟨Blk.new _ _ _, rfl⟩
  have hb0 : Bel w (w1.alloc (Obj.cells (mc (List.replicate 9 70)) 141)) := hb1.alloc _
  have HMB : Hid (MB (w1.alloc (Obj.cells #[.int .u8 70, .int .u8 70, .int .u8 70, .int .u8 70, .int .u8 70, .int .u8 70, .int .u8 70, .int .u8 70, .int .u8 70] 141)) w1.heap.size (List.replicate 9 70)) := Lib.hid h0
  have HBEL : Hid (Bel w (w1.alloc (Obj.cells #[.int .u8 70, .int .u8 70, .int .u8 70, .int .u8 70, .int .u8 70, .int .u8 70, .int .u8 70, .int .u8 70, .int .u8 70] 141))) := Lib.hid hb0
  clear h0 hb0
  generalize w1.heap.size = g at *
  generalize w1.alloc (Obj.cells #[.int .u8 70, .int .u8 70, .int .u8 70, .int .u8 70, .int .u8 70, .int .u8 70, .int .u8 70, .int .u8 70, .int .u8 70] 141) = ws at *
  refine wp_loop_rounds 1 ?_
  rw [rounds_succ]
  cases t
  · go_wp2_with (first | (go_at_call 81; (with_reducible refine (f81_any g _ _ HMB.out).mono ?_); rintro e w2 ⟨rfl, hb2⟩))
    go_ret
    exact ⟨rfl, HBEL.out.trans hb2⟩
  · go_wp2_with (first | (go_at_call 80; (with_reducible refine (f80_any g _ _ HMB.out).mono ?_); rintro e w2 ⟨rfl, hm2, hu2⟩; have HM2 := Lib.hid hm2; have HU2 := Lib.hid hu2; clear hm2 hu2) | (go_at_call 81; (with_reducible refine (f81_any g _ _ HM2.out).mono ?_); rintro e w3 ⟨rfl, hb3⟩))
    go_ret
    exact ⟨rfl, (HU2.out.1 _ HBEL.out hg).trans hb3⟩
theorem f53_any (zs ys ss : List Int) (va vb vc : Value) (t : Bool) (n : Nat) (w : World) (ha : NSl w va zs) (hb : NSl w vb ys) (hbs : BSl w vc ss) (hS : Hid (Sets zs ys n)) (hn : ss.length = n) :
    Calls Try.prog 53 #[va, vb, vc, .bool t] w fun x w' => x = .returned (.string (strOfNums (turnIf t (matN zs ys ss n)))) ∧ Bel w w' := by
  by_cases hpos : 0 < n
  · exact f53_some zs ys ss va vb vc t n w ha hb hbs hS hn hpos
  · have e : n = 0 := by omega
    subst e
    obtain ⟨p, c1, rfl, _⟩ := ha
    obtain ⟨q, c2, rfl, _⟩ := hb
    obtain ⟨r, c3, rfl, _⟩ := hbs
    rw [hS.out.1, hS.out.2.1, hn]
    exact f53_none p q r c1 c2 c3 t w
/-- A string's bytes as numbers. -/
def nums (s : ByteArray) : List Int := s.data.toList.map fun b => (b.toNat : Int)
theorem nums_length (s : ByteArray) : (nums s).length = s.size := by
  unfold nums
  rw [List.length_map]
  rfl
theorem BSl.of_bytes (w : World) (s : ByteArray) (e : TypeId) (h : s.size ≤ 50) :
    BSl (Lib.bytesWorld w e s) (.slice (some ⟨w.heap.size, 0, none⟩) s.size (grownCap w s.size 0 e)) (nums s) := by
  have h1 := grownCap_ge w s.size 0 e
  have h2 := grownCap_le_maxLen w s.size 0 e (by unfold maxLen; omega)
  refine ⟨_, _, by rw [nums_length], by rw [nums_length]; exact h1, by unfold maxLen at h2; omega, fun _ => ⟨w.heap.size, 0, rfl, by rw [Lib.bytesWorld_size]; omega, fun i z hi => ?_⟩⟩
  have hlt : i < s.size := by
    have := (List.getElem?_eq_some_iff.1 hi).1
    rw [nums_length] at this
    exact this
  rw [Nat.zero_add, Lib.bytesWorld_cell w e s i hlt]
  unfold nums at hi
  rw [List.getElem?_map, Option.map_eq_some_iff] at hi
  obtain ⟨u, hu, rfl⟩ := hi
  rw [List.getD, hu]
  rfl
theorem BSl.of_bytes' (w : World) (s : ByteArray) (e : TypeId) (h : s.size ≤ 50) {g : Nat} (hg : g = w.heap.size) :
    BSl (Lib.bytesWorld w e s) (.slice (some ⟨g, 0, none⟩) s.size (grownCap w s.size 0 e)) (nums s) := by
  subst hg
  exact BSl.of_bytes w s e h
theorem Bel.bytes (w : World) (e : TypeId) (s : ByteArray) : Bel w (Lib.bytesWorld w e s) := Joins.below_bytesWorld _ w e s (Nat.le_refl _)
set_option maxRecDepth 100000 in
theorem f27_any (zs ys : List Int) (va vb : Value) (s : ByteArray) (t : Bool) (w : World) (ha : NSl w va zs) (hb : NSl w vb ys) (hS : Hid (Sets zs ys s.size)) :
    Calls Try.prog 27 #[va, vb, .string s, .bool t] w fun x w' => x = .returned (.tuple #[.string (strOfNums (turnIf t (matN zs ys (nums s) s.size))), .bool true]) ∧ Bel w w' := by
  have HA := Lib.hid ha
  have HB := Lib.hid hb
  obtain ⟨p, c1, rfl, _⟩ := ha
  obtain ⟨q, c2, rfl, _⟩ := hb
  have hmf : ∀ (fn : Fn) (first cap : Array Value) (w : World), (Instr.makeFunc fn first cap).run Try.prog w = .ok (.func fn first cap) w := fun _ _ _ _ => rfl
  have hcv := fun w' => Lib.run_convert_string_bytes (P := Try.prog) w' 9 60 5 s Try.underlying9 Try.underlying60 Try.underlying5
  have h50 : s.size ≤ 50 := hS.out.2.2.1
  have H50 := Lib.hid h50
  clear h50
  go_enter_defers Try.func27, Try.ntmps27
  go_wp2_with (go_at_call 53; refine (f53_any zs ys (nums s) _ _ _ t s.size _ (HA.out.bel ?h1) (HB.out.bel ?h2) ?h3 hS (nums_length s)).mono ?_; (case h1 => exact (((Bel.refl _).alloc _).alloc _).trans (Bel.bytes _ _ _)); (case h2 => exact (((Bel.refl _).alloc _).alloc _).trans (Bel.bytes _ _ _)); (case h3 => exact BSl.of_bytes' _ s 5 H50.out (by simp)); rintro e w5 ⟨rfl, hb5⟩; have hbw : Bel w w5 := ((((Bel.refl _).alloc _).alloc _).trans (Bel.bytes _ _ _)).trans hb5; have B0 := ((Blk.alloc (Blk.new w #[.string ⟨#[]⟩] 9) (Obj.cells #[.bool false] 4)).bel (Bel.bytes _ 5 s)).bel hb5; have B1 := ((Blk.new' (w.alloc (Obj.cells #[.string ⟨#[]⟩] 9)) #[.bool false] 4 (b := w.heap.size + 1) (by simp)).bel (Bel.bytes _ 5 s)).bel hb5; obtain ⟨r0, z0, l0⟩ := B0.facts; obtain ⟨r1, z1, l1⟩ := B1.facts)
  have hfin : Bel w ((w5.setCell ⟨w.heap.size, 0, none⟩ (.string (strOfNums (turnIf t (matN zs ys (nums s) s.size))))).setCell ⟨w.heap.size + 1, 0, none⟩ (.bool true)) := (hbw.setCell (by simp) _).setCell (by simp) _
  have F0 := ((B0.set 0 (.string (strOfNums (turnIf t (matN zs ys (nums s) s.size))))).other (a := ⟨w.heap.size + 1, 0, none⟩) (by simp) (.bool true)).rules.1 0
  have F1 := ((B1.other (a := ⟨w.heap.size, 0, none⟩) (by simp) (.string (strOfNums (turnIf t (matN zs ys (nums s) s.size))))).set 0 (.bool true)).rules.1 0
  generalize World.setCell (World.setCell _ _ _) _ _ = w6 at *
  simp at F0 F1
  refine leaves_cons (f := 52) (args := #[.pointer (some ⟨w.heap.size, 0, none⟩), .pointer (some ⟨w.heap.size + 1, 0, none⟩)]) (by simp) (by simp [go_sem]) ?_
  refine (f52_idle ⟨w.heap.size, 0, none⟩ ⟨w.heap.size + 1, 0, none⟩ _).mono ?_
  rintro e u' w'' ⟨rfl, rfl, rfl⟩
  simp [Leaves, settle, results, Try.results27, go_sem, F0, F1]
  exact hfin
end Go.Proofs.Ytdebkmioaglmaaa
