/-
  Nearest, and told: what a tree answers to a question. No panic; what stood in memory has not turned.
-/
import Derived.Test.YtdfamnlmhikolaaDoorTd
set_option linter.unusedVariables false
namespace Go.Proofs.YtdfamnlmhikolaaDoor
open Go.ChangeShapes Go.WideShapes Go.ChangeAt Go.RowKit
structure NInv (a : Addr) (b4 b5 : Nat) (F : Nat → Prop) (s : Int × Bool) (w : World) : Prop where
  blk4 : Blk w b4 #[.int .i64 s.1] 3
  blk5 : Blk w b5 #[.bool s.2] 4
  n4 : ¬ F b4
  n5 : ¬ F b5
  lt : b4 < b5
  h0 : 0 < b4
  glob : w.cell? ⟨0, 0, none⟩ = some (.iface 128 (.pointer (some a)))
def nstep (_ : Int × Bool) (id : Int) : (Int × Bool) × Ek := ((id, true), .stop)
set_option maxRecDepth 100000 in
theorem nearest1_cb (a : Addr) (b4 b5 : Nat) : Callback a 32 #[.pointer (some ⟨b4, 0, none⟩), .pointer (some ⟨b5, 0, none⟩)] (Int × Bool) (fun _ => 0) (NInv a b4 b5) nstep where
  grow := fun s id => Nat.zero_le _
  enters := enters_of Tryd.func32 (by kernel_rfl) rfl
  only := fun F s w w' h k => by
    have up : ∀ {b cs t}, ¬ F b → Blk w b cs t → Blk w' b cs t := fun {b cs t} hb hB => by
      have hl := hB.lt
      unfold Blk at *
      rw [k.block b hb hl]
      exact hB
    exact ⟨up h.n4 h.blk4, up h.n5 h.blk5, h.n4, h.n5, h.lt, h.h0, k.glob _ h.glob⟩
  sub := fun F G s w h k => ⟨h.blk4, h.blk5, fun hb => h.n4 (k _ h.blk4.lt hb), fun hb => h.n5 (k _ h.blk5.lt hb), h.lt, h.h0, h.glob⟩
  call := fun F s id w _ h => by
    have H := Lib.hid h
    obtain ⟨r4, z4, l4⟩ := h.blk4.facts
    obtain ⟨r5, z5, l5⟩ := h.blk5.facts
    have hgl := h.glob
    have hlt := h.lt
    have h0 := h.h0
    have hg0 := World.block_lt_of_cell? w _ hgl
    simp only at hg0
    have ne1 : ¬ b5 = b4 := by omega
    have ne2 : ¬ 0 = b4 := by omega
    have ne3 : ¬ 0 = b5 := by omega
    have ne4 : ¬ b4 = b5 := by omega
    clear h
    have hcat : (#[.int .i64 id] ++ #[.pointer (some ⟨b4, 0, none⟩), .pointer (some ⟨b5, 0, none⟩)] : Array Value) = #[.int .i64 id, .pointer (some ⟨b4, 0, none⟩), .pointer (some ⟨b5, 0, none⟩)] := rfl
    rw [hcat]
    clear hcat
    go_enter Tryd.func32, Tryd.ntmps32
    go_wp2
    go_ret
    refine ⟨rfl, ⟨((H.out.blk4.set 0 _).cast (by simp [nstep])).other (by simpa using ne4) _, ((H.out.blk5.other (by simpa using ne1) _).set 0 _).cast (by simp [nstep]), fun hb => H.out.n4 hb.1, fun hb => H.out.n5 hb.1, hlt, h0, ?_⟩, ⟨rfl, rfl, rfl, by simp, fun b hb hl => ?_⟩⟩
    · rw [World.cell?_of_block (w := w)]
      · exact hgl
      · rw [Below.heap_setCell _ _ _ _ (by simpa using ne3), Below.heap_setCell _ _ _ _ (by simpa using ne2)]
    · have hb4 : b ≠ b4 := fun e => H.out.n4 (e ▸ hb)
      have hb5 : b ≠ b5 := fun e => H.out.n5 (e ▸ hb)
      rw [Below.heap_setCell _ _ _ _ (by simpa using hb5), Below.heap_setCell _ _ _ _ (by simpa using hb4)]
theorem bel_of_keep {w w1 w2 : World} (h : Bel w w1) (k : KeepF (fun b => b < w.heap.size) w1 w2) : Bel w w2 :=
  ⟨k.os.trans h.os, k.tape.trans h.tape, k.output.trans h.output, Nat.le_trans h.size k.size, fun b hb => (k.block b hb (Nat.lt_of_lt_of_le hb h.size)).trans (h.block b hb)⟩
def nearOf (q : Bx) (T : Tr) : Int × Bool := (pr nstep q (T.all + 1) (enqueue q T []) (0, false)).1
set_option maxHeartbeats 2000000 in
set_option maxRecDepth 100000 in
theorem nearest_any (a : Addr) (w0 w : World) (x y z u : Nat) (q : Bx) (hq : BxB x y z u q) (hqs : q.Small 1048576) (p : Nat) (L : List It)
    (hb : Below w0.heap.size w0 w) (hg : w0.cell? ⟨0, 0, none⟩ = some (.iface 128 (.pointer (some a)))) (ht : TreeAt w0 p L) (hts : (treeOf L).Sm) (hta : (treeOf L).all ≤ 800000) :
    Calls Tryd.prog 22 #[.pointer (some ⟨p, 0, none⟩), .agg #[.float .f64 x, .float .f64 y, .float .f64 z, .float .f64 u]] w
      fun e w' => e = .returned (.tuple #[.int .i64 (nearOf q (treeOf L)).1, .bool (nearOf q (treeOf L)).2]) ∧ Bel w w' := by
  have hg0 := World.block_lt_of_cell? w0 _ hg
  have hsz := hb.size
  simp only at hg0
  have hbw : Bel w (((w.alloc (.cells #[.float .f64 x, .float .f64 y, .float .f64 z, .float .f64 u] 51)).alloc (.cells #[.int .i64 0] 3)).alloc (.cells #[.bool false] 4)) := by (repeat (first | with_reducible assumption | with_reducible exact Bel.refl _ | with_reducible apply Bel.alloc | with_reducible apply Bel.drew | with_reducible apply Bel.drewN | ((with_reducible apply Bel.setCellR); (simp <;> omega)) | with_reducible refine Bel.behind (by with_reducible assumption) ?_))
  have HC : Hid (∀ w1 : World, Bel (((w.alloc (.cells #[.float .f64 x, .float .f64 y, .float .f64 z, .float .f64 u] 51)).alloc (.cells #[.int .i64 0] 3)).alloc (.cells #[.bool false] 4)) w1 →
      Calls Tryd.prog 21 #[.pointer (some ⟨p, 0, none⟩), .agg #[.float .f64 x, .float .f64 y, .float .f64 z, .float .f64 u], .func (.func 32) #[] #[.pointer (some ⟨w.heap.size + 1, 0, none⟩), .pointer (some ⟨w.heap.size + 1 + 1, 0, none⟩)]] w1
        fun e w' => ∃ v, e = .returned v ∧ Blk w' (w.heap.size + 1) #[.int .i64 (nearOf q (treeOf L)).1] 3 ∧ Blk w' (w.heap.size + 1 + 1) #[.bool (nearOf q (treeOf L)).2] 4 ∧ Bel w w') := by
    refine Lib.hid fun w1 hb1 => ?_
    have hw1 := hbw.trans hb1
    have hglob : w1.cell? ⟨0, 0, none⟩ = some (.iface 128 (.pointer (some a))) := cell_kept hw1 ((hb.cell hg0).trans hg)
    have hinv : NInv a (w.heap.size + 1) (w.heap.size + 1 + 1) (fun b => b < w.heap.size) (0, false) w1 :=
      ⟨Blk.bel ((Blk.new' _ _ _ (by simp)).alloc _) hb1, Blk.bel (Blk.new' _ _ _ (by simp)) hb1, (by show ¬ _ < _; omega), (by show ¬ _ < _; omega), by omega, by omega, hglob⟩
    refine (prio_any (nearest1_cb a (w.heap.size + 1) (w.heap.size + 1 + 1)) (fun b => b < w.heap.size) w0 w1 x y z u q hq hqs p L (0, false) (fun b hb => by omega) (fun b hb => Nat.lt_of_lt_of_le hb hw1.size) (hb.trans (Below.mono hw1 hsz)) hg ht hts hta (by simp; omega) hinv).mono ?_
    rintro e w' ⟨rfl, hi, hk⟩
    exact ⟨_, rfl, hi.blk4, hi.blk5, bel_of_keep hw1 hk⟩
  generalize nearOf q (treeOf L) = R at *
  obtain ⟨rid, fd⟩ := R
  clear hq hb hg ht hts hta hg0 hbw
  go_enter Tryd.func22, Tryd.ntmps22
  go_wp2_with (go_at_call 21; (with_reducible refine (HC.out _ ?hb).mono ?_); (case hb => (repeat (first | with_reducible assumption | with_reducible exact Bel.refl _ | with_reducible apply Bel.alloc | with_reducible apply Bel.drew | with_reducible apply Bel.drewN | ((with_reducible apply Bel.setCellR); (simp <;> omega)) | with_reducible refine Bel.behind (by with_reducible assumption) ?_))); rintro e w2 ⟨v2, rfl, h4, h5, hb2⟩; obtain ⟨r4, z4, l4⟩ := h4.facts; obtain ⟨r5, z5, l5⟩ := h5.facts; have H4 := Lib.hid h4; have H5 := Lib.hid h5; have HB2 := Lib.hid hb2; clear h4 h5 hb2)
  go_region
  go_wp2
  have C4 := (((H4.out.set 0 (.int .i64 rid)).other (a := ⟨w.heap.size + 1 + 1, 0, none⟩) (by simp) (.bool fd)).drew).rules.1 0
  have C5 := (((H5.out.other (a := ⟨w.heap.size + 1, 0, none⟩) (by simp) (.int .i64 rid)).set 0 (.bool fd)).drew).rules.1 0
  simp at C4 C5
  refine post_ret (results_two rfl (resIs_cell (by rfl) (loadVar_one (fun _ => by kernel_rfl) C4)) (resIs_cell (by rfl) (loadVar_one (fun _ => by kernel_rfl) C5))) ⟨rfl, ?_⟩
  exact ((HB2.out.setCell (by show w.heap.size ≤ w.heap.size + 1; omega) _).setCell (by show w.heap.size ≤ w.heap.size + 1 + 1; omega) _).drew
end Go.Proofs.YtdfamnlmhikolaaDoor
