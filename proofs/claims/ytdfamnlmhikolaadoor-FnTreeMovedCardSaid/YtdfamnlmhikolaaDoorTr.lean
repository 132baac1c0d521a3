/-
  RangeSearch with any callback. No panic; nothing but the callback's own blocks has turned.
-/
import Derived.Test.YtdfamnlmhikolaaDoorTc
set_option linter.unusedVariables false
namespace Go.Proofs.YtdfamnlmhikolaaDoor
open Go.ChangeShapes Go.WideShapes Go.ChangeAt Go.RowKit
/-- A store of a function value: as of an integer. -/
@[go_sem] theorem run_store_func (P : Program) (w : World) (a : Addr) (m : Mode) (f : Fn) (xs ys : Array Value) : (store a (.func f xs ys) m).run P w = stored P w a (.func f xs ys) m := run_store P w a _ m rfl

set_option maxHeartbeats 2000000 in
set_option maxRecDepth 100000 in
theorem rangeSearch_any {a : Addr} {f : Nat} {caps : Array Value} {σ : Type} {size : σ → Nat} {Inv : (Nat → Prop) → σ → World → Prop} {step : σ → Int → σ × Ek} (cb : Callback a f caps σ size Inv step) (F : Nat → Prop) (w0 w : World) (x y z u : Nat) (q : Bx) (hq : BxB x y z u q) (p : Nat) (L : List It) (s : σ)
    (hF : ∀ b, b < w0.heap.size → F b) (hFw : ∀ b, F b → b < w.heap.size) (hb : Below w0.heap.size w0 w) (hg : w0.cell? ⟨0, 0, none⟩ = some (.iface 128 (.pointer (some a)))) (ht : TreeAt w0 p L) (hss : size s + (treeOf L).all ≤ 1000000) (hi : Inv F s w) :
    Calls Tryd.prog 20 #[.pointer (some ⟨p, 0, none⟩), .agg #[.float .f64 x, .float .f64 y, .float .f64 z, .float .f64 u], .func (.func f) #[] caps] w
      fun e w' => e = .returned ((rg step q (treeOf L) s).2.val a) ∧ Inv F (rg step q (treeOf L) s).1 w' ∧ KeepF F w w' := by
  obtain ⟨root, h1, _, h3⟩ := ht
  have hl0 := World.block_lt_of_cell? w0 _ h1
  simp only at hl0
  have h1' : w.cell? ⟨p, 0, none⟩ = some (.pointer root) := (hb.cell hl0).trans h1
  have hsz := hb.size
  have hpl : p < w.heap.size := by omega
  rcases h3 with ⟨rfl, rfl⟩ | ⟨h0, k, rfl, hn⟩
  · have hR : rg step q (treeOf []) s = (s, .none) := rfl
    rw [hR]
    have HI := Lib.hid hi
    have CB := Lib.hid cb
    clear hq hi cb hb
    go_enter Tryd.func20, Tryd.ntmps20
    go_wp2
    go_ret
    exact ⟨rfl, CB.out.only _ _ _ _ HI.out (OnlyF.bel (by (repeat (first | with_reducible assumption | with_reducible exact Bel.refl _ | with_reducible apply Bel.alloc | with_reducible apply Bel.drew | with_reducible apply Bel.drewN | ((with_reducible apply Bel.setCellR); (simp <;> omega)) | with_reducible refine Bel.behind (by with_reducible assumption) ?_)))), KeepF.bel (by (repeat (first | with_reducible assumption | with_reducible exact Bel.refl _ | with_reducible apply Bel.alloc | with_reducible apply Bel.drew | with_reducible apply Bel.drewN | ((with_reducible apply Bel.setCellR); (simp <;> omega)) | with_reducible refine Bel.behind (by with_reducible assumption) ?_)))⟩
  · generalize hT : treeOf L = T at *
    have HN := Lib.hid hn
    have HQ := Lib.hid hq
    have CB := Lib.hid cb
    have HI : Hid (Inv (fun b => F b ∨ b = w.heap.size ∨ b = w.heap.size + 1 ∨ b = w.heap.size + 1 + 1) s w) := Lib.hid (cb.sub _ _ _ _ hi (fun b hl hb => by
      rcases hb with hb | rfl | rfl | rfl
      · exact hb
      · omega
      · omega
      · omega))
    have HB := Lib.hid hb
    have HG := Lib.hid hg
    clear hn hq cb hi hb hg
    go_enter Tryd.func20, Tryd.ntmps20
    go_wp2
    have hT3 : Hid (RSt a f caps w0 (((w.alloc (.cells #[.float .f64 x, .float .f64 y, .float .f64 z, .float .f64 u] 51)).alloc (.cells #[.func (.func f) #[] caps] 62)).alloc (.cells #[.func (.func 26) #[] #[.pointer (some ⟨w.heap.size, 0, none⟩), .pointer (some ⟨w.heap.size + 1, 0, none⟩), .pointer (some ⟨w.heap.size + 1 + 1, 0, none⟩)]] 75)) (fun b => F b ∨ b = w.heap.size ∨ b = w.heap.size + 1 ∨ b = w.heap.size + 1 + 1) w.heap.size (w.heap.size + 1) (w.heap.size + 1 + 1) x y z u) := by
      refine Lib.hid ⟨fun b hb => Or.inl (hF b hb), fun b hb => (by
        simp
        rcases hb with hb | rfl | rfl | rfl
        · have := hFw b hb
          omega
        · omega
        · omega
        · omega), Or.inr (Or.inl rfl), Or.inr (Or.inr (Or.inl rfl)), Or.inr (Or.inr (Or.inr rfl)), ?_, ?_, ?_, ?_, HG.out⟩
      · exact (((HB.out.alloc hsz _).alloc (by simp; omega) _).alloc (by simp; omega) _)
      · exact ((Blk.new w _ _).alloc _).alloc _
      · exact (Blk.new' _ _ _ (by simp)).alloc _
      · exact Blk.new' _ _ _ (by simp)
    have hb3 : Bel w (((w.alloc (.cells #[.float .f64 x, .float .f64 y, .float .f64 z, .float .f64 u] 51)).alloc (.cells #[.func (.func f) #[] caps] 62)).alloc (.cells #[.func (.func 26) #[] #[.pointer (some ⟨w.heap.size, 0, none⟩), .pointer (some ⟨w.heap.size + 1, 0, none⟩), .pointer (some ⟨w.heap.size + 1 + 1, 0, none⟩)]] 75)) := by (repeat (first | with_reducible assumption | with_reducible exact Bel.refl _ | with_reducible apply Bel.alloc | with_reducible apply Bel.drew | with_reducible apply Bel.drewN | ((with_reducible apply Bel.setCellR); (simp <;> omega)) | with_reducible refine Bel.behind (by with_reducible assumption) ?_))
    generalize hW : World.alloc _ _ = w3 at *
    clear hW
    have HB3 := Lib.hid hb3
    have h1w := cell_kept hb3 h1'
    obtain ⟨r3, z3, l3⟩ := hT3.out.blk3.facts
    have hpl3 : p < w3.heap.size := Nat.lt_of_lt_of_le hpl hb3.size
    clear hb3 h1'
    go_region_with (first
      | (go_at_call 26; (with_reducible refine (range_rec CB.out _ w0 _ _ _ x y z u q HQ.out T.all T k s _ (Nat.le_refl _) hss HN.out (hT3.out.keep (KeepF.bel ?hbel)) (CB.out.only _ _ _ _ HI.out (OnlyF.bel (Bel.trans HB3.out ?hbel)))).mono ?_); (case hbel => (repeat (first | with_reducible assumption | with_reducible exact Bel.refl _ | with_reducible apply Bel.alloc | with_reducible apply Bel.drew | with_reducible apply Bel.drewN | ((with_reducible apply Bel.setCellR); (simp <;> omega)) | with_reducible refine Bel.behind (by with_reducible assumption) ?_))); rintro e w4 ⟨rfl, hi4, hk4⟩; have HI4 := Lib.hid hi4; have HK4 := Lib.hid hk4; clear hi4 hk4))
    all_goals
      go_wp2
      go_ret
      refine ⟨rfl, CB.out.sub _ _ _ _ HI4.out fun b _ h => Or.inl h, ?_⟩
      refine (KeepF.bel HB3.out).trans ?_
      refine (KeepF.bel ?_).trans (HK4.out.mono fun b _ h => Or.inl h)
      (repeat (first | with_reducible assumption | with_reducible exact Bel.refl _ | with_reducible apply Bel.alloc | with_reducible apply Bel.drew | with_reducible apply Bel.drewN | ((with_reducible apply Bel.setCellR); (simp <;> omega)) | with_reducible refine Bel.behind (by with_reducible assumption) ?_))
end Go.Proofs.YtdfamnlmhikolaaDoor
