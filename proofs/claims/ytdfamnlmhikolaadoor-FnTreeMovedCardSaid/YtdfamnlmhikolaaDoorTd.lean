/-
  The callbacks: told's own (it gathers numbers, and answers with an error at one call), Nearest's own. No panic; nothing but their own blocks has turned.
-/
import Derived.Test.YtdfamnlmhikolaaDoorTps
import Derived.Shelf.Abstract
set_option linter.unusedVariables false
namespace Go.Proofs.YtdfamnlmhikolaaDoor
open Go.ChangeShapes Go.WideShapes Go.ChangeAt Go.RowKit
def ekOf (how : Int) : Ek := if how = 0 then .stop else if how = 1 then .wstop else if how = 2 then .own else .wown
def tstep (stop how : Int) (ids : List Int) (id : Int) : List Int × Ek := (ids ++ [id], if (ids.length : Int) + 1 = stop then ekOf how else .none)
/-- The callback's own memory. -/
structure TInv (a : Addr) (O A : Nat) (acs : Array Value) (F : Nat → Prop) (ids : List Int) (w : World) : Prop where
  blkA : Blk w A acs 34
  nA : ¬ F A
  nO : ¬ F O
  hAO : A < O
  hA0 : A ≠ 0
  row : ∃ v, Blk w O #[v, .bool false, .bool false, .bool false, .int .i64 0, .float .f64 0, .float .f64 0, .float .f64 0, .float .f64 0, .int .i64 0] 40 ∧ w.ownsRow (O + 1) 3 1 v ids.length (ids.map fun n => .int .i64 n) ∧ ∀ g, v.ownBlock = some g → ¬ F g
  glob : w.cell? ⟨0, 0, none⟩ = some (.iface 128 (.pointer (some a)))
theorem infoI : (Tryd.prog.info? 3).map (fun i => (i.zero, i.size, i.bytes)) = some (some (.int .i64 0), 1, 8) := by kernel_rfl
theorem TInv.only {a : Addr} {O A : Nat} {acs : Array Value} {F : Nat → Prop} {ids : List Int} {w w' : World} (h : TInv a O A acs F ids w) (k : OnlyF F w w') : TInv a O A acs F ids w' := by
  have up : ∀ {b cs t}, ¬ F b → Blk w b cs t → Blk w' b cs t := fun {b cs t} hb hB => by
    have hl := hB.lt
    unfold Blk at *
    rw [k.block b hb hl]
    exact hB
  obtain ⟨v, h1, h2, h3⟩ := h.row
  refine ⟨up h.nA h.blkA, h.nA, h.nO, h.hAO, h.hA0, ⟨v, up h.nO h1, ⟨h2.1, ?_⟩, h3⟩, k.glob _ h.glob⟩
  rcases h2.2 with h4 | ⟨g, cap, cur, rfl, hb, hg, rest⟩
  · exact Or.inl h4
  · refine Or.inr ⟨g, cap, cur, rfl, hb, ?_, rest⟩
    rw [k.block g (h3 g rfl) (Array.getElem?_eq_some_iff.1 hg).1]
    exact hg
theorem TInv.sub {a : Addr} {O A : Nat} {acs : Array Value} {F G : Nat → Prop} {ids : List Int} {w : World} (h : TInv a O A acs F ids w) (k : ∀ b, b < w.heap.size → G b → F b) : TInv a O A acs G ids w := by
  obtain ⟨v, h1, h2, h3⟩ := h.row
  exact ⟨h.blkA, fun hb => h.nA (k _ h.blkA.lt hb), fun hb => h.nO (k _ h1.lt hb), h.hAO, h.hA0, ⟨v, h1, h2, fun g hg hb => h3 g hg (k _ (h2.lt g hg).2 hb)⟩, h.glob⟩
/-- Behind the append and the store. -/
theorem TInv.put {a : Addr} {O A : Nat} {acs : Array Value} {F : Nat → Prop} {ids : List Int} {w w2 : World} {ob : Obj} {v v' : Value} {id : Int} (h : TInv a O A acs F ids w) (hO : Blk w O #[v, .bool false, .bool false, .bool false, .int .i64 0, .float .f64 0, .float .f64 0, .float .f64 0, .float .f64 0, .int .i64 0] 40) (hv : w.ownsRow (O + 1) 3 1 v ids.length (ids.map fun n => .int .i64 n)) (hF : ∀ g, v.ownBlock = some g → ¬ F g)
    (ho : w2.ownsRow (O + 1) 3 1 v' (ids.length + 1) ((ids.map fun n => .int .i64 n) ++ [.int .i64 id])) (hg : (w.alloc ob).grownBy w2 v.ownBlock) (hb : v'.ownBlock = v.ownBlock ∨ v'.ownBlock = some (w.alloc ob).heap.size) :
    TInv a O A acs (fun b => F b ∧ b < w.heap.size) (ids ++ [id]) (w2.setCell ⟨O, 0, none⟩ v') ∧ KeepF F w (w2.setCell ⟨O, 0, none⟩ v') := by
  have hAO := h.hAO
  have hsz : w.heap.size ≤ w2.heap.size := by
    have := hg.size
    simp at this
    omega
  have hblk : ∀ b, v.ownBlock ≠ some b → b < w.heap.size → w2.heap[b]? = w.heap[b]? := fun b hv hl => by
    have h1 := hg.block b (by simp; omega) (fun e => hv e.symm)
    rw [h1]
    exact Below.heap_alloc w ob b hl
  have hown : ∀ b, b ≤ O → v.ownBlock ≠ some b := fun b hb e => by
    have := (hv.lt b e).1
    omega
  have up : ∀ {b cs t}, b ≤ O → Blk w b cs t → Blk w2 b cs t := fun {b cs t} hb hB => by
    have hl := hB.lt
    unfold Blk at *
    rw [hblk b (hown b hb) hl]
    exact hB
  refine ⟨⟨(up (by omega) h.blkA).other (by simp; omega) _, fun hb => h.nA hb.1, fun hb => h.nO hb.1, h.hAO, h.hA0, ⟨v', (up (Nat.le_refl _) hO).set 0 _ |>.cast (by simp), ?_, fun g hg hb2 => ?_⟩, ?_⟩, ⟨?_, ?_, ?_, by simpa using hsz, fun b hb2 hl => ?_⟩⟩
  · have := ho.kept (grownBy_set w2 O 0 v') (by
      right
      intro hh
      have := (ho.lt O hh).1
      omega)
    simpa using this
  · rcases hb with e | e
    · exact hF g (e ▸ hg) hb2.1
    · rw [e] at hg
      have := Option.some.inj hg
      simp at this
      omega
  · have h0 := World.block_lt_of_cell? w _ h.glob
    simp only at h0
    rw [World.cell?_of_block (w := w2) (Below.heap_setCell _ _ _ _ (by simp; omega)), World.cell?_of_block (w := w) (hblk 0 (hown 0 (by omega)) h0)]
    exact h.glob
  · exact hg.os
  · exact hg.tape
  · exact hg.output
  · have hbO : b ≠ O := fun e => h.nO (e ▸ hb2)
    rw [Below.heap_setCell _ _ _ _ (by simpa using hbO)]
    exact hblk b (fun e => hF b e hb2) hl
set_option maxHeartbeats 2000000 in
set_option maxRecDepth 100000 in
theorem told1_call (a : Addr) (O A : Nat) (dov b0 b1 b2 b3 : Value) (stop how : Int) (F : Nat → Prop) (ids : List Int) (id : Int) (w : World) (hl : ids.length < 1000000) (h : TInv a O A #[dov, b0, b1, b2, b3, .int .i64 stop, .int .i64 how] F ids w) :
    Calls Tryd.prog 19 (#[.int .i64 id] ++ #[.pointer (some ⟨O, 0, none⟩), .pointer (some ⟨A, 0, none⟩)]) w fun e w' => e = .returned ((tstep stop how ids id).2.val a) ∧ TInv a O A #[dov, b0, b1, b2, b3, .int .i64 stop, .int .i64 how] (fun b => F b ∧ b < w.heap.size) (tstep stop how ids id).1 w' ∧ KeepF F w w' := by
  obtain ⟨v, hO, hv, hF⟩ := h.row
  obtain ⟨p, c, rfl⟩ := hv.isSlice
  obtain ⟨i0, hi, hz0, hz1, hz2⟩ := info_parts infoI
  have H := Lib.hid h
  have HO := Lib.hid hO
  have HV := Lib.hid hv
  have HF := Lib.hid hF
  have HNE : Hid (some O ≠ Value.ownBlock (.slice p ids.length c)) := Lib.hid fun hh => by
    have := (hv.lt O hh.symm).1
    omega
  obtain ⟨r1, z1, l1⟩ := hO.facts
  have hAO := h.hAO
  have hAl := h.blkA.lt
  clear h hO hv hF
  unfold tstep
  generalize hlen : ids.length = n at *
  have HLEN := Lib.hid hlen
  clear hlen
  have hcat : (#[.int .i64 id] ++ #[.pointer (some ⟨O, 0, none⟩), .pointer (some ⟨A, 0, none⟩)] : Array Value) = #[.int .i64 id, .pointer (some ⟨O, 0, none⟩), .pointer (some ⟨A, 0, none⟩)] := rfl
  rw [hcat]
  clear hcat
  by_cases hs : (n : Int) + 1 = stop
  · rw [if_pos hs]
    unfold ekOf
    by_cases h0 : how = 0
    · subst h0
      rw [if_pos rfl]
      go_enter Tryd.func19, Tryd.ntmps19
      go_wp2_with (at_builtin; refine wpList_append_row _ rfl (.tmp 6) (.tmp 8) 38 rfl (O + 1) 3 i0 (.int .i64 0) 1 8 Tryd.underlying38 hi hz0 hz1 hz2 rfl (by decide) (.slice p n c) n (ids.map fun n => .int .i64 n) rfl (HV.out.alloc _) ⟨w.heap.size, 0, none⟩ 1 1 [.int .i64 id] rfl rfl (cells_one _ _ _ (by simp)) (by simp [Value.oneCell']) (by decide) (by unfold maxLen; omega) (by omega) (by simp; omega) ?_; intro v' w2 ho2 hg2 hb2; obtain ⟨p', c', rfl⟩ := ho2.isSlice; have HP : Hid (TInv a O A #[dov, b0, b1, b2, b3, .int .i64 stop, .int .i64 0] (fun b => F b ∧ b < w.heap.size) (ids ++ [id]) (w2.setCell ⟨O, 0, none⟩ (.slice p' (n + 1) c')) ∧ KeepF F w (w2.setCell ⟨O, 0, none⟩ (.slice p' (n + 1) c'))) := Lib.hid (H.out.put HO.out (by rw [HLEN.out]; exact HV.out) HF.out (by rw [HLEN.out]; exact ho2) hg2 hb2); have B2 := grownBy_blk hg2 (HO.out.alloc _) HNE.out; obtain ⟨r2, z2, l2⟩ := B2.facts; have B3 := B2.set 0 (.slice p' (n + 1) c'); obtain ⟨r3, z3, l3⟩ := B3.facts; have A3 := HP.out.1.blkA; obtain ⟨r4, z4, l4⟩ := A3.facts; have hgl := HP.out.1.glob; clear ho2 hg2 hb2 B2 B3 A3)
      go_ret
      exact ⟨rfl, HP.out.1, HP.out.2⟩
    · rw [if_neg h0]
      by_cases h1 : how = 1
      · subst h1
        rw [if_pos rfl]
        go_enter Tryd.func19, Tryd.ntmps19
        go_wp2_with (at_builtin; refine wpList_append_row _ rfl (.tmp 6) (.tmp 8) 38 rfl (O + 1) 3 i0 (.int .i64 0) 1 8 Tryd.underlying38 hi hz0 hz1 hz2 rfl (by decide) (.slice p n c) n (ids.map fun n => .int .i64 n) rfl (HV.out.alloc _) ⟨w.heap.size, 0, none⟩ 1 1 [.int .i64 id] rfl rfl (cells_one _ _ _ (by simp)) (by simp [Value.oneCell']) (by decide) (by unfold maxLen; omega) (by omega) (by simp; omega) ?_; intro v' w2 ho2 hg2 hb2; obtain ⟨p', c', rfl⟩ := ho2.isSlice; have HP : Hid (TInv a O A #[dov, b0, b1, b2, b3, .int .i64 stop, .int .i64 1] (fun b => F b ∧ b < w.heap.size) (ids ++ [id]) (w2.setCell ⟨O, 0, none⟩ (.slice p' (n + 1) c')) ∧ KeepF F w (w2.setCell ⟨O, 0, none⟩ (.slice p' (n + 1) c'))) := Lib.hid (H.out.put HO.out (by rw [HLEN.out]; exact HV.out) HF.out (by rw [HLEN.out]; exact ho2) hg2 hb2); have B2 := grownBy_blk hg2 (HO.out.alloc _) HNE.out; obtain ⟨r2, z2, l2⟩ := B2.facts; have B3 := B2.set 0 (.slice p' (n + 1) c'); obtain ⟨r3, z3, l3⟩ := B3.facts; have A3 := HP.out.1.blkA; obtain ⟨r4, z4, l4⟩ := A3.facts; have hgl := HP.out.1.glob; clear ho2 hg2 hb2 B2 B3 A3)
        go_ret
        exact ⟨rfl, HP.out.1, HP.out.2⟩
      · rw [if_neg h1]
        by_cases h2 : how = 2
        · subst h2
          rw [if_pos rfl]
          go_enter Tryd.func19, Tryd.ntmps19
          go_wp2_with (at_builtin; refine wpList_append_row _ rfl (.tmp 6) (.tmp 8) 38 rfl (O + 1) 3 i0 (.int .i64 0) 1 8 Tryd.underlying38 hi hz0 hz1 hz2 rfl (by decide) (.slice p n c) n (ids.map fun n => .int .i64 n) rfl (HV.out.alloc _) ⟨w.heap.size, 0, none⟩ 1 1 [.int .i64 id] rfl rfl (cells_one _ _ _ (by simp)) (by simp [Value.oneCell']) (by decide) (by unfold maxLen; omega) (by omega) (by simp; omega) ?_; intro v' w2 ho2 hg2 hb2; obtain ⟨p', c', rfl⟩ := ho2.isSlice; have HP : Hid (TInv a O A #[dov, b0, b1, b2, b3, .int .i64 stop, .int .i64 2] (fun b => F b ∧ b < w.heap.size) (ids ++ [id]) (w2.setCell ⟨O, 0, none⟩ (.slice p' (n + 1) c')) ∧ KeepF F w (w2.setCell ⟨O, 0, none⟩ (.slice p' (n + 1) c'))) := Lib.hid (H.out.put HO.out (by rw [HLEN.out]; exact HV.out) HF.out (by rw [HLEN.out]; exact ho2) hg2 hb2); have B2 := grownBy_blk hg2 (HO.out.alloc _) HNE.out; obtain ⟨r2, z2, l2⟩ := B2.facts; have B3 := B2.set 0 (.slice p' (n + 1) c'); obtain ⟨r3, z3, l3⟩ := B3.facts; have A3 := HP.out.1.blkA; obtain ⟨r4, z4, l4⟩ := A3.facts; have hgl := HP.out.1.glob; clear ho2 hg2 hb2 B2 B3 A3)
          go_ret
          exact ⟨rfl, HP.out.1, HP.out.2⟩
        · rw [if_neg h2]
          go_enter Tryd.func19, Tryd.ntmps19
          go_wp2_with (at_builtin; refine wpList_append_row _ rfl (.tmp 6) (.tmp 8) 38 rfl (O + 1) 3 i0 (.int .i64 0) 1 8 Tryd.underlying38 hi hz0 hz1 hz2 rfl (by decide) (.slice p n c) n (ids.map fun n => .int .i64 n) rfl (HV.out.alloc _) ⟨w.heap.size, 0, none⟩ 1 1 [.int .i64 id] rfl rfl (cells_one _ _ _ (by simp)) (by simp [Value.oneCell']) (by decide) (by unfold maxLen; omega) (by omega) (by simp; omega) ?_; intro v' w2 ho2 hg2 hb2; obtain ⟨p', c', rfl⟩ := ho2.isSlice; have HP : Hid (TInv a O A #[dov, b0, b1, b2, b3, .int .i64 stop, .int .i64 how] (fun b => F b ∧ b < w.heap.size) (ids ++ [id]) (w2.setCell ⟨O, 0, none⟩ (.slice p' (n + 1) c')) ∧ KeepF F w (w2.setCell ⟨O, 0, none⟩ (.slice p' (n + 1) c'))) := Lib.hid (H.out.put HO.out (by rw [HLEN.out]; exact HV.out) HF.out (by rw [HLEN.out]; exact ho2) hg2 hb2); have B2 := grownBy_blk hg2 (HO.out.alloc _) HNE.out; obtain ⟨r2, z2, l2⟩ := B2.facts; have B3 := B2.set 0 (.slice p' (n + 1) c'); obtain ⟨r3, z3, l3⟩ := B3.facts; have A3 := HP.out.1.blkA; obtain ⟨r4, z4, l4⟩ := A3.facts; have hgl := HP.out.1.glob; clear ho2 hg2 hb2 B2 B3 A3)
          go_ret
          exact ⟨rfl, HP.out.1, HP.out.2⟩
  · rw [if_neg hs]
    go_enter Tryd.func19, Tryd.ntmps19
    go_wp2_with (at_builtin; refine wpList_append_row _ rfl (.tmp 6) (.tmp 8) 38 rfl (O + 1) 3 i0 (.int .i64 0) 1 8 Tryd.underlying38 hi hz0 hz1 hz2 rfl (by decide) (.slice p n c) n (ids.map fun n => .int .i64 n) rfl (HV.out.alloc _) ⟨w.heap.size, 0, none⟩ 1 1 [.int .i64 id] rfl rfl (cells_one _ _ _ (by simp)) (by simp [Value.oneCell']) (by decide) (by unfold maxLen; omega) (by omega) (by simp; omega) ?_; intro v' w2 ho2 hg2 hb2; obtain ⟨p', c', rfl⟩ := ho2.isSlice; have HP : Hid (TInv a O A #[dov, b0, b1, b2, b3, .int .i64 stop, .int .i64 how] (fun b => F b ∧ b < w.heap.size) (ids ++ [id]) (w2.setCell ⟨O, 0, none⟩ (.slice p' (n + 1) c')) ∧ KeepF F w (w2.setCell ⟨O, 0, none⟩ (.slice p' (n + 1) c'))) := Lib.hid (H.out.put HO.out (by rw [HLEN.out]; exact HV.out) HF.out (by rw [HLEN.out]; exact ho2) hg2 hb2); have B2 := grownBy_blk hg2 (HO.out.alloc _) HNE.out; obtain ⟨r2, z2, l2⟩ := B2.facts; have B3 := B2.set 0 (.slice p' (n + 1) c'); obtain ⟨r3, z3, l3⟩ := B3.facts; have A3 := HP.out.1.blkA; obtain ⟨r4, z4, l4⟩ := A3.facts; have hgl := HP.out.1.glob; clear ho2 hg2 hb2 B2 B3 A3)
    go_ret
    exact ⟨rfl, HP.out.1, HP.out.2⟩

theorem told1_cb (a : Addr) (O A : Nat) (dov b0 b1 b2 b3 : Value) (stop how : Int) : Callback a 19 #[.pointer (some ⟨O, 0, none⟩), .pointer (some ⟨A, 0, none⟩)] (List Int) List.length (TInv a O A #[dov, b0, b1, b2, b3, .int .i64 stop, .int .i64 how]) (tstep stop how) where
  grow := fun s id => by simp [tstep]
  call := fun F s id w hs h => told1_call a O A dov b0 b1 b2 b3 stop how F s id w hs h
  enters := enters_of Tryd.func19 (by kernel_rfl) rfl
  only := fun F s w w' h k => h.only k
  sub := fun F G s w h k => h.sub k
end Go.Proofs.YtdfamnlmhikolaaDoor
