/-
  spec.Nums: the numbers of places under a type. No panic; what stood in memory has not turned.
-/
import Derived.Test.YtpipehenfcbjbaaGreatSpd
set_option linter.unusedVariables false
namespace Go.Proofs.YtpipehenfcbjbaaGreat
open Go.ChangeShapes Go.WideShapes Go.ChangeAt Go.RowKit
theorem Blk.grown {w w' : World} {b : Nat} {cs : Array Value} {t : TypeId} {row : Option Nat} (h : Blk w b cs t) (hg : w.grownBy w' row) (hne : row ≠ some b) : Blk w' b cs t := by
  have h1 := h.lt
  unfold Blk at *
  rw [hg.5 b h1 (fun e => hne e.symm)]
  exact h
def IsFlx (F : Nat → Prop) (xs : List Nat) (w : World) (e : Ending) (w' : World) : Prop := ∃ p m c, e = .returned (.slice p m c) ∧ FlSl F w' (.slice p m c) xs ∧ Bel w w'
theorem flat_step {c : Nat} {ps : List Pl} {t : Nat} {q : Pl} (h : ps[t]? = some q) : ((ps.take (t + 1)).flatMap (numsOfPl c)).map flv = ((ps.take t).flatMap (numsOfPl c)).map flv ++ (numsOfPl c q).map flv := by
  rw [List.take_add_one, h]
  simp
set_option maxHeartbeats 4000000 in
set_option maxRecDepth 100000 in
theorem nums_0 (F G : Nat → Prop) (v : Value) (ps : List Pl) (dim : Int) (w : World) (hF : New F w) (h : PlSl G w v ps) (h31 : ps.length ≤ 1048576) (hd : ct dim = 0) :
    Calls Tryz.prog 35 #[v, .int .i64 dim] w (IsFlx F (ps.flatMap (numsOfPl 0)) w) := by
  have hm : dim % 4 = 0 := by unfold ct at hd; omega
  have a1 : bits .and .i64 dim 1 = 0 := by rw [i64_and1]; omega
  have a2 : bits .and .i64 dim 2 = 0 := by rw [i64_and2, hm]; decide
  obtain ⟨p, cap, rfl, hl, hc, hr⟩ := h
  have HR := Lib.hid hr
  obtain ⟨i0, hi, hz0, hz1, hz2⟩ := info_parts infoF
  generalize hn : ps.length = n at *
  have HN := Lib.hid hn
  clear hm hd hr hn
  go_enter Tryz.func35, Tryz.ntmps35
  go_wp2
  go_loopw [5, 10] (fun dv iv wr => ∃ (t m : Nat), iv = .int .i64 t ∧ t ≤ n ∧ m = t * 2 ∧ Bel w wr ∧ wr.ownsRow w.heap.size 29 1 dv m (((ps.take t).flatMap (numsOfPl 0)).map flv)) (fun _ iv _ => n - (intOf iv).toNat)
  case atStart => exact ⟨0, 0, rfl, Nat.zero_le _, by omega, Bel.refl _, World.ownsRow_nil _ _ _ _⟩
  case round =>
    obtain ⟨t, m, rfl, ht, hmt, hbel, hown⟩ := hrel
    have HBEL := Lib.hid hbel
    have HOWN := Lib.hid hown
    have HMT := Lib.hid hmt
    have hmb : m ≤ 4194304 := by omega
    clear hmt
    obtain ⟨pv, cv, rfl⟩ := hown.isSlice
    by_cases htn : t < n
    · obtain ⟨⟨x, y, z, u⟩, hq⟩ : ∃ q, ps[t]? = some q := ⟨_, List.getElem?_eq_getElem (by have := HN.out; omega)⟩
      have HSTEP : Hid (((ps.take (t + 1)).flatMap (numsOfPl 0)).map flv = ((ps.take t).flatMap (numsOfPl 0)).map flv ++ [.float .f64 x, .float .f64 y]) := Lib.hid (by rw [flat_step hq]; simp [numsOfPl, flv])
      obtain ⟨b, off, rfl, hlt, -, hcs⟩ := HR.out (by intro e; rw [e] at hq; simp at hq)
      obtain ⟨d0, d1, d2, d3⟩ := hcs t _ hq
      have D0 := cell_kept hbel d0
      have D1 := cell_kept hbel d1
      have D2 := cell_kept hbel d2
      have D3 := cell_kept hbel d3
      have hbl : b < wr.heap.size := Nat.lt_of_lt_of_le hlt hbel.size
      clear d0 d1 d2 d3 hcs hq hbel hown
      go_wp2_with (first
        | (at_builtin; (refine wpList_append_row _ rfl (.tmp 14) (.tmp 19) 22 rfl w.heap.size 29 i0 _ 1 8 Tryz.underlying22 hi hz0 hz1 hz2 rfl (by decide) (.slice pv (m) cv) (m) _ rfl (own_kept HOWN.out (show Bel wr _ by (repeat (first | with_reducible assumption | with_reducible exact Bel.refl _ | with_reducible apply Bel.alloc | with_reducible apply Bel.drew | with_reducible apply Bel.drewN | ((with_reducible apply Bel.setCellR); (simp <;> omega)) | with_reducible refine Bel.behind (by with_reducible assumption) ?_)))) ⟨wr.heap.size + 1, 0, none⟩ 2 2 [.float .f64 x, .float .f64 y] rfl rfl (blk_arr (cs := #[.float .f64 x, .float .f64 y]) (t := 29) (by (repeat (first | with_reducible assumption | with_reducible exact Blk.new _ _ _ | ((with_reducible refine Blk.new' _ _ _ ?_); (focus ((simp; done)))) | with_reducible apply Blk.drew | with_reducible apply Blk.drewN | with_reducible refine Blk.alloc ?_ _ | with_reducible apply Blk.same | (with_reducible refine Blk.bel ?_ (by with_reducible assumption)) | ((with_reducible refine Blk.otherR ?_ ?_); (focus ((simp <;> omega); done))))))) (by simp [Value.oneCell']) (by decide) (by unfold maxLen; omega) (by omega) (by have := HBEL.out.size; simp; omega) ?_; intro v6 w6 ho6 hg6 hb6; obtain ⟨p6, c6, rfl⟩ := ho6.isSlice; have HO6 := Lib.hid ho6; have HB6 : Hid (Bel w w6) := Lib.hid ((HBEL.out.trans (show Bel wr _ by (repeat (first | with_reducible assumption | with_reducible exact Bel.refl _ | with_reducible apply Bel.alloc | with_reducible apply Bel.drew | with_reducible apply Bel.drewN | ((with_reducible apply Bel.setCellR); (simp <;> omega)) | with_reducible refine Bel.behind (by with_reducible assumption) ?_)))).of_row hg6 (fun g hg => (HOWN.out.lt g hg).1)); have P6 := ((Blk.new wr #[.float .f64 x, .float .f64 y, .float .f64 z, .float .f64 u] 107).alloc _).grown hg6 (fun e => by have := (HOWN.out.lt _ e).2; omega); have HP6 := Lib.hid P6; obtain ⟨r6, z6, l6⟩ := P6.facts; have HSZ6 : Hid (wr.heap.size + 2 ≤ w6.heap.size) := Lib.hid (by have := hg6.4; simp at this; omega); have HNE6 : Hid (Value.ownBlock (.slice p6 (m + 2) c6) ≠ some wr.heap.size) := Lib.hid (fun e => by rcases hb6 with h | h; exact (fun e => by have := (HOWN.out.lt _ e).2; omega) (h.symm.trans e); (have h2 := h.symm.trans e; simp at h2; omega)); clear ho6 hg6 hb6 P6)))
      go_roundw
      case rel => exact ⟨t + 1, m + 2, by go_num, by omega, by have := HMT.out; omega, HB6.out, by rw [HSTEP.out]; have := HO6.out; simpa only [List.append_assoc] using this⟩
      case measure => simp [intOf]; omega
    · obtain rfl : t = n := by omega
      have hx : ps.take t = ps := List.take_of_length_le (by have := HN.out; omega)
      rw [hx] at hown
      have hlen : (ps.flatMap (numsOfPl 0)).length = m := by rw [flatMap_len, HN.out, HMT.out]; rfl
      have HR2 := Lib.hid (FlSl.of_owns (F := F) hown hlen hF)
      clear hx hbel hown hlen
      go_wp2
      go_ret
      exact ⟨_, _, _, rfl, HR2.out, HBEL.out⟩
set_option maxHeartbeats 4000000 in
set_option maxRecDepth 100000 in
theorem nums_1 (F G : Nat → Prop) (v : Value) (ps : List Pl) (dim : Int) (w : World) (hF : New F w) (h : PlSl G w v ps) (h31 : ps.length ≤ 1048576) (hd : ct dim = 1) :
    Calls Tryz.prog 35 #[v, .int .i64 dim] w (IsFlx F (ps.flatMap (numsOfPl 1)) w) := by
  have hm : dim % 4 = 1 := by unfold ct at hd; omega
  have a1 : bits .and .i64 dim 1 = 1 := by rw [i64_and1]; omega
  have a2 : bits .and .i64 dim 2 = 0 := by rw [i64_and2, hm]; decide
  obtain ⟨p, cap, rfl, hl, hc, hr⟩ := h
  have HR := Lib.hid hr
  obtain ⟨i0, hi, hz0, hz1, hz2⟩ := info_parts infoF
  generalize hn : ps.length = n at *
  have HN := Lib.hid hn
  clear hm hd hr hn
  go_enter Tryz.func35, Tryz.ntmps35
  go_wp2
  go_loopw [5, 10] (fun dv iv wr => ∃ (t m : Nat), iv = .int .i64 t ∧ t ≤ n ∧ m = t * 3 ∧ Bel w wr ∧ wr.ownsRow w.heap.size 29 1 dv m (((ps.take t).flatMap (numsOfPl 1)).map flv)) (fun _ iv _ => n - (intOf iv).toNat)
  case atStart => exact ⟨0, 0, rfl, Nat.zero_le _, by omega, Bel.refl _, World.ownsRow_nil _ _ _ _⟩
  case round =>
    obtain ⟨t, m, rfl, ht, hmt, hbel, hown⟩ := hrel
    have HBEL := Lib.hid hbel
    have HOWN := Lib.hid hown
    have HMT := Lib.hid hmt
    have hmb : m ≤ 4194304 := by omega
    clear hmt
    obtain ⟨pv, cv, rfl⟩ := hown.isSlice
    by_cases htn : t < n
    · obtain ⟨⟨x, y, z, u⟩, hq⟩ : ∃ q, ps[t]? = some q := ⟨_, List.getElem?_eq_getElem (by have := HN.out; omega)⟩
      have HSTEP : Hid (((ps.take (t + 1)).flatMap (numsOfPl 1)).map flv = ((ps.take t).flatMap (numsOfPl 1)).map flv ++ [.float .f64 x, .float .f64 y] ++ [.float .f64 z]) := Lib.hid (by rw [flat_step hq]; simp [numsOfPl, flv])
      obtain ⟨b, off, rfl, hlt, -, hcs⟩ := HR.out (by intro e; rw [e] at hq; simp at hq)
      obtain ⟨d0, d1, d2, d3⟩ := hcs t _ hq
      have D0 := cell_kept hbel d0
      have D1 := cell_kept hbel d1
      have D2 := cell_kept hbel d2
      have D3 := cell_kept hbel d3
      have hbl : b < wr.heap.size := Nat.lt_of_lt_of_le hlt hbel.size
      clear d0 d1 d2 d3 hcs hq hbel hown
      go_wp2_with (first
        | (at_builtin; (refine wpList_append_row _ rfl (.tmp 14) (.tmp 19) 22 rfl w.heap.size 29 i0 _ 1 8 Tryz.underlying22 hi hz0 hz1 hz2 rfl (by decide) (.slice pv (m) cv) (m) _ rfl (own_kept HOWN.out (show Bel wr _ by (repeat (first | with_reducible assumption | with_reducible exact Bel.refl _ | with_reducible apply Bel.alloc | with_reducible apply Bel.drew | with_reducible apply Bel.drewN | ((with_reducible apply Bel.setCellR); (simp <;> omega)) | with_reducible refine Bel.behind (by with_reducible assumption) ?_)))) ⟨wr.heap.size + 1, 0, none⟩ 2 2 [.float .f64 x, .float .f64 y] rfl rfl (blk_arr (cs := #[.float .f64 x, .float .f64 y]) (t := 29) (by (repeat (first | with_reducible assumption | with_reducible exact Blk.new _ _ _ | ((with_reducible refine Blk.new' _ _ _ ?_); (focus ((simp; done)))) | with_reducible apply Blk.drew | with_reducible apply Blk.drewN | with_reducible refine Blk.alloc ?_ _ | with_reducible apply Blk.same | (with_reducible refine Blk.bel ?_ (by with_reducible assumption)) | ((with_reducible refine Blk.otherR ?_ ?_); (focus ((simp <;> omega); done))))))) (by simp [Value.oneCell']) (by decide) (by unfold maxLen; omega) (by omega) (by have := HBEL.out.size; simp; omega) ?_; intro v6 w6 ho6 hg6 hb6; obtain ⟨p6, c6, rfl⟩ := ho6.isSlice; have HO6 := Lib.hid ho6; have HB6 : Hid (Bel w w6) := Lib.hid ((HBEL.out.trans (show Bel wr _ by (repeat (first | with_reducible assumption | with_reducible exact Bel.refl _ | with_reducible apply Bel.alloc | with_reducible apply Bel.drew | with_reducible apply Bel.drewN | ((with_reducible apply Bel.setCellR); (simp <;> omega)) | with_reducible refine Bel.behind (by with_reducible assumption) ?_)))).of_row hg6 (fun g hg => (HOWN.out.lt g hg).1)); have P6 := ((Blk.new wr #[.float .f64 x, .float .f64 y, .float .f64 z, .float .f64 u] 107).alloc _).grown hg6 (fun e => by have := (HOWN.out.lt _ e).2; omega); have HP6 := Lib.hid P6; obtain ⟨r6, z6, l6⟩ := P6.facts; have HSZ6 : Hid (wr.heap.size + 2 ≤ w6.heap.size) := Lib.hid (by have := hg6.4; simp at this; omega); have HNE6 : Hid (Value.ownBlock (.slice p6 (m + 2) c6) ≠ some wr.heap.size) := Lib.hid (fun e => by rcases hb6 with h | h; exact (fun e => by have := (HOWN.out.lt _ e).2; omega) (h.symm.trans e); (have h2 := h.symm.trans e; simp at h2; omega)); clear ho6 hg6 hb6 P6))
        | (at_builtin; (refine wpList_append_row _ rfl (.tmp 24) (.tmp 27) 22 rfl w.heap.size 29 i0 _ 1 8 Tryz.underlying22 hi hz0 hz1 hz2 rfl (by decide) (.slice p6 (m + 2) c6) (m + 2) _ rfl (own_kept HO6.out (show Bel w6 _ by (repeat (first | with_reducible assumption | with_reducible exact Bel.refl _ | with_reducible apply Bel.alloc | with_reducible apply Bel.drew | with_reducible apply Bel.drewN | ((with_reducible apply Bel.setCellR); (simp <;> omega)) | with_reducible refine Bel.behind (by with_reducible assumption) ?_)))) ⟨w6.heap.size, 0, none⟩ 1 1 [.float .f64 z] rfl rfl (blk_arr (cs := #[.float .f64 z]) (t := 29) (by (repeat (first | with_reducible assumption | with_reducible exact Blk.new _ _ _ | ((with_reducible refine Blk.new' _ _ _ ?_); (focus ((simp; done)))) | with_reducible apply Blk.drew | with_reducible apply Blk.drewN | with_reducible refine Blk.alloc ?_ _ | with_reducible apply Blk.same | (with_reducible refine Blk.bel ?_ (by with_reducible assumption)) | ((with_reducible refine Blk.otherR ?_ ?_); (focus ((simp <;> omega); done))))))) (by simp [Value.oneCell']) (by decide) (by unfold maxLen; omega) (by omega) (by have h1 := HBEL.out.size; have h2 := HSZ6.out; simp; omega) ?_; intro v7 w7 ho7 hg7 hb7; obtain ⟨p7, c7, rfl⟩ := ho7.isSlice; have HO7 := Lib.hid ho7; have HB7 : Hid (Bel w w7) := Lib.hid ((HB6.out.trans (show Bel w6 _ by (repeat (first | with_reducible assumption | with_reducible exact Bel.refl _ | with_reducible apply Bel.alloc | with_reducible apply Bel.drew | with_reducible apply Bel.drewN | ((with_reducible apply Bel.setCellR); (simp <;> omega)) | with_reducible refine Bel.behind (by with_reducible assumption) ?_)))).of_row hg7 (fun g hg => (HO6.out.lt g hg).1)); have P7 := (HP6.out.alloc _).grown hg7 HNE6.out; have HP7 := Lib.hid P7; obtain ⟨r7, z7, l7⟩ := P7.facts; have HSZ7 : Hid (wr.heap.size + 2 ≤ w7.heap.size) := Lib.hid (by have h1 := HSZ6.out; have := hg7.4; simp at this; omega); have HNE7 : Hid (Value.ownBlock (.slice p7 (m + 2 + 1) c7) ≠ some wr.heap.size) := Lib.hid (fun e => by rcases hb7 with h | h; exact HNE6.out (h.symm.trans e); (have h2 := h.symm.trans e; simp at h2; have h3 := HSZ6.out; omega)); clear ho7 hg7 hb7 P7)))
      go_roundw
      case rel => exact ⟨t + 1, m + 2 + 1, by go_num, by omega, by have := HMT.out; omega, HB7.out, by rw [HSTEP.out]; have := HO7.out; simpa only [List.append_assoc] using this⟩
      case measure => simp [intOf]; omega
    · obtain rfl : t = n := by omega
      have hx : ps.take t = ps := List.take_of_length_le (by have := HN.out; omega)
      rw [hx] at hown
      have hlen : (ps.flatMap (numsOfPl 1)).length = m := by rw [flatMap_len, HN.out, HMT.out]; rfl
      have HR2 := Lib.hid (FlSl.of_owns (F := F) hown hlen hF)
      clear hx hbel hown hlen
      go_wp2
      go_ret
      exact ⟨_, _, _, rfl, HR2.out, HBEL.out⟩
set_option maxHeartbeats 4000000 in
set_option maxRecDepth 100000 in
theorem nums_2 (F G : Nat → Prop) (v : Value) (ps : List Pl) (dim : Int) (w : World) (hF : New F w) (h : PlSl G w v ps) (h31 : ps.length ≤ 1048576) (hd : ct dim = 2) :
    Calls Tryz.prog 35 #[v, .int .i64 dim] w (IsFlx F (ps.flatMap (numsOfPl 2)) w) := by
  have hm : dim % 4 = 2 := by unfold ct at hd; omega
  have a1 : bits .and .i64 dim 1 = 0 := by rw [i64_and1]; omega
  have a2 : bits .and .i64 dim 2 = 2 := by rw [i64_and2, hm]; decide
  obtain ⟨p, cap, rfl, hl, hc, hr⟩ := h
  have HR := Lib.hid hr
  obtain ⟨i0, hi, hz0, hz1, hz2⟩ := info_parts infoF
  generalize hn : ps.length = n at *
  have HN := Lib.hid hn
  clear hm hd hr hn
  go_enter Tryz.func35, Tryz.ntmps35
  go_wp2
  go_loopw [5, 10] (fun dv iv wr => ∃ (t m : Nat), iv = .int .i64 t ∧ t ≤ n ∧ m = t * 3 ∧ Bel w wr ∧ wr.ownsRow w.heap.size 29 1 dv m (((ps.take t).flatMap (numsOfPl 2)).map flv)) (fun _ iv _ => n - (intOf iv).toNat)
  case atStart => exact ⟨0, 0, rfl, Nat.zero_le _, by omega, Bel.refl _, World.ownsRow_nil _ _ _ _⟩
  case round =>
    obtain ⟨t, m, rfl, ht, hmt, hbel, hown⟩ := hrel
    have HBEL := Lib.hid hbel
    have HOWN := Lib.hid hown
    have HMT := Lib.hid hmt
    have hmb : m ≤ 4194304 := by omega
    clear hmt
    obtain ⟨pv, cv, rfl⟩ := hown.isSlice
    by_cases htn : t < n
    · obtain ⟨⟨x, y, z, u⟩, hq⟩ : ∃ q, ps[t]? = some q := ⟨_, List.getElem?_eq_getElem (by have := HN.out; omega)⟩
      have HSTEP : Hid (((ps.take (t + 1)).flatMap (numsOfPl 2)).map flv = ((ps.take t).flatMap (numsOfPl 2)).map flv ++ [.float .f64 x, .float .f64 y] ++ [.float .f64 u]) := Lib.hid (by rw [flat_step hq]; simp [numsOfPl, flv])
      obtain ⟨b, off, rfl, hlt, -, hcs⟩ := HR.out (by intro e; rw [e] at hq; simp at hq)
      obtain ⟨d0, d1, d2, d3⟩ := hcs t _ hq
      have D0 := cell_kept hbel d0
      have D1 := cell_kept hbel d1
      have D2 := cell_kept hbel d2
      have D3 := cell_kept hbel d3
      have hbl : b < wr.heap.size := Nat.lt_of_lt_of_le hlt hbel.size
      clear d0 d1 d2 d3 hcs hq hbel hown
      go_wp2_with (first
        | (at_builtin; (refine wpList_append_row _ rfl (.tmp 14) (.tmp 19) 22 rfl w.heap.size 29 i0 _ 1 8 Tryz.underlying22 hi hz0 hz1 hz2 rfl (by decide) (.slice pv (m) cv) (m) _ rfl (own_kept HOWN.out (show Bel wr _ by (repeat (first | with_reducible assumption | with_reducible exact Bel.refl _ | with_reducible apply Bel.alloc | with_reducible apply Bel.drew | with_reducible apply Bel.drewN | ((with_reducible apply Bel.setCellR); (simp <;> omega)) | with_reducible refine Bel.behind (by with_reducible assumption) ?_)))) ⟨wr.heap.size + 1, 0, none⟩ 2 2 [.float .f64 x, .float .f64 y] rfl rfl (blk_arr (cs := #[.float .f64 x, .float .f64 y]) (t := 29) (by (repeat (first | with_reducible assumption | with_reducible exact Blk.new _ _ _ | ((with_reducible refine Blk.new' _ _ _ ?_); (focus ((simp; done)))) | with_reducible apply Blk.drew | with_reducible apply Blk.drewN | with_reducible refine Blk.alloc ?_ _ | with_reducible apply Blk.same | (with_reducible refine Blk.bel ?_ (by with_reducible assumption)) | ((with_reducible refine Blk.otherR ?_ ?_); (focus ((simp <;> omega); done))))))) (by simp [Value.oneCell']) (by decide) (by unfold maxLen; omega) (by omega) (by have := HBEL.out.size; simp; omega) ?_; intro v6 w6 ho6 hg6 hb6; obtain ⟨p6, c6, rfl⟩ := ho6.isSlice; have HO6 := Lib.hid ho6; have HB6 : Hid (Bel w w6) := Lib.hid ((HBEL.out.trans (show Bel wr _ by (repeat (first | with_reducible assumption | with_reducible exact Bel.refl _ | with_reducible apply Bel.alloc | with_reducible apply Bel.drew | with_reducible apply Bel.drewN | ((with_reducible apply Bel.setCellR); (simp <;> omega)) | with_reducible refine Bel.behind (by with_reducible assumption) ?_)))).of_row hg6 (fun g hg => (HOWN.out.lt g hg).1)); have P6 := ((Blk.new wr #[.float .f64 x, .float .f64 y, .float .f64 z, .float .f64 u] 107).alloc _).grown hg6 (fun e => by have := (HOWN.out.lt _ e).2; omega); have HP6 := Lib.hid P6; obtain ⟨r6, z6, l6⟩ := P6.facts; have HSZ6 : Hid (wr.heap.size + 2 ≤ w6.heap.size) := Lib.hid (by have := hg6.4; simp at this; omega); have HNE6 : Hid (Value.ownBlock (.slice p6 (m + 2) c6) ≠ some wr.heap.size) := Lib.hid (fun e => by rcases hb6 with h | h; exact (fun e => by have := (HOWN.out.lt _ e).2; omega) (h.symm.trans e); (have h2 := h.symm.trans e; simp at h2; omega)); clear ho6 hg6 hb6 P6))
        | (at_builtin; (refine wpList_append_row _ rfl (.tmp 32) (.tmp 35) 22 rfl w.heap.size 29 i0 _ 1 8 Tryz.underlying22 hi hz0 hz1 hz2 rfl (by decide) (.slice p6 (m + 2) c6) (m + 2) _ rfl (own_kept HO6.out (show Bel w6 _ by (repeat (first | with_reducible assumption | with_reducible exact Bel.refl _ | with_reducible apply Bel.alloc | with_reducible apply Bel.drew | with_reducible apply Bel.drewN | ((with_reducible apply Bel.setCellR); (simp <;> omega)) | with_reducible refine Bel.behind (by with_reducible assumption) ?_)))) ⟨w6.heap.size, 0, none⟩ 1 1 [.float .f64 u] rfl rfl (blk_arr (cs := #[.float .f64 u]) (t := 29) (by (repeat (first | with_reducible assumption | with_reducible exact Blk.new _ _ _ | ((with_reducible refine Blk.new' _ _ _ ?_); (focus ((simp; done)))) | with_reducible apply Blk.drew | with_reducible apply Blk.drewN | with_reducible refine Blk.alloc ?_ _ | with_reducible apply Blk.same | (with_reducible refine Blk.bel ?_ (by with_reducible assumption)) | ((with_reducible refine Blk.otherR ?_ ?_); (focus ((simp <;> omega); done))))))) (by simp [Value.oneCell']) (by decide) (by unfold maxLen; omega) (by omega) (by have h1 := HBEL.out.size; have h2 := HSZ6.out; simp; omega) ?_; intro v7 w7 ho7 hg7 hb7; obtain ⟨p7, c7, rfl⟩ := ho7.isSlice; have HO7 := Lib.hid ho7; have HB7 : Hid (Bel w w7) := Lib.hid ((HB6.out.trans (show Bel w6 _ by (repeat (first | with_reducible assumption | with_reducible exact Bel.refl _ | with_reducible apply Bel.alloc | with_reducible apply Bel.drew | with_reducible apply Bel.drewN | ((with_reducible apply Bel.setCellR); (simp <;> omega)) | with_reducible refine Bel.behind (by with_reducible assumption) ?_)))).of_row hg7 (fun g hg => (HO6.out.lt g hg).1)); have P7 := (HP6.out.alloc _).grown hg7 HNE6.out; have HP7 := Lib.hid P7; obtain ⟨r7, z7, l7⟩ := P7.facts; have HSZ7 : Hid (wr.heap.size + 2 ≤ w7.heap.size) := Lib.hid (by have h1 := HSZ6.out; have := hg7.4; simp at this; omega); have HNE7 : Hid (Value.ownBlock (.slice p7 (m + 2 + 1) c7) ≠ some wr.heap.size) := Lib.hid (fun e => by rcases hb7 with h | h; exact HNE6.out (h.symm.trans e); (have h2 := h.symm.trans e; simp at h2; have h3 := HSZ6.out; omega)); clear ho7 hg7 hb7 P7)))
      go_roundw
      case rel => exact ⟨t + 1, m + 2 + 1, by go_num, by omega, by have := HMT.out; omega, HB7.out, by rw [HSTEP.out]; have := HO7.out; simpa only [List.append_assoc] using this⟩
      case measure => simp [intOf]; omega
    · obtain rfl : t = n := by omega
      have hx : ps.take t = ps := List.take_of_length_le (by have := HN.out; omega)
      rw [hx] at hown
      have hlen : (ps.flatMap (numsOfPl 2)).length = m := by rw [flatMap_len, HN.out, HMT.out]; rfl
      have HR2 := Lib.hid (FlSl.of_owns (F := F) hown hlen hF)
      clear hx hbel hown hlen
      go_wp2
      go_ret
      exact ⟨_, _, _, rfl, HR2.out, HBEL.out⟩
set_option maxHeartbeats 4000000 in
set_option maxRecDepth 100000 in
theorem nums_3 (F G : Nat → Prop) (v : Value) (ps : List Pl) (dim : Int) (w : World) (hF : New F w) (h : PlSl G w v ps) (h31 : ps.length ≤ 1048576) (hd : ct dim = 3) :
    Calls Tryz.prog 35 #[v, .int .i64 dim] w (IsFlx F (ps.flatMap (numsOfPl 3)) w) := by
  have hm : dim % 4 = 3 := by unfold ct at hd; omega
  have a1 : bits .and .i64 dim 1 = 1 := by rw [i64_and1]; omega
  have a2 : bits .and .i64 dim 2 = 2 := by rw [i64_and2, hm]; decide
  obtain ⟨p, cap, rfl, hl, hc, hr⟩ := h
  have HR := Lib.hid hr
  obtain ⟨i0, hi, hz0, hz1, hz2⟩ := info_parts infoF
  generalize hn : ps.length = n at *
  have HN := Lib.hid hn
  clear hm hd hr hn
  go_enter Tryz.func35, Tryz.ntmps35
  go_wp2
  go_loopw [5, 10] (fun dv iv wr => ∃ (t m : Nat), iv = .int .i64 t ∧ t ≤ n ∧ m = t * 4 ∧ Bel w wr ∧ wr.ownsRow w.heap.size 29 1 dv m (((ps.take t).flatMap (numsOfPl 3)).map flv)) (fun _ iv _ => n - (intOf iv).toNat)
  case atStart => exact ⟨0, 0, rfl, Nat.zero_le _, by omega, Bel.refl _, World.ownsRow_nil _ _ _ _⟩
  case round =>
    obtain ⟨t, m, rfl, ht, hmt, hbel, hown⟩ := hrel
    have HBEL := Lib.hid hbel
    have HOWN := Lib.hid hown
    have HMT := Lib.hid hmt
    have hmb : m ≤ 4194304 := by omega
    clear hmt
    obtain ⟨pv, cv, rfl⟩ := hown.isSlice
    by_cases htn : t < n
    · obtain ⟨⟨x, y, z, u⟩, hq⟩ : ∃ q, ps[t]? = some q := ⟨_, List.getElem?_eq_getElem (by have := HN.out; omega)⟩
      have HSTEP : Hid (((ps.take (t + 1)).flatMap (numsOfPl 3)).map flv = ((ps.take t).flatMap (numsOfPl 3)).map flv ++ [.float .f64 x, .float .f64 y] ++ [.float .f64 z] ++ [.float .f64 u]) := Lib.hid (by rw [flat_step hq]; simp [numsOfPl, flv])
      obtain ⟨b, off, rfl, hlt, -, hcs⟩ := HR.out (by intro e; rw [e] at hq; simp at hq)
      obtain ⟨d0, d1, d2, d3⟩ := hcs t _ hq
      have D0 := cell_kept hbel d0
      have D1 := cell_kept hbel d1
      have D2 := cell_kept hbel d2
      have D3 := cell_kept hbel d3
      have hbl : b < wr.heap.size := Nat.lt_of_lt_of_le hlt hbel.size
      clear d0 d1 d2 d3 hcs hq hbel hown
      go_wp2_with (first
        | (at_builtin; (refine wpList_append_row _ rfl (.tmp 14) (.tmp 19) 22 rfl w.heap.size 29 i0 _ 1 8 Tryz.underlying22 hi hz0 hz1 hz2 rfl (by decide) (.slice pv (m) cv) (m) _ rfl (own_kept HOWN.out (show Bel wr _ by (repeat (first | with_reducible assumption | with_reducible exact Bel.refl _ | with_reducible apply Bel.alloc | with_reducible apply Bel.drew | with_reducible apply Bel.drewN | ((with_reducible apply Bel.setCellR); (simp <;> omega)) | with_reducible refine Bel.behind (by with_reducible assumption) ?_)))) ⟨wr.heap.size + 1, 0, none⟩ 2 2 [.float .f64 x, .float .f64 y] rfl rfl (blk_arr (cs := #[.float .f64 x, .float .f64 y]) (t := 29) (by (repeat (first | with_reducible assumption | with_reducible exact Blk.new _ _ _ | ((with_reducible refine Blk.new' _ _ _ ?_); (focus ((simp; done)))) | with_reducible apply Blk.drew | with_reducible apply Blk.drewN | with_reducible refine Blk.alloc ?_ _ | with_reducible apply Blk.same | (with_reducible refine Blk.bel ?_ (by with_reducible assumption)) | ((with_reducible refine Blk.otherR ?_ ?_); (focus ((simp <;> omega); done))))))) (by simp [Value.oneCell']) (by decide) (by unfold maxLen; omega) (by omega) (by have := HBEL.out.size; simp; omega) ?_; intro v6 w6 ho6 hg6 hb6; obtain ⟨p6, c6, rfl⟩ := ho6.isSlice; have HO6 := Lib.hid ho6; have HB6 : Hid (Bel w w6) := Lib.hid ((HBEL.out.trans (show Bel wr _ by (repeat (first | with_reducible assumption | with_reducible exact Bel.refl _ | with_reducible apply Bel.alloc | with_reducible apply Bel.drew | with_reducible apply Bel.drewN | ((with_reducible apply Bel.setCellR); (simp <;> omega)) | with_reducible refine Bel.behind (by with_reducible assumption) ?_)))).of_row hg6 (fun g hg => (HOWN.out.lt g hg).1)); have P6 := ((Blk.new wr #[.float .f64 x, .float .f64 y, .float .f64 z, .float .f64 u] 107).alloc _).grown hg6 (fun e => by have := (HOWN.out.lt _ e).2; omega); have HP6 := Lib.hid P6; obtain ⟨r6, z6, l6⟩ := P6.facts; have HSZ6 : Hid (wr.heap.size + 2 ≤ w6.heap.size) := Lib.hid (by have := hg6.4; simp at this; omega); have HNE6 : Hid (Value.ownBlock (.slice p6 (m + 2) c6) ≠ some wr.heap.size) := Lib.hid (fun e => by rcases hb6 with h | h; exact (fun e => by have := (HOWN.out.lt _ e).2; omega) (h.symm.trans e); (have h2 := h.symm.trans e; simp at h2; omega)); clear ho6 hg6 hb6 P6))
        | (at_builtin; (refine wpList_append_row _ rfl (.tmp 24) (.tmp 27) 22 rfl w.heap.size 29 i0 _ 1 8 Tryz.underlying22 hi hz0 hz1 hz2 rfl (by decide) (.slice p6 (m + 2) c6) (m + 2) _ rfl (own_kept HO6.out (show Bel w6 _ by (repeat (first | with_reducible assumption | with_reducible exact Bel.refl _ | with_reducible apply Bel.alloc | with_reducible apply Bel.drew | with_reducible apply Bel.drewN | ((with_reducible apply Bel.setCellR); (simp <;> omega)) | with_reducible refine Bel.behind (by with_reducible assumption) ?_)))) ⟨w6.heap.size, 0, none⟩ 1 1 [.float .f64 z] rfl rfl (blk_arr (cs := #[.float .f64 z]) (t := 29) (by (repeat (first | with_reducible assumption | with_reducible exact Blk.new _ _ _ | ((with_reducible refine Blk.new' _ _ _ ?_); (focus ((simp; done)))) | with_reducible apply Blk.drew | with_reducible apply Blk.drewN | with_reducible refine Blk.alloc ?_ _ | with_reducible apply Blk.same | (with_reducible refine Blk.bel ?_ (by with_reducible assumption)) | ((with_reducible refine Blk.otherR ?_ ?_); (focus ((simp <;> omega); done))))))) (by simp [Value.oneCell']) (by decide) (by unfold maxLen; omega) (by omega) (by have h1 := HBEL.out.size; have h2 := HSZ6.out; simp; omega) ?_; intro v7 w7 ho7 hg7 hb7; obtain ⟨p7, c7, rfl⟩ := ho7.isSlice; have HO7 := Lib.hid ho7; have HB7 : Hid (Bel w w7) := Lib.hid ((HB6.out.trans (show Bel w6 _ by (repeat (first | with_reducible assumption | with_reducible exact Bel.refl _ | with_reducible apply Bel.alloc | with_reducible apply Bel.drew | with_reducible apply Bel.drewN | ((with_reducible apply Bel.setCellR); (simp <;> omega)) | with_reducible refine Bel.behind (by with_reducible assumption) ?_)))).of_row hg7 (fun g hg => (HO6.out.lt g hg).1)); have P7 := (HP6.out.alloc _).grown hg7 HNE6.out; have HP7 := Lib.hid P7; obtain ⟨r7, z7, l7⟩ := P7.facts; have HSZ7 : Hid (wr.heap.size + 2 ≤ w7.heap.size) := Lib.hid (by have h1 := HSZ6.out; have := hg7.4; simp at this; omega); have HNE7 : Hid (Value.ownBlock (.slice p7 (m + 2 + 1) c7) ≠ some wr.heap.size) := Lib.hid (fun e => by rcases hb7 with h | h; exact HNE6.out (h.symm.trans e); (have h2 := h.symm.trans e; simp at h2; have h3 := HSZ6.out; omega)); clear ho7 hg7 hb7 P7))
        | (at_builtin; (refine wpList_append_row _ rfl (.tmp 32) (.tmp 35) 22 rfl w.heap.size 29 i0 _ 1 8 Tryz.underlying22 hi hz0 hz1 hz2 rfl (by decide) (.slice p7 (m + 2 + 1) c7) (m + 2 + 1) _ rfl (own_kept HO7.out (show Bel w7 _ by (repeat (first | with_reducible assumption | with_reducible exact Bel.refl _ | with_reducible apply Bel.alloc | with_reducible apply Bel.drew | with_reducible apply Bel.drewN | ((with_reducible apply Bel.setCellR); (simp <;> omega)) | with_reducible refine Bel.behind (by with_reducible assumption) ?_)))) ⟨w7.heap.size, 0, none⟩ 1 1 [.float .f64 u] rfl rfl (blk_arr (cs := #[.float .f64 u]) (t := 29) (by (repeat (first | with_reducible assumption | with_reducible exact Blk.new _ _ _ | ((with_reducible refine Blk.new' _ _ _ ?_); (focus ((simp; done)))) | with_reducible apply Blk.drew | with_reducible apply Blk.drewN | with_reducible refine Blk.alloc ?_ _ | with_reducible apply Blk.same | (with_reducible refine Blk.bel ?_ (by with_reducible assumption)) | ((with_reducible refine Blk.otherR ?_ ?_); (focus ((simp <;> omega); done))))))) (by simp [Value.oneCell']) (by decide) (by unfold maxLen; omega) (by omega) (by have h1 := HBEL.out.size; have h2 := HSZ7.out; simp; omega) ?_; intro v8 w8 ho8 hg8 hb8; obtain ⟨p8, c8, rfl⟩ := ho8.isSlice; have HO8 := Lib.hid ho8; have HB8 : Hid (Bel w w8) := Lib.hid ((HB7.out.trans (show Bel w7 _ by (repeat (first | with_reducible assumption | with_reducible exact Bel.refl _ | with_reducible apply Bel.alloc | with_reducible apply Bel.drew | with_reducible apply Bel.drewN | ((with_reducible apply Bel.setCellR); (simp <;> omega)) | with_reducible refine Bel.behind (by with_reducible assumption) ?_)))).of_row hg8 (fun g hg => (HO7.out.lt g hg).1)); have P8 := (HP7.out.alloc _).grown hg8 HNE7.out; have HP8 := Lib.hid P8; obtain ⟨r8, z8, l8⟩ := P8.facts; have HSZ8 : Hid (wr.heap.size + 2 ≤ w8.heap.size) := Lib.hid (by have h1 := HSZ7.out; have := hg8.4; simp at this; omega); have HNE8 : Hid (Value.ownBlock (.slice p8 (m + 2 + 1 + 1) c8) ≠ some wr.heap.size) := Lib.hid (fun e => by rcases hb8 with h | h; exact HNE7.out (h.symm.trans e); (have h2 := h.symm.trans e; simp at h2; have h3 := HSZ7.out; omega)); clear ho8 hg8 hb8 P8)))
      go_roundw
      case rel => exact ⟨t + 1, m + 2 + 1 + 1, by go_num, by omega, by have := HMT.out; omega, HB8.out, by rw [HSTEP.out]; have := HO8.out; simpa only [List.append_assoc] using this⟩
      case measure => simp [intOf]; omega
    · obtain rfl : t = n := by omega
      have hx : ps.take t = ps := List.take_of_length_le (by have := HN.out; omega)
      rw [hx] at hown
      have hlen : (ps.flatMap (numsOfPl 3)).length = m := by rw [flatMap_len, HN.out, HMT.out]; rfl
      have HR2 := Lib.hid (FlSl.of_owns (F := F) hown hlen hF)
      clear hx hbel hown hlen
      go_wp2
      go_ret
      exact ⟨_, _, _, rfl, HR2.out, HBEL.out⟩
theorem nums_any (F G : Nat → Prop) (v : Value) (ps : List Pl) (dim : Int) (w : World) (hF : New F w) (h : PlSl G w v ps) (h31 : ps.length ≤ 1048576) :
    Calls Tryz.prog 35 #[v, .int .i64 dim] w (IsFlx F (ps.flatMap (numsOfPl (ct dim))) w) := by
  have hc : ct dim = 0 ∨ ct dim = 1 ∨ ct dim = 2 ∨ ct dim = 3 := by unfold ct; omega
  rcases hc with e | e | e | e
  · rw [e]; exact nums_0 F G v ps dim w hF h h31 e
  · rw [e]; exact nums_1 F G v ps dim w hF h h31 e
  · rw [e]; exact nums_2 F G v ps dim w hF h h31 e
  · rw [e]; exact nums_3 F G v ps dim w hF h h31 e
end Go.Proofs.YtpipehenfcbjbaaGreat
