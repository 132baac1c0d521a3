/-
  Contracts on rows of places: laws.lined tells whether a row of places is short and small. No panic; what stood in memory has not turned.
-/
import Derived.Test.YtdebkmioaglmaaaBase
import Derived.Test.YtdebkmioaglmaaaFlo
import Derived.Test.YtdebkmioaglmaaaEnv
import Derived.Test.YtdebkmioaglmaaaNum
import Derived.Deep.RegionHeld3
import Derived.Deep.QuietTactic
import Derived.BigQuiet
import Derived.LoopTactic
import Derived.Deep.LoopGhost
import Derived.Outline
namespace Go.Proofs.Ytdebkmioaglmaaa
open Go.ChangeShapes Go.WideShapes Go.ChangeAt Go.RowKit

/-- A slice of places of whole numbers, read. -/
def PtSl (w : World) (v : Value) (ps : List (Int × Int)) : Prop :=
  ∃ p cap, v = .slice p ps.length cap ∧ ps.length ≤ cap ∧ cap ≤ 9223372036854775807 ∧ (∀ (i : Nat) (q : Int × Int), ps[i]? = some q → (-9223372036854775808 ≤ q.1 ∧ q.1 ≤ 9223372036854775807) ∧ (-9223372036854775808 ≤ q.2 ∧ q.2 ≤ 9223372036854775807)) ∧
    (ps ≠ [] → ∃ b off, p = some ⟨b, off, none⟩ ∧ b < w.heap.size ∧ ∀ (i : Nat) (q : Int × Int), ps[i]? = some q → w.cell? ⟨b, off + i * 2, none⟩ = some (.int .i64 q.1) ∧ w.cell? ⟨b, off + i * 2 + 1, none⟩ = some (.int .i64 q.2))

theorem PtSl.bel {w w' : World} {v : Value} {ps : List (Int × Int)} (h : PtSl w v ps) (hb : Bel w w') : PtSl w' v ps := by
  obtain ⟨p, cap, hv, hl, hc, hr, h⟩ := h
  refine ⟨p, cap, hv, hl, hc, hr, fun hn => ?_⟩
  obtain ⟨b, off, hp, hlt, hq⟩ := h hn
  exact ⟨b, off, hp, Nat.lt_of_lt_of_le hlt hb.size, fun i q hi => ⟨(hb.cell hlt).trans (hq i q hi).1, (hb.cell hlt).trans (hq i q hi).2⟩⟩

/-- Is a place's every number at most m on both sides of 0? -/
def smallB (m : Int) (q : Int × Int) : Bool := decide (-m ≤ q.1 ∧ -m ≤ q.2 ∧ q.1 ≤ m ∧ q.2 ≤ m)

theorem all_step {α : Type} {f : α → Bool} {l : List α} {k : Nat} {q : α} (h : (l.take k).all f = true) (hq : l[k]? = some q) (hf : f q = true) : (l.take (k + 1)).all f = true := by
  obtain ⟨hk, he⟩ := List.getElem?_eq_some_iff.1 hq
  rw [List.take_succ_eq_append_getElem hk, List.all_append, h, he]
  simp [hf]

theorem all_not {α : Type} {f : α → Bool} {l : List α} {k : Nat} {q : α} (hq : l[k]? = some q) (hf : f q = false) : l.all f = false := by
  obtain ⟨hk, he⟩ := List.getElem?_eq_some_iff.1 hq
  rw [List.all_eq_false]
  exact ⟨q, he ▸ List.getElem_mem hk, by simp [hf]⟩

set_option maxRecDepth 100000 in
set_option maxHeartbeats 2000000 in
theorem f76_line (ps : List (Int × Int)) (v : Value) (m : Int) (hm : 0 ≤ m) (hm2 : m ≤ 1048576) (w : World) (h : PtSl w v ps) (hpos : ps ≠ []) :
    Calls Try.prog 76 #[.agg #[.int .i64 2, v, .slice none 0 0], .int .i64 m, .int .i64 100] w fun e w' => e = .returned (.bool (ps.all (smallB m))) ∧ Bel w w' := by
  obtain ⟨p, cap, rfl, hl, hc, hr, h⟩ := h
  obtain ⟨b, off, rfl, hlt, hq⟩ := h hpos
  have HQ := Lib.hid hq
  have HR := Lib.hid hr
  clear hq hr h hpos
  generalize hn : ps.length = n at *
  have HN := Lib.hid hn
  clear hn
  go_enter Try.func76, Try.ntmps76
  go_wp2
  go_loopw [17] (fun i wr => ∃ k : Nat, k ≤ n ∧ i = .int .i64 k ∧ (ps.take k).all (smallB m) = true ∧ Bel w wr ∧ Blk wr w.heap.size #[.int .i64 2, .slice (some ⟨b, off, none⟩) n cap, .slice none 0 0] 92) (fun i _ => n - (intOf i).toNat)
  case atStart => exact ⟨0, Nat.zero_le _, rfl, by simp, Bel.alloc1 _ _, Blk.new _ _ _⟩
  case round =>
    obtain ⟨k, hk, rfl, hall, hbel, hblk⟩ := hrel
    have HALL := Lib.hid hall
    have HBEL := Lib.hid hbel
    obtain ⟨rb, zb, lb⟩ := hblk.facts
    by_cases hkn : k < n
    · obtain ⟨q, hqk⟩ : ∃ q, ps[k]? = some q := ⟨_, List.getElem?_eq_getElem (by have := HN.out; omega)⟩
      have c1 := (hbel.cell (p := ⟨b, off + k * 2, none⟩) hlt).trans (HQ.out k q hqk).1
      have c2 := (hbel.cell (p := ⟨b, off + k * 2 + 1, none⟩) hlt).trans (HQ.out k q hqk).2
      have rg := HR.out k q hqk
      clear hbel hall
      obtain ⟨x, y⟩ := q
      simp only at c1 c2 rg
      by_cases hs : -m ≤ x ∧ -m ≤ y ∧ x ≤ m ∧ y ≤ m
      · obtain ⟨s1, s2, s3, s4⟩ := hs
        go_wp2
        all_goals
          go_roundw
          case rel => exact ⟨k + 1, by omega, by go_num, all_step HALL.out hqk (by unfold smallB; exact decide_eq_true ⟨s1, s2, s3, s4⟩), Bel.alloc HBEL.out _, hblk.alloc _⟩
          case measure => simp [intOf]; omega
      · have HS := Lib.hid hs
        clear hs
        have hd : ps.all (smallB m) = false := all_not hqk (by unfold smallB; exact decide_eq_false HS.out)
        go_wp2
        all_goals first | (exfalso; exact HS.out ⟨by omega, by omega, by omega, by omega⟩) | skip
        all_goals
          go_ret
          exact ⟨rfl, Bel.alloc HBEL.out _⟩
    · have hk' : k = n := by omega
      subst hk'
      have hd : ps.all (smallB m) = true := by
        have h := HALL.out
        rw [List.take_of_length_le (by have := HN.out; omega)] at h
        exact h
      clear hbel hall
      go_wp2
      go_ret
      exact ⟨congrArg (fun b => Ending.returned (.bool b)) hd.symm, HBEL.out⟩

theorem f76_none (p : Option Addr) (cap : Nat) (m : Int) (w : World) :
    Calls Try.prog 76 #[.agg #[.int .i64 2, .slice p 0 cap, .slice none 0 0], .int .i64 m, .int .i64 100] w fun e w' => e = .returned (.bool true) ∧ Bel w w' := by
  go_enter Try.func76, Try.ntmps76
  go_wp2
  refine wp_loop_rounds 1 ?_
  rw [rounds_succ]
  go_wp2
  go_ret
  exact ⟨rfl, by repeat (first | with_reducible assumption | with_reducible exact Bel.refl _ | with_reducible apply Bel.alloc | with_reducible apply Bel.drew | (with_reducible apply Bel.setCellR; (simp <;> omega)) | with_reducible refine Bel.behind (by with_reducible assumption) ?_)⟩

theorem f76_any (ps : List (Int × Int)) (v : Value) (m : Int) (hm : 0 ≤ m) (hm2 : m ≤ 1048576) (w : World) (h : PtSl w v ps) :
    Calls Try.prog 76 #[.agg #[.int .i64 2, v, .slice none 0 0], .int .i64 m, .int .i64 100] w fun e w' => e = .returned (.bool (ps.all (smallB m))) ∧ Bel w w' := by
  by_cases hpos : ps = []
  · subst hpos
    obtain ⟨p, cap, rfl, _⟩ := h
    exact f76_none p cap m w
  · exact f76_line ps v m hm hm2 w h hpos

theorem f47_any (ps : List (Int × Int)) (v : Value) (m : Int) (hm : 0 ≤ m) (hm2 : m ≤ 1048576) (w : World) (h : PtSl w v ps) :
    Calls Try.prog 47 #[.agg #[.int .i64 2, v, .slice none 0 0], .int .i64 m] w fun e w' => e = .returned (.bool (ps.all (smallB m))) ∧ Bel w w' := by
  have HH := Lib.hid h
  obtain ⟨p, cap, rfl, _⟩ := h
  go_enter Try.func47, Try.ntmps47
  go_wp2_with (go_at_call 76; refine (f76_any ps _ m hm hm2 _ (HH.out.bel ?hb)).mono ?_; (case hb => exact Bel.alloc1 _ _); rintro e w1 ⟨rfl, hb1⟩)
  go_ret
  exact ⟨rfl, by repeat (first | with_reducible assumption | with_reducible exact Bel.refl _ | with_reducible apply Bel.alloc | with_reducible apply Bel.drew | (with_reducible apply Bel.setCellR; (simp <;> omega)) | with_reducible refine Bel.behind (by with_reducible assumption) ?_)⟩

/-- laws.lined: at most 200 places, all small. -/
theorem f22_any (ps : List (Int × Int)) (v : Value) (m : Int) (hm : 0 ≤ m) (hm2 : m ≤ 1048576) (w : World) (h : PtSl w v ps) :
    Calls Try.prog 22 #[v, .int .i64 m] w fun e w' => e = .returned (.bool (decide (ps.length ≤ 200) && ps.all (smallB m))) ∧ Bel w w' := by
  have HH := Lib.hid h
  obtain ⟨p, cap, rfl, hl, hc, _⟩ := h
  by_cases h2 : ps.length ≤ 200
  · have e2 : decide (ps.length ≤ 200) = true := decide_eq_true h2
    rw [e2, Bool.true_and]
    clear e2
    go_enter Try.func22, Try.ntmps22
    go_wp2_with (go_at_call 47; refine (f47_any ps _ m hm hm2 _ HH.out).mono ?_; rintro e w1 ⟨rfl, hb1⟩)
    go_ret
    exact ⟨rfl, by repeat (first | with_reducible assumption | with_reducible exact Bel.refl _ | with_reducible apply Bel.alloc | with_reducible apply Bel.drew | (with_reducible apply Bel.setCellR; (simp <;> omega)) | with_reducible refine Bel.behind (by with_reducible assumption) ?_)⟩
  · have e2 : decide (ps.length ≤ 200) = false := decide_eq_false h2
    rw [e2, Bool.false_and]
    clear e2
    go_enter Try.func22, Try.ntmps22
    go_wp2
    go_ret
    exact ⟨rfl, by repeat (first | with_reducible assumption | with_reducible exact Bel.refl _ | with_reducible apply Bel.alloc | with_reducible apply Bel.drew | (with_reducible apply Bel.setCellR; (simp <;> omega)) | with_reducible refine Bel.behind (by with_reducible assumption) ?_)⟩

/-- float64(n), its bits. -/
def fl (n : Int) : Nat := floatOfInt .f64 n

/-- A slice of places of floats, read. -/
def XySl (w : World) (v : Value) (qs : List (Nat × Nat)) : Prop :=
  ∃ p cap, v = .slice p qs.length cap ∧ qs.length ≤ cap ∧ cap ≤ 9223372036854775807 ∧
    (qs ≠ [] → ∃ b off, p = some ⟨b, off, none⟩ ∧ b < w.heap.size ∧ ∀ (i : Nat) (q : Nat × Nat), qs[i]? = some q → w.cell? ⟨b, off + i * 2, none⟩ = some (.float .f64 q.1) ∧ w.cell? ⟨b, off + i * 2 + 1, none⟩ = some (.float .f64 q.2))

theorem XySl.bel {w w' : World} {v : Value} {qs : List (Nat × Nat)} (h : XySl w v qs) (hb : Bel w w') : XySl w' v qs := by
  obtain ⟨p, cap, hv, hl, hc, h⟩ := h
  refine ⟨p, cap, hv, hl, hc, fun hn => ?_⟩
  obtain ⟨b, off, hp, hlt, hq⟩ := h hn
  exact ⟨b, off, hp, Nat.lt_of_lt_of_le hlt hb.size, fun i q hi => ⟨(hb.cell hlt).trans (hq i q hi).1, (hb.cell hlt).trans (hq i q hi).2⟩⟩

theorem Bel.grown {w a w' : World} {row : Option Nat} (h : Bel w a) (hg : a.grownBy w' row) (hr : ∀ k, row = some k → w.heap.size ≤ k) : Bel w w' :=
  Below.grown h hg (Below.size h) hr

theorem Bel.of_grown0 {w w' : World} (h : w.grownBy w' none) : Bel w w' :=
  ⟨h.os, h.tape, h.output, h.size, fun k hk => h.block k hk (by simp)⟩

theorem _root_.Go.World.ownsRow.blk {w : World} {base g n size : Nat} {e : TypeId} {xs : List Value} (h : w.ownsRow base e size (.slice (some ⟨g, 0, none⟩) n n) n xs) : ∃ cs, Blk w g cs e ∧ cs.size = n * size := by
  rcases h.2 with ⟨h0, _⟩ | ⟨g', cap, cur, hv, _, hg, _, _, hs, _⟩
  · cases h0
  · simp only [Value.slice.injEq, Option.some.injEq, Addr.mk.injEq, and_true, true_and] at hv
    obtain ⟨rfl, rfl⟩ := hv
    exact ⟨cur, hg, hs⟩

/-- The cells of places, one behind the other. -/
def xyCells (qs : List (Nat × Nat)) : List Value := qs.flatMap fun q => [.float .f64 q.1, .float .f64 q.2]

theorem xyCells_len (qs : List (Nat × Nat)) : (xyCells qs).length = qs.length * 2 := by
  induction qs with
  | nil => rfl
  | cons q r ih => simp only [xyCells, List.flatMap_cons, List.length_append, List.length_cons, List.length_nil] at *; omega

theorem xyCells_get (qs : List (Nat × Nat)) (i : Nat) (q : Nat × Nat) (h : qs[i]? = some q) : (xyCells qs)[i * 2]? = some (.float .f64 q.1) ∧ (xyCells qs)[i * 2 + 1]? = some (.float .f64 q.2) := by
  induction qs generalizing i with
  | nil => simp at h
  | cons r l ih =>
    cases i with
    | zero =>
      simp at h
      subst h
      exact ⟨rfl, rfl⟩
    | succ i =>
      simp at h
      have e1 : (i + 1) * 2 = i * 2 + 2 := by omega
      rw [e1]
      exact ih i h

theorem xyCells_snoc (qs : List (Nat × Nat)) (q : Nat × Nat) : xyCells (qs ++ [q]) = xyCells qs ++ [.float .f64 q.1, .float .f64 q.2] := by
  simp [xyCells]

theorem XySl.of_owns {w : World} {base : Nat} {v : Value} {n : Nat} {e : TypeId} {qs : List (Nat × Nat)} (h : w.ownsRow base e 2 v n (xyCells qs)) (hn : n = qs.length) (h62 : n = 0 ∨ True) : XySl w v qs := by
  subst hn
  have hc := fun (g : Nat) (hg : v.ownBlock = some g) => h.cells hg
  rcases h.2 with ⟨rfl, h0⟩ | ⟨g, cap, cur, rfl, hb, hg, h1, h2, _⟩
  · refine ⟨none, 0, by rw [h0], by omega, by omega, fun hn => ?_⟩
    exact absurd (List.length_eq_zero_iff.1 h0) hn
  · have hl := (Array.getElem?_eq_some_iff.1 hg).1
    refine ⟨_, cap, rfl, h1, by unfold maxLen at h2; omega, fun _ => ⟨g, 0, rfl, hl, fun i q hq => ?_⟩⟩
    obtain ⟨k1, k2⟩ := xyCells_get qs i q hq
    have c1 := hc g rfl _ _ k1
    have c2 := hc g rfl _ _ k2
    have a1 : ∀ j, (⟨g, 0, none⟩ : Addr).add j = ⟨g, j, none⟩ := fun j => by cases j <;> simp [Addr.add]
    rw [a1] at c1 c2
    rw [Nat.zero_add]
    exact ⟨c1, c2⟩

theorem info37 : (Try.prog.info? 37).map (fun i => (i.zero, i.size, i.bytes)) = some (some (.agg #[.float .f64 0, .float .f64 0]), 2, 16) := by kernel_rfl

theorem cells_pair (w : World) (a b : Value) (t : TypeId) {n : Nat} (hn : n = w.heap.size) : ∀ j u, [a, b][j]? = some u → (w.alloc (.cells #[a, b] t)).cell? ((⟨n, 0, none⟩ : Addr).add j) = some u := by
  subst hn
  intro j u hj
  match j, hj with
  | 0, hj => simpa [Addr.add] using hj
  | 1, hj => simpa [Addr.add] using hj

/-- A place as floats. -/
def flXy (q : Int × Int) : Nat × Nat := (fl q.1, fl q.2)

theorem take_map_snoc {α β : Type} (f : α → β) {l : List α} {k : Nat} {q : α} (hq : l[k]? = some q) : (l.take (k + 1)).map f = (l.take k).map f ++ [f q] := by
  obtain ⟨hk, he⟩ := List.getElem?_eq_some_iff.1 hq
  rw [List.take_succ_eq_append_getElem hk, List.map_append, he]
  rfl

/-- What comes back is a slice of the places of floats, in new memory. -/
def IsXy (w : World) (qs : List (Nat × Nat)) (e : Ending) (w' : World) : Prop := ∃ v, e = .returned v ∧ XySl w' v qs ∧ Bel w w'

set_option maxRecDepth 100000 in
set_option maxHeartbeats 2000000 in
theorem f24_some (ps : List (Int × Int)) (v : Value) (w : World) (h : PtSl w v ps) (h200 : ps.length ≤ 200) (hpos : ps ≠ []) :
    Calls Try.prog 24 #[v] w (IsXy w (ps.map flXy)) := by
  obtain ⟨p, cap, rfl, hl, hc, hr, h⟩ := h
  obtain ⟨b, off, rfl, hlt, hq⟩ := h hpos
  have HQ := Lib.hid hq
  clear hq hr h hpos
  generalize hn : ps.length = n at *
  have HN := Lib.hid hn
  clear hn
  obtain ⟨i0, hi, hz0, hz1, hz2⟩ := info_parts info37
  go_enter Try.func24, Try.ntmps24
  go_wp2
  go_loopw [3, 8] (fun v i wr => ∃ k : Nat, k ≤ n ∧ i = .int .i64 k ∧ wr.ownsRow w.heap.size 37 2 v k (xyCells ((ps.take k).map flXy)) ∧ Bel w wr) (fun _ i _ => n - (intOf i).toNat)
  case atStart => exact ⟨0, Nat.zero_le _, rfl, World.ownsRow_nil _ _ _ _, Bel.refl _⟩
  case round =>
    obtain ⟨k, hk, rfl, hown, hbel⟩ := hrel
    have HBEL := Lib.hid hbel
    have HOWN := Lib.hid hown
    by_cases hkn : k < n
    · obtain ⟨q, hqk⟩ : ∃ q, ps[k]? = some q := ⟨_, List.getElem?_eq_getElem (by have := HN.out; omega)⟩
      have c1 := (hbel.cell (p := ⟨b, off + k * 2, none⟩) hlt).trans (HQ.out k q hqk).1
      have c2 := (hbel.cell (p := ⟨b, off + k * 2 + 1, none⟩) hlt).trans (HQ.out k q hqk).2
      have hsz := hbel.size
      clear hbel hown
      obtain ⟨x, y⟩ := q
      simp only at c1 c2
      rename_i u3
      go_wp2_with (at_builtin; refine wpList_append_own _ rfl (.tmp 12) (.tmp 20) 47 rfl w.heap.size 37 i0 (.agg #[.float .f64 0, .float .f64 0]) 2 16 Try.underlying47 hi hz0 hz1 hz2 rfl (by decide) _ k _ rfl ((HOWN.out.alloc _).alloc _) ⟨wr.heap.size + 1, 0, none⟩ 1 1 [.float .f64 (fl x), .float .f64 (fl y)] rfl rfl (cells_pair _ _ _ _ ?c0) ?c1 ?c2 ?c3 ?c4 ?_; (case c0 => simp); (case c1 => simp [Value.oneCell']); (case c2 => unfold maxLen; omega); (case c3 => omega); (case c4 => (simp; omega)); intro v' w1 hown1 hgrow _; have HO := Lib.hid hown1; have HG := Lib.hid hgrow; clear hown1 hgrow)
      go_roundw
      case rel => exact ⟨k + 1, by omega, by go_num, by rw [take_map_snoc flXy hqk, xyCells_snoc]; exact HO.out, Bel.grown ((HBEL.out.alloc _).alloc _) HG.out (fun j hj => (HOWN.out.lt j hj).1)⟩
      case measure => simp [intOf]; omega
    · have hk' : k = n := by omega
      subst hk'
      have hlen := HN.out
      rw [List.take_of_length_le (by omega)] at hown
      have HX : XySl wr u3 (ps.map flXy) := XySl.of_owns hown (by simp [hlen]) (Or.inr trivial)
      have HXX := Lib.hid HX
      clear HX hown hbel hlen
      go_wp2
      refine post_ret (results_one rfl (resIs_tmp (by rfl))) ⟨_, rfl, HXX.out, HBEL.out⟩

theorem f24_none (p : Option Addr) (cap : Nat) (w : World) : Calls Try.prog 24 #[.slice p 0 cap] w (IsXy w []) := by
  go_enter Try.func24, Try.ntmps24
  go_wp2
  refine wp_loop_rounds 1 ?_
  rw [rounds_succ]
  go_wp2
  refine post_ret (results_one rfl (resIs_tmp (by rfl))) ⟨_, rfl, ⟨none, 0, rfl, by simp, by simp, fun h => absurd rfl h⟩, Bel.refl _⟩

/-- laws.row. -/
theorem f24_any (ps : List (Int × Int)) (v : Value) (w : World) (h : PtSl w v ps) (h200 : ps.length ≤ 200) : Calls Try.prog 24 #[v] w (IsXy w (ps.map flXy)) := by
  by_cases hpos : ps = []
  · subst hpos
    obtain ⟨p, cap, rfl, _⟩ := h
    exact f24_none p cap w
  · exact f24_some ps v w h h200 hpos

/-- The first k places of a block are filled. -/
def Filled (cs : Array Value) (n : Nat) (qs : List (Nat × Nat)) : Prop :=
  cs.size = n * 2 ∧ ∀ (j : Nat) (q : Nat × Nat), qs[j]? = some q → cs[j * 2]? = some (.float .f64 q.1) ∧ cs[j * 2 + 1]? = some (.float .f64 q.2)

theorem Filled.step {cs : Array Value} {n k : Nat} {qs : List (Nat × Nat)} {q : Nat × Nat} (h : Filled cs n (qs.take k)) (hq : qs[k]? = some q) (hk : k < n) (hl : k < qs.length) :
    Filled ((cs.setIfInBounds (k * 2) (.float .f64 q.1)).setIfInBounds (k * 2 + 1) (.float .f64 q.2)) n (qs.take (k + 1)) := by
  obtain ⟨hs, h⟩ := h
  refine ⟨by simpa using hs, fun j r hj => ?_⟩
  obtain ⟨hk', he⟩ := List.getElem?_eq_some_iff.1 hq
  by_cases hjk : j = k
  · subst hjk
    have hr : r = q := by
      rw [List.getElem?_take, if_pos (by omega), hq] at hj
      exact (Option.some.inj hj).symm
    subst hr
    constructor
    · rw [Array.getElem?_setIfInBounds, if_neg (by omega), Array.getElem?_setIfInBounds, if_pos rfl, if_pos (by omega)]
    · rw [Array.getElem?_setIfInBounds, if_pos rfl, if_pos (by simp; omega)]
  · have hlt : j < k := by
      have := (List.getElem?_eq_some_iff.1 hj).1
      rw [List.length_take] at this
      omega
    have hj' : (qs.take k)[j]? = some r := by
      rw [List.getElem?_take, if_pos hlt]
      rw [List.getElem?_take, if_pos (by omega)] at hj
      exact hj
    obtain ⟨c1, c2⟩ := h j r hj'
    constructor
    · rw [Array.getElem?_setIfInBounds, if_neg (by omega), Array.getElem?_setIfInBounds, if_neg (by omega)]
      exact c1
    · rw [Array.getElem?_setIfInBounds, if_neg (by omega), Array.getElem?_setIfInBounds, if_neg (by omega)]
      exact c2

theorem XySl.of_filled {w : World} {g n : Nat} {cs : Array Value} {t : TypeId} {qs : List (Nat × Nat)} (hB : Blk w g cs t) (h : Filled cs n qs) (hn : n = qs.length) (hm : n ≤ 200) : XySl w (.slice (some ⟨g, 0, none⟩) n n) qs := by
  subst hn
  refine ⟨_, _, rfl, Nat.le_refl _, by omega, fun _ => ⟨g, 0, rfl, hB.lt, fun i q hq => ?_⟩⟩
  obtain ⟨c1, c2⟩ := h.2 i q hq
  rw [Nat.zero_add, hB.rules.1, hB.rules.1]
  exact ⟨c1, c2⟩

theorem info81 : (Try.prog.info? 81).map (fun i => (i.zero, i.size, i.bytes)) = some (some (.agg #[.float .f64 0, .float .f64 0]), 2, 16) := by kernel_rfl

set_option maxRecDepth 100000 in
set_option maxHeartbeats 2000000 in
theorem f50_some (qs : List (Nat × Nat)) (v : Value) (w : World) (h : XySl w v qs) (h200 : qs.length ≤ 200) (hpos : qs ≠ []) :
    Calls Try.prog 50 #[v] w (IsXy w qs) := by
  obtain ⟨p, cap, rfl, hl, hc, h⟩ := h
  obtain ⟨b, off, rfl, hlt, hq⟩ := h hpos
  have HQ := Lib.hid hq
  clear hq h hpos
  generalize hn : qs.length = n at *
  have HN := Lib.hid hn
  clear hn
  obtain ⟨i0, hi, hz0, hz1, hz2⟩ := info_parts info81
  go_enter Try.func50, Try.ntmps50
  go_wp2_with (at_make; refine wpList_make_full _ rfl (.tmp 7) (.tmp 7) 93 rfl w.heap.size 81 i0 (.agg #[.float .f64 0, .float .f64 0]) 2 Try.underlying93 hi hz0 hz1 .i64 .i64 n n n rfl rfl rfl rfl ?b2 ?b3 ?b4 ?_; (case b2 => (rw [hz2]; omega)); (case b3 => (unfold maxLen; omega)); (case b4 => exact Nat.le_refl _); intro w1 hown hgrow; have HO := Lib.hid hown; have HG := Lib.hid hgrow; clear hown hgrow)
  have hbel1 : Bel w w1 := Bel.of_grown0 HG.out
  obtain ⟨cs0, hB0, hs0⟩ := HO.out.blk
  go_loopw [11] (fun i wr => ∃ (k : Nat) (cs : Array Value), k ≤ n ∧ i = .int .i64 k ∧ Blk wr w.heap.size cs 81 ∧ Filled cs n (qs.take k) ∧ Bel w wr) (fun i _ => n - (intOf i).toNat)
  case atStart => exact ⟨0, cs0, Nat.zero_le _, rfl, hB0, ⟨hs0, fun j q hj => by simp at hj⟩, hbel1⟩
  case round =>
    obtain ⟨k, cs, hk, rfl, hblk, hfill, hbel⟩ := hrel
    have HBEL := Lib.hid hbel
    have HF := Lib.hid hfill
    have HSZ := Lib.hid hfill.1
    clear hB0 hbel1 hs0 hfill
    by_cases hkn : k < n
    · obtain ⟨q, hqk⟩ : ∃ q, qs[k]? = some q := ⟨_, List.getElem?_eq_getElem (by have := HN.out; omega)⟩
      have c1 := (hbel.cell (p := ⟨b, off + k * 2, none⟩) hlt).trans (HQ.out k q hqk).1
      have c2 := (hbel.cell (p := ⟨b, off + k * 2 + 1, none⟩) hlt).trans (HQ.out k q hqk).2
      have hsz := hbel.size
      obtain ⟨u1, hu1⟩ : ∃ u, cs[k * 2]? = some u := ⟨_, Array.getElem?_eq_getElem (by have := HSZ.out; omega)⟩
      obtain ⟨u2, hu2⟩ : ∃ u, cs[k * 2 + 1]? = some u := ⟨_, Array.getElem?_eq_getElem (by have := HSZ.out; omega)⟩
      have HU1 := Lib.hid hu1
      have HU2 := Lib.hid hu2
      have HLT := hblk.lt
      clear hbel hu1 hu2
      obtain ⟨x, y⟩ := q
      simp only at c1 c2
      go_wp2_with (go_at_call 45; (with_reducible refine (f45_any _ _ _).mono ?_); rintro e w2 ⟨rfl, hb2⟩; have B2 : Blk w2 w.heap.size cs 81 := Blk.bel (hblk.alloc _) hb2; have d1 := (B2.rules.1 (k * 2)).trans HU1.out; have d2 := (B2.rules.1 (k * 2 + 1)).trans HU2.out; have z1 := B2.rules.2)
      go_roundw
      case rel => exact ⟨k + 1, _, by omega, by go_num, (B2.set _ _).set _ _, HF.out.step hqk hkn (by have := HN.out; omega), ((((HBEL.out.alloc _).trans hb2).setCell (Nat.le_refl _) _).setCell (Nat.le_refl _) _)⟩
      case measure => simp [intOf]; omega
    · have hk' : k = n := by omega
      subst hk'
      have hfull := HF.out
      have hlen := HN.out
      rw [List.take_of_length_le (by omega)] at hfull
      have HX : XySl wr (.slice (some ⟨w.heap.size, 0, none⟩) k k) qs := XySl.of_filled hblk hfull hlen.symm h200
      have HXX := Lib.hid HX
      clear HX hfull hlen hbel
      go_wp2
      refine post_ret (results_one rfl (resIs_tmp (by rfl))) ⟨_, rfl, HXX.out, HBEL.out⟩

theorem f50_none (p : Option Addr) (cap : Nat) (w : World) : Calls Try.prog 50 #[.slice p 0 cap] w (IsXy w []) := by
  obtain ⟨i0, hi, hz0, hz1, hz2⟩ := info_parts info81
  go_enter Try.func50, Try.ntmps50
  go_wp2_with (at_make; refine wpList_make_full _ rfl (.tmp 7) (.tmp 7) 93 rfl w.heap.size 81 i0 (.agg #[.float .f64 0, .float .f64 0]) 2 Try.underlying93 hi hz0 hz1 .i64 .i64 0 0 0 rfl rfl rfl rfl ?b2 ?b3 ?b4 ?_; (case b2 => (rw [hz2]; omega)); (case b3 => (unfold maxLen; omega)); (case b4 => exact Nat.le_refl _); intro w1 hown hgrow; have HO := Lib.hid hown; have HG := Lib.hid hgrow; clear hown hgrow)
  refine wp_loop_rounds 1 ?_
  rw [rounds_succ]
  go_wp2
  refine post_ret (results_one rfl (resIs_tmp (by rfl))) ⟨_, rfl, ⟨_, 0, rfl, by simp, by simp, fun h => absurd rfl h⟩, Bel.of_grown0 HG.out⟩

theorem f50_any (qs : List (Nat × Nat)) (v : Value) (w : World) (h : XySl w v qs) (h200 : qs.length ≤ 200) : Calls Try.prog 50 #[v] w (IsXy w qs) := by
  by_cases hpos : qs = []
  · subst hpos
    obtain ⟨p, cap, rfl, _⟩ := h
    exact f50_none p cap w
  · exact f50_some qs v w h h200 hpos

set_option maxRecDepth 100000 in
set_option maxHeartbeats 2000000 in
theorem f51_some (qs : List (Nat × Nat)) (v : Value) (w : World) (h : XySl w v qs) (h200 : qs.length ≤ 200) (hpos : qs ≠ []) :
    Calls Try.prog 51 #[v] w (IsXy w qs) := by
  obtain ⟨p, cap, rfl, hl, hc, h⟩ := h
  obtain ⟨b, off, rfl, hlt, hq⟩ := h hpos
  have HQ := Lib.hid hq
  clear hq h hpos
  generalize hn : qs.length = n at *
  have HN := Lib.hid hn
  clear hn
  obtain ⟨i0, hi, hz0, hz1, hz2⟩ := info_parts info37
  go_enter Try.func51, Try.ntmps51
  go_wp2_with (at_make; refine wpList_make_full _ rfl (.tmp 7) (.tmp 7) 47 rfl w.heap.size 37 i0 (.agg #[.float .f64 0, .float .f64 0]) 2 Try.underlying47 hi hz0 hz1 .i64 .i64 n n n rfl rfl rfl rfl ?b2 ?b3 ?b4 ?_; (case b2 => (rw [hz2]; omega)); (case b3 => (unfold maxLen; omega)); (case b4 => exact Nat.le_refl _); intro w1 hown hgrow; have HO := Lib.hid hown; have HG := Lib.hid hgrow; clear hown hgrow)
  have hbel1 : Bel w w1 := Bel.of_grown0 HG.out
  obtain ⟨cs0, hB0, hs0⟩ := HO.out.blk
  go_loopw [11] (fun i wr => ∃ (k : Nat) (cs : Array Value), k ≤ n ∧ i = .int .i64 k ∧ Blk wr w.heap.size cs 37 ∧ Filled cs n (qs.take k) ∧ Bel w wr) (fun i _ => n - (intOf i).toNat)
  case atStart => exact ⟨0, cs0, Nat.zero_le _, rfl, hB0, ⟨hs0, fun j q hj => by simp at hj⟩, hbel1⟩
  case round =>
    obtain ⟨k, cs, hk, rfl, hblk, hfill, hbel⟩ := hrel
    have HBEL := Lib.hid hbel
    have HF := Lib.hid hfill
    have HSZ := Lib.hid hfill.1
    clear hB0 hbel1 hs0 hfill
    by_cases hkn : k < n
    · obtain ⟨q, hqk⟩ : ∃ q, qs[k]? = some q := ⟨_, List.getElem?_eq_getElem (by have := HN.out; omega)⟩
      have c1 := (hbel.cell (p := ⟨b, off + k * 2, none⟩) hlt).trans (HQ.out k q hqk).1
      have c2 := (hbel.cell (p := ⟨b, off + k * 2 + 1, none⟩) hlt).trans (HQ.out k q hqk).2
      have hsz := hbel.size
      obtain ⟨u1, hu1⟩ : ∃ u, cs[k * 2]? = some u := ⟨_, Array.getElem?_eq_getElem (by have := HSZ.out; omega)⟩
      obtain ⟨u2, hu2⟩ : ∃ u, cs[k * 2 + 1]? = some u := ⟨_, Array.getElem?_eq_getElem (by have := HSZ.out; omega)⟩
      have HU1 := Lib.hid hu1
      have HU2 := Lib.hid hu2
      have HLT := hblk.lt
      clear hbel hu1 hu2
      obtain ⟨x, y⟩ := q
      simp only at c1 c2
      go_wp2_with (go_at_call 57; (with_reducible refine (f57_any _ _ _).mono ?_); rintro e w2 ⟨rfl, hb2⟩; have B2 : Blk w2 w.heap.size cs 37 := Blk.bel (hblk.alloc _) hb2; have d1 := (B2.rules.1 (k * 2)).trans HU1.out; have d2 := (B2.rules.1 (k * 2 + 1)).trans HU2.out; have z1 := B2.rules.2)
      go_roundw
      case rel => exact ⟨k + 1, _, by omega, by go_num, (B2.set _ _).set _ _, HF.out.step hqk hkn (by have := HN.out; omega), ((((HBEL.out.alloc _).trans hb2).setCell (Nat.le_refl _) _).setCell (Nat.le_refl _) _)⟩
      case measure => simp [intOf]; omega
    · have hk' : k = n := by omega
      subst hk'
      have hfull := HF.out
      have hlen := HN.out
      rw [List.take_of_length_le (by omega)] at hfull
      have HX : XySl wr (.slice (some ⟨w.heap.size, 0, none⟩) k k) qs := XySl.of_filled hblk hfull hlen.symm h200
      have HXX := Lib.hid HX
      clear HX hfull hlen hbel
      go_wp2
      refine post_ret (results_one rfl (resIs_tmp (by rfl))) ⟨_, rfl, HXX.out, HBEL.out⟩

theorem f51_none (p : Option Addr) (cap : Nat) (w : World) : Calls Try.prog 51 #[.slice p 0 cap] w (IsXy w []) := by
  obtain ⟨i0, hi, hz0, hz1, hz2⟩ := info_parts info37
  go_enter Try.func51, Try.ntmps51
  go_wp2_with (at_make; refine wpList_make_full _ rfl (.tmp 7) (.tmp 7) 47 rfl w.heap.size 37 i0 (.agg #[.float .f64 0, .float .f64 0]) 2 Try.underlying47 hi hz0 hz1 .i64 .i64 0 0 0 rfl rfl rfl rfl ?b2 ?b3 ?b4 ?_; (case b2 => (rw [hz2]; omega)); (case b3 => (unfold maxLen; omega)); (case b4 => exact Nat.le_refl _); intro w1 hown hgrow; have HO := Lib.hid hown; have HG := Lib.hid hgrow; clear hown hgrow)
  refine wp_loop_rounds 1 ?_
  rw [rounds_succ]
  go_wp2
  refine post_ret (results_one rfl (resIs_tmp (by rfl))) ⟨_, rfl, ⟨_, 0, rfl, by simp, by simp, fun h => absurd rfl h⟩, Bel.of_grown0 HG.out⟩

theorem f51_any (qs : List (Nat × Nat)) (v : Value) (w : World) (h : XySl w v qs) (h200 : qs.length ≤ 200) : Calls Try.prog 51 #[v] w (IsXy w qs) := by
  by_cases hpos : qs = []
  · subst hpos
    obtain ⟨p, cap, rfl, _⟩ := h
    exact f51_none p cap w
  · exact f51_some qs v w h h200 hpos
end Go.Proofs.Ytdebkmioaglmaaa
