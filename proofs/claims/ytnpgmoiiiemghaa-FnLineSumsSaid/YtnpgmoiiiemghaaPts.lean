/-
  Contracts on rows of places: laws.lined tells whether a row of places is short and small. No panic; what stood in memory has not turned.
-/
import Derived.Test.YtnpgmoiiiemghaaBase
import Derived.Deep.RegionHeld3
import Derived.Deep.QuietTactic
import Derived.BigQuiet
import Derived.LoopTactic
import Derived.Deep.LoopGhost
import Derived.Outline
namespace Go.Proofs.Ytnpgmoiiiemghaa
open Go.ChangeShapes Go.WideShapes Go.ChangeAt Go.RowKit

/-- A slice of places of whole numbers, read. -/
def PtSl (w : World) (v : Value) (ps : List (Int × Int)) : Prop :=
  ∃ p cap, v = .slice p ps.length cap ∧ ps.length ≤ cap ∧ cap ≤ 9223372036854775807 ∧ (∀ (i : Nat) (q : Int × Int), ps[i]? = some q → (-9223372036854775808 ≤ q.1 ∧ q.1 ≤ 9223372036854775807) ∧ (-9223372036854775808 ≤ q.2 ∧ q.2 ≤ 9223372036854775807)) ∧
    (ps ≠ [] → ∃ b off, p = some ⟨b, off, none⟩ ∧ b < w.heap.size ∧ ∀ (i : Nat) (q : Int × Int), ps[i]? = some q → w.cell? ⟨b, off + i * 2, none⟩ = some (.int .i64 q.1) ∧ w.cell? ⟨b, off + i * 2 + 1, none⟩ = some (.int .i64 q.2))

theorem PtSl.bel {w w' : World} {v : Value} {ps : List (Int × Int)} (h : PtSl w v ps) (hb : Bel w w') : PtSl w' v ps := by
  obtain ⟨p, cap, hv, hl, hc, hr, h⟩ := h
  refine ⟨p, cap, hv, hl, hc, hr, fun hn => ?_⟩
  obtain ⟨b, off, hp, hlt, hq⟩ := h hn
  exact ⟨b, off, hp, Nat.lt_of_lt_of_le hlt hb.size, fun i q hi => ⟨(hb.cell hlt).trans (hq i q hi).1, (hb.cell hlt).trans (hq i q hi).2⟩⟩

/-- Is a place's every number at most m on both sides of 0? -/
def smallB (m : Int) (q : Int × Int) : Bool := decide (-m ≤ q.1 ∧ -m ≤ q.2 ∧ q.1 ≤ m ∧ q.2 ≤ m)

theorem all_step {α : Type} {f : α → Bool} {l : List α} {k : Nat} {q : α} (h : (l.take k).all f = true) (hq : l[k]? = some q) (hf : f q = true) : (l.take (k + 1)).all f = true := by
  obtain ⟨hk, he⟩ := List.getElem?_eq_some_iff.1 hq
  rw [List.take_succ_eq_append_getElem hk, List.all_append, h, he]
  simp [hf]

theorem all_not {α : Type} {f : α → Bool} {l : List α} {k : Nat} {q : α} (hq : l[k]? = some q) (hf : f q = false) : l.all f = false := by
  obtain ⟨hk, he⟩ := List.getElem?_eq_some_iff.1 hq
  rw [List.all_eq_false]
  exact ⟨q, he ▸ List.getElem_mem hk, by simp [hf]⟩

set_option maxRecDepth 100000 in
set_option maxHeartbeats 2000000 in
theorem formedBelow_line (ps : List (Int × Int)) (v : Value) (m : Int) (hm : 0 ≤ m) (hm2 : m ≤ 1048576) (w : World) (h : PtSl w v ps) (hpos : ps ≠ []) :
    Calls Try.prog 40 #[.agg #[.int .i64 2, v, .slice none 0 0], .int .i64 m, .int .i64 100] w fun e w' => e = .returned (.bool (ps.all (smallB m))) ∧ Bel w w' := by
  obtain ⟨p, cap, rfl, hl, hc, hr, h⟩ := h
  obtain ⟨b, off, rfl, hlt, hq⟩ := h hpos
  have HQ := Lib.hid hq
  have HR := Lib.hid hr
  clear hq hr h hpos
  generalize hn : ps.length = n at *
  have HN := Lib.hid hn
  clear hn
  go_enter Try.func40, Try.ntmps40
  go_wp2
  go_loopw [17] (fun i wr => ∃ k : Nat, k ≤ n ∧ i = .int .i64 k ∧ (ps.take k).all (smallB m) = true ∧ Bel w wr ∧ Blk wr w.heap.size #[.int .i64 2, .slice (some ⟨b, off, none⟩) n cap, .slice none 0 0] 56) (fun i _ => n - (intOf i).toNat)
  case atStart => exact ⟨0, Nat.zero_le _, rfl, by simp, Bel.alloc1 _ _, Blk.new _ _ _⟩
  case round =>
    obtain ⟨k, hk, rfl, hall, hbel, hblk⟩ := hrel
    have HALL := Lib.hid hall
    have HBEL := Lib.hid hbel
    obtain ⟨rb, zb, lb⟩ := hblk.facts
    by_cases hkn : k < n
    · obtain ⟨q, hqk⟩ : ∃ q, ps[k]? = some q := ⟨_, List.getElem?_eq_getElem (by have := HN.out; omega)⟩
      have c1 := (hbel.cell (p := ⟨b, off + k * 2, none⟩) hlt).trans (HQ.out k q hqk).1
      have c2 := (hbel.cell (p := ⟨b, off + k * 2 + 1, none⟩) hlt).trans (HQ.out k q hqk).2
      have rg := HR.out k q hqk
      clear hbel hall
      obtain ⟨x, y⟩ := q
      simp only at c1 c2 rg
      by_cases hs : -m ≤ x ∧ -m ≤ y ∧ x ≤ m ∧ y ≤ m
      · obtain ⟨s1, s2, s3, s4⟩ := hs
        go_wp2
        all_goals
          go_roundw
          case rel => exact ⟨k + 1, by omega, by go_num, all_step HALL.out hqk (by unfold smallB; exact decide_eq_true ⟨s1, s2, s3, s4⟩), Bel.alloc HBEL.out _, hblk.alloc _⟩
          case measure => simp [intOf]; omega
      · have HS := Lib.hid hs
        clear hs
        have hd : ps.all (smallB m) = false := all_not hqk (by unfold smallB; exact decide_eq_false HS.out)
        go_wp2
        all_goals first | (exfalso; exact HS.out ⟨by omega, by omega, by omega, by omega⟩) | skip
        all_goals
          go_ret
          exact ⟨rfl, Bel.alloc HBEL.out _⟩
    · have hk' : k = n := by omega
      subst hk'
      have hd : ps.all (smallB m) = true := by
        have h := HALL.out
        rw [List.take_of_length_le (by have := HN.out; omega)] at h
        exact h
      clear hbel hall
      go_wp2
      go_ret
      exact ⟨congrArg (fun b => Ending.returned (.bool b)) hd.symm, HBEL.out⟩

theorem formedBelow_none (p : Option Addr) (cap : Nat) (m : Int) (w : World) :
    Calls Try.prog 40 #[.agg #[.int .i64 2, .slice p 0 cap, .slice none 0 0], .int .i64 m, .int .i64 100] w fun e w' => e = .returned (.bool true) ∧ Bel w w' := by
  go_enter Try.func40, Try.ntmps40
  go_wp2
  refine wp_loop_rounds 1 ?_
  rw [rounds_succ]
  go_wp2
  go_ret
  exact ⟨rfl, by repeat (first | with_reducible assumption | with_reducible exact Bel.refl _ | with_reducible apply Bel.alloc | with_reducible apply Bel.drew | (with_reducible apply Bel.setCellR; (simp <;> omega)) | with_reducible refine Bel.behind (by with_reducible assumption) ?_)⟩

theorem formedBelow_any (ps : List (Int × Int)) (v : Value) (m : Int) (hm : 0 ≤ m) (hm2 : m ≤ 1048576) (w : World) (h : PtSl w v ps) :
    Calls Try.prog 40 #[.agg #[.int .i64 2, v, .slice none 0 0], .int .i64 m, .int .i64 100] w fun e w' => e = .returned (.bool (ps.all (smallB m))) ∧ Bel w w' := by
  by_cases hpos : ps = []
  · subst hpos
    obtain ⟨p, cap, rfl, _⟩ := h
    exact formedBelow_none p cap m w
  · exact formedBelow_line ps v m hm hm2 w h hpos

theorem formed_any (ps : List (Int × Int)) (v : Value) (m : Int) (hm : 0 ≤ m) (hm2 : m ≤ 1048576) (w : World) (h : PtSl w v ps) :
    Calls Try.prog 20 #[.agg #[.int .i64 2, v, .slice none 0 0], .int .i64 m] w fun e w' => e = .returned (.bool (ps.all (smallB m))) ∧ Bel w w' := by
  have HH := Lib.hid h
  obtain ⟨p, cap, rfl, _⟩ := h
  go_enter Try.func20, Try.ntmps20
  go_wp2_with (go_at_call 40; refine (formedBelow_any ps _ m hm hm2 _ (HH.out.bel ?hb)).mono ?_; (case hb => exact Bel.alloc1 _ _); rintro e w1 ⟨rfl, hb1⟩)
  go_ret
  exact ⟨rfl, by repeat (first | with_reducible assumption | with_reducible exact Bel.refl _ | with_reducible apply Bel.alloc | with_reducible apply Bel.drew | (with_reducible apply Bel.setCellR; (simp <;> omega)) | with_reducible refine Bel.behind (by with_reducible assumption) ?_)⟩

/-- laws.lined: at most 200 places, all small. -/
theorem lined_any (ps : List (Int × Int)) (v : Value) (m : Int) (hm : 0 ≤ m) (hm2 : m ≤ 1048576) (w : World) (h : PtSl w v ps) :
    Calls Try.prog 7 #[v, .int .i64 m] w fun e w' => e = .returned (.bool (decide (ps.length ≤ 200) && ps.all (smallB m))) ∧ Bel w w' := by
  have HH := Lib.hid h
  obtain ⟨p, cap, rfl, hl, hc, _⟩ := h
  by_cases h2 : ps.length ≤ 200
  · have e2 : decide (ps.length ≤ 200) = true := decide_eq_true h2
    rw [e2, Bool.true_and]
    clear e2
    go_enter Try.func7, Try.ntmps7
    go_wp2_with (go_at_call 20; refine (formed_any ps _ m hm hm2 _ HH.out).mono ?_; rintro e w1 ⟨rfl, hb1⟩)
    go_ret
    exact ⟨rfl, by repeat (first | with_reducible assumption | with_reducible exact Bel.refl _ | with_reducible apply Bel.alloc | with_reducible apply Bel.drew | (with_reducible apply Bel.setCellR; (simp <;> omega)) | with_reducible refine Bel.behind (by with_reducible assumption) ?_)⟩
  · have e2 : decide (ps.length ≤ 200) = false := decide_eq_false h2
    rw [e2, Bool.false_and]
    clear e2
    go_enter Try.func7, Try.ntmps7
    go_wp2
    go_ret
    exact ⟨rfl, by repeat (first | with_reducible assumption | with_reducible exact Bel.refl _ | with_reducible apply Bel.alloc | with_reducible apply Bel.drew | (with_reducible apply Bel.setCellR; (simp <;> omega)) | with_reducible refine Bel.behind (by with_reducible assumption) ?_)⟩

end Go.Proofs.Ytnpgmoiiiemghaa
