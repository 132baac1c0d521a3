/-
  spec.GeomOf, laws.figure, laws.lineOf of a line of whole places: a LineString of their floats. No panic; what stood in memory has not turned.
-/
import Derived.Test.YtnpgmoiiiemghaaPts
import Derived.Test.YtnpgmoiiiemghaaFs
namespace Go.Proofs.Ytnpgmoiiiemghaa
open Go.ChangeShapes Go.WideShapes Go.ChangeAt Go.RowKit
/-- The numbers of a row of places. -/
def numsOf (ps : List (Int × Int)) : List Nat := ps.flatMap fun q => [fl q.1, fl q.2]
theorem numsOf_len (ps : List (Int × Int)) : (numsOf ps).length = ps.length * 2 := by
  induction ps with
  | nil => rfl
  | cons q r ih => simp only [numsOf, List.flatMap_cons, List.length_append, List.length_cons, List.length_nil] at *; omega
theorem numsOf_snoc {ps : List (Int × Int)} {k : Nat} {q : Int × Int} (h : ps[k]? = some q) : numsOf (ps.take (k + 1)) = numsOf (ps.take k) ++ [fl q.1, fl q.2] := by
  obtain ⟨hk, he⟩ := List.getElem?_eq_some_iff.1 h
  rw [List.take_succ_eq_append_getElem hk, he]
  simp [numsOf]
theorem numsOf_get (ps : List (Int × Int)) (i : Nat) (q : Int × Int) (h : ps[i]? = some q) : (numsOf ps)[i * 2]? = some (fl q.1) ∧ (numsOf ps)[i * 2 + 1]? = some (fl q.2) := by
  induction ps generalizing i with
  | nil => simp at h
  | cons r l ih =>
    cases i with
    | zero =>
      simp at h
      subst h
      exact ⟨rfl, rfl⟩
    | succ i =>
      simp at h
      have e1 : (i + 1) * 2 = i * 2 + 2 := by omega
      rw [e1]
      exact ih i h

/-- What comes back is a geometry of the kind and type and with the numbers that are told, without parts. -/
def IsLeaf (F : Nat → Prop) (w : World) (kind dim : Int) (xs : List Nat) (e : Ending) (w' : World) : Prop := ∃ p n c, e = .returned (.agg #[.int .i64 kind, .int .i64 dim, .slice p n c, .slice none 0 0]) ∧ FlSl F w' (.slice p n c) xs ∧ Bel w w'

set_option maxRecDepth 100000 in
set_option maxHeartbeats 2000000 in
theorem geomOf_some (F : Nat → Prop) (ps : List (Int × Int)) (v : Value) (w : World) (hF : New F w) (h : PtSl w v ps) (h31 : ps.length ≤ 2147483647) (hpos : ps ≠ []) :
    Calls Try.prog 44 #[.agg #[.int .i64 2, v, .slice none 0 0]] w (IsLeaf F w 2 0 (numsOf ps)) := by
  obtain ⟨p, cap, rfl, hl, hc, hr, h⟩ := h
  obtain ⟨b, off, rfl, hlt, hq⟩ := h hpos
  have HQ := Lib.hid hq
  clear hq hr h hpos
  generalize hn : ps.length = n at *
  have HN := Lib.hid hn
  clear hn
  obtain ⟨i0, hi, hz0, hz1, hz2⟩ := info_parts infoF
  go_enter Try.func44, Try.ntmps44
  go_wp2
  go_loopw [14] (fun i wr => ∃ (k : Nat) (v : Value), k ≤ n ∧ i = .int .i64 k ∧ Bel w wr ∧ Blk wr w.heap.size #[.int .i64 2, .slice (some ⟨b, off, none⟩) n cap, .slice none 0 0] 56 ∧ Blk wr (w.heap.size + 1) #[.int .i64 0, .int .i64 0, .slice none 0 0, .slice none 0 0] 30 ∧ Blk wr (w.heap.size + 1 + 1) #[.int .i64 2, .int .i64 0, v, .slice none 0 0] 30 ∧ wr.ownsRow (w.heap.size + 3) 25 1 v (k * 2) ((numsOf (ps.take k)).map flv)) (fun i _ => n - (intOf i).toNat)
  case atStart =>
    exact ⟨0, _, Nat.zero_le _, rfl, by (repeat (first | with_reducible assumption | with_reducible exact Bel.refl _ | with_reducible apply Bel.alloc | with_reducible apply Bel.drew | with_reducible apply Bel.drewN | ((with_reducible apply Bel.setCellR); (simp <;> omega)) | with_reducible refine Bel.behind (by with_reducible assumption) ?_)), ((Blk.new _ _ _).alloc _).alloc _, (Blk.new' _ _ _ (by simp)).alloc _, Blk.new' _ _ _ (by simp), World.ownsRow_nil _ _ _ _⟩
  case round =>
    obtain ⟨k, v, hk, rfl, hbel, hB1, hB2, hB3, hown⟩ := hrel
    have HBEL := Lib.hid hbel
    have HOWN := Lib.hid hown
    have HB1 := Lib.hid hB1
    have HB2 := Lib.hid hB2
    have HB3 := Lib.hid hB3
    obtain ⟨r1, z1, l1⟩ := hB1.facts
    obtain ⟨r2, z2, l2⟩ := hB2.facts
    obtain ⟨r3, z3, l3⟩ := hB3.facts
    by_cases hkn : k < n
    · obtain ⟨q, hqk⟩ : ∃ q, ps[k]? = some q := ⟨_, List.getElem?_eq_getElem (by have := HN.out; omega)⟩
      have c1 := (hbel.cell (p := ⟨b, off + k * 2, none⟩) hlt).trans (HQ.out k q hqk).1
      have c2 := (hbel.cell (p := ⟨b, off + k * 2 + 1, none⟩) hlt).trans (HQ.out k q hqk).2
      clear hbel hown hB1 hB2 hB3
      obtain ⟨x, y⟩ := q
      simp only at c1 c2
      go_wp2_with (at_builtin; refine wpList_append_own _ rfl (.tmp 19) (.tmp 26) 24 rfl (w.heap.size + 3) 25 i0 (.float .f64 0) 1 8 Try.underlying24 hi hz0 hz1 hz2 rfl (by decide) _ (k * 2) _ rfl ((HOWN.out.alloc _).alloc _) ⟨wr.heap.size + 1, 0, none⟩ 2 2 [.float .f64 (fl x), .float .f64 (fl y)] rfl rfl (cells_pair _ _ _ _ ?c0) ?c1 ?c2 ?c3 ?c4 ?_; (case c0 => simp); (case c1 => simp [Value.oneCell']); (case c2 => unfold maxLen; omega); (case c3 => omega); (case c4 => (simp; omega)); intro v' w1 hown1 hgrow _; obtain ⟨p', c', rfl⟩ := hown1.isSlice; have HO := Lib.hid hown1; have HG := Lib.hid hgrow; clear hown1 hgrow; have B1 := grownBy_blk HG.out ((HB1.out.alloc _).alloc _) (HOWN.out.ne_of_lt (by omega)); have B2 := grownBy_blk HG.out ((HB2.out.alloc _).alloc _) (HOWN.out.ne_of_lt (by omega)); have B3 := grownBy_blk HG.out ((HB3.out.alloc _).alloc _) (HOWN.out.ne_of_lt (by omega)); obtain ⟨s3, t3, m3⟩ := B3.facts)
      go_roundw
      case rel =>
        refine ⟨k + 1, _, by omega, by go_num, ?_, B1.other (by simp; omega) _, B2.other (by simp) _, B3.set 2 _, ?_⟩
        · exact (Bel.grown ((HBEL.out.alloc _).alloc _) HG.out (fun j hj => by have := (HOWN.out.lt j hj).1; omega)).setCell (by simp; omega) _
        · rw [numsOf_snoc hqk, List.map_append, show (k + 1) * 2 = k * 2 + 2 by omega]
          exact HO.out.kept (grownBy_set _ _ _ _) (HO.out.ne_of_lt' (by omega))
      case measure => simp [intOf]; omega
    · have hk' : k = n := by omega
      subst hk'
      have hlen := HN.out
      rw [List.take_of_length_le (by omega)] at hown
      obtain ⟨p', c', rfl⟩ := hown.isSlice
      have HO := Lib.hid hown
      clear hown hbel hlen hB1 hB2 hB3 HOWN
      go_wp2
      refine wp_loop_rounds 1 ?_
      rw [rounds_succ]
      go_wp2
      refine post_ret (results_one rfl (resIs_agg (n := 4) (cs := #[.int .i64 2, .int .i64 0, .slice p' (k * 2) c', .slice none 0 0]) (by rfl) Try.underlying30 (by kernel_rfl) (T := 30) ?_ rfl)) ?_
      · exact (((HB2.out.set 0 _).set 1 _).set 2 _).set 3 _
      · have hne := HO.out.ne_of_lt' (g := w.heap.size + 1) (by omega)
        exact ⟨_, _, _, rfl, FlSl.of_owns ((((HO.out.kept (grownBy_set _ _ _ _) hne).kept (grownBy_set _ _ _ _) hne).kept (grownBy_set _ _ _ _) hne).kept (grownBy_set _ _ _ _) hne) (by rw [numsOf_len, HN.out]) (fun b hb => hF b (by omega)),
          (((HBEL.out.setCell (by simp) _).setCell (by simp) _).setCell (by simp) _).setCell (by simp) _⟩

set_option maxRecDepth 100000 in
theorem geomOf_none (F : Nat → Prop) (p : Option Addr) (cap : Nat) (w : World) :
    Calls Try.prog 44 #[.agg #[.int .i64 2, .slice p 0 cap, .slice none 0 0]] w (IsLeaf F w 2 0 []) := by
  go_enter Try.func44, Try.ntmps44
  go_wp2
  refine wp_loop_rounds 1 ?_
  rw [rounds_succ]
  go_wp2
  refine wp_loop_rounds 1 ?_
  rw [rounds_succ]
  go_wp2
  refine post_ret (results_one rfl (resIs_agg (n := 4) (cs := #[.int .i64 2, .int .i64 0, .slice none 0 0, .slice none 0 0]) (by rfl) Try.underlying30 (by kernel_rfl) (T := 30) ?_ rfl)) ?_
  · exact (Blk.new' _ _ _ (by simp)).alloc _
  · exact ⟨_, _, _, rfl, FlSl.nil _ _, by (repeat (first | with_reducible assumption | with_reducible exact Bel.refl _ | with_reducible apply Bel.alloc | with_reducible apply Bel.drew | with_reducible apply Bel.drewN | ((with_reducible apply Bel.setCellR); (simp <;> omega)) | with_reducible refine Bel.behind (by with_reducible assumption) ?_))⟩
theorem geomOf_line (F : Nat → Prop) (ps : List (Int × Int)) (v : Value) (w : World) (hF : New F w) (h : PtSl w v ps) (h31 : ps.length ≤ 2147483647) :
    Calls Try.prog 44 #[.agg #[.int .i64 2, v, .slice none 0 0]] w (IsLeaf F w 2 0 (numsOf ps)) := by
  by_cases hpos : ps = []
  · subst hpos
    obtain ⟨p, cap, rfl, _⟩ := h
    exact geomOf_none F p cap w
  · exact geomOf_some F ps v w hF h h31 hpos

theorem figure_line (F : Nat → Prop) (ps : List (Int × Int)) (v : Value) (w : World) (hF : New F w) (h : PtSl w v ps) (h31 : ps.length ≤ 2147483647) :
    Calls Try.prog 25 #[.agg #[.int .i64 2, v, .slice none 0 0]] w (IsLeaf F w 2 0 (numsOf ps)) := by
  have HH := Lib.hid h
  obtain ⟨p, cap, rfl, -⟩ := h
  go_enter Try.func25, Try.ntmps25
  go_wp2_with (go_at_call 44; refine (geomOf_line (Loc F w.heap.size 2) ps _ _ ?hn (HH.out.bel ?hb) h31).mono ?_; (case hn => exact hF.loc (by simp)); (case hb => exact ((Bel.refl _).alloc _).alloc _); rintro e w1 ⟨p1, n1, c1, rfl, hf1, hb1⟩; have HF := Lib.hid hf1; have HB := Lib.hid hb1; have B1 := (Blk.new' (w.alloc _) #[.int .i64 0, .int .i64 0, .slice none 0 0, .slice none 0 0] 30 (b := w.heap.size + 1) (by simp)).bel hb1; have hl := hb1.size; simp at hl; clear hf1 hb1; obtain ⟨r1, z1, l1⟩ := B1.facts)
  refine post_ret (results_one rfl (resIs_agg (n := 4) (cs := #[.int .i64 2, .int .i64 0, .slice p1 n1 c1, .slice none 0 0]) (by rfl) Try.underlying30 (by kernel_rfl) (T := 30) ?_ rfl)) ?_
  · exact (((B1.set 0 _).set 1 _).set 2 _).set 3 _
  · exact ⟨_, _, _, rfl, ((((HF.out.set (Loc.not (by omega) (by omega)) _ _).set (Loc.not (by omega) (by omega)) _ _).set (Loc.not (by omega) (by omega)) _ _).set (Loc.not (by omega) (by omega)) _ _).out,
      (((((((Bel.refl w).alloc _).alloc _).trans HB.out).setCell (by simp) _).setCell (by simp) _).setCell (by simp) _).setCell (by simp) _⟩
theorem lineOf_any (F : Nat → Prop) (ps : List (Int × Int)) (v : Value) (w : World) (hF : New F w) (h : PtSl w v ps) (h31 : ps.length ≤ 2147483647) :
    Calls Try.prog 9 #[v] w (IsLeaf F w 2 0 (numsOf ps)) := by
  have HH := Lib.hid h
  obtain ⟨p, cap, rfl, -⟩ := h
  go_enter Try.func9, Try.ntmps9
  go_wp2_with (go_at_call 25; refine (figure_line (Loc F w.heap.size 1) ps _ _ ?hn (HH.out.bel ?hb) h31).mono ?_; (case hn => exact hF.loc (by simp)); (case hb => exact (Bel.refl _).alloc _); rintro e w1 ⟨p1, n1, c1, rfl, hf1, hb1⟩; have HF := Lib.hid hf1; have HB := Lib.hid hb1; have B1 := (Blk.new w #[.int .i64 0, .int .i64 0, .slice none 0 0, .slice none 0 0] 30).bel hb1; have hl := hb1.size; simp at hl; clear hf1 hb1; obtain ⟨r1, z1, l1⟩ := B1.facts)
  refine post_ret (results_one rfl (resIs_agg (n := 4) (cs := #[.int .i64 2, .int .i64 0, .slice p1 n1 c1, .slice none 0 0]) (by rfl) Try.underlying30 (by kernel_rfl) (T := 30) ?_ rfl)) ?_
  · exact (((B1.set 0 _).set 1 _).set 2 _).set 3 _
  · exact ⟨_, _, _, rfl, ((((HF.out.set (Loc.not (by omega) (by omega)) _ _).set (Loc.not (by omega) (by omega)) _ _).set (Loc.not (by omega) (by omega)) _ _).set (Loc.not (by omega) (by omega)) _ _).out,
      ((((((Bel.refl w).alloc _).trans HB.out).setCell (by simp) _).setCell (by simp) _).setCell (by simp) _).setCell (by simp) _⟩
end Go.Proofs.Ytnpgmoiiiemghaa
