import Derived.Test.YtdebkmioaglmaaaMat2
import Derived.Laws.BytesArg
import Derived.Lib.ConvBytes
import Derived.Lib.SmallJoins
namespace Go.Proofs.Ytdebkmioaglmaaa
open Go.ChangeShapes Go.WideShapes Go.ChangeAt Go.RowKit
set_option maxRecDepth 100000 in
theorem f81_any (b : Nat) (m : List Int) (w : World) (hM : MB w b m) :
    Calls Try.prog 81 #[.pointer (some ⟨b, 0, none⟩)] w fun x w' => x = .returned (.string (strOfNums m)) ∧ Bel w w' := by
  obtain ⟨hB, h9⟩ := hM
  obtain ⟨m0, m1, m2, m3, m4, m5, m6, m7, m8, rfl⟩ := nine h9
  simp only [mc, List.map_cons, List.map_nil] at hB
  obtain ⟨r, z, hl⟩ := hB.facts
  have hcv := run_convert_bytes_arg (P := Try.prog) w 60 5 Try.underlying60 Try.underlying5 b 0 9 9 [m0, m1, m2, m3, m4, m5, m6, m7, m8] rfl (fun i hi => by
    rw [r, Nat.zero_add]
    match i, hi with
    | 0, _ => rfl
    | 1, _ => rfl
    | 2, _ => rfl
    | 3, _ => rfl
    | 4, _ => rfl
    | 5, _ => rfl
    | 6, _ => rfl
    | 7, _ => rfl
    | 8, _ => rfl) 9 Try.underlying9
  generalize strOfNums [m0, m1, m2, m3, m4, m5, m6, m7, m8] = u at *
  go_enter Try.func81, Try.ntmps81
  go_wp2
  go_ret
  exact ⟨rfl, Bel.refl _⟩
theorem f52_idle (p q : Addr) (w : World) :
    CallsD Try.prog 52 #[.pointer (some p), .pointer (some q)] .returning w fun e u' w' => e = .returned (.tuple #[]) ∧ u' = .returning ∧ w' = w := by
  refine callsD_of_wpS Try.func52 rfl fun c₀ cs hu => ?_
  apply wpS_seq
  apply wpS_region
  simp [wpOpsS, go_sem, recoverD, hu, Try.ntmps52, Exit.thenS]
  refine wpS_cond (t := false) (by simp [Act.eval, Array.replicate]) ?_
  simp only [Bool.false_eq_true, if_false]
  refine wpS_of_wp (wp_skip ?_)
  cases c₀
  simp_all [bodyPostS, results, Try.results52]

/-- A slice of whole numbers, read. -/
def NSl (w : World) (v : Value) (zs : List Int) : Prop :=
  ∃ p cap, v = .slice p zs.length cap ∧ zs.length ≤ cap ∧ cap ≤ 9223372036854775807 ∧ (∀ (i : Nat) (z : Int), zs[i]? = some z → -9223372036854775808 ≤ z ∧ z ≤ 9223372036854775807) ∧
    (zs ≠ [] → ∃ b off, p = some ⟨b, off, none⟩ ∧ b < w.heap.size ∧ ∀ (i : Nat) (z : Int), zs[i]? = some z → w.cell? ⟨b, off + i, none⟩ = some (.int .i64 z))
theorem NSl.bel {w w' : World} {v : Value} {zs : List Int} (h : NSl w v zs) (hb : Bel w w') : NSl w' v zs := by
  obtain ⟨p, cap, hv, hl, hc, hr, h⟩ := h
  refine ⟨p, cap, hv, hl, hc, hr, fun hn => ?_⟩
  obtain ⟨b, off, hp, hlt, hq⟩ := h hn
  exact ⟨b, off, hp, Nat.lt_of_lt_of_le hlt hb.size, fun i z hi => (hb.cell hlt).trans (hq i z hi)⟩
def Sets (zs ys : List Int) (n : Nat) : Prop := zs.length = n ∧ ys.length = n ∧ n ≤ 50 ∧ ∀ i, i < n → (0 ≤ zs.getD i 0 ∧ zs.getD i 0 ≤ 2) ∧ (0 ≤ ys.getD i 0 ∧ ys.getD i 0 ≤ 2)
def IsSets (w : World) (zs ys : List Int) (n : Nat) (e : Ending) (w' : World) : Prop := ∃ t, e = .returned (.bool t) ∧ w = w' ∧ (t = true → Sets zs ys n)
set_option maxRecDepth 100000 in
theorem f26_none (p q : Option Addr) (c c2 : Nat) (s : ByteArray) (w : World) (hs : s.size = 0) :
    Calls Try.prog 26 #[.slice p 0 c, .slice q 0 c2, .string s] w (IsSets w [] [] s.size) := by
  rw [hs]
  go_enter Try.func26, Try.ntmps26
  go_wp2
  refine wp_loop_rounds 1 ?_
  rw [rounds_succ]
  go_wp2
  refine post_ret (results_one rfl (resIs_tmp (by rfl))) ⟨true, rfl, rfl, fun _ => ⟨rfl, rfl, by omega, fun i hi => absurd hi (by omega)⟩⟩
set_option maxRecDepth 100000 in
theorem f26_out (p q : Option Addr) (zs ys : List Int) (n n2 c c2 : Nat) (s : ByteArray) (w : World) (h : n ≠ n2 ∨ n2 ≠ s.size ∨ 50 < s.size) :
    Calls Try.prog 26 #[.slice p n c, .slice q n2 c2, .string s] w (IsSets w zs ys s.size) := by
  by_cases h1 : n = n2
  · subst h1
    by_cases h2 : n = s.size
    · subst h2
      have h3 : 50 < s.size := by omega
      have e1 : ((s.size : Int) != (s.size : Int)) = false := by simp
      go_enter Try.func26, Try.ntmps26
      go_wp2
      refine post_ret (results_one rfl (resIs_tmp (by rfl))) ⟨false, rfl, rfl, fun h => (Bool.false_ne_true h).elim⟩
    · have e1 : ((n : Int) != (n : Int)) = false := by simp
      have e2 : ((n : Int) != (s.size : Int)) = true := by
        simp
        omega
      go_enter Try.func26, Try.ntmps26
      go_wp2
      refine post_ret (results_one rfl (resIs_tmp (by rfl))) ⟨false, rfl, rfl, fun h => (Bool.false_ne_true h).elim⟩
  · have e1 : ((n : Int) != (n2 : Int)) = true := by simp; omega
    go_enter Try.func26, Try.ntmps26
    go_wp2
    refine post_ret (results_one rfl (resIs_tmp (by rfl))) ⟨false, rfl, rfl, fun h => (Bool.false_ne_true h).elim⟩
set_option maxHeartbeats 1000000 in
set_option maxRecDepth 100000 in
theorem f26_some (zs ys : List Int) (va vb : Value) (s : ByteArray) (w : World) (ha : NSl w va zs) (hb : NSl w vb ys) (hlen : zs.length = s.size) (hlen2 : ys.length = s.size) (hpos : 0 < s.size) (h50 : s.size ≤ 50) :
    Calls Try.prog 26 #[va, vb, .string s] w (IsSets w zs ys s.size) := by
  obtain ⟨p, cap, rfl, hl, hc, hr, ha⟩ := ha
  obtain ⟨p', cap', rfl, hl', hc', hr', hb⟩ := hb
  obtain ⟨ba, oa, rfl, hlta, hca⟩ := ha (by intro e; rw [e] at hlen; simp at hlen; omega)
  obtain ⟨bb, ob, rfl, hltb, hcb⟩ := hb (by intro e; rw [e] at hlen2; simp at hlen2; omega)
  have CA := Lib.hid hca
  have CB := Lib.hid hcb
  have HRA := Lib.hid hr
  have HRB := Lib.hid hr'
  rw [hlen] at hl ⊢
  rw [hlen2] at hl' ⊢
  have L1 := Lib.hid hlen
  have L2 := Lib.hid hlen2
  clear hca hcb hr hr' ha hb hlen hlen2
  have hss : ((s.size : Int) != (s.size : Int)) = false := by simp
  go_enter Try.func26, Try.ntmps26
  go_wp2
  go_loopw [29] (fun i wr => ∃ k : Nat, k ≤ s.size ∧ i = .int .i64 k ∧ w = wr ∧ (∀ i, i < k → (0 ≤ zs.getD i 0 ∧ zs.getD i 0 ≤ 2) ∧ (0 ≤ ys.getD i 0 ∧ ys.getD i 0 ≤ 2))) (fun i _ => s.size - (intOf i).toNat)
  case atStart => exact ⟨0, Nat.zero_le _, rfl, rfl, fun i hi => absurd hi (by omega)⟩
  case round =>
    obtain ⟨k, hk, rfl, rfl, hall⟩ := hrel
    have HALL := Lib.hid hall
    clear hall
    by_cases hlt : k < s.size
    · obtain ⟨x, hx⟩ : ∃ x, zs[k]? = some x := ⟨zs[k]'(by have := L1.out; omega), List.getElem?_eq_getElem _⟩
      obtain ⟨y, hy⟩ : ∃ y, ys[k]? = some y := ⟨ys[k]'(by have := L2.out; omega), List.getElem?_eq_getElem _⟩
      have cx := CA.out k x hx
      have cy := CB.out k y hy
      have HX := Lib.hid hx
      have HY := Lib.hid hy
      clear hx hy
      by_cases c1 : x < 0
      · go_wp2
        refine post_ret (results_one rfl (resIs_tmp (by rfl))) ⟨false, rfl, rfl, fun h => (Bool.false_ne_true h).elim⟩
      by_cases c2 : 2 < x
      · go_wp2
        refine post_ret (results_one rfl (resIs_tmp (by rfl))) ⟨false, rfl, rfl, fun h => (Bool.false_ne_true h).elim⟩
      by_cases c3 : y < 0
      · go_wp2
        refine post_ret (results_one rfl (resIs_tmp (by rfl))) ⟨false, rfl, rfl, fun h => (Bool.false_ne_true h).elim⟩
      by_cases c4 : 2 < y
      · go_wp2
        refine post_ret (results_one rfl (resIs_tmp (by rfl))) ⟨false, rfl, rfl, fun h => (Bool.false_ne_true h).elim⟩
      have OK := Lib.hid (And.intro (And.intro c1 c2) (And.intro c3 c4))
      have ST : Hid (∀ i, i < k + 1 → (0 ≤ zs.getD i 0 ∧ zs.getD i 0 ≤ 2) ∧ (0 ≤ ys.getD i 0 ∧ ys.getD i 0 ≤ 2)) := Lib.hid (fun i hi => by
        by_cases e : i = k
        · subst e
          rw [List.getD, HX.out, List.getD, HY.out]
          simp only [Option.getD_some]
          omega
        · exact HALL.out i (by omega))
      go_wp2
      all_goals first
        | (refine post_ret (results_one rfl (resIs_tmp (by rfl))) ⟨false, rfl, rfl, fun h => (Bool.false_ne_true h).elim⟩)
        | exact ⟨⟨k + 1, by omega, by go_num, trivial, ST.out⟩, by simp [intOf]; omega⟩
    · have : k = s.size := by omega
      subst this
      go_wp2
      refine post_ret (results_one rfl (resIs_tmp (by rfl))) ⟨true, rfl, rfl, fun _ => ⟨L1.out, L2.out, h50, HALL.out⟩⟩

theorem f26_any (zs ys : List Int) (va vb : Value) (s : ByteArray) (w : World) (ha : NSl w va zs) (hb : NSl w vb ys) : Calls Try.prog 26 #[va, vb, .string s] w (IsSets w zs ys s.size) := by
  have ha' := ha
  have hb' := hb
  obtain ⟨p, cap, rfl, _⟩ := ha'
  obtain ⟨q, cap2, rfl, _⟩ := hb'
  by_cases h : zs.length ≠ ys.length ∨ ys.length ≠ s.size ∨ 50 < s.size
  · exact f26_out p q zs ys _ _ cap cap2 s w h
  · by_cases h0 : s.size = 0
    · have e1 : zs = [] := List.length_eq_zero_iff.1 (by omega)
      have e2 : ys = [] := List.length_eq_zero_iff.1 (by omega)
      subst e1 e2
      exact f26_none p q cap cap2 s w h0
    · exact f26_some zs ys _ _ s w ha hb (by omega) (by omega) (by omega) (by omega)
end Go.Proofs.Ytdebkmioaglmaaa
