/-
  Contracts on rows of floats and plain geometries without parts: spec.SameNums tells whether two rows hold the same bits. No panic; what stood in memory has not turned.
-/
import Derived.Test.YtdebkmioaglmaaaBase
import Derived.Test.YtdebkmioaglmaaaFlo
import Derived.Deep.RegionHeld3
import Derived.Deep.QuietTactic
import Derived.BigQuiet
import Derived.LoopTactic
import Derived.Deep.LoopGhost
import Derived.Laws.Externs
import Derived.Outline
namespace Go.Proofs.Ytdebkmioaglmaaa
open Go.ChangeShapes Go.WideShapes Go.ChangeAt Go.RowKit

/-- A slice of floats, read: its numbers' bits. -/
def FSl (w : World) (v : Value) (xs : List Nat) : Prop :=
  ∃ p cap, v = .slice p xs.length cap ∧ xs.length < 2 ^ 62 ∧ (xs ≠ [] → ∃ b off, p = some ⟨b, off, none⟩ ∧ b < w.heap.size ∧ ∀ i, i < xs.length → w.cell? ⟨b, off + i, none⟩ = some (.float .f64 (xs.getD i 0)))

theorem FSl.bel {w w' : World} {v : Value} {xs : List Nat} (h : FSl w v xs) (hb : Bel w w') : FSl w' v xs := by
  obtain ⟨p, cap, hv, hl, h⟩ := h
  refine ⟨p, cap, hv, hl, fun hn => ?_⟩
  obtain ⟨b, off, hp, hlt, hc⟩ := h hn
  exact ⟨b, off, hp, Nat.lt_of_lt_of_le hlt hb.size, fun i hi => (hb.cell hlt).trans (hc i hi)⟩

theorem call70 (b : Nat) (w : World) : (callFunc 70 #[.float .f64 b]).run Try.prog w = .ok (.value (.int .u64 b)) w := by
  rw [run_callFunc_extern (e := Extern.MathFloatBits.float64bits) Try.func70 (by kernel_rfl) (by kernel_rfl) (by kernel_rfl) (by kernel_rfl) #[.float .f64 b] w]
  rfl

theorem f42_len (xs ys : List Nat) (va vb : Value) (w : World) (ha : FSl w va xs) (hb : FSl w vb ys) (hne : xs.length ≠ ys.length) :
    Calls Try.prog 42 #[va, vb] w fun e w' => e = .returned (.bool false) ∧ Bel w w' := by
  obtain ⟨p, cap, rfl, hl, _⟩ := ha
  obtain ⟨q, cap', rfl, hl', _⟩ := hb
  have hne' : ((xs.length : Int) != (ys.length : Int)) = true := by simpa using (by omega : ¬ (xs.length : Int) = ys.length)
  go_enter Try.func42, Try.ntmps42
  go_wp2
  go_ret
  exact ⟨rfl, by repeat (first | with_reducible assumption | with_reducible exact Bel.refl _ | with_reducible apply Bel.alloc | with_reducible apply Bel.drew | (with_reducible apply Bel.setCellR; (simp <;> omega)) | with_reducible refine Bel.behind (by with_reducible assumption) ?_)⟩

theorem take_ext {xs ys : List Nat} {k : Nat} (h : xs.take k = ys.take k) (hx : k < xs.length) (hy : k < ys.length) (he : xs.getD k 0 = ys.getD k 0) : xs.take (k + 1) = ys.take (k + 1) := by
  rw [List.take_succ_eq_append_getElem hx, List.take_succ_eq_append_getElem hy, h]
  congr 2
  simpa [List.getD, hx, hy] using he

set_option maxHeartbeats 1000000 in
theorem f42_eq (xs ys : List Nat) (va vb : Value) (w : World) (ha : FSl w va xs) (hb : FSl w vb ys) (hlen : xs.length = ys.length) (hpos : 0 < ys.length) :
    Calls Try.prog 42 #[va, vb] w fun e w' => e = .returned (.bool (decide (xs = ys))) ∧ Bel w w' := by
  obtain ⟨p, cap, rfl, hl, ha⟩ := ha
  obtain ⟨q, cap', rfl, hl', hb⟩ := hb
  obtain ⟨ba, oa, rfl, hlta, hca⟩ := ha (by intro h; rw [h] at hlen; simp at hlen; omega)
  obtain ⟨bb, ob, rfl, hltb, hcb⟩ := hb (by intro h; rw [h] at hpos; simp at hpos)
  rw [hlen]
  rw [hlen] at hl hca
  have CA := Lib.hid hca
  have CB := Lib.hid hcb
  have LEN := Lib.hid hlen
  have c70 := call70
  have hne : ((ys.length : Int) != (ys.length : Int)) = false := by simp
  clear hca hcb hlen
  generalize hn : ys.length = n at *
  have HN := Lib.hid hn
  clear hn
  go_enter Try.func42, Try.ntmps42
  go_wp2
  go_loopw [14] (fun i wr => ∃ k : Nat, k ≤ n ∧ i = .int .i64 k ∧ xs.take k = ys.take k ∧ Bel w wr) (fun i _ => n - (intOf i).toNat)
  case atStart => exact ⟨0, Nat.zero_le _, rfl, by simp, Bel.refl _⟩
  case round =>
    obtain ⟨k, hk, rfl, htk, hbel⟩ := hrel
    have TK := Lib.hid htk
    clear htk
    by_cases hlt : k < n
    · have h1 := (hbel.cell (p := ⟨ba, oa + k, none⟩) hlta).trans (CA.out k hlt)
      have h2 := (hbel.cell (p := ⟨bb, ob + k, none⟩) hltb).trans (CB.out k hlt)
      have HB := Lib.hid hbel
      clear hbel
      obtain ⟨x, hx⟩ : ∃ x, xs.getD k 0 = x := ⟨_, rfl⟩
      obtain ⟨y, hy⟩ : ∃ y, ys.getD k 0 = y := ⟨_, rfl⟩
      rw [hx] at h1
      rw [hy] at h2
      have HX := Lib.hid hx
      have HY := Lib.hid hy
      clear hx hy
      by_cases he : x = y
      · have hee : ((x : Int) != (y : Int)) = false := by simp [he]
        have HE := Lib.hid he
        clear he
        go_wp2
        go_quiet (fail)
        go_wp2
        go_roundw
        case rel => exact ⟨k + 1, by omega, by go_num, take_ext TK.out (by have := LEN.out; have := HN.out; omega) (by have := HN.out; omega) (by rw [HX.out, HY.out, HE.out]), Bel.drewN HB.out _⟩
        case measure => simp [intOf]; omega
      · have hee : ((x : Int) != (y : Int)) = true := by
          have : ¬ (x : Int) = y := by omega
          simpa using this
        have HE := Lib.hid he
        clear he
        go_wp2
        go_quiet (fail)
        go_wp2
        go_ret
        have hd : ¬ xs = ys := by
          intro h
          subst h
          exact HE.out (HX.out.symm.trans HY.out)
        exact ⟨congrArg (fun b => Ending.returned (.bool b)) (decide_eq_false hd).symm, Bel.drewN HB.out _⟩
    · have hd : xs = ys := by
        have h := TK.out
        have h1 := LEN.out
        have h2 := HN.out
        rw [List.take_of_length_le (by omega), List.take_of_length_le (by omega)] at h
        exact h
      have HD := Lib.hid hd
      clear hd
      go_wp2
      go_ret
      exact ⟨congrArg (fun b => Ending.returned (.bool b)) (decide_eq_true HD.out).symm, hbel⟩

theorem f42_nil (va vb : Value) (w : World) (ha : FSl w va []) (hb : FSl w vb []) :
    Calls Try.prog 42 #[va, vb] w fun e w' => e = .returned (.bool true) ∧ Bel w w' := by
  obtain ⟨p, cap, rfl, hl, _⟩ := ha
  obtain ⟨q, cap', rfl, hl', _⟩ := hb
  go_enter Try.func42, Try.ntmps42
  go_wp2
  refine wp_loop_rounds 1 ?_
  rw [rounds_succ]
  go_wp2
  go_ret
  exact ⟨rfl, by repeat (first | with_reducible assumption | with_reducible exact Bel.refl _ | with_reducible apply Bel.alloc | with_reducible apply Bel.drew | (with_reducible apply Bel.setCellR; (simp <;> omega)) | with_reducible refine Bel.behind (by with_reducible assumption) ?_)⟩

/-- spec.SameNums. -/
theorem f42_any (xs ys : List Nat) (va vb : Value) (w : World) (ha : FSl w va xs) (hb : FSl w vb ys) :
    Calls Try.prog 42 #[va, vb] w fun e w' => e = .returned (.bool (decide (xs = ys))) ∧ Bel w w' := by
  by_cases h : xs.length = ys.length
  · by_cases h0 : 0 < ys.length
    · exact f42_eq xs ys va vb w ha hb h h0
    · have hy : ys = [] := List.length_eq_zero_iff.1 (by omega)
      have hx : xs = [] := List.length_eq_zero_iff.1 (by omega)
      subst hx hy
      exact f42_nil va vb w ha hb
  · have hd : ¬ xs = ys := fun e => h (by rw [e])
    rw [decide_eq_false hd]
    exact f42_len xs ys va vb w ha hb h

theorem f43_none (p q : Option Addr) (c d : Nat) (w : World) : Calls Try.prog 43 #[.slice p 0 c, .slice q 0 d] w fun e w' => e = .returned (.bool true) ∧ Bel w w' := by
  go_enter Try.func43, Try.ntmps43
  go_wp2
  refine wp_loop_rounds 1 ?_
  rw [rounds_succ]
  go_wp2
  go_ret
  exact ⟨rfl, by repeat (first | with_reducible assumption | with_reducible exact Bel.refl _ | with_reducible apply Bel.alloc | with_reducible apply Bel.drew | (with_reducible apply Bel.setCellR; (simp <;> omega)) | with_reducible refine Bel.behind (by with_reducible assumption) ?_)⟩

theorem f45_any (x y : Nat) (w : World) : Calls Try.prog 45 #[.agg #[.float .f64 x, .float .f64 y]] w fun e w' => e = .returned (.agg #[.float .f64 x, .float .f64 y]) ∧ Bel w w' := by
  go_enter Try.func45, Try.ntmps45
  go_wp2
  refine post_ret (results_one rfl (resIs_blk (n := 2) (T := 81) (by rfl) Try.underlying81 (by kernel_rfl) ?hB ?hs)) ⟨rfl, ?hbel⟩
  case hB => (apply Exists.intro; apply And.intro; (repeat (first | with_reducible assumption | with_reducible apply Blk.set | (with_reducible apply Blk.otherR; (simp <;> omega)) | with_reducible exact Blk.new _ _ _ | (with_reducible apply Blk.new'; (focus (simp; done))) | with_reducible apply Blk.alloc | with_reducible apply Blk.drew)); rfl)
  case hs => rfl
  case hbel => exact by repeat (first | with_reducible assumption | with_reducible exact Bel.refl _ | with_reducible apply Bel.alloc | with_reducible apply Bel.drew | (with_reducible apply Bel.setCellR; (simp <;> omega)) | with_reducible refine Bel.behind (by with_reducible assumption) ?_)

theorem f75_any (x y z m : Nat) (w : World) : Calls Try.prog 75 #[.agg #[.float .f64 x, .float .f64 y, .float .f64 z, .float .f64 m, .int .u8 0]] w fun e w' => e = .returned (.agg #[.float .f64 x, .float .f64 y, .float .f64 z, .float .f64 m, .int .u8 0, .bool true]) ∧ Bel w w' := by
  go_enter Try.func75, Try.ntmps75
  go_wp2
  refine post_ret (results_one rfl (resIs_blk (n := 6) (T := 86) (by rfl) Try.underlying86 (by kernel_rfl) ?hB ?hs)) ⟨rfl, ?hbel⟩
  case hB => (apply Exists.intro; apply And.intro; (repeat (first | with_reducible assumption | with_reducible apply Blk.set | (with_reducible apply Blk.otherR; (simp <;> omega)) | with_reducible exact Blk.new _ _ _ | (with_reducible apply Blk.new'; (focus (simp; done))) | with_reducible apply Blk.alloc | with_reducible apply Blk.drew)); rfl)
  case hs => rfl
  case hbel => exact by repeat (first | with_reducible assumption | with_reducible exact Bel.refl _ | with_reducible apply Bel.alloc | with_reducible apply Bel.drew | (with_reducible apply Bel.setCellR; (simp <;> omega)) | with_reducible refine Bel.behind (by with_reducible assumption) ?_)

theorem f46_any (x y : Nat) (w : World) : Calls Try.prog 46 #[.agg #[.float .f64 x, .float .f64 y]] w fun e w' => e = .returned (.agg #[.float .f64 x, .float .f64 y, .float .f64 0, .float .f64 0, .int .u8 0, .bool true]) ∧ Bel w w' := by
  go_enter Try.func46, Try.ntmps46
  go_wp2_with (go_at_call 75; (with_reducible refine (f75_any _ _ _ _ _).mono ?_); rintro e w1 ⟨rfl, hb2⟩; have B3 : Blk w1 (w.heap.size + 1) #[.float .f64 0, .float .f64 0, .float .f64 0, .float .f64 0, .int .u8 0, .bool false] 86 := Blk.bel (by (apply Blk.cast; (repeat (first | with_reducible assumption | with_reducible apply Blk.set | (with_reducible apply Blk.otherR; (simp <;> omega)) | with_reducible exact Blk.new _ _ _ | (with_reducible apply Blk.new'; (focus (simp; done))) | with_reducible apply Blk.alloc | with_reducible apply Blk.drew)); rfl)) hb2; obtain ⟨r4, z5, z5l⟩ := B3.facts)
  refine post_ret (results_one rfl (resIs_blk (n := 6) (T := 86) (by rfl) Try.underlying86 (by kernel_rfl) ?hB ?hs)) ⟨rfl, ?hbel⟩
  case hB => (apply Exists.intro; apply And.intro; (repeat (first | with_reducible assumption | with_reducible apply Blk.set | (with_reducible apply Blk.otherR; (simp <;> omega)) | with_reducible exact Blk.new _ _ _ | (with_reducible apply Blk.new'; (focus (simp; done))) | with_reducible apply Blk.alloc | with_reducible apply Blk.drew)); rfl)
  case hs => rfl
  case hbel => exact by repeat (first | with_reducible assumption | with_reducible exact Bel.refl _ | with_reducible apply Bel.alloc | with_reducible apply Bel.drew | (with_reducible apply Bel.setCellR; (simp <;> omega)) | with_reducible refine Bel.behind (by with_reducible assumption) ?_)

theorem f71_any (x y z m : Nat) (w : World) : Calls Try.prog 71 #[.agg #[.float .f64 x, .float .f64 y, .float .f64 z, .float .f64 m, .int .u8 0, .bool true]] w fun e w' => e = .returned (.int .u8 0) ∧ Bel w w' := by
  go_enter Try.func71, Try.ntmps71
  go_wp2
  go_ret
  exact ⟨rfl, by repeat (first | with_reducible assumption | with_reducible exact Bel.refl _ | with_reducible apply Bel.alloc | with_reducible apply Bel.drew | (with_reducible apply Bel.setCellR; (simp <;> omega)) | with_reducible refine Bel.behind (by with_reducible assumption) ?_)⟩
theorem f72_any (x y z m : Nat) (w : World) : Calls Try.prog 72 #[.agg #[.float .f64 x, .float .f64 y, .float .f64 z, .float .f64 m, .int .u8 0, .bool true]] w fun e w' => e = .returned (.tuple #[.agg #[.float .f64 x, .float .f64 y, .float .f64 z, .float .f64 m, .int .u8 0], .bool true]) ∧ Bel w w' := by
  go_enter Try.func72, Try.ntmps72
  go_wp2
  generalize hW6 : World.alloc _ _ = w0
  have hb7 : Bel w w0 := by subst hW6; repeat (first | with_reducible assumption | with_reducible exact Bel.refl _ | with_reducible apply Bel.alloc | with_reducible apply Bel.drew | (with_reducible apply Bel.setCellR; (simp <;> omega)) | with_reducible refine Bel.behind (by with_reducible assumption) ?_)
  have B8 : Blk w0 (w.heap.size) #[.float .f64 x, .float .f64 y, .float .f64 z, .float .f64 m, .int .u8 0, .bool true] 86 := by subst hW6; (apply Blk.cast; (repeat (first | with_reducible assumption | with_reducible apply Blk.set | (with_reducible apply Blk.otherR; (simp <;> omega)) | with_reducible exact Blk.new _ _ _ | (with_reducible apply Blk.new'; (focus (simp; done))) | with_reducible apply Blk.alloc | with_reducible apply Blk.drew)); rfl)
  obtain ⟨r9, z10, z10l⟩ := B8.facts
  have B11 : Blk w0 (w.heap.size + 1) #[.float .f64 0, .float .f64 0, .float .f64 0, .float .f64 0, .int .u8 0] 84 := by subst hW6; (apply Blk.cast; (repeat (first | with_reducible assumption | with_reducible apply Blk.set | (with_reducible apply Blk.otherR; (simp <;> omega)) | with_reducible exact Blk.new _ _ _ | (with_reducible apply Blk.new'; (focus (simp; done))) | with_reducible apply Blk.alloc | with_reducible apply Blk.drew)); rfl)
  obtain ⟨r12, z13, z13l⟩ := B11.facts
  clear hW6
  go_region_held3 (fun w' => (∀ o, w'.cell? ⟨w.heap.size, o, none⟩ = (#[.float .f64 x, .float .f64 y, .float .f64 z, .float .f64 m, .int .u8 0, .bool true] : Array Value)[o]?) ∧ Blk w' (w.heap.size) #[.float .f64 x, .float .f64 y, .float .f64 z, .float .f64 m, .int .u8 0, .bool true] 86 ∧ Bel w w')
    (first | (with_reducible apply keep1; with_reducible assumption; with_reducible assumption) | (with_reducible apply keep1; (with_reducible exact Bel.alloc1 _ _); with_reducible assumption) | ((repeat (first | with_reducible assumption | (with_reducible apply keep1s; (simp <;> omega); (simp <;> omega)))); done) | (refine keep1i ?_ ?_; (focus ((repeat (first | with_reducible assumption | with_reducible apply Blk.set | (with_reducible apply Blk.otherR; (simp <;> omega)) | with_reducible exact Blk.new _ _ _ | (with_reducible apply Blk.new'; (focus (simp; done))) | with_reducible apply Blk.alloc | with_reducible apply Blk.drew)); done)); (focus ((repeat (first | with_reducible assumption | with_reducible exact Bel.refl _ | with_reducible apply Bel.alloc | with_reducible apply Bel.drew | (with_reducible apply Bel.setCellR; (simp <;> omega)) | with_reducible refine Bel.behind (by with_reducible assumption) ?_)); done))))
    (fail)

  all_goals go_wp2
  all_goals
    refine post_ret (results_two rfl (resIs_blk (n := 5) (T := 84) (by rfl) Try.underlying84 (by kernel_rfl) ?hB0 ?hs0) (resIs_tmp (by rfl))) ⟨rfl, ?hbel⟩
    case hB0 => (apply Exists.intro; apply And.intro; (repeat (first | with_reducible assumption | with_reducible apply Blk.set | (with_reducible apply Blk.otherR; (simp <;> omega)) | with_reducible exact Blk.new _ _ _ | (with_reducible apply Blk.new'; (focus (simp; done))) | with_reducible apply Blk.alloc | with_reducible apply Blk.drew)); rfl)
    case hs0 => rfl
    case hbel => exact by repeat (first | with_reducible assumption | with_reducible exact Bel.refl _ | with_reducible apply Bel.alloc | with_reducible apply Bel.drew | (with_reducible apply Bel.setCellR; (simp <;> omega)) | with_reducible refine Bel.behind (by with_reducible assumption) ?_)

theorem f73_zero (w : World) : Calls Try.prog 73 #[.int .u8 0] w fun e w' => e = .returned (.bool false) ∧ w = w' := by
  go_enter Try.func73, Try.ntmps73
  go_wp2
  go_ret
  exact ⟨rfl, rfl⟩
theorem f74_zero (w : World) : Calls Try.prog 74 #[.int .u8 0] w fun e w' => e = .returned (.bool false) ∧ w = w' := by
  go_enter Try.func74, Try.ntmps74
  go_wp2
  go_ret
  exact ⟨rfl, rfl⟩
theorem info35 : (Try.prog.info? 35).map (fun i => (i.zero, i.size, i.bytes)) = some (some (.float .f64 0), 1, 8) := by kernel_rfl

theorem FSl.two {w : World} {g cap x y : Nat} (hl : g < w.heap.size) (h0 : w.cell? ⟨g, 0, none⟩ = some (.float .f64 x)) (h1 : w.cell? ⟨g, 1, none⟩ = some (.float .f64 y)) : FSl w (.slice (some ⟨g, 0, none⟩) 2 cap) [x, y] :=
  ⟨_, cap, rfl, by simp, fun _ => ⟨g, 0, rfl, hl, fun i hi => by
    match i, hi with
    | 0, _ => exact h0
    | 1, _ => exact h1⟩⟩

theorem FSl.of_blk {w : World} {b x y cap : Nat} {t : TypeId} (h : Blk w b #[.float .f64 x, .float .f64 y] t) : FSl w (.slice (some ⟨b, 0, none⟩) 2 cap) [x, y] :=
  FSl.two h.lt (h.rules.1 0) (h.rules.1 1)

/-- The plain geometry of a point of two numbers. -/
def IsPt (w : World) (x y : Nat) (e : Ending) (w' : World) : Prop :=
  ∃ g cap, e = .returned (.agg #[.int .i64 1, .int .i64 0, .slice (some ⟨g, 0, none⟩) 2 cap, .slice none 0 0]) ∧ w.heap.size ≤ g ∧ g < w'.heap.size ∧ w'.cell? ⟨g, 0, none⟩ = some (.float .f64 x) ∧ w'.cell? ⟨g, 1, none⟩ = some (.float .f64 y) ∧ Bel w w'

theorem Bel.of_grown {w w' : World} (h : w.grownBy w' none) : Bel w w' :=
  ⟨h.os, h.tape, h.output, h.size, fun k hk => h.block k hk (by simp)⟩

theorem owned_two {w : World} {base : Nat} {e : TypeId} {v a b : Value} (h : w.ownsRow base e 1 v (0 + 2) ([] ++ [a, b])) :
    ∃ g cap, v = .slice (some ⟨g, 0, none⟩) 2 cap ∧ base ≤ g ∧ g < w.heap.size ∧ w.cell? ⟨g, 0, none⟩ = some a ∧ w.cell? ⟨g, 1, none⟩ = some b := by
  have hc := fun (g : Nat) (hg : v.ownBlock = some g) => h.cells hg
  rcases h.2 with ⟨_, h0⟩ | ⟨g, cap, cur, rfl, hb, hg, _⟩
  · cases h0
  · have hl := (Array.getElem?_eq_some_iff.1 hg).1
    have c0 := hc g rfl 0 a rfl
    have c1 := hc g rfl 1 b rfl
    exact ⟨g, cap, rfl, hb, hl, c0, c1⟩

theorem cells_two (w : World) (a b : Value) (t : TypeId) {n : Nat} (hn : n = w.heap.size) : ∀ j u, [a, b][j]? = some u → (w.alloc (.cells #[a, b] t)).cell? ((⟨n, 0, none⟩ : Addr).add j) = some u := by
  subst hn
  intro j u hj
  match j, hj with
  | 0, hj => simpa [Addr.add] using hj
  | 1, hj => simpa [Addr.add] using hj

set_option maxRecDepth 100000 in
set_option maxHeartbeats 1000000 in
theorem f44_any (x y z m : Nat) (w : World) : Calls Try.prog 44 #[.agg #[.float .f64 x, .float .f64 y, .float .f64 z, .float .f64 m, .int .u8 0, .bool true]] w (IsPt w x y) := by
  obtain ⟨i0, hi, hz0, hz1, hz2⟩ := info_parts info35
  go_enter Try.func44, Try.ntmps44
  go_wp2_with (first | (go_at_call 71; (with_reducible refine (f71_any _ _ _ _ _).mono ?_); rintro e wa ⟨rfl, hb14⟩; have B15 : Blk wa (w.heap.size) #[.float .f64 x, .float .f64 y, .float .f64 z, .float .f64 m, .int .u8 0, .bool true] 86 := Blk.bel (by (apply Blk.cast; (repeat (first | with_reducible assumption | with_reducible apply Blk.set | (with_reducible apply Blk.otherR; (simp <;> omega)) | with_reducible exact Blk.new _ _ _ | (with_reducible apply Blk.new'; (focus (simp; done))) | with_reducible apply Blk.alloc | with_reducible apply Blk.drew)); rfl)) hb14; obtain ⟨r16, z17, z17l⟩ := B15.facts; have B18 : Blk wa (w.heap.size + 1) #[.int .i64 0, .int .i64 0, .slice none 0 0, .slice none 0 0] 42 := Blk.bel (by (apply Blk.cast; (repeat (first | with_reducible assumption | with_reducible apply Blk.set | (with_reducible apply Blk.otherR; (simp <;> omega)) | with_reducible exact Blk.new _ _ _ | (with_reducible apply Blk.new'; (focus (simp; done))) | with_reducible apply Blk.alloc | with_reducible apply Blk.drew)); rfl)) hb14; obtain ⟨r19, z20, z20l⟩ := B18.facts) | (go_at_call 72; (with_reducible refine (f72_any _ _ _ _ _).mono ?_); rintro e wb ⟨rfl, hb21⟩; have B22 : Blk wb (w.heap.size + 1) #[.int .i64 0, .int .i64 0, .slice none 0 0, .slice none 0 0] 42 := Blk.bel (by (apply Blk.cast; (repeat (first | with_reducible assumption | with_reducible apply Blk.set | (with_reducible apply Blk.otherR; (simp <;> omega)) | with_reducible exact Blk.new _ _ _ | (with_reducible apply Blk.new'; (focus (simp; done))) | with_reducible apply Blk.alloc | with_reducible apply Blk.drew)); rfl)) hb21; obtain ⟨r23, z24, z24l⟩ := B22.facts; have B25 : Blk wb (wa.heap.size) #[.int .i64 1, .int .i64 0, .slice none 0 0, .slice none 0 0] 42 := Blk.bel (by (apply Blk.cast; (repeat (first | with_reducible assumption | with_reducible apply Blk.set | (with_reducible apply Blk.otherR; (simp <;> omega)) | with_reducible exact Blk.new _ _ _ | (with_reducible apply Blk.new'; (focus (simp; done))) | with_reducible apply Blk.alloc | with_reducible apply Blk.drew)); rfl)) hb21; obtain ⟨r26, z27, z27l⟩ := B25.facts) | (at_builtin; refine wpList_append_own _ rfl (.tmp 19) (.tmp 26) 39 rfl (wb.heap.size + 2) 35 i0 (.float .f64 0) 1 8 Try.underlying39 hi hz0 hz1 hz2 rfl (by decide) (.slice none 0 0) 0 [] rfl (World.ownsRow_nil _ _ _ _) ⟨wb.heap.size + 1, 0, none⟩ 2 2 [.float .f64 x, .float .f64 y] rfl rfl (cells_two _ _ _ _ ?c0) ?c1 ?c2 ?c3 ?c4 ?_; (case c0 => simp); (case c1 => simp [Value.oneCell']); (case c2 => unfold maxLen; omega); (case c3 => omega); (case c4 => (simp <;> omega)); intro v' w1 hown hgrow _; have hb1 := Bel.of_grown hgrow; obtain ⟨g, cap, hv, hg1, hg2, hg3, hg4⟩ := owned_two hown; rw [hv]; clear hv hown hgrow; have B28 : Blk w1 (w.heap.size + 1) #[.int .i64 0, .int .i64 0, .slice none 0 0, .slice none 0 0] 42 := Blk.bel (by (apply Blk.cast; (repeat (first | with_reducible assumption | with_reducible apply Blk.set | (with_reducible apply Blk.otherR; (simp <;> omega)) | with_reducible exact Blk.new _ _ _ | (with_reducible apply Blk.new'; (focus (simp; done))) | with_reducible apply Blk.alloc | with_reducible apply Blk.drew)); rfl)) hb1; obtain ⟨r29, z30, z30l⟩ := B28.facts; have B31 : Blk w1 (wa.heap.size) #[.int .i64 1, .int .i64 0, .slice none 0 0, .slice none 0 0] 42 := Blk.bel (by (apply Blk.cast; (repeat (first | with_reducible assumption | with_reducible apply Blk.set | (with_reducible apply Blk.otherR; (simp <;> omega)) | with_reducible exact Blk.new _ _ _ | (with_reducible apply Blk.new'; (focus (simp; done))) | with_reducible apply Blk.alloc | with_reducible apply Blk.drew)); rfl)) hb1; obtain ⟨r32, z33, z33l⟩ := B31.facts; have B34 : Blk w1 (wb.heap.size) #[.float .f64 x, .float .f64 y, .float .f64 z, .float .f64 m, .int .u8 0] 84 := Blk.bel (by (apply Blk.cast; (repeat (first | with_reducible assumption | with_reducible apply Blk.set | (with_reducible apply Blk.otherR; (simp <;> omega)) | with_reducible exact Blk.new _ _ _ | (with_reducible apply Blk.new'; (focus (simp; done))) | with_reducible apply Blk.alloc | with_reducible apply Blk.drew)); rfl)) hb1; obtain ⟨r35, z36, z36l⟩ := B34.facts) | (go_at_call 73; (with_reducible refine (f73_zero _).mono ?_); rintro e w' ⟨rfl, rfl⟩) | (go_at_call 74; (with_reducible refine (f74_zero _).mono ?_); rintro e w' ⟨rfl, rfl⟩))
  refine post_ret (results_one rfl (resIs_blk (n := 4) (T := 42) (by rfl) Try.underlying42 (by kernel_rfl) ?hB ?hs)) ⟨g, cap, rfl, ?hge, ?hlt, ?hx, ?hy, ?hbel⟩
  case hB => (apply Exists.intro; apply And.intro; (repeat (first | with_reducible assumption | with_reducible apply Blk.set | (with_reducible apply Blk.otherR; (simp <;> omega)) | with_reducible exact Blk.new _ _ _ | (with_reducible apply Blk.new'; (focus (simp; done))) | with_reducible apply Blk.alloc | with_reducible apply Blk.drew)); rfl)
  case hs => rfl
  case hge => (have := hb1.size; have := hb21.size; have := hb14.size; simp at *; omega)
  case hlt => (simp; omega)
  case hx => exact (by repeat (first | with_reducible assumption | (with_reducible apply cell_set_other; (focus (simp <;> omega)))))
  case hy => exact (by repeat (first | with_reducible assumption | (with_reducible apply cell_set_other; (focus (simp <;> omega)))))
  case hbel => exact by repeat (first | with_reducible assumption | with_reducible exact Bel.refl _ | with_reducible apply Bel.alloc | with_reducible apply Bel.drew | (with_reducible apply Bel.setCellR; (simp <;> omega)) | with_reducible refine Bel.behind (by with_reducible assumption) ?_)

set_option maxRecDepth 100000 in
set_option maxHeartbeats 1000000 in
theorem f21_any (x y : Nat) (w : World) : Calls Try.prog 21 #[.agg #[.float .f64 x, .float .f64 y]] w (IsPt w x y) := by
  go_enter Try.func21, Try.ntmps21
  go_wp2_with (first | (go_at_call 45; (with_reducible refine (f45_any _ _ _).mono ?_); rintro e wa ⟨rfl, hb37⟩; have B38 : Blk wa (w.heap.size + 1) #[.int .i64 0, .int .i64 0, .slice none 0 0, .slice none 0 0] 42 := Blk.bel (by (apply Blk.cast; (repeat (first | with_reducible assumption | with_reducible apply Blk.set | (with_reducible apply Blk.otherR; (simp <;> omega)) | with_reducible exact Blk.new _ _ _ | (with_reducible apply Blk.new'; (focus (simp; done))) | with_reducible apply Blk.alloc | with_reducible apply Blk.drew)); rfl)) hb37; obtain ⟨r39, z40, z40l⟩ := B38.facts) | (go_at_call 46; (with_reducible refine (f46_any _ _ _).mono ?_); rintro e wb ⟨rfl, hb41⟩; have B42 : Blk wb (w.heap.size + 1) #[.int .i64 0, .int .i64 0, .slice none 0 0, .slice none 0 0] 42 := Blk.bel (by (apply Blk.cast; (repeat (first | with_reducible assumption | with_reducible apply Blk.set | (with_reducible apply Blk.otherR; (simp <;> omega)) | with_reducible exact Blk.new _ _ _ | (with_reducible apply Blk.new'; (focus (simp; done))) | with_reducible apply Blk.alloc | with_reducible apply Blk.drew)); rfl)) hb41; obtain ⟨r43, z44, z44l⟩ := B42.facts) | (go_at_call 44; (with_reducible refine (f44_any _ _ _ _ _).mono ?_); rintro e w1 ⟨g, cap, rfl, hg1, hg2, hg3, hg4, hb1⟩; have B45 : Blk w1 (w.heap.size + 1) #[.int .i64 0, .int .i64 0, .slice none 0 0, .slice none 0 0] 42 := Blk.bel (by (apply Blk.cast; (repeat (first | with_reducible assumption | with_reducible apply Blk.set | (with_reducible apply Blk.otherR; (simp <;> omega)) | with_reducible exact Blk.new _ _ _ | (with_reducible apply Blk.new'; (focus (simp; done))) | with_reducible apply Blk.alloc | with_reducible apply Blk.drew)); rfl)) hb1; obtain ⟨r46, z47, z47l⟩ := B45.facts))
  refine post_ret (results_one rfl (resIs_blk (n := 4) (T := 42) (by rfl) Try.underlying42 (by kernel_rfl) ?hB ?hs)) ⟨g, cap, rfl, ?hge, ?hlt, ?hx, ?hy, ?hbel⟩
  case hB => (apply Exists.intro; apply And.intro; (repeat (first | with_reducible assumption | with_reducible apply Blk.set | (with_reducible apply Blk.otherR; (simp <;> omega)) | with_reducible exact Blk.new _ _ _ | (with_reducible apply Blk.new'; (focus (simp; done))) | with_reducible apply Blk.alloc | with_reducible apply Blk.drew)); rfl)
  case hs => rfl
  case hge => (have hz := hb1.size; simp at *; omega)
  case hlt => (simp; omega)
  case hx => exact (by repeat (first | with_reducible assumption | (with_reducible apply cell_set_other; (focus (simp <;> omega)))))
  case hy => exact (by repeat (first | with_reducible assumption | (with_reducible apply cell_set_other; (focus (simp <;> omega)))))
  case hbel => exact by repeat (first | with_reducible assumption | with_reducible exact Bel.refl _ | with_reducible apply Bel.alloc | with_reducible apply Bel.drew | (with_reducible apply Bel.setCellR; (simp <;> omega)) | with_reducible refine Bel.behind (by with_reducible assumption) ?_)

set_option maxRecDepth 100000 in
set_option maxHeartbeats 1000000 in
theorem f20_true (k d : Int) (va vb : Value) (xs : List Nat) (p q : Option Addr) (c1 c2 n1 n2 : Nat) (ha : Hid (va = .slice p n1 c1)) (hb : Hid (vb = .slice q n2 c2)) (w : World) (hfa : FSl w va xs) (hfb : FSl w vb xs) :
    Calls Try.prog 20 #[.agg #[.int .i64 k, .int .i64 d, va, .slice none 0 0], .agg #[.int .i64 k, .int .i64 d, vb, .slice none 0 0]] w fun e w' => e = .returned (.bool true) ∧ Bel w w' := by
  have HA := Lib.hid hfa
  have HB := Lib.hid hfb
  clear hfa hfb
  have ea := ha.out
  have eb := hb.out
  subst ea eb
  go_enter Try.func20, Try.ntmps20
  go_wp2_with (first | (go_at_call 42; refine (f42_any xs xs _ _ _ (HA.out.bel ?h1) (HB.out.bel ?h2)).mono ?_; (case h1 => exact by repeat (first | with_reducible assumption | with_reducible exact Bel.refl _ | with_reducible apply Bel.alloc | with_reducible apply Bel.drew | (with_reducible apply Bel.setCellR; (simp <;> omega)) | with_reducible refine Bel.behind (by with_reducible assumption) ?_)); (case h2 => exact by repeat (first | with_reducible assumption | with_reducible exact Bel.refl _ | with_reducible apply Bel.alloc | with_reducible apply Bel.drew | (with_reducible apply Bel.setCellR; (simp <;> omega)) | with_reducible refine Bel.behind (by with_reducible assumption) ?_)); rw [decide_eq_true rfl]; rintro e w1 ⟨rfl, hb1⟩; have B48 : Blk w1 (w.heap.size) #[.int .i64 k, .int .i64 d, .slice p n1 c1, .slice none 0 0] 42 := Blk.bel (by (apply Blk.cast; (repeat (first | with_reducible assumption | with_reducible apply Blk.set | (with_reducible apply Blk.otherR; (simp <;> omega)) | with_reducible exact Blk.new _ _ _ | (with_reducible apply Blk.new'; (focus (simp; done))) | with_reducible apply Blk.alloc | with_reducible apply Blk.drew)); rfl)) hb1; obtain ⟨r49, z50, z50l⟩ := B48.facts; have B51 : Blk w1 (w.heap.size + 1) #[.int .i64 k, .int .i64 d, .slice q n2 c2, .slice none 0 0] 42 := Blk.bel (by (apply Blk.cast; (repeat (first | with_reducible assumption | with_reducible apply Blk.set | (with_reducible apply Blk.otherR; (simp <;> omega)) | with_reducible exact Blk.new _ _ _ | (with_reducible apply Blk.new'; (focus (simp; done))) | with_reducible apply Blk.alloc | with_reducible apply Blk.drew)); rfl)) hb1; obtain ⟨r52, z53, z53l⟩ := B51.facts) | (go_at_call 43; (with_reducible refine (f43_none _ _ _ _ _).mono ?_); rintro e w54 ⟨rfl, hb55⟩))
  go_ret
  exact ⟨rfl, by repeat (first | with_reducible assumption | with_reducible exact Bel.refl _ | with_reducible apply Bel.alloc | with_reducible apply Bel.drew | (with_reducible apply Bel.setCellR; (simp <;> omega)) | with_reducible refine Bel.behind (by with_reducible assumption) ?_)⟩
end Go.Proofs.Ytdebkmioaglmaaa
