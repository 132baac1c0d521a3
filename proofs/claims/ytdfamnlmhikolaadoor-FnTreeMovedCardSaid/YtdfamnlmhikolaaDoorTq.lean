/-
  quickPartition: its three closures, and what it makes of a row of items. No panic; nothing but the row has turned.
-/
import Derived.Test.YtdfamnlmhikolaaDoorTw
import Derived.BigRegion
set_option linter.unusedVariables false
namespace Go.Proofs.YtdfamnlmhikolaaDoor
open Go.ChangeShapes Go.WideShapes Go.ChangeAt Go.RowKit
/-- The cells of a row of items. -/
def ItCells (cs : Array Value) (L : List It) : Prop := cs.size = L.length * 5 ∧ ∀ (i : Nat) (t : It), L[i]? = some t → ∃ a b c d, cs[i * 5]? = some (.float .f64 a) ∧ cs[i * 5 + 1]? = some (.float .f64 b) ∧ cs[i * 5 + 2]? = some (.float .f64 c) ∧ cs[i * 5 + 3]? = some (.float .f64 d) ∧ cs[i * 5 + 4]? = some (.int .i64 t.id) ∧ BxB a b c d t.b
def ItBlk (w : World) (g : Nat) (L : List It) : Prop := ∃ cs, Blk w g cs 54 ∧ ItCells cs L
theorem ItBlk.lt {w : World} {g : Nat} {L : List It} (h : ItBlk w g L) : g < w.heap.size := by
  obtain ⟨cs, h, _⟩ := h
  exact h.lt
theorem ItBlk.frozen {w : World} {g : Nat} {L : List It} (h : ItBlk w g L) : ∀ o, w.frozen? ⟨g, o, none⟩ = false := by
  obtain ⟨cs, h, _⟩ := h
  exact h.rules.2
theorem ItBlk.at {w : World} {g : Nat} {L : List It} (h : ItBlk w g L) {lo i : Nat} {t : It} (ht : L[lo + i]? = some t) : ∃ a b c d, w.cell? ⟨g, lo * 5 + i * 5, none⟩ = some (.float .f64 a) ∧ w.cell? ⟨g, lo * 5 + i * 5 + 1, none⟩ = some (.float .f64 b) ∧ w.cell? ⟨g, lo * 5 + i * 5 + 2, none⟩ = some (.float .f64 c) ∧ w.cell? ⟨g, lo * 5 + i * 5 + 3, none⟩ = some (.float .f64 d) ∧ w.cell? ⟨g, lo * 5 + i * 5 + 4, none⟩ = some (.int .i64 t.id) ∧ BxB a b c d t.b := by
  obtain ⟨cs, hb, _, h⟩ := h
  obtain ⟨a, b, c, d, h0, h1, h2, h3, h4, hq⟩ := h _ _ ht
  have e : lo * 5 + i * 5 = (lo + i) * 5 := by omega
  rw [e]
  exact ⟨a, b, c, d, (hb.rules.1 _).trans h0, (hb.rules.1 _).trans h1, (hb.rules.1 _).trans h2, (hb.rules.1 _).trans h3, (hb.rules.1 _).trans h4, hq⟩

theorem ItCells.put5 {cs : Array Value} {L : List It} (h : ItCells cs L) (i : Nat) {a b c d : Nat} {t : It} (hq : BxB a b c d t.b) :
    ItCells (((((cs.setIfInBounds (i * 5) (.float .f64 a)).setIfInBounds (i * 5 + 1) (.float .f64 b)).setIfInBounds (i * 5 + 2) (.float .f64 c)).setIfInBounds (i * 5 + 3) (.float .f64 d)).setIfInBounds (i * 5 + 4) (.int .i64 t.id)) (L.set i t) := by
  obtain ⟨hs, h⟩ := h
  refine ⟨by simpa using hs, fun k s hk => ?_⟩
  rw [List.getElem?_set] at hk
  split at hk
  · rename_i e
    subst e
    split at hk
    · rename_i hl
      obtain rfl := Option.some.inj hk
      refine ⟨a, b, c, d, ?_, ?_, ?_, ?_, ?_, hq⟩ <;> simp (disch := (first | omega | (simp only [Array.size_setIfInBounds]; omega))) only [Array.getElem?_setIfInBounds_ne, Array.getElem?_setIfInBounds_self_of_lt]
    · cases hk
  · rename_i e
    obtain ⟨a', b', c', d', k0, k1, k2, k3, k4, kq⟩ := h k s hk
    refine ⟨a', b', c', d', ?_, ?_, ?_, ?_, ?_, kq⟩ <;> (simp (disch := omega) only [Array.getElem?_setIfInBounds_ne]) <;> assumption
theorem ItBlk.put5 {w : World} {g : Nat} {L : List It} (h : ItBlk w g L) (i : Nat) {a b c d : Nat} {t : It} (hq : BxB a b c d t.b) :
    ItBlk (((((w.setCell ⟨g, i * 5, none⟩ (.float .f64 a)).setCell ⟨g, i * 5 + 1, none⟩ (.float .f64 b)).setCell ⟨g, i * 5 + 2, none⟩ (.float .f64 c)).setCell ⟨g, i * 5 + 3, none⟩ (.float .f64 d)).setCell ⟨g, i * 5 + 4, none⟩ (.int .i64 t.id)) g (L.set i t) := by
  obtain ⟨cs, hb, hc⟩ := h
  exact ⟨_, ((((hb.set _ _).set _ _).set _ _).set _ _).set _ _, hc.put5 i hq⟩
theorem _root_.Go.World.grownBy.of_bel {a b : World} (h : Bel a b) (r : Option Nat) : a.grownBy b r := ⟨h.os, h.tape, h.output, h.size, fun i hi _ => h.block i hi⟩
theorem ItBlk.bel {w w' : World} {g : Nat} {L : List It} (h : ItBlk w g L) (hb : Bel w w') : ItBlk w' g L := by
  obtain ⟨cs, hc, k⟩ := h
  exact ⟨cs, hc.bel hb, k⟩
theorem ItBlk.kept {w w' : World} {g : Nat} {L : List It} {r : Option Nat} (h : ItBlk w g L) (hb : w.grownBy w' r) (hne : some g ≠ r) : ItBlk w' g L := by
  obtain ⟨cs, hc, k⟩ := h
  exact ⟨cs, grownBy_blk hb hc hne, k⟩
theorem grownBy_drew {a b : World} {r : Option Nat} (h : a.grownBy b r) : a.grownBy b.drew r := ⟨h.os, h.tape, h.output, h.size, h.block⟩
theorem grownBy_put {w a : World} {g : Nat} (h : w.grownBy a (some g)) (o : Nat) (v : Value) : w.grownBy (a.setCell ⟨g, o, none⟩ v) (some g) := h.trans (grownBy_set a g o v)
theorem ItBlk.drew {w : World} {g : Nat} {L : List It} (h : ItBlk w g L) : ItBlk w.drew g L := h
theorem u32_wrap (n : Int) (h : 0 ≤ n) : IntKind.u32.wrap n = n % 4294967296 := by
  unfold IntKind.wrap
  simp [IntKind.bits, IntKind.signed]
theorem rnd_any (n s b : Nat) (hn : n ≤ 100000) (hs : s < 4294967296) (w : World) (hB : Blk w b #[.int .u32 s] 124) :
    Calls Tryd.prog 45 #[.int .i64 n, .pointer (some ⟨b, 0, none⟩)] w fun e w' => e = .returned (.int .i64 (pick (nextRnd s) n : Nat)) ∧ w' = w.setCell ⟨b, 0, none⟩ (.int .u32 (nextRnd s : Nat)) := by
  obtain ⟨r, z, l⟩ := hB.facts
  go_enter Tryd.func45, Tryd.ntmps45
  go_wp2
  have e1 : ((1664525 * (s : Int) + 1013904223) % 4294967296) = ((nextRnd s : Nat) : Int) := by
    unfold nextRnd
    omega
  rw [e1]
  have hr : nextRnd s < 4294967296 := Nat.mod_lt _ (by decide)
  generalize nextRnd s = r at *
  have hb := Nat.mul_le_mul (Nat.le_of_lt hr) hn
  have e2 : (r : Int) * (n : Int) = ((r * n : Nat) : Int) := (Int.natCast_mul _ _).symm
  have e3 : IntKind.u64.wrap ((r : Int) * (n : Int)) = ((r * n : Nat) : Int) := by
    rw [e2]
    exact IntWalk.u64_in _ (by omega)
  have e4 : wrap64 (IntKind.u64.wrap ((r : Int) * (n : Int)) / 4294967296) = ((pick r n : Nat) : Int) := by
    rw [e3]
    unfold pick
    have : ((r * n : Nat) : Int) / 4294967296 = ((r * n / 4294967296 : Nat) : Int) := by omega
    rw [this]
    exact IntWalk.wrap64_in _ (by omega)
  rw [e4]
  go_ret
  exact ⟨rfl, rfl⟩
theorem less_any (g lo n cap i j b1 b2 : Nat) (h : Bool) (L : List It) (ti tj : It) (hm : ∀ t ∈ L, t.b.Small 1048576) (h1 : L[lo + i]? = some ti) (h2 : L[lo + j]? = some tj) (hi : i < n) (hj : j < n) (hn : n ≤ 100000) (w : World)
    (hB1 : Blk w b1 #[.slice (some ⟨g, lo * 5, none⟩) n cap] 50) (hB2 : Blk w b2 #[.bool h] 4) (hL : ItBlk w g L) :
    Calls Tryd.prog 46 #[.int .i64 i, .int .i64 j, .pointer (some ⟨b1, 0, none⟩), .pointer (some ⟨b2, 0, none⟩)] w fun e w' => e = .returned (.bool (itLt h ti tj)) ∧ Bel w w' := by
  obtain ⟨r1, z1, l1⟩ := hB1.facts
  obtain ⟨r2, z2, l2⟩ := hB2.facts
  obtain ⟨a, b, c, d, c0, c1, c2, c3, _, q1⟩ := hL.at h1
  obtain ⟨x, y, z, u, d0, d1, d2, d3, _, q2⟩ := hL.at h2
  have hg := hL.lt
  have m1 := hm _ (List.mem_of_getElem? h1)
  have m2 := hm _ (List.mem_of_getElem? h2)
  unfold Bx.Small at m1 m2
  clear hm h1 h2 hL hB1 hB2
  cases h
  · obtain ⟨e1, i1⟩ := q1.y0.fadd q1.y1 (by omega)
    obtain ⟨e2, i2⟩ := q2.y0.fadd q2.y1 (by omega)
    have f1 := ra .add b d _ e1
    have f2 := ra .add y u _ e2
    have hR := i1.ltB i2
    unfold itLt ltB at *
    clear m1 m2 q1 q2 e1 e2 i1 i2
    have HR := Lib.hid hR
    clear hR
    go_enter Tryd.func46, Tryd.ntmps46
    go_wp2
    go_ret
    exact ⟨congrArg (fun b => Ending.returned (.bool b)) HR.out, by (repeat (first | with_reducible assumption | with_reducible exact Bel.refl _ | with_reducible apply Bel.alloc | with_reducible apply Bel.drew | with_reducible apply Bel.drewN | ((with_reducible apply Bel.setCellR); (simp <;> omega)) | with_reducible refine Bel.behind (by with_reducible assumption) ?_))⟩
  · obtain ⟨e1, i1⟩ := q1.x0.fadd q1.x1 (by omega)
    obtain ⟨e2, i2⟩ := q2.x0.fadd q2.x1 (by omega)
    have f1 := ra .add a c _ e1
    have f2 := ra .add x z _ e2
    have hR := i1.ltB i2
    unfold itLt ltB at *
    clear m1 m2 q1 q2 e1 e2 i1 i2
    have HR := Lib.hid hR
    clear hR
    go_enter Tryd.func46, Tryd.ntmps46
    go_wp2
    go_ret
    exact ⟨congrArg (fun b => Ending.returned (.bool b)) HR.out, by (repeat (first | with_reducible assumption | with_reducible exact Bel.refl _ | with_reducible apply Bel.alloc | with_reducible apply Bel.drew | with_reducible apply Bel.drewN | ((with_reducible apply Bel.setCellR); (simp <;> omega)) | with_reducible refine Bel.behind (by with_reducible assumption) ?_))⟩
set_option maxHeartbeats 2000000 in
theorem swap_any (g lo n cap i j b1 : Nat) (L : List It) (ti tj : It) (h1 : L[lo + i]? = some ti) (h2 : L[lo + j]? = some tj) (hi : i < n) (hj : j < n) (hn : n ≤ 100000) (w : World)
    (hB1 : Blk w b1 #[.slice (some ⟨g, lo * 5, none⟩) n cap] 50) (hL : ItBlk w g L) (hne : b1 ≠ g) :
    Calls Tryd.prog 47 #[.int .i64 i, .int .i64 j, .pointer (some ⟨b1, 0, none⟩)] w fun e w' => e = .returned (.tuple #[]) ∧ w.grownBy w' (some g) ∧ ItBlk w' g (swapAt L (lo + i) (lo + j)) := by
  obtain ⟨r1, z1, l1⟩ := hB1.facts
  obtain ⟨a, b, c, d, c0, c1, c2, c3, c4, q1⟩ := hL.at h1
  have hg := hL.lt
  have hz := hL.frozen
  have HL := Lib.hid hL
  have HB := Lib.hid hB1
  have Q1 := Lib.hid q1
  have H1 := Lib.hid h1
  have b1 : (i : Int) < (n : Int) := by omega
  by_cases hij : i = j
  · subst hij
    obtain rfl : ti = tj := Option.some.inj (h1.symm.trans h2)
    clear hL hB1 q1 h1 h2
    go_enter Tryd.func47, Tryd.ntmps47
    go_region
    go_end0
    refine ⟨rfl, ?_, ?_⟩
    · with_reducible refine grownBy_drew ?_
      iterate 10 with_reducible refine grownBy_put ?_ _ _
      exact World.grownBy.refl _ _
    · rw [swapAt_some H1.out H1.out]
      have e1 : lo * 5 + i * 5 = (lo + i) * 5 := by omega
      rw [e1]
      with_reducible refine ItBlk.drew ?_
      exact (HL.out.put5 (lo + i) Q1.out).put5 (lo + i) Q1.out
  · obtain ⟨x, y, z, u, d0, d1, d2, d3, d4, q2⟩ := hL.at h2
    have Q2 := Lib.hid q2
    have H2 := Lib.hid h2
    have hij' : ¬ j = i := fun h => hij h.symm
    have b2 : (j : Int) < (n : Int) := by omega
    clear hL hB1 q1 q2 h1 h2
    go_enter Tryd.func47, Tryd.ntmps47
    go_region
    go_end0
    refine ⟨rfl, ?_, ?_⟩
    · with_reducible refine grownBy_drew ?_
      iterate 10 with_reducible refine grownBy_put ?_ _ _
      exact World.grownBy.refl _ _
    · rw [swapAt_some H1.out H2.out]
      have e1 : lo * 5 + i * 5 = (lo + i) * 5 := by omega
      have e2 : lo * 5 + j * 5 = (lo + j) * 5 := by omega
      rw [e1, e2]
      with_reducible refine ItBlk.drew ?_
      exact (HL.out.put5 (lo + i) Q2.out).put5 (lo + j) Q1.out
theorem mid_get {α : Type} (A l C : List α) {i : Nat} (hi : i < l.length) : (A ++ l ++ C)[A.length + i]? = l[i]? := by
  rw [List.append_assoc, List.getElem?_append_right (by omega), List.getElem?_append_left (by omega)]
  congr 1
  omega
theorem mid_set {α : Type} (A l C : List α) {i : Nat} (hi : i < l.length) (x : α) : (A ++ l ++ C).set (A.length + i) x = A ++ l.set i x ++ C := by
  rw [List.append_assoc, List.append_assoc, List.set_append_right _ _ (by omega), List.set_append_left _ _ (by omega)]
  congr 3
  omega
theorem mid_swap {α : Type} (A l C : List α) {i j : Nat} (hi : i < l.length) (hj : j < l.length) : swapAt (A ++ l ++ C) (A.length + i) (A.length + j) = A ++ swapAt l i j ++ C := by
  have e1 : l[i]? = some l[i] := List.getElem?_eq_getElem hi
  have e2 : l[j]? = some l[j] := List.getElem?_eq_getElem hj
  rw [swapAt_some ((mid_get A l C hi).trans e1) ((mid_get A l C hj).trans e2), swapAt_some e1 e2, mid_set _ _ _ hi, mid_set _ _ _ (by simpa using hj)]

end Go.Proofs.YtdfamnlmhikolaaDoor
