/-
  Nodes of the tree in memory; calculateBound, itemsAreHorizontal, splitBulkItems2Ways. No panic; nothing but the row of items has turned.
-/
import Derived.Test.YtdfamnlmhikolaaDoorTq
namespace Go.Proofs.YtdfamnlmhikolaaDoor
open Go.ChangeShapes Go.WideShapes Go.ChangeAt Go.RowKit
/-- An entry of a node: entry j of the node in block k. -/
def EntAt (w : World) (k j : Nat) (b : Bx) (kid : Option Nat) (id : Int) : Prop :=
  ∃ x y z u, w.cell? ⟨k, j * 6, none⟩ = some (.float .f64 x) ∧ w.cell? ⟨k, j * 6 + 1, none⟩ = some (.float .f64 y) ∧ w.cell? ⟨k, j * 6 + 2, none⟩ = some (.float .f64 z) ∧ w.cell? ⟨k, j * 6 + 3, none⟩ = some (.float .f64 u) ∧
    w.cell? ⟨k, j * 6 + 4, none⟩ = some (.pointer (kid.map fun c => ⟨c, 0, none⟩)) ∧ w.cell? ⟨k, j * 6 + 5, none⟩ = some (.int .i64 id) ∧ BxB x y z u b
/-- The entries of a tree's node from entry j on lie in block k; the nodes below lie where their pointers say, in blocks from B on. -/
def NodeAt (B : Nat) (w : World) : Tr → Nat → Nat → Prop
  | .nil, _, _ => True
  | .item b id r, k, j => EntAt w k j b none id ∧ NodeAt B w r k (j + 1)
  | .sub b kid r, k, j => (∃ c, B ≤ c ∧ EntAt w k j b (some c) 0 ∧ w.cell? ⟨c, 24, none⟩ = some (.int .i64 kid.len) ∧ kid.len ≤ 4 ∧ 0 < kid.len ∧ NodeAt B w kid c 0) ∧ NodeAt B w r k (j + 1)
structure IsNode (B : Nat) (w : World) (t : Tr) (k : Nat) : Prop where
  num : w.cell? ⟨k, 24, none⟩ = some (.int .i64 t.len)
  le : t.len ≤ 4
  pos : 0 < t.len
  at_ : B ≤ k
  ents : NodeAt B w t k 0
/-- The blocks from B on are as they were. -/
def Abv (B : Nat) (w w' : World) : Prop := ∀ b, B ≤ b → b < w.heap.size → w'.heap[b]? = w.heap[b]?
theorem Abv.bel {B : Nat} {w w' : World} (h : Bel w w') : Abv B w w' := fun b _ hl => h.block b hl
theorem Abv.grown {B g : Nat} {w w' : World} (h : w.grownBy w' (some g)) (hg : g < B) : Abv B w w' := fun b hb hl => h.block b hl (by simp; omega)
theorem Abv.set {B : Nat} {w : World} {a : Addr} (v : Value) (hg : a.block < B) : Abv B w (w.setCell a v) := fun b hb hl => Below.heap_setCell w a v b (by omega)
theorem Abv.cell {B : Nat} {w w' : World} (h : Abv B w w') {p : Addr} {v : Value} (hp : B ≤ p.block) (hc : w.cell? p = some v) : w'.cell? p = some v :=
  (World.cell?_of_block (h p.block hp (World.block_lt_of_cell? w p hc))).trans hc
theorem EntAt.abv {B : Nat} {w w' : World} (hb : Abv B w w') {k j : Nat} (hk : B ≤ k) {b : Bx} {kid : Option Nat} {id : Int} (h : EntAt w k j b kid id) : EntAt w' k j b kid id := by
  obtain ⟨x, y, z, u, h0, h1, h2, h3, h4, h5, hq⟩ := h
  exact ⟨x, y, z, u, hb.cell hk h0, hb.cell hk h1, hb.cell hk h2, hb.cell hk h3, hb.cell hk h4, hb.cell hk h5, hq⟩
theorem NodeAt.abv {B : Nat} {w w' : World} (hb : Abv B w w') : ∀ {t : Tr} {k j : Nat}, B ≤ k → NodeAt B w t k j → NodeAt B w' t k j
  | .nil, _, _, _, _ => trivial
  | .item _ _ _, _, _, hk, h => ⟨h.1.abv hb hk, NodeAt.abv hb hk h.2⟩
  | .sub _ _ _, _, _, hk, h => by
    obtain ⟨⟨c, h0, h1, h2, h3, h6, h4⟩, h5⟩ := h
    exact ⟨⟨c, h0, h1.abv hb hk, hb.cell h0 h2, h3, h6, NodeAt.abv hb h0 h4⟩, NodeAt.abv hb hk h5⟩
theorem IsNode.abv {B : Nat} {w w' : World} (hb : Abv B w w') {t : Tr} {k : Nat} (h : IsNode B w t k) : IsNode B w' t k := ⟨hb.cell h.at_ h.num, h.le, h.pos, h.at_, h.ents.abv hb h.at_⟩
theorem NodeAt.mono {B B' : Nat} {w : World} (hb : B' ≤ B) : ∀ {t : Tr} {k j : Nat}, NodeAt B w t k j → NodeAt B' w t k j
  | .nil, _, _, _ => trivial
  | .item _ _ _, _, _, h => ⟨h.1, NodeAt.mono hb h.2⟩
  | .sub _ _ _, _, _, h => by
    obtain ⟨⟨c, h0, h1, h2, h3, h6, h4⟩, h5⟩ := h
    exact ⟨⟨c, by omega, h1, h2, h3, h6, NodeAt.mono hb h4⟩, NodeAt.mono hb h5⟩
theorem IsNode.mono {B B' : Nat} {w : World} (hb : B' ≤ B) {t : Tr} {k : Nat} (h : IsNode B w t k) : IsNode B' w t k := ⟨h.num, h.le, h.pos, Nat.le_trans hb h.at_, h.ents.mono hb⟩
theorem IsNode.bel {B : Nat} {w w' : World} (hb : Bel w w') {t : Tr} {k : Nat} (h : IsNode B w t k) : IsNode B w' t k := h.abv (Abv.bel hb)
theorem cell_kept {w w' : World} (hb : Bel w w') {p : Addr} {v : Value} (h : w.cell? p = some v) : w'.cell? p = some v := by
  exact (hb.cell (World.block_lt_of_cell? w p h)).trans h
/-- A cell that is there stays there, where its block is not one that was written. -/
theorem cell_grown {w w' : World} {r : Option Nat} (hb : w.grownBy w' r) {p : Addr} {v : Value} (h : w.cell? p = some v) (hne : some p.block ≠ r) : w'.cell? p = some v := hb.cell h hne

theorem keepN {v w' : World} {b k i : Nat} {E : Array Value} {s : TypeId} {p q r u : Value} (h0 : Blk v b E s) (h1 : v.cell? ⟨k, i, none⟩ = some p) (h2 : v.cell? ⟨k, i + 1, none⟩ = some q) (h3 : v.cell? ⟨k, i + 2, none⟩ = some r) (h4 : v.cell? ⟨k, i + 3, none⟩ = some u) (hv : Bel v w') :
    (∀ o, w'.cell? ⟨b, o, none⟩ = E[o]?) ∧ w'.cell? ⟨k, i, none⟩ = some p ∧ w'.cell? ⟨k, i + 1, none⟩ = some q ∧ w'.cell? ⟨k, i + 2, none⟩ = some r ∧ w'.cell? ⟨k, i + 3, none⟩ = some u ∧ Blk w' b E s ∧ Bel v w' :=
  ⟨(h0.bel hv).rules.1, cell_kept hv h1, cell_kept hv h2, cell_kept hv h3, cell_kept hv h4, h0.bel hv, hv⟩
/-- What comes back is a box. -/
def IsBx (q : Bx) (w : World) (e : Ending) (w' : World) : Prop := ∃ x y z u, e = .returned (.agg #[.float .f64 x, .float .f64 y, .float .f64 z, .float .f64 u]) ∧ BxB x y z u q ∧ Bel w w'

def kidOf : Tr → Option Tr
  | .sub _ k _ => some k
  | _ => none
/-- The first of the entries that are left. -/
theorem NodeAt.first {B : Nat} {w : World} {t : Tr} {k j : Nat} (h : NodeAt B w t k j) (hn : 0 < t.len) : ∃ b r, r.len + 1 = t.len ∧ NodeAt B w r k (j + 1) ∧ (∃ kid id, EntAt w k j b kid id) ∧ (∀ a, boundOn a t = boundOn (a.join b) r) ∧ (t.bound = boundOn b r) := by
  cases t with
  | nil => simp [Tr.len] at hn
  | item b i r => exact ⟨b, r, rfl, h.2, ⟨_, _, h.1⟩, fun _ => rfl, rfl⟩
  | sub b kid r =>
    obtain ⟨⟨c, _, h1, _⟩, h2⟩ := h
    exact ⟨b, r, rfl, h2, ⟨_, _, h1⟩, fun _ => rfl, rfl⟩

set_option maxHeartbeats 1000000 in
set_option maxRecDepth 100000 in
theorem bound_any (B : Nat) (t : Tr) (k : Nat) (w : World) (h : IsNode B w t k) : Calls Tryd.prog 33 #[.pointer (some ⟨k, 0, none⟩)] w (IsBx t.bound w) := by
  obtain ⟨hnum, hle, hn, _, hents⟩ := h
  have hk := World.block_lt_of_cell? w _ hnum
  simp only at hk
  obtain ⟨b, r, hr, hrest, ⟨kid, id, x, y, z, u, c0, c1, c2, c3, _, _, hq⟩, _, hb⟩ := hents.first hn
  simp only [Nat.zero_mul, Nat.zero_add] at c0 c1 c2 c3
  rw [hb]
  have HREST := Lib.hid hrest
  have HQ := Lib.hid hq
  have hR := hr
  generalize hT : t.len = n at *
  clear hT hents hrest hq hb hr
  go_enter Tryd.func33, Tryd.ntmps33
  go_wp2
  go_loopw [4] (fun iv wr => ∃ (i : Nat) (r' : Tr) (b' : Bx) (x y z u : Nat), iv = .int .i64 i ∧ r'.len + i = n ∧ 0 < i ∧ NodeAt B w r' k i ∧ boundOn b' r' = boundOn b r ∧ BxB x y z u b' ∧ Bel w wr ∧ Blk wr (w.heap.size + 1) #[.float .f64 x, .float .f64 y, .float .f64 z, .float .f64 u] 51 ∧ Blk wr w.heap.size #[.float .f64 0, .float .f64 0, .float .f64 0, .float .f64 0] 51) (fun iv _ => n - (intOf iv).toNat)
  case atStart => 
    refine ⟨1, r, b, x, y, z, u, rfl, by omega, by omega, HREST.out, rfl, HQ.out, by (repeat (first | with_reducible assumption | with_reducible exact Bel.refl _ | with_reducible apply Bel.alloc | with_reducible apply Bel.drew | with_reducible apply Bel.drewN | ((with_reducible apply Bel.setCellR); (simp <;> omega)) | with_reducible refine Bel.behind (by with_reducible assumption) ?_)), ?_, ?_⟩
    · exact Blk.new' _ _ _ (by simp)
    · exact (Blk.new w _ _).alloc _
  case round =>
    obtain ⟨i, r', b', x', y', z', u', rfl, hi, hi0, hN, hB, hQ', hbel, hb1, hb0⟩ := hrel
    have HB := Lib.hid hB
    have HN := Lib.hid hN
    have HQ2 := Lib.hid hQ'
    have HBEL := Lib.hid hbel
    have B1 := Lib.hid hb1
    have B0 := Lib.hid hb0
    have hnum' := cell_kept hbel hnum
    obtain ⟨r1, z1, l1⟩ := hb1.facts
    clear hb1 hb0 hB hQ' hbel HQ
    by_cases hin : i < n
    · obtain ⟨b2, r2, hr2, hN2, ⟨kid, id, p, q, s, v, d0, d1, d2, d3, _, _, hq2⟩, hB2, _⟩ := hN.first (by omega)
      have D0 := cell_kept HBEL.out d0
      have D1 := cell_kept HBEL.out d1
      have D2 := cell_kept HBEL.out d2
      have D3 := cell_kept HBEL.out d3
      have Q2 := Lib.hid hq2
      have HN2 := Lib.hid hN2
      have HB2 := Lib.hid (hB2 b')
      clear d0 d1 d2 d3 hq2 hN2 hN hB2
      have hk2 : k < wr.heap.size := Nat.lt_of_lt_of_le hk HBEL.out.size
      go_wp2
      have hi4 : (i : Int) < 4 := by omega
      go_region_with (first
          | (go_at_call 40; (with_reducible refine (combine_any _ _ _ _ _ _ _ _ _).mono ?_); rintro e w6 ⟨rfl, hb6⟩; have HB6 : Hid (Bel wr w6) := Lib.hid (by (repeat (first | with_reducible assumption | with_reducible exact Bel.refl _ | with_reducible apply Bel.alloc | with_reducible apply Bel.drew | with_reducible apply Bel.drewN | ((with_reducible apply Bel.setCellR); (simp <;> omega)) | with_reducible refine Bel.behind (by with_reducible assumption) ?_))); have B6 := B1.out.bel HB6.out; obtain ⟨s6, t6, m6⟩ := B6.facts))
      all_goals
        go_wp2
        go_roundw
        case rel => exact ⟨i + 1, r2, b'.join b2, _, _, _, _, by go_num, by omega, by omega, HN2.out, HB2.out.symm.trans HB.out, HQ2.out.join Q2.out, (((((HBEL.out.trans HB6.out).setCell (by simp) _).setCell (by simp) _).setCell (by simp) _).setCell (by simp) _), (((B6.set 0 _).set 1 _).set 2 _).set 3 _, ((((B0.out.bel HB6.out).other (by simp) _).other (by simp) _).other (by simp) _).other (by simp) _⟩
        case measure => simp [intOf]; omega
    · have hie : i = n := by omega
      subst hie
      have hr0 : r' = .nil := by
        cases r' with
        | nil => rfl
        | item _ _ _ => simp [Tr.len] at hi
        | sub _ _ _ => simp [Tr.len] at hi
      subst hr0
      obtain ⟨r0, z0, l0⟩ := B0.out.facts
      go_wp2
      refine post_ret (results_one rfl (resIs_agg (n := 4) (cs := #[.float .f64 x', .float .f64 y', .float .f64 z', .float .f64 u']) (by rfl) Tryd.underlying51 (by kernel_rfl) (T := 51) ?_ rfl)) ⟨_, _, _, _, rfl, ?_, ?_⟩
      · exact (((B0.out.set 0 _).set 1 _).set 2 _).set 3 _
      · have := HB.out
        simp only [boundOn] at this
        rw [← this]
        exact HQ2.out
      · exact (((HBEL.out.setCell (by simp) _).setCell (by simp) _).setCell (by simp) _).setCell (by simp) _

/-! ### The row's shape -/
theorem Bx.Small.mono {m m' : Int} {b : Bx} (h : b.Small m) (hm : m ≤ m') : b.Small m' := by
  unfold Bx.Small at *
  omega
theorem aroundOn_snoc (b : Bx) (r : List It) (k : Nat) (t : It) (h : r[k]? = some t) : aroundOn b (r.take (k + 1)) = (aroundOn b (r.take k)).join t.b := by
  unfold aroundOn
  obtain ⟨hk, he⟩ := List.getElem?_eq_some_iff.1 h
  rw [List.take_succ_eq_append_getElem hk, List.foldl_append, he]
  rfl
theorem aroundOn_small {m : Int} : ∀ (r : List It) (b : Bx), b.Small m → (∀ t ∈ r, t.b.Small m) → (aroundOn b r).Small m
  | [], _, h, _ => h
  | t :: r, b, h, k => aroundOn_small r (b.join t.b) (h.join (k t (by simp))) (fun s hs => k s (by simp [hs]))

set_option maxHeartbeats 1000000 in
set_option maxRecDepth 100000 in
theorem horiz_any (g lo n cap : Nat) (A l C : List It) (hA : A.length = lo) (hl : l.length = n) (hpos : 2 ≤ n) (hn : n ≤ 100000) (hcap : n ≤ cap) (hm : ∀ t ∈ A ++ l ++ C, t.b.Small 1048576) (w : World) (hL : ItBlk w g (A ++ l ++ C)) :
    Calls Tryd.prog 41 #[.slice (some ⟨g, lo * 5, none⟩) n cap] w fun e w' => e = .returned (.bool (horiz l)) ∧ Bel w w' := by
  obtain ⟨t0, r, rfl⟩ : ∃ t0 r, l = t0 :: r := by
    cases l with
    | nil => simp at hl; omega
    | cons a r => exact ⟨a, r, rfl⟩
  have hg := hL.lt
  have e0 : (A ++ (t0 :: r) ++ C)[lo + 0]? = some t0 := by
    rw [← hA, mid_get _ _ _ (by simp)]
    rfl
  obtain ⟨a, b, c, d, c0, c1, c2, c3, _, q0⟩ := hL.at e0
  simp only [Nat.zero_mul, Nat.add_zero] at c0 c1 c2 c3
  have HL := Lib.hid hL
  have HM := Lib.hid hm
  have Q0 := Lib.hid q0
  have HGET : Hid (∀ k t, r[k]? = some t → (A ++ (t0 :: r) ++ C)[lo + (k + 1)]? = some t) := Lib.hid (fun k t hk => by
    have hk2 := (List.getElem?_eq_some_iff.1 hk).1
    rw [← hA, mid_get _ _ _ (by simp; omega)]
    simpa using hk)
  have HSM : Hid (∀ k, (aroundOn t0.b (r.take k)).Small 1048576) := Lib.hid (fun k => aroundOn_small _ _ (hm t0 (by simp)) (fun s hs => hm s (by simp [List.mem_of_mem_take hs])))
  obtain ⟨m, hm1⟩ : ∃ m, n = m + 1 := ⟨n - 1, by omega⟩
  have hr : r.length = m := by simp at hl; omega
  have HR := Lib.hid hr
  subst hm1
  have hc1 : ¬ cap = 1 := by omega
  have hc2 : ¬ cap - 1 = 0 := by omega
  have hc3 : ¬ cap ≤ 1 := by omega
  clear hL hm q0 hA hl e0 hr
  generalize hT : horiz (t0 :: r) = H
  have HT := Lib.hid hT
  clear hT
  go_enter Tryd.func41, Tryd.ntmps41
  go_wp2
  go_loopw [13] (fun iv wr => ∃ (k x y z u : Nat), iv = .int .i64 k ∧ k ≤ m ∧ BxB x y z u (aroundOn t0.b (r.take k)) ∧ Bel w wr ∧ Blk wr w.heap.size #[.float .f64 x, .float .f64 y, .float .f64 z, .float .f64 u] 51) (fun iv _ => m - (intOf iv).toNat)
  case atStart => exact ⟨0, a, b, c, d, rfl, by omega, Q0.out, by (repeat (first | with_reducible assumption | with_reducible exact Bel.refl _ | with_reducible apply Bel.alloc | with_reducible apply Bel.drew | with_reducible apply Bel.drewN | ((with_reducible apply Bel.setCellR); (simp <;> omega)) | with_reducible refine Bel.behind (by with_reducible assumption) ?_)), Blk.new _ _ _⟩
  case round =>
    obtain ⟨k, x, y, z, u, rfl, hk, hq, hbel, hb1⟩ := hrel
    have HQ := Lib.hid hq
    have HBEL := Lib.hid hbel
    have B1 := Lib.hid hb1
    obtain ⟨r1, z1, l1⟩ := hb1.facts
    clear hq hb1 Q0
    by_cases hkm : k < m
    · obtain ⟨t, ht⟩ : ∃ t, r[k]? = some t := ⟨_, List.getElem?_eq_getElem (by rw [HR.out]; exact hkm)⟩
      obtain ⟨p, q, s, v, d0, d1, d2, d3, d4, q2⟩ := (HL.out.bel hbel).at (HGET.out k t ht)
      have e : lo * 5 + (k + 1) * 5 = lo * 5 + 5 + k * 5 := by omega
      rw [e] at d0 d1 d2 d3 d4
      have Q2 := Lib.hid q2
      have hg2 : g < wr.heap.size := Nat.lt_of_lt_of_le hg hbel.size
      have HT2 := Lib.hid ht
      clear q2 ht hbel
      go_wp2_with (first
        | (go_at_call 40; (with_reducible refine (combine_any _ _ _ _ _ _ _ _ _).mono ?_); rintro e w6 ⟨rfl, hb6⟩; have HB6 : Hid (Bel wr w6) := Lib.hid (by (repeat (first | with_reducible assumption | with_reducible exact Bel.refl _ | with_reducible apply Bel.alloc | with_reducible apply Bel.drew | with_reducible apply Bel.drewN | ((with_reducible apply Bel.setCellR); (simp <;> omega)) | with_reducible refine Bel.behind (by with_reducible assumption) ?_))); have B6 := B1.out.bel HB6.out; obtain ⟨s6, t6, m6⟩ := B6.facts))
      go_roundw
      case rel => 
        refine ⟨k + 1, _, _, _, _, by go_num, by omega, ?_, (((((HBEL.out.trans HB6.out).setCell (by simp) _).setCell (by simp) _).setCell (by simp) _).setCell (by simp) _), (((B6.set 0 _).set 1 _).set 2 _).set 3 _⟩
        rw [aroundOn_snoc _ _ _ _ HT2.out]
        exact HQ.out.join Q2.out
      case measure => simp [intOf]; omega
    · obtain rfl : k = m := by omega
      have hq := HQ.out
      have hs := HSM.out k
      rw [List.take_of_length_le (by rw [HR.out]; exact Nat.le_refl _)] at hq hs
      have hT := HT.out
      unfold horiz at hT
      dsimp only at hT
      generalize aroundOn t0.b r = B at *
      unfold Bx.Small at hs
      obtain ⟨e1, i1⟩ := hq.x1.fsub hq.x0 (by omega)
      obtain ⟨e2, i2⟩ := hq.y1.fsub hq.y0 (by omega)
      have f1 := ra .sub z x _ e1
      have f2 := ra .sub u y _ e2
      have hR := (i1.gtB i2).trans hT
      unfold gtB at hR
      have HR2 := Lib.hid hR
      clear hR hT hs hq e1 e2 i1 i2 HQ hbel HT
      go_wp2
      go_ret
      exact ⟨congrArg (fun b => Ending.returned (.bool b)) HR2.out, by first | exact HBEL.out | (repeat (first | with_reducible assumption | with_reducible exact Bel.refl _ | with_reducible apply Bel.alloc | with_reducible apply Bel.drew | with_reducible apply Bel.drewN | ((with_reducible apply Bel.setCellR); (simp <;> omega)) | with_reducible refine Bel.behind (by with_reducible assumption) ?_))⟩
end Go.Proofs.YtdfamnlmhikolaaDoor
