/-
  FnMatrixTurned: the law answers true and changes nothing that stood in memory. Proved for every input.
-/
import Derived.Test.YtdebkmioaglmaaaMatB
namespace Go.Proofs.Ytdebkmioaglmaaa
open Go.ChangeShapes Go.WideShapes Go.ChangeAt Go.RowKit
set_option maxRecDepth 100000 in
theorem f9_out (zs ys : List Int) (va vb : Value) (s : ByteArray) (w : World) (ha : NSl w va zs) (hb : NSl w vb ys) (h1 : zs.length ≤ 2147483647) (h2 : ys.length ≤ 2147483647) (h3 : s.size ≤ 2147483647) (hf : Calls Try.prog 26 #[va, vb, .string s] w fun e w' => e = .returned (.bool false) ∧ w = w') :
    Calls Try.prog 9 #[va, vb, .string s] w fun e w' => e = .returned (.bool true) ∧ Bel w w' := by
  obtain ⟨p, c1, rfl, _⟩ := ha
  obtain ⟨q, c2, rfl, _⟩ := hb
  have HF := Lib.hid hf
  clear hf
  go_enter Try.func9, Try.ntmps9
  go_wp2_with (go_at_call 26; refine HF.out.mono ?_; rintro e w' ⟨rfl, rfl⟩)
  go_ret
  exact ⟨rfl, Bel.refl _⟩
def mo20 : Oper := { dst := some 13, op := Go.Op.assign (Go.Operand.tmp 105), type := 55, pos := "inner.go:334", after := #[{ on := 6, ground := Go.Ground.data }, { on := 19, ground := Go.Ground.chain }, { on := 0, ground := Go.Ground.phase }, { on := 1, ground := Go.Ground.phase }, { on := 2, ground := Go.Ground.phase }, { on := 3, ground := Go.Ground.phase }, { on := 4, ground := Go.Ground.phase }, { on := 5, ground := Go.Ground.phase }, { on := 6, ground := Go.Ground.phase }, { on := 7, ground := Go.Ground.textOnly Go.Departure.lateStores }, { on := 8, ground := Go.Ground.textOnly Go.Departure.lateStores }, { on := 9, ground := Go.Ground.textOnly Go.Departure.lateStores }, { on := 10, ground := Go.Ground.textOnly Go.Departure.lateStores }, { on := 11, ground := Go.Ground.textOnly Go.Departure.lateStores }, { on := 12, ground := Go.Ground.textOnly Go.Departure.lateStores }, { on := 13, ground := Go.Ground.textOnly Go.Departure.lateStoresUnsure }, { on := 14, ground := Go.Ground.textOnly Go.Departure.lateStores }, { on := 15, ground := Go.Ground.textOnly Go.Departure.lateStores }, { on := 16, ground := Go.Ground.textOnly Go.Departure.lateStores }, { on := 17, ground := Go.Ground.textOnly Go.Departure.lateStores }, { on := 18, ground := Go.Ground.textOnly Go.Departure.lateStores }, { on := 19, ground := Go.Ground.textOnly Go.Departure.lateStoresUnsure }], guard := none }
def mo21 : Oper := { dst := some 14, op := Go.Op.assign (Go.Operand.tmp 112), type := 55, pos := "inner.go:334", after := #[{ on := 13, ground := Go.Ground.data }, { on := 20, ground := Go.Ground.chain }, { on := 0, ground := Go.Ground.phase }, { on := 1, ground := Go.Ground.phase }, { on := 2, ground := Go.Ground.phase }, { on := 3, ground := Go.Ground.phase }, { on := 4, ground := Go.Ground.phase }, { on := 5, ground := Go.Ground.phase }, { on := 6, ground := Go.Ground.phase }, { on := 7, ground := Go.Ground.phase }, { on := 8, ground := Go.Ground.phase }, { on := 9, ground := Go.Ground.phase }, { on := 10, ground := Go.Ground.phase }, { on := 11, ground := Go.Ground.phase }, { on := 12, ground := Go.Ground.phase }, { on := 13, ground := Go.Ground.phase }, { on := 14, ground := Go.Ground.textOnly Go.Departure.lateStores }, { on := 15, ground := Go.Ground.textOnly Go.Departure.lateStores }, { on := 16, ground := Go.Ground.textOnly Go.Departure.lateStores }, { on := 17, ground := Go.Ground.textOnly Go.Departure.lateStores }, { on := 18, ground := Go.Ground.textOnly Go.Departure.lateStores }, { on := 19, ground := Go.Ground.textOnly Go.Departure.lateStoresUnsure }, { on := 20, ground := Go.Ground.phase }], guard := none }
def mo22 : Oper := { dst := some 12, op := Go.Op.assign (Go.Operand.tmp 118), type := 60, pos := "inner.go:334", after := #[{ on := 19, ground := Go.Ground.data }, { on := 21, ground := Go.Ground.chain }, { on := 0, ground := Go.Ground.phase }, { on := 1, ground := Go.Ground.phase }, { on := 2, ground := Go.Ground.phase }, { on := 3, ground := Go.Ground.phase }, { on := 4, ground := Go.Ground.phase }, { on := 5, ground := Go.Ground.phase }, { on := 6, ground := Go.Ground.phase }, { on := 7, ground := Go.Ground.phase }, { on := 8, ground := Go.Ground.phase }, { on := 9, ground := Go.Ground.phase }, { on := 10, ground := Go.Ground.phase }, { on := 11, ground := Go.Ground.phase }, { on := 12, ground := Go.Ground.phase }, { on := 13, ground := Go.Ground.phase }, { on := 14, ground := Go.Ground.phase }, { on := 15, ground := Go.Ground.phase }, { on := 16, ground := Go.Ground.phase }, { on := 17, ground := Go.Ground.phase }, { on := 18, ground := Go.Ground.phase }, { on := 19, ground := Go.Ground.phase }, { on := 20, ground := Go.Ground.phase }, { on := 21, ground := Go.Ground.phase }], guard := none }
theorem info3 : (Try.prog.info? 3).map (fun i => (i.zero, i.size, i.bytes)) = some (some (.int .i64 0), 1, 8) := by kernel_rfl
theorem info5 : (Try.prog.info? 5).map (fun i => (i.zero, i.size, i.bytes)) = some (some (.int .u8 0), 1, 1) := by kernel_rfl

/-- What stands at the loop's head: the places from m on have been seen, back to front. -/
def St (zs ys ss : List Int) (B gs : Nat) (w : World) (m n : Nat) (vb vr vc : Value) (wr : World) : Prop :=
  m ≤ n ∧ Bel w wr ∧ (∃ sn : List Bool, Blk wr gs (sn.map Value.bool).toArray 59 ∧ sn.length = 9 ∧ ∀ t, t < 9 → (sn[t]? = some true ↔ ∃ p, m ≤ p ∧ p < n ∧ plc zs ys p = t)) ∧
  (∀ p q, m ≤ p → p < n → m ≤ q → q < n → plc zs ys p = plc zs ys q → p = q) ∧
  wr.ownsRow B 3 1 vr (n - m) (((zs.drop m).reverse).map (Value.int .i64)) ∧ wr.ownsRow B 3 1 vc (n - m) (((ys.drop m).reverse).map (Value.int .i64)) ∧
  wr.ownsRow B 5 1 vb (n - m) (((ss.drop m).reverse).map (Value.int .u8)) ∧
  Diff vr vc ∧ Diff vr vb ∧ Diff vc vb ∧ Diff vr (.slice (some ⟨gs, 0, none⟩) 9 9) ∧ Diff vc (.slice (some ⟨gs, 0, none⟩) 9 9) ∧ Diff vb (.slice (some ⟨gs, 0, none⟩) 9 9)

theorem Diff.nil (u : Value) : Diff (.slice none 0 0) u := fun g h => by cases h

def rowE : Nat → TypeId | 0 => 3 | 1 => 3 | _ => 5
def pick3 {α : Type} (x y z : α) : Nat → α | 0 => x | 1 => y | _ => z
theorem drop_snoc (l : List Int) (j : Nat) (x : Int) (h : l[j]? = some x) : (l.drop j).reverse = (l.drop (j + 1)).reverse ++ [x] := by
  obtain ⟨hj, he⟩ := List.getElem?_eq_some_iff.1 h
  rw [List.drop_eq_getElem_cons hj, List.reverse_cons, he]
theorem NSl.of_owns {w : World} {base n : Nat} {v : Value} {zs : List Int} (h : w.ownsRow base 3 1 v n (zs.map (Value.int .i64))) (hn : zs.length = n)
    (hr : ∀ (i : Nat) (z : Int), zs[i]? = some z → -9223372036854775808 ≤ z ∧ z ≤ 9223372036854775807) : NSl w v zs := by
  subst hn
  have hc := fun (g : Nat) (hg : v.ownBlock = some g) => h.cells hg
  rcases h.2 with ⟨rfl, h0⟩ | ⟨g, cap, cur, rfl, hb, hg, h1, h2, _⟩
  · exact ⟨none, 0, by rw [h0], by omega, by omega, hr, fun hn => absurd (List.length_eq_zero_iff.1 h0) hn⟩
  · refine ⟨_, cap, rfl, h1, by unfold maxLen at h2; omega, hr, fun _ => ⟨g, 0, rfl, (Array.getElem?_eq_some_iff.1 hg).1, fun i q hq => ?_⟩⟩
    have c1 := hc g rfl i (.int .i64 q) (by rw [List.getElem?_map, hq]; rfl)
    have a1 : (⟨g, 0, none⟩ : Addr).add i = ⟨g, i, none⟩ := by cases i <;> simp [Addr.add]
    rw [a1] at c1
    rw [Nat.zero_add]
    exact c1
theorem range_rev {zs : List Int} (hr : ∀ (i : Nat) (z : Int), zs[i]? = some z → -9223372036854775808 ≤ z ∧ z ≤ 9223372036854775807) : ∀ (i : Nat) (z : Int), zs.reverse[i]? = some z → -9223372036854775808 ≤ z ∧ z ≤ 9223372036854775807 := by
  intro i z h
  have hm : z ∈ zs := List.mem_reverse.1 (List.mem_of_getElem? h)
  obtain ⟨k, hk⟩ := List.getElem?_of_mem hm
  exact hr k z hk
theorem nums_range (s : ByteArray) : ∀ z ∈ nums s, 0 ≤ z ∧ z ≤ 255 := by
  intro z hz
  unfold nums at hz
  obtain ⟨b, _, rfl⟩ := List.mem_map.1 hz
  have := b.toNat_lt
  omega
theorem nums_strOfNums (l : List Int) (h : ∀ z ∈ l, 0 ≤ z ∧ z ≤ 255) : nums (strOfNums l) = l := by
  unfold nums
  rw [strOfNums_data, List.map_map]
  conv => rhs; rw [← List.map_id l]
  apply List.map_congr_left
  intro z hz
  have := h z hz
  show ((UInt8.ofNat z.toNat).toNat : Int) = z
  rw [UInt8.toNat_ofNat']
  omega
theorem rev_getD (l : List Int) (i : Nat) (h : i < l.length) : l.reverse.getD i 0 = l.getD (l.length - 1 - i) 0 := by
  rw [List.getD, List.getD, List.getElem?_reverse h]
theorem Sets.rev {zs ys : List Int} {n : Nat} (h : Sets zs ys n) : Sets zs.reverse ys.reverse n := by
  obtain ⟨h1, h2, h3, h4⟩ := h
  refine ⟨by rw [List.length_reverse, h1], by rw [List.length_reverse, h2], h3, fun i hi => ?_⟩
  rw [rev_getD zs i (by omega), rev_getD ys i (by omega), h1, h2]
  exact h4 _ (by omega)
theorem plc_lt {zs ys : List Int} {n i : Nat} (h : Sets zs ys n) (hi : i < n) : plc zs ys i < 9 := by
  have := h.2.2.2 i hi
  unfold plc
  omega
theorem conv_owns {w w' : World} {base n : Nat} {v : Value} {l : List Int} (h : w.ownsRow base 5 1 v n (l.map (Value.int .u8))) (hn : l.length = n) (hb : Bel w w') :
    (convert 60 9 v).run Try.prog w' = .ok (.string (strOfNums l)) w' := by
  subst hn
  have hc := fun (g : Nat) (hg : v.ownBlock = some g) => h.cells hg
  rcases h.2 with ⟨rfl, h0⟩ | ⟨g, cap, cur, rfl, _, hg, h1, h2, _⟩
  · have : l = [] := List.length_eq_zero_iff.1 h0
    subst this
    rw [run_convert_bytes_nil w' 60 5 Try.underlying60 Try.underlying5 0 0 9 Try.underlying9]
    rfl
  · refine run_convert_bytes_arg w' 60 5 Try.underlying60 Try.underlying5 g 0 _ cap l rfl (fun i hi => ?_) 9 Try.underlying9
    have c1 := hc g rfl i (.int .u8 (l.getD i 0)) (by rw [List.getElem?_map, List.getElem?_eq_getElem hi, List.getD, List.getElem?_eq_getElem hi]; rfl)
    have a1 : (⟨g, 0, none⟩ : Addr).add i = ⟨g, i, none⟩ := by cases i <;> simp [Addr.add]
    rw [a1] at c1
    rw [Nat.zero_add]
    exact (hb.cell (Array.getElem?_eq_some_iff.1 hg).1).trans c1
theorem St.step {zs ys ss : List Int} {B gs : Nat} {w : World} {j n a c : Nat} {z : Int} {sn : List Bool} {v12 v13 v14 : Value} {w3 : World} (hjn : j < n) (ha : a ≤ 2) (hc : c ≤ 2)
    (hx : zs[j]? = some (a : Int)) (hy : ys[j]? = some (c : Int)) (hz : ss[j]? = some z) (hbt : sn[3 * a + c]? = some false) (h9 : sn.length = 9)
    (hsn : ∀ t, t < 9 → (sn[t]? = some true ↔ ∃ p, j + 1 ≤ p ∧ p < n ∧ plc zs ys p = t))
    (hd : ∀ p q, j + 1 ≤ p → p < n → j + 1 ≤ q → q < n → plc zs ys p = plc zs ys q → p = q)
    (hbel : Bel w w3) (hblk : Blk w3 gs ((sn.set (3 * a + c) true).map Value.bool).toArray 59)
    (h0 : w3.ownsRow B 3 1 v13 (n - (j + 1) + 1) (((zs.drop (j + 1)).reverse.map (Value.int .i64)) ++ [.int .i64 a]))
    (h1 : w3.ownsRow B 3 1 v14 (n - (j + 1) + 1) (((ys.drop (j + 1)).reverse.map (Value.int .i64)) ++ [.int .i64 c]))
    (h2 : w3.ownsRow B 5 1 v12 (n - (j + 1) + 1) (((ss.drop (j + 1)).reverse.map (Value.int .u8)) ++ [.int .u8 z]))
    (d1 : Diff v13 v14) (d2 : Diff v13 v12) (d3 : Diff v14 v12) (d4 : Diff v13 (.slice (some ⟨gs, 0, none⟩) 9 9)) (d5 : Diff v14 (.slice (some ⟨gs, 0, none⟩) 9 9)) (d6 : Diff v12 (.slice (some ⟨gs, 0, none⟩) 9 9)) :
    St zs ys ss B gs w j n v12 v13 v14 w3 := by
  have hp : plc zs ys j = 3 * a + c := by
    unfold plc
    rw [List.getD, hx, List.getD, hy]
    simp only [Option.getD_some]
    omega
  have e : n - j = n - (j + 1) + 1 := by omega
  refine ⟨by omega, hbel, ⟨_, hblk, by simpa using h9, fun t ht => ?_⟩, fun p q p1 p2 q1 q2 hpq => ?_, ?_, ?_, ?_, d1, d2, d3, d4, d5, d6⟩
  · by_cases e1 : 3 * a + c = t
    · subst e1
      rw [List.getElem?_set_self (by omega)]
      exact ⟨fun _ => ⟨j, by omega, hjn, hp⟩, fun _ => rfl⟩
    · rw [List.getElem?_set_ne e1, hsn t ht]
      constructor
      · rintro ⟨p, p1, p2, p3⟩
        exact ⟨p, by omega, p2, p3⟩
      · rintro ⟨p, p1, p2, p3⟩
        refine ⟨p, ?_, p2, p3⟩
        rcases Nat.lt_or_ge j p with k | k
        · exact k
        · have : p = j := by omega
          subst this
          omega
  · have key : ∀ p, j + 1 ≤ p → p < n → plc zs ys p ≠ plc zs ys j := by
      intro p p1 p2 h
      rw [hp] at h
      have := (hsn (3 * a + c) (by omega)).2 ⟨p, p1, p2, h⟩
      rw [hbt] at this
      cases this
    by_cases e1 : p = j
    · by_cases e2 : q = j
      · omega
      · subst e1
        exact absurd hpq.symm (key q (by omega) q2)
    · by_cases e2 : q = j
      · subst e2
        exact absurd hpq (key p (by omega) p2)
      · exact hd p q (by omega) p2 (by omega) q2 hpq
  · rw [e, drop_snoc zs j a hx, List.map_append]
    exact h0
  · rw [e, drop_snoc ys j c hy, List.map_append]
    exact h1
  · rw [e, drop_snoc ss j z hz, List.map_append]
    exact h2
theorem keepN {w w' : World} {p q : Addr} {x y : Value} (hp : p.block < w.heap.size) (hq : q.block < w.heap.size) (cx : w.cell? p = some x) (cy : w.cell? q = some y) (h : Bel w w') :
    w'.cell? p = some x ∧ w'.cell? q = some y ∧ Bel w w' := ⟨(h.cell hp).trans cx, (h.cell hq).trans cy, h⟩
theorem St.start (zs ys ss : List Int) (B gs : Nat) (w wr : World) (n : Nat) (hz : zs.length = n) (hy : ys.length = n) (hs : ss.length = n) (hb : Bel w wr)
    (hB : Blk wr gs #[.bool false, .bool false, .bool false, .bool false, .bool false, .bool false, .bool false, .bool false, .bool false] 59) :
    St zs ys ss B gs w n n (.slice none 0 0) (.slice none 0 0) (.slice none 0 0) wr := by
  have e1 : zs.drop n = [] := List.drop_eq_nil_of_le (by omega)
  have e2 : ys.drop n = [] := List.drop_eq_nil_of_le (by omega)
  have e3 : ss.drop n = [] := List.drop_eq_nil_of_le (by omega)
  refine ⟨Nat.le_refl _, hb, ⟨List.replicate 9 false, hB, rfl, fun t ht => ⟨fun h => ?_, fun ⟨p, h1, h2, _⟩ => by omega⟩⟩, fun p q h1 h2 => by omega, ?_, ?_, ?_, Diff.nil _, Diff.nil _, Diff.nil _, Diff.nil _, Diff.nil _, Diff.nil _⟩
  · rw [List.getElem?_replicate] at h
    split at h <;> simp at h
  · rw [e1, Nat.sub_self]; exact World.ownsRow_nil _ _ _ _
  · rw [e2, Nat.sub_self]; exact World.ownsRow_nil _ _ _ _
  · rw [e3, Nat.sub_self]; exact World.ownsRow_nil _ _ _ _

set_option maxRecDepth 100000 in
set_option maxHeartbeats 4000000 in
theorem f9_in (zs ys : List Int) (va vb : Value) (s : ByteArray) (w : World) (ha : NSl w va zs) (hb : NSl w vb ys) (hS : Hid (Sets zs ys s.size)) :
    Calls Try.prog 9 #[va, vb, .string s] w fun e w' => e = .returned (.bool true) ∧ Bel w w' := by
  have ha2 := ha
  have hb2 := hb
  obtain ⟨p, c1, rfl, -⟩ := ha
  obtain ⟨q, c2, rfl, -⟩ := hb
  have k1 := hS.out.1
  have k2 := hS.out.2.1
  have k3 := hS.out.2.2.1
  rw [k1] at ha2 ⊢
  rw [k2] at hb2 ⊢
  have HA := Lib.hid ha2
  have HB := Lib.hid hb2
  have HF := Lib.hid (f26_any zs ys _ _ s w ha2 hb2)
  clear ha2 hb2
  have hS2 : Hid (Sets ys zs s.size) := Lib.hid ⟨k2, k1, k3, fun i hi => ⟨(hS.out.2.2.2 i hi).2, (hS.out.2.2.2 i hi).1⟩⟩
  have hM : turnIf true (matN zs ys (nums s) s.size) = turnIf false (matN ys zs (nums s) s.size) := part_matN zs ys (nums s) s.size hS.out.2.2.2
  have hz : (strOfNums (turnIf false (matN ys zs (nums s) s.size))).size = 9 := by rw [strOfNums_size]; exact matN_length _ _ _ _
  obtain ⟨S1, hS1⟩ : ∃ S1, strOfNums (turnIf false (matN ys zs (nums s) s.size)) = S1 := ⟨_, rfl⟩
  rw [hS1] at hz
  have HM := Lib.hid hM
  have HS1 := Lib.hid hS1
  clear hM hS1
  have K1 := Lib.hid k1
  have K2 := Lib.hid k2
  clear k1 k2
  obtain ⟨i03, hi3, hz31, hz32, hz33⟩ := info_parts info3
  obtain ⟨i05, hi5, hz51, hz52, hz53⟩ := info_parts info5
  have I3 := Lib.hid hi3
  have I31 := Lib.hid hz31
  have I32 := Lib.hid hz32
  have I33 := Lib.hid hz33
  have I5 := Lib.hid hi5
  have I51 := Lib.hid hz51
  have I52 := Lib.hid hz52
  have I53 := Lib.hid hz53
  clear hi3 hz31 hz32 hz33 hi5 hz51 hz52 hz53
  go_enter Try.func9, Try.ntmps9
  go_wp2_with fail
  refine HF.out.mono ?_
  rintro e w' ⟨t, rfl, rfl, -⟩
  cases t
  · go_wp2
    go_ret
    exact ⟨rfl, Bel.refl _⟩
  go_wp2_with (first | (go_at_call 27; (first | (with_reducible refine (f27_any zs ys _ _ s true _ HA.out HB.out hS).mono ?_; rw [HM.out, HS1.out]; rintro e w1 ⟨rfl, hb1⟩) | (with_reducible refine (f27_any ys zs _ _ s false _ (HB.out.bel hb1) (HA.out.bel hb1) hS2).mono ?_; rw [HS1.out]; rintro e w2 ⟨rfl, hb2⟩))))
  have HST : Hid (St zs ys (nums s) w.heap.size w2.heap.size w s.size s.size (.slice none 0 0) (.slice none 0 0) (.slice none 0 0) (w2.alloc (Obj.cells #[.bool false, .bool false, .bool false, .bool false, .bool false, .bool false, .bool false, .bool false, .bool false] 59))) :=
    Lib.hid (St.start _ _ _ _ _ _ _ _ K1.out K2.out (nums_length s) ((hb1.trans hb2).alloc _) (Blk.new _ _ _))
  have hgs : w.heap.size ≤ w2.heap.size := (hb1.trans hb2).size
  clear hb1 hb2
  generalize w2.heap.size = gs at *
  generalize w2.alloc _ = w3 at *
  go_loopw [12, 13, 14, 15] (fun vb vr vc i wr => ∃ m : Nat, i = .int .i64 ((m : Int) - 1) ∧ St zs ys (nums s) w.heap.size gs w m s.size vb vr vc wr) (fun _ _ _ i _ => (intOf i + 1).toNat)
  case atStart => exact ⟨s.size, rfl, HST.out⟩
  case round =>
    obtain ⟨m, rfl, hst⟩ := hrel
    have HT := Lib.hid hst
    have hmn : m ≤ s.size := hst.1
    clear hst HST
    by_cases hm0 : m = 0
    · subst hm0
      clear hmn
      obtain ⟨-, hbel, -, hdist, hor, hoc, hob, -, -, -, -, -, -⟩ := HT.out
      rw [List.drop_zero, Nat.sub_zero] at hor hoc hob
      have hr1 : ∀ (i : Nat) (z : Int), zs[i]? = some z → -9223372036854775808 ≤ z ∧ z ≤ 9223372036854775807 := by
        obtain ⟨_, _, _, _, _, h, _⟩ := HA.out
        exact h
      have hr2 : ∀ (i : Nat) (z : Int), ys[i]? = some z → -9223372036854775808 ≤ z ∧ z ≤ 9223372036854775807 := by
        obtain ⟨_, _, _, _, _, h, _⟩ := HB.out
        exact h
      have N1 : Hid (NSl wr u13 zs.reverse) := Lib.hid (NSl.of_owns hor (by rw [List.length_reverse]; exact K1.out) (range_rev hr1))
      have N2 : Hid (NSl wr u14 ys.reverse) := Lib.hid (NSl.of_owns hoc (by rw [List.length_reverse]; exact K2.out) (range_rev hr2))
      have hss : (strOfNums (nums s).reverse).size = s.size := by rw [strOfNums_size, List.length_reverse, nums_length]
      have hns : nums (strOfNums (nums s).reverse) = (nums s).reverse := nums_strOfNums _ (fun z hz => nums_range s z (List.mem_reverse.1 hz))
      have hS3 : Hid (Sets zs.reverse ys.reverse (strOfNums (nums s).reverse).size) := Lib.hid (by
        rw [hss]
        exact Sets.rev hS.out)
      have hfin : turnIf false (matN zs.reverse ys.reverse (nums (strOfNums (nums s).reverse)) (strOfNums (nums s).reverse).size) = turnIf false (matN zs ys (nums s) s.size) := by
        rw [hss, hns]
        refine matN_rev zs ys (nums s) zs.reverse ys.reverse (nums s).reverse s.size (fun i hi => plc_lt hS.out hi) (fun i j hi hj => hdist i j (by omega) hi (by omega) hj) (fun i hi => ?_) (fun i hi => ?_) (fun i hi => ?_)
        · have := rev_getD zs i (by rw [K1.out]; exact hi)
          rw [K1.out] at this
          exact this
        · have := rev_getD ys i (by rw [K2.out]; exact hi)
          rw [K2.out] at this
          exact this
        · have := rev_getD (nums s) i (by rw [nums_length]; exact hi)
          rw [nums_length] at this
          exact this
      obtain ⟨S2, hS2e⟩ : ∃ S2, strOfNums (turnIf false (matN zs ys (nums s) s.size)) = S2 := ⟨_, rfl⟩
      have HF1 := Lib.hid hfin
      have HF2 := Lib.hid hS2e
      have HBEL := Lib.hid hbel
      have hcv : Hid (∀ w', Bel wr w' → (convert 60 9 u12).run Try.prog w' = .ok (.string (strOfNums (nums s).reverse)) w') := Lib.hid (fun w' hb' => conv_owns hob (by rw [List.length_reverse, nums_length]) hb')
      clear hbel hdist hor hoc hob hr1 hr2 hss hns hfin hS2e HT
      generalize strOfNums (nums s).reverse = sr at *
      rw [show (((0 : Nat) : Int) - 1) = -1 by rfl]
      go_wp2_with fail
      refine (f27_any zs ys _ _ s false _ (HA.out.bel HBEL.out) (HB.out.bel HBEL.out) hS).mono ?_
      rw [HF2.out]
      rintro e w4 ⟨rfl, hb4⟩
      have hcv2 := hcv.out _ hb4
      go_wp2_with fail
      refine (f27_any zs.reverse ys.reverse _ _ sr false _ (N1.out.bel hb4) (N2.out.bel hb4) hS3).mono ?_
      rw [HF1.out, HF2.out]
      rintro e w5 ⟨rfl, hb5⟩
      have HBB : Hid (Bel w w5) := Lib.hid ((HBEL.out.trans hb4).trans hb5)
      clear hcv2 hb4 hb5
      go_wp2
      go_ret
      exact ⟨rfl, HBB.out⟩
    · obtain ⟨j, rfl⟩ : ∃ j, m = j + 1 := ⟨m - 1, by omega⟩
      rw [show (((j + 1 : Nat) : Int) - 1) = (j : Int) by omega]
      clear hm0
      obtain ⟨x, hx⟩ : ∃ x, zs[j]? = some x := ⟨zs[j]'(by have := K1.out; omega), List.getElem?_eq_getElem _⟩
      obtain ⟨y, hy⟩ : ∃ y, ys[j]? = some y := ⟨ys[j]'(by have := K2.out; omega), List.getElem?_eq_getElem _⟩
      have hok := hS.out.2.2.2 j (by omega)
      rw [List.getD, hx, List.getD, hy] at hok
      simp only [Option.getD_some] at hok
      obtain ⟨⟨x0, x2⟩, ⟨y0, y2⟩⟩ := hok
      obtain ⟨a, rfl⟩ := Int.eq_ofNat_of_zero_le x0
      obtain ⟨c, rfl⟩ := Int.eq_ofNat_of_zero_le y0
      have ha2 : a ≤ 2 := by omega
      have hj0 : (0 : Int) ≤ (j : Int) := by omega
      have hj1 : (j : Int) < (s.size : Int) := by omega
      have hc2 : c ≤ 2 := by omega
      have hT := HT.out
      obtain ⟨-, hbel, ⟨sn, hblk, hsn9, hsn⟩, hdist, hor, hoc, hob, d1, d2, d3, d4, d5, d6⟩ := hT
      obtain ⟨_, _, e1, -, -, -, hca⟩ := HA.out
      simp only [Value.slice.injEq] at e1
      obtain ⟨rfl, -, rfl⟩ := e1
      obtain ⟨_, _, e1, -, -, -, hcb⟩ := HB.out
      simp only [Value.slice.injEq] at e1
      obtain ⟨rfl, -, rfl⟩ := e1
      obtain ⟨ba, oa, rfl, hlta, hca⟩ := hca (by intro e; rw [e] at hx; simp at hx)
      obtain ⟨bb, ob, rfl, hltb, hcb⟩ := hcb (by intro e; rw [e] at hy; simp at hy)
      have hjs : j < s.size := by omega
      have HZ : Hid ((nums s)[j]? = some ((s[j]'hjs).toNat : Int)) := Lib.hid (by
        unfold nums
        rw [List.getElem?_map, List.getElem?_eq_getElem (by exact hjs)]
        rfl)
      have cx := hca j _ hx
      have cy := hcb j _ hy
      have ax := (hbel.cell (p := ⟨ba, oa + j, none⟩) hlta).trans cx
      have ay := (hbel.cell (p := ⟨bb, ob + j, none⟩) hltb).trans cy
      have CX := Lib.hid cx
      have CY := Lib.hid cy
      obtain ⟨b, hbt⟩ : ∃ b, sn[3 * a + c]? = some b := ⟨sn[3 * a + c]'(by omega), List.getElem?_eq_getElem _⟩
      have ac : wr.cell? ⟨gs, 3 * a + c, none⟩ = some (.bool b) := by
        rw [hblk.rules.1]
        simp [hbt]
      have zf := hblk.rules.2 (3 * a + c)
      have w1e : IntKind.i64.wrap (3 * (a : Int)) = 3 * (a : Int) := IntWalk.i64_in _ (by omega)
      have w2e : IntKind.i64.wrap (3 * (a : Int) + (c : Int)) = 3 * (a : Int) + (c : Int) := IntWalk.i64_in _ (by omega)
      have w3e : (3 * (a : Int) + (c : Int)).toNat = 3 * a + c := by omega
      have b0 : (0 : Int) ≤ 3 * (a : Int) + (c : Int) := by omega
      have b1 : 3 * (a : Int) + (c : Int) < 9 := by omega
      have HX := Lib.hid hx
      have HY := Lib.hid hy
      have HBT := Lib.hid hbt
      have HBLK := Lib.hid hblk
      have HSN := Lib.hid hsn
      have HSN9 := Lib.hid hsn9
      have HDIST := Lib.hid hdist
      have HOR := Lib.hid hor
      have HOC := Lib.hid hoc
      have HOB := Lib.hid hob
      have D1 := Lib.hid d1
      have D2 := Lib.hid d2
      have D3 := Lib.hid d3
      have D4 := Lib.hid d4
      have D5 := Lib.hid d5
      have D6 := Lib.hid d6
      have HBEL := Lib.hid hbel
      clear hx hy hbt hblk hsn hsn9 hdist hor hoc hob d1 d2 d3 d4 d5 d6 cx cy hca hcb hbel
      go_wp2
      go_quiet (fail)
      cases b
      · go_wp2
        go_region_held3 (fun w' => w'.cell? ⟨ba, oa + j, none⟩ = some (.int .i64 a) ∧ w'.cell? ⟨bb, ob + j, none⟩ = some (.int .i64 c) ∧ Bel w w')
          ((refine keepN hlta hltb CX.out CY.out ?_; ((repeat (first | with_reducible assumption | with_reducible exact HBEL.out | with_reducible exact Bel.refl _ | with_reducible apply Bel.alloc | with_reducible apply Bel.drew | with_reducible apply Bel.drewN | (with_reducible apply Bel.setCellR; (simp <;> omega)) | with_reducible refine Bel.behind (by with_reducible assumption) ?_)); done)))
          (fail)
        go_wp2
        have HBELS : Hid (Bel w ((wr.drewN (nq + 1)).setCell ⟨gs, 3 * a + c, none⟩ (.bool true))) := Lib.hid ((HBEL.out.drewN _).setCell hgs _)
        have HBLKS : Hid (Blk ((wr.drewN (nq + 1)).setCell ⟨gs, 3 * a + c, none⟩ (.bool true)) gs ((sn.set (3 * a + c) true).map Value.bool).toArray 59) := Lib.hid ((Blk.set (w := wr.drewN (nq + 1)) HBLK.out (3 * a + c) (.bool true)).cast (by simp [List.map_set]))
        have HORS : Hid (((wr.drewN (nq + 1)).setCell ⟨gs, 3 * a + c, none⟩ (.bool true)).ownsRow w.heap.size 3 1 u13 (s.size - (j + 1)) (((zs.drop (j + 1)).reverse).map (Value.int .i64))) := Lib.hid (World.ownsRow.kept (w := wr.drewN (nq + 1)) HOR.out (grownBy_set _ _ _ _) D4.out.ne)
        have HOCS : Hid (((wr.drewN (nq + 1)).setCell ⟨gs, 3 * a + c, none⟩ (.bool true)).ownsRow w.heap.size 3 1 u14 (s.size - (j + 1)) (((ys.drop (j + 1)).reverse).map (Value.int .i64))) := Lib.hid (World.ownsRow.kept (w := wr.drewN (nq + 1)) HOC.out (grownBy_set _ _ _ _) D5.out.ne)
        have HOBS : Hid (((wr.drewN (nq + 1)).setCell ⟨gs, 3 * a + c, none⟩ (.bool true)).ownsRow w.heap.size 5 1 u12 (s.size - (j + 1)) (((nums s).drop (j + 1)).reverse.map (Value.int .u8))) := Lib.hid (World.ownsRow.kept (w := wr.drewN (nq + 1)) HOB.out (grownBy_set _ _ _ _) D6.out.ne)
        clear ax ay ac zf HBLK HOR HOC HOB HT
        rename_i hHeldX
        clear hHeldX
        generalize (wr.drewN (nq + 1)).setCell ⟨gs, 3 * a + c, none⟩ (.bool true) = ws at *
        have hM0 : M w w.heap.size gs ((sn.set (3 * a + c) true).map Value.bool).toArray rowE (s.size - (j + 1)) (pick3 (((zs.drop (j + 1)).reverse).map (Value.int .i64)) (((ys.drop (j + 1)).reverse).map (Value.int .i64)) (((nums s).drop (j + 1)).reverse.map (Value.int .u8))) (pick3 (.int .i64 a) (.int .i64 c) (.int .u8 ((s[j]'hjs).toNat : Int))) (fun _ => 0) (fun _ => undef) (pick3 u13 u14 u12) ws := by
          refine ⟨HBELS.out, rfl, HBLKS.out, fun i hi => ?_, fun i hi h => ?_, fun i k hi hk hik => ?_, fun i hi => ?_, fun i k hi hk h => ?_⟩
          · rcases (by omega : i = 0 ∨ i = 1 ∨ i = 2) with rfl | rfl | rfl
            · exact HORS.out
            · exact HOCS.out
            · exact HOBS.out
          · cases h
          · rcases (by omega : i = 0 ∨ i = 1 ∨ i = 2) with rfl | rfl | rfl <;> rcases (by omega : k = 0 ∨ k = 1 ∨ k = 2) with rfl | rfl | rfl <;>
              first | exact absurd rfl hik | exact D1.out | exact D1.out.symm | exact D2.out | exact D2.out.symm | exact D3.out | exact D3.out.symm
          · rcases (by omega : i = 0 ∨ i = 1 ∨ i = 2) with rfl | rfl | rfl
            · exact D4.out
            · exact D5.out
            · exact D6.out
          · cases h
        have hM := hM0.drew
        clear hM0
        clear HBELS HBLKS HORS HOCS HOBS D1 D2 D3 D4 D5 D6
        refine wp_region_noPanic ?_
        refine wp_region_held_drew (S := (fun w' => w'.cell? ⟨ba, oa + j, none⟩ = some (.int .i64 a) ∧ w'.cell? ⟨bb, ob + j, none⟩ = some (.int .i64 c) ∧ Bel w w')) (by kernel_rfl) (keepN hlta hltb CX.out CY.out hM.bel) (fun hHeld0 => ?_)
        refine wpAnyH_take (i := 0) (oi := { dst := some 99, op := Go.Op.move (Go.Operand.tmp 13), type := 55, pos := "inner.go:334", after := #[], guard := none }) (v := ?_) rfl (by kernel_rfl) (by kernel_rfl) (by kernel_rfl) (fun _ _ _ h => h) (Or.inl ⟨by rfl, ?_⟩) (by assumption) ?_
        rotate_left
        · intro w' hSw
          obtain ⟨hS1, hS2, hS3⟩ := hSw
          go_simp
          try with_reducible rfl
        (try simp only [Act.put, List.setIfInBounds_toArray, List.set_cons_zero, List.set_cons_succ])
        refine wpAnyH_take (i := 1) (oi := { dst := some 100, op := Go.Op.move (Go.Operand.tmp 0), type := 55, pos := "inner.go:334", after := #[], guard := none }) (v := ?_) rfl (by kernel_rfl) (by kernel_rfl) (by kernel_rfl) (fun _ _ _ h => h) (Or.inl ⟨by rfl, ?_⟩) (by assumption) ?_
        rotate_left
        · intro w' hSw
          obtain ⟨hS1, hS2, hS3⟩ := hSw
          go_simp
          try with_reducible rfl
        (try simp only [Act.put, List.setIfInBounds_toArray, List.set_cons_zero, List.set_cons_succ])
        refine wpAnyH_take (i := 2) (oi := { dst := some 101, op := Go.Op.move (Go.Operand.tmp 15), type := 3, pos := "inner.go:334", after := #[], guard := none }) (v := ?_) rfl (by kernel_rfl) (by kernel_rfl) (by kernel_rfl) (fun _ _ _ h => h) (Or.inl ⟨by rfl, ?_⟩) (by assumption) ?_
        rotate_left
        · intro w' hSw
          obtain ⟨hS1, hS2, hS3⟩ := hSw
          go_simp
          try with_reducible rfl
        (try simp only [Act.put, List.setIfInBounds_toArray, List.set_cons_zero, List.set_cons_succ])
        refine wpAnyH_take (i := 3) (oi := { dst := some 102, op := Go.Op.indexAddr 55 (Go.Operand.tmp 100) (Go.Operand.tmp 101), type := 0, pos := "inner.go:334", after := #[{ on := 1, ground := Go.Ground.data }, { on := 2, ground := Go.Ground.data }], guard := none }) (v := ?_) rfl (by kernel_rfl) (by kernel_rfl) (by kernel_rfl) (fun _ _ _ h => h) (Or.inl ⟨by rfl, ?_⟩) (by assumption) ?_
        rotate_left
        · intro w' hSw
          obtain ⟨hS1, hS2, hS3⟩ := hSw
          go_simp
          try with_reducible rfl
        (try simp only [Act.put, List.setIfInBounds_toArray, List.set_cons_zero, List.set_cons_succ])
        refine wpAnyH_take (i := 4) (oi := { dst := some 103, op := Go.Op.load 3 (Go.Operand.tmp 102), type := 3, pos := "inner.go:334", after := #[{ on := 3, ground := Go.Ground.data }], guard := none }) (v := ?_) rfl (by kernel_rfl) (by kernel_rfl) (by kernel_rfl) (fun _ _ _ h => h) (Or.inl ⟨by rfl, ?_⟩) (by assumption) ?_
        rotate_left
        · intro w' hSw
          obtain ⟨hS1, hS2, hS3⟩ := hSw
          go_simp
          try with_reducible rfl
        (try simp only [Act.put, List.setIfInBounds_toArray, List.set_cons_zero, List.set_cons_succ])
        refine wpAnyH_take (i := 7) (oi := { dst := some 106, op := Go.Op.move (Go.Operand.tmp 14), type := 55, pos := "inner.go:334", after := #[], guard := none }) (v := ?_) rfl (by kernel_rfl) (by kernel_rfl) (by kernel_rfl) (fun _ _ _ h => h) (Or.inl ⟨by rfl, ?_⟩) (by assumption) ?_
        rotate_left
        · intro w' hSw
          obtain ⟨hS1, hS2, hS3⟩ := hSw
          go_simp
          try with_reducible rfl
        (try simp only [Act.put, List.setIfInBounds_toArray, List.set_cons_zero, List.set_cons_succ])
        refine wpAnyH_take (i := 8) (oi := { dst := some 107, op := Go.Op.move (Go.Operand.tmp 1), type := 55, pos := "inner.go:334", after := #[], guard := none }) (v := ?_) rfl (by kernel_rfl) (by kernel_rfl) (by kernel_rfl) (fun _ _ _ h => h) (Or.inl ⟨by rfl, ?_⟩) (by assumption) ?_
        rotate_left
        · intro w' hSw
          obtain ⟨hS1, hS2, hS3⟩ := hSw
          go_simp
          try with_reducible rfl
        (try simp only [Act.put, List.setIfInBounds_toArray, List.set_cons_zero, List.set_cons_succ])
        refine wpAnyH_take (i := 9) (oi := { dst := some 108, op := Go.Op.move (Go.Operand.tmp 15), type := 3, pos := "inner.go:334", after := #[], guard := none }) (v := ?_) rfl (by kernel_rfl) (by kernel_rfl) (by kernel_rfl) (fun _ _ _ h => h) (Or.inl ⟨by rfl, ?_⟩) (by assumption) ?_
        rotate_left
        · intro w' hSw
          obtain ⟨hS1, hS2, hS3⟩ := hSw
          go_simp
          try with_reducible rfl
        (try simp only [Act.put, List.setIfInBounds_toArray, List.set_cons_zero, List.set_cons_succ])
        refine wpAnyH_take (i := 10) (oi := { dst := some 109, op := Go.Op.indexAddr 55 (Go.Operand.tmp 107) (Go.Operand.tmp 108), type := 0, pos := "inner.go:334", after := #[{ on := 8, ground := Go.Ground.data }, { on := 9, ground := Go.Ground.data }], guard := none }) (v := ?_) rfl (by kernel_rfl) (by kernel_rfl) (by kernel_rfl) (fun _ _ _ h => h) (Or.inl ⟨by rfl, ?_⟩) (by assumption) ?_
        rotate_left
        · intro w' hSw
          obtain ⟨hS1, hS2, hS3⟩ := hSw
          go_simp
          try with_reducible rfl
        (try simp only [Act.put, List.setIfInBounds_toArray, List.set_cons_zero, List.set_cons_succ])
        refine wpAnyH_take (i := 11) (oi := { dst := some 110, op := Go.Op.load 3 (Go.Operand.tmp 109), type := 3, pos := "inner.go:334", after := #[{ on := 10, ground := Go.Ground.data }], guard := none }) (v := ?_) rfl (by kernel_rfl) (by kernel_rfl) (by kernel_rfl) (fun _ _ _ h => h) (Or.inl ⟨by rfl, ?_⟩) (by assumption) ?_
        rotate_left
        · intro w' hSw
          obtain ⟨hS1, hS2, hS3⟩ := hSw
          go_simp
          try with_reducible rfl
        (try simp only [Act.put, List.setIfInBounds_toArray, List.set_cons_zero, List.set_cons_succ])
        refine wpAnyH_take (i := 14) (oi := { dst := some 113, op := Go.Op.move (Go.Operand.tmp 12), type := 60, pos := "inner.go:334", after := #[], guard := none }) (v := ?_) rfl (by kernel_rfl) (by kernel_rfl) (by kernel_rfl) (fun _ _ _ h => h) (Or.inl ⟨by rfl, ?_⟩) (by assumption) ?_
        rotate_left
        · intro w' hSw
          obtain ⟨hS1, hS2, hS3⟩ := hSw
          go_simp
          try with_reducible rfl
        (try simp only [Act.put, List.setIfInBounds_toArray, List.set_cons_zero, List.set_cons_succ])
        refine wpAnyH_take (i := 15) (oi := { dst := some 114, op := Go.Op.move (Go.Operand.tmp 2), type := 9, pos := "inner.go:334", after := #[], guard := none }) (v := ?_) rfl (by kernel_rfl) (by kernel_rfl) (by kernel_rfl) (fun _ _ _ h => h) (Or.inl ⟨by rfl, ?_⟩) (by assumption) ?_
        rotate_left
        · intro w' hSw
          obtain ⟨hS1, hS2, hS3⟩ := hSw
          go_simp
          try with_reducible rfl
        (try simp only [Act.put, List.setIfInBounds_toArray, List.set_cons_zero, List.set_cons_succ])
        refine wpAnyH_take (i := 16) (oi := { dst := some 115, op := Go.Op.move (Go.Operand.tmp 15), type := 3, pos := "inner.go:334", after := #[], guard := none }) (v := ?_) rfl (by kernel_rfl) (by kernel_rfl) (by kernel_rfl) (fun _ _ _ h => h) (Or.inl ⟨by rfl, ?_⟩) (by assumption) ?_
        rotate_left
        · intro w' hSw
          obtain ⟨hS1, hS2, hS3⟩ := hSw
          go_simp
          try with_reducible rfl
        (try simp only [Act.put, List.setIfInBounds_toArray, List.set_cons_zero, List.set_cons_succ])
        refine wpAnyH_take (i := 17) (oi := { dst := some 116, op := Go.Op.index 9 (Go.Operand.tmp 114) (Go.Operand.tmp 115), type := 5, pos := "inner.go:334", after := #[{ on := 15, ground := Go.Ground.data }, { on := 16, ground := Go.Ground.data }], guard := none }) (v := ?_) rfl (by kernel_rfl) (by kernel_rfl) (by kernel_rfl) (fun _ _ _ h => h) (Or.inl ⟨by rfl, ?_⟩) (by assumption) ?_
        rotate_left
        · intro w' hSw
          obtain ⟨hS1, hS2, hS3⟩ := hSw
          go_simp
          try with_reducible rfl
        (try simp only [Act.put, List.setIfInBounds_toArray, List.set_cons_zero, List.set_cons_succ])
        refine wpAnyH_ready (rs := [5, 12, 18]) (by kernel_rfl) (by simp) ?_
        refine AllReadyH.cons (o := { dst := some 104, op := Go.Op.buildSlice 55 1 #[(0, Go.Operand.tmp 103)], type := 55, pos := "inner.go:334", after := #[{ on := 4, ground := Go.Ground.data }], guard := none }) rfl (fun K hK => ?_) ?_
        · go_simp
          have hM := hM.build 0 (by decide) rfl 3 (g := ws.heap.size) (by simp)
          refine hK.out _ _ (keepN hlta hltb CX.out CY.out hM.bel) (fun hHeld => ?_)
          clear hK K hHeld0
          rename _ ∧ _ ∧ Bel _ _ => hHeld0
          (try simp only [Act.put, List.setIfInBounds_toArray, List.set_cons_zero, List.set_cons_succ])
          refine wpAnyH_ready (rs := [6, 12, 18]) (by kernel_rfl) (by simp) ?_
          refine AllReadyH.cons (o := { dst := some 105, op := Go.Op.call { callee := Go.Callee.builtin Go.Builtin.append, args := #[Go.Operand.tmp 99, Go.Operand.tmp 104], argTypes := #[55, 55] }, type := 55, pos := "inner.go:334", after := #[{ on := 0, ground := Go.Ground.data }, { on := 5, ground := Go.Ground.data }], guard := none }) rfl (fun K hK => ?_) ?_
          · refine hM.step 0 (by decide) rfl rfl (.tmp 99) (.tmp 104) 55 rfl i03 (.int .i64 0) 8 Try.underlying55 I3.out I31.out I32.out I33.out rfl ?hs ?hx rfl (by unfold maxLen; omega) (by omega) ?_
            case hs => rfl
            case hx => rfl
            intro v1 w1 hM
            refine hK.out _ _ (keepN hlta hltb CX.out CY.out hM.bel) (fun hHeld => ?_)
            clear hK K hHeld0
            rename _ ∧ _ ∧ Bel _ _ => hHeld0
            (try simp only [Act.put, List.setIfInBounds_toArray, List.set_cons_zero, List.set_cons_succ])
            refine wpAnyH_ready (rs := [12, 18]) (by kernel_rfl) (by simp) ?_
            refine AllReadyH.cons (o := { dst := some 111, op := Go.Op.buildSlice 55 1 #[(0, Go.Operand.tmp 110)], type := 55, pos := "inner.go:334", after := #[{ on := 11, ground := Go.Ground.data }], guard := none }) rfl (fun K hK => ?_) ?_
            · go_simp
              have hM := hM.build 1 (by decide) rfl 3 (g := w1.heap.size) (by simp)
              refine hK.out _ _ (keepN hlta hltb CX.out CY.out hM.bel) (fun hHeld => ?_)
              clear hK K hHeld0
              rename _ ∧ _ ∧ Bel _ _ => hHeld0
              (try simp only [Act.put, List.setIfInBounds_toArray, List.set_cons_zero, List.set_cons_succ])
              refine wpAnyH_ready (rs := [13, 18]) (by kernel_rfl) (by simp) ?_
              refine AllReadyH.cons (o := { dst := some 112, op := Go.Op.call { callee := Go.Callee.builtin Go.Builtin.append, args := #[Go.Operand.tmp 106, Go.Operand.tmp 111], argTypes := #[55, 55] }, type := 55, pos := "inner.go:334", after := #[{ on := 7, ground := Go.Ground.data }, { on := 12, ground := Go.Ground.data }, { on := 6, ground := Go.Ground.chain }], guard := none }) rfl (fun K hK => ?_) ?_
              · refine hM.step 1 (by decide) rfl rfl (.tmp 106) (.tmp 111) 55 rfl i03 (.int .i64 0) 8 Try.underlying55 I3.out I31.out I32.out I33.out rfl ?hs ?hx rfl (by unfold maxLen; omega) (by omega) ?_
                case hs => rfl
                case hx => rfl
                intro v2 w2 hM
                refine hK.out _ _ (keepN hlta hltb CX.out CY.out hM.bel) (fun hHeld => ?_)
                clear hK K hHeld0
                rename _ ∧ _ ∧ Bel _ _ => hHeld0
                (try simp only [Act.put, List.setIfInBounds_toArray, List.set_cons_zero, List.set_cons_succ])
                refine wpAnyH_ready (rs := [18]) (by kernel_rfl) (by simp) ?_
                refine AllReadyH.cons (o := { dst := some 117, op := Go.Op.buildSlice 60 1 #[(0, Go.Operand.tmp 116)], type := 60, pos := "inner.go:334", after := #[{ on := 17, ground := Go.Ground.data }], guard := none }) rfl (fun K hK => ?_) ?_
                · go_simp
                  have hM := hM.build 2 (by decide) rfl 5 (g := w2.heap.size) (by simp)
                  refine hK.out _ _ (keepN hlta hltb CX.out CY.out hM.bel) (fun hHeld => ?_)
                  clear hK K hHeld0
                  rename _ ∧ _ ∧ Bel _ _ => hHeld0
                  (try simp only [Act.put, List.setIfInBounds_toArray, List.set_cons_zero, List.set_cons_succ])
                  refine wpAnyH_ready (rs := [19]) (by kernel_rfl) (by simp) ?_
                  refine AllReadyH.cons (o := { dst := some 118, op := Go.Op.call { callee := Go.Callee.builtin Go.Builtin.append, args := #[Go.Operand.tmp 113, Go.Operand.tmp 117], argTypes := #[60, 60] }, type := 60, pos := "inner.go:334", after := #[{ on := 14, ground := Go.Ground.data }, { on := 18, ground := Go.Ground.data }, { on := 13, ground := Go.Ground.chain }], guard := none }) rfl (fun K hK => ?_) ?_
                  · refine hM.step 2 (by decide) rfl rfl (.tmp 113) (.tmp 117) 60 rfl i05 (.int .u8 0) 1 Try.underlying60 I5.out I51.out I52.out I53.out rfl ?hs ?hx rfl (by unfold maxLen; omega) (by omega) ?_
                    case hs => rfl
                    case hx => rfl
                    intro v3 w3 hM
                    refine hK.out _ _ (keepN hlta hltb CX.out CY.out hM.bel) (fun hHeld => ?_)
                    clear hK K hHeld0
                    rename _ ∧ _ ∧ Bel _ _ => hHeld0
                    (try simp only [Act.put, List.setIfInBounds_toArray, List.set_cons_zero, List.set_cons_succ])
                    refine wpAnyH_take (i := 20) (oi := mo20) (v := ?_) rfl (by kernel_rfl) (by kernel_rfl) (by kernel_rfl) (fun _ _ _ h => h) (Or.inl ⟨by rfl, ?_⟩) (by assumption) ?_
                    rotate_left
                    · intro w' hSw
                      obtain ⟨hS1, hS2, hS3⟩ := hSw
                      simp only [mo20]
                      go_simp
                      try with_reducible rfl
                    simp only [mo20]
                    (try simp only [Act.put, List.setIfInBounds_toArray, List.set_cons_zero, List.set_cons_succ])
                    refine wpAnyH_take (i := 21) (oi := mo21) (v := ?_) rfl (by kernel_rfl) (by kernel_rfl) (by kernel_rfl) (fun _ _ _ h => h) (Or.inl ⟨by rfl, ?_⟩) (by assumption) ?_
                    rotate_left
                    · intro w' hSw
                      obtain ⟨hS1, hS2, hS3⟩ := hSw
                      simp only [mo21]
                      go_simp
                      try with_reducible rfl
                    simp only [mo21]
                    (try simp only [Act.put, List.setIfInBounds_toArray, List.set_cons_zero, List.set_cons_succ])
                    refine wpAnyH_take (i := 22) (oi := mo22) (v := ?_) rfl (by kernel_rfl) (by kernel_rfl) (by kernel_rfl) (fun _ _ _ h => h) (Or.inl ⟨by rfl, ?_⟩) (by assumption) ?_
                    rotate_left
                    · intro w' hSw
                      obtain ⟨hS1, hS2, hS3⟩ := hSw
                      simp only [mo22]
                      go_simp
                      try with_reducible rfl
                    simp only [mo22]
                    (try simp only [Act.put, List.setIfInBounds_toArray, List.set_cons_zero, List.set_cons_succ])
                    refine wpAnyH_done (by kernel_rfl) ?_ _
                    refine NoPanic.normal ?_
                    have hF : Hid (St zs ys (nums s) w.heap.size gs w j s.size v3 v1 v2 w3) := Lib.hid (St.step (by omega) ha2 hc2 HX.out HY.out HZ.out HBT.out HSN9.out HSN.out HDIST.out hM.bel hM.seen (hM.row 0 (by decide)) (hM.row 1 (by decide)) (hM.row 2 (by decide)) (hM.dif 0 1 (by decide) (by decide) (by decide)) (hM.dif 0 2 (by decide) (by decide) (by decide)) (hM.dif 1 2 (by decide) (by decide) (by decide)) (hM.difs 0 (by decide)) (hM.difs 1 (by decide)) (hM.difs 2 (by decide)))
                    clear hM
                    go_wp2
                    go_roundw
                    case rel => exact ⟨j, rfl, hF.out⟩
                    case measure => simp [intOf]
                  exact AllReadyH.nil
                exact AllReadyH.nil
              refine AllReadyH.cons (o := { dst := some 117, op := Go.Op.buildSlice 60 1 #[(0, Go.Operand.tmp 116)], type := 60, pos := "inner.go:334", after := #[{ on := 17, ground := Go.Ground.data }], guard := none }) rfl (fun K hK => ?_) ?_
              · go_simp
                have hM := hM.build 2 (by decide) rfl 5 (g := w1.heap.size + 1) (by simp)
                refine hK.out _ _ (keepN hlta hltb CX.out CY.out hM.bel) (fun hHeld => ?_)
                clear hK K hHeld0
                rename _ ∧ _ ∧ Bel _ _ => hHeld0
                (try simp only [Act.put, List.setIfInBounds_toArray, List.set_cons_zero, List.set_cons_succ])
                refine wpAnyH_ready (rs := [13]) (by kernel_rfl) (by simp) ?_
                refine AllReadyH.cons (o := { dst := some 112, op := Go.Op.call { callee := Go.Callee.builtin Go.Builtin.append, args := #[Go.Operand.tmp 106, Go.Operand.tmp 111], argTypes := #[55, 55] }, type := 55, pos := "inner.go:334", after := #[{ on := 7, ground := Go.Ground.data }, { on := 12, ground := Go.Ground.data }, { on := 6, ground := Go.Ground.chain }], guard := none }) rfl (fun K hK => ?_) ?_
                · refine hM.step 1 (by decide) rfl rfl (.tmp 106) (.tmp 111) 55 rfl i03 (.int .i64 0) 8 Try.underlying55 I3.out I31.out I32.out I33.out rfl ?hs ?hx rfl (by unfold maxLen; omega) (by omega) ?_
                  case hs => rfl
                  case hx => rfl
                  intro v2 w2 hM
                  refine hK.out _ _ (keepN hlta hltb CX.out CY.out hM.bel) (fun hHeld => ?_)
                  clear hK K hHeld0
                  rename _ ∧ _ ∧ Bel _ _ => hHeld0
                  (try simp only [Act.put, List.setIfInBounds_toArray, List.set_cons_zero, List.set_cons_succ])
                  refine wpAnyH_ready (rs := [19]) (by kernel_rfl) (by simp) ?_
                  refine AllReadyH.cons (o := { dst := some 118, op := Go.Op.call { callee := Go.Callee.builtin Go.Builtin.append, args := #[Go.Operand.tmp 113, Go.Operand.tmp 117], argTypes := #[60, 60] }, type := 60, pos := "inner.go:334", after := #[{ on := 14, ground := Go.Ground.data }, { on := 18, ground := Go.Ground.data }, { on := 13, ground := Go.Ground.chain }], guard := none }) rfl (fun K hK => ?_) ?_
                  · refine hM.step 2 (by decide) rfl rfl (.tmp 113) (.tmp 117) 60 rfl i05 (.int .u8 0) 1 Try.underlying60 I5.out I51.out I52.out I53.out rfl ?hs ?hx rfl (by unfold maxLen; omega) (by omega) ?_
                    case hs => rfl
                    case hx => rfl
                    intro v3 w3 hM
                    refine hK.out _ _ (keepN hlta hltb CX.out CY.out hM.bel) (fun hHeld => ?_)
                    clear hK K hHeld0
                    rename _ ∧ _ ∧ Bel _ _ => hHeld0
                    (try simp only [Act.put, List.setIfInBounds_toArray, List.set_cons_zero, List.set_cons_succ])
                    refine wpAnyH_take (i := 20) (oi := mo20) (v := ?_) rfl (by kernel_rfl) (by kernel_rfl) (by kernel_rfl) (fun _ _ _ h => h) (Or.inl ⟨by rfl, ?_⟩) (by assumption) ?_
                    rotate_left
                    · intro w' hSw
                      obtain ⟨hS1, hS2, hS3⟩ := hSw
                      simp only [mo20]
                      go_simp
                      try with_reducible rfl
                    simp only [mo20]
                    (try simp only [Act.put, List.setIfInBounds_toArray, List.set_cons_zero, List.set_cons_succ])
                    refine wpAnyH_take (i := 21) (oi := mo21) (v := ?_) rfl (by kernel_rfl) (by kernel_rfl) (by kernel_rfl) (fun _ _ _ h => h) (Or.inl ⟨by rfl, ?_⟩) (by assumption) ?_
                    rotate_left
                    · intro w' hSw
                      obtain ⟨hS1, hS2, hS3⟩ := hSw
                      simp only [mo21]
                      go_simp
                      try with_reducible rfl
                    simp only [mo21]
                    (try simp only [Act.put, List.setIfInBounds_toArray, List.set_cons_zero, List.set_cons_succ])
                    refine wpAnyH_take (i := 22) (oi := mo22) (v := ?_) rfl (by kernel_rfl) (by kernel_rfl) (by kernel_rfl) (fun _ _ _ h => h) (Or.inl ⟨by rfl, ?_⟩) (by assumption) ?_
                    rotate_left
                    · intro w' hSw
                      obtain ⟨hS1, hS2, hS3⟩ := hSw
                      simp only [mo22]
                      go_simp
                      try with_reducible rfl
                    simp only [mo22]
                    (try simp only [Act.put, List.setIfInBounds_toArray, List.set_cons_zero, List.set_cons_succ])
                    refine wpAnyH_done (by kernel_rfl) ?_ _
                    refine NoPanic.normal ?_
                    have hF : Hid (St zs ys (nums s) w.heap.size gs w j s.size v3 v1 v2 w3) := Lib.hid (St.step (by omega) ha2 hc2 HX.out HY.out HZ.out HBT.out HSN9.out HSN.out HDIST.out hM.bel hM.seen (hM.row 0 (by decide)) (hM.row 1 (by decide)) (hM.row 2 (by decide)) (hM.dif 0 1 (by decide) (by decide) (by decide)) (hM.dif 0 2 (by decide) (by decide) (by decide)) (hM.dif 1 2 (by decide) (by decide) (by decide)) (hM.difs 0 (by decide)) (hM.difs 1 (by decide)) (hM.difs 2 (by decide)))
                    clear hM
                    go_wp2
                    go_roundw
                    case rel => exact ⟨j, rfl, hF.out⟩
                    case measure => simp [intOf]
                  exact AllReadyH.nil
                exact AllReadyH.nil
              exact AllReadyH.nil
            refine AllReadyH.cons (o := { dst := some 117, op := Go.Op.buildSlice 60 1 #[(0, Go.Operand.tmp 116)], type := 60, pos := "inner.go:334", after := #[{ on := 17, ground := Go.Ground.data }], guard := none }) rfl (fun K hK => ?_) ?_
            · go_simp
              have hM := hM.build 2 (by decide) rfl 5 (g := w1.heap.size) (by simp)
              refine hK.out _ _ (keepN hlta hltb CX.out CY.out hM.bel) (fun hHeld => ?_)
              clear hK K hHeld0
              rename _ ∧ _ ∧ Bel _ _ => hHeld0
              (try simp only [Act.put, List.setIfInBounds_toArray, List.set_cons_zero, List.set_cons_succ])
              refine wpAnyH_ready (rs := [12]) (by kernel_rfl) (by simp) ?_
              refine AllReadyH.cons (o := { dst := some 111, op := Go.Op.buildSlice 55 1 #[(0, Go.Operand.tmp 110)], type := 55, pos := "inner.go:334", after := #[{ on := 11, ground := Go.Ground.data }], guard := none }) rfl (fun K hK => ?_) ?_
              · go_simp
                have hM := hM.build 1 (by decide) rfl 3 (g := w1.heap.size + 1) (by simp)
                refine hK.out _ _ (keepN hlta hltb CX.out CY.out hM.bel) (fun hHeld => ?_)
                clear hK K hHeld0
                rename _ ∧ _ ∧ Bel _ _ => hHeld0
                (try simp only [Act.put, List.setIfInBounds_toArray, List.set_cons_zero, List.set_cons_succ])
                refine wpAnyH_ready (rs := [13]) (by kernel_rfl) (by simp) ?_
                refine AllReadyH.cons (o := { dst := some 112, op := Go.Op.call { callee := Go.Callee.builtin Go.Builtin.append, args := #[Go.Operand.tmp 106, Go.Operand.tmp 111], argTypes := #[55, 55] }, type := 55, pos := "inner.go:334", after := #[{ on := 7, ground := Go.Ground.data }, { on := 12, ground := Go.Ground.data }, { on := 6, ground := Go.Ground.chain }], guard := none }) rfl (fun K hK => ?_) ?_
                · refine hM.step 1 (by decide) rfl rfl (.tmp 106) (.tmp 111) 55 rfl i03 (.int .i64 0) 8 Try.underlying55 I3.out I31.out I32.out I33.out rfl ?hs ?hx rfl (by unfold maxLen; omega) (by omega) ?_
                  case hs => rfl
                  case hx => rfl
                  intro v2 w2 hM
                  refine hK.out _ _ (keepN hlta hltb CX.out CY.out hM.bel) (fun hHeld => ?_)
                  clear hK K hHeld0
                  rename _ ∧ _ ∧ Bel _ _ => hHeld0
                  (try simp only [Act.put, List.setIfInBounds_toArray, List.set_cons_zero, List.set_cons_succ])
                  refine wpAnyH_ready (rs := [19]) (by kernel_rfl) (by simp) ?_
                  refine AllReadyH.cons (o := { dst := some 118, op := Go.Op.call { callee := Go.Callee.builtin Go.Builtin.append, args := #[Go.Operand.tmp 113, Go.Operand.tmp 117], argTypes := #[60, 60] }, type := 60, pos := "inner.go:334", after := #[{ on := 14, ground := Go.Ground.data }, { on := 18, ground := Go.Ground.data }, { on := 13, ground := Go.Ground.chain }], guard := none }) rfl (fun K hK => ?_) ?_
                  · refine hM.step 2 (by decide) rfl rfl (.tmp 113) (.tmp 117) 60 rfl i05 (.int .u8 0) 1 Try.underlying60 I5.out I51.out I52.out I53.out rfl ?hs ?hx rfl (by unfold maxLen; omega) (by omega) ?_
                    case hs => rfl
                    case hx => rfl
                    intro v3 w3 hM
                    refine hK.out _ _ (keepN hlta hltb CX.out CY.out hM.bel) (fun hHeld => ?_)
                    clear hK K hHeld0
                    rename _ ∧ _ ∧ Bel _ _ => hHeld0
                    (try simp only [Act.put, List.setIfInBounds_toArray, List.set_cons_zero, List.set_cons_succ])
                    refine wpAnyH_take (i := 20) (oi := mo20) (v := ?_) rfl (by kernel_rfl) (by kernel_rfl) (by kernel_rfl) (fun _ _ _ h => h) (Or.inl ⟨by rfl, ?_⟩) (by assumption) ?_
                    rotate_left
                    · intro w' hSw
                      obtain ⟨hS1, hS2, hS3⟩ := hSw
                      simp only [mo20]
                      go_simp
                      try with_reducible rfl
                    simp only [mo20]
                    (try simp only [Act.put, List.setIfInBounds_toArray, List.set_cons_zero, List.set_cons_succ])
                    refine wpAnyH_take (i := 21) (oi := mo21) (v := ?_) rfl (by kernel_rfl) (by kernel_rfl) (by kernel_rfl) (fun _ _ _ h => h) (Or.inl ⟨by rfl, ?_⟩) (by assumption) ?_
                    rotate_left
                    · intro w' hSw
                      obtain ⟨hS1, hS2, hS3⟩ := hSw
                      simp only [mo21]
                      go_simp
                      try with_reducible rfl
                    simp only [mo21]
                    (try simp only [Act.put, List.setIfInBounds_toArray, List.set_cons_zero, List.set_cons_succ])
                    refine wpAnyH_take (i := 22) (oi := mo22) (v := ?_) rfl (by kernel_rfl) (by kernel_rfl) (by kernel_rfl) (fun _ _ _ h => h) (Or.inl ⟨by rfl, ?_⟩) (by assumption) ?_
                    rotate_left
                    · intro w' hSw
                      obtain ⟨hS1, hS2, hS3⟩ := hSw
                      simp only [mo22]
                      go_simp
                      try with_reducible rfl
                    simp only [mo22]
                    (try simp only [Act.put, List.setIfInBounds_toArray, List.set_cons_zero, List.set_cons_succ])
                    refine wpAnyH_done (by kernel_rfl) ?_ _
                    refine NoPanic.normal ?_
                    have hF : Hid (St zs ys (nums s) w.heap.size gs w j s.size v3 v1 v2 w3) := Lib.hid (St.step (by omega) ha2 hc2 HX.out HY.out HZ.out HBT.out HSN9.out HSN.out HDIST.out hM.bel hM.seen (hM.row 0 (by decide)) (hM.row 1 (by decide)) (hM.row 2 (by decide)) (hM.dif 0 1 (by decide) (by decide) (by decide)) (hM.dif 0 2 (by decide) (by decide) (by decide)) (hM.dif 1 2 (by decide) (by decide) (by decide)) (hM.difs 0 (by decide)) (hM.difs 1 (by decide)) (hM.difs 2 (by decide)))
                    clear hM
                    go_wp2
                    go_roundw
                    case rel => exact ⟨j, rfl, hF.out⟩
                    case measure => simp [intOf]
                  exact AllReadyH.nil
                exact AllReadyH.nil
              exact AllReadyH.nil
            exact AllReadyH.nil
          refine AllReadyH.cons (o := { dst := some 111, op := Go.Op.buildSlice 55 1 #[(0, Go.Operand.tmp 110)], type := 55, pos := "inner.go:334", after := #[{ on := 11, ground := Go.Ground.data }], guard := none }) rfl (fun K hK => ?_) ?_
          · go_simp
            have hM := hM.build 1 (by decide) rfl 3 (g := ws.heap.size + 1) (by simp)
            refine hK.out _ _ (keepN hlta hltb CX.out CY.out hM.bel) (fun hHeld => ?_)
            clear hK K hHeld0
            rename _ ∧ _ ∧ Bel _ _ => hHeld0
            (try simp only [Act.put, List.setIfInBounds_toArray, List.set_cons_zero, List.set_cons_succ])
            refine wpAnyH_ready (rs := [6, 18]) (by kernel_rfl) (by simp) ?_
            refine AllReadyH.cons (o := { dst := some 105, op := Go.Op.call { callee := Go.Callee.builtin Go.Builtin.append, args := #[Go.Operand.tmp 99, Go.Operand.tmp 104], argTypes := #[55, 55] }, type := 55, pos := "inner.go:334", after := #[{ on := 0, ground := Go.Ground.data }, { on := 5, ground := Go.Ground.data }], guard := none }) rfl (fun K hK => ?_) ?_
            · refine hM.step 0 (by decide) rfl rfl (.tmp 99) (.tmp 104) 55 rfl i03 (.int .i64 0) 8 Try.underlying55 I3.out I31.out I32.out I33.out rfl ?hs ?hx rfl (by unfold maxLen; omega) (by omega) ?_
              case hs => rfl
              case hx => rfl
              intro v1 w1 hM
              refine hK.out _ _ (keepN hlta hltb CX.out CY.out hM.bel) (fun hHeld => ?_)
              clear hK K hHeld0
              rename _ ∧ _ ∧ Bel _ _ => hHeld0
              (try simp only [Act.put, List.setIfInBounds_toArray, List.set_cons_zero, List.set_cons_succ])
              refine wpAnyH_ready (rs := [13, 18]) (by kernel_rfl) (by simp) ?_
              refine AllReadyH.cons (o := { dst := some 112, op := Go.Op.call { callee := Go.Callee.builtin Go.Builtin.append, args := #[Go.Operand.tmp 106, Go.Operand.tmp 111], argTypes := #[55, 55] }, type := 55, pos := "inner.go:334", after := #[{ on := 7, ground := Go.Ground.data }, { on := 12, ground := Go.Ground.data }, { on := 6, ground := Go.Ground.chain }], guard := none }) rfl (fun K hK => ?_) ?_
              · refine hM.step 1 (by decide) rfl rfl (.tmp 106) (.tmp 111) 55 rfl i03 (.int .i64 0) 8 Try.underlying55 I3.out I31.out I32.out I33.out rfl ?hs ?hx rfl (by unfold maxLen; omega) (by omega) ?_
                case hs => rfl
                case hx => rfl
                intro v2 w2 hM
                refine hK.out _ _ (keepN hlta hltb CX.out CY.out hM.bel) (fun hHeld => ?_)
                clear hK K hHeld0
                rename _ ∧ _ ∧ Bel _ _ => hHeld0
                (try simp only [Act.put, List.setIfInBounds_toArray, List.set_cons_zero, List.set_cons_succ])
                refine wpAnyH_ready (rs := [18]) (by kernel_rfl) (by simp) ?_
                refine AllReadyH.cons (o := { dst := some 117, op := Go.Op.buildSlice 60 1 #[(0, Go.Operand.tmp 116)], type := 60, pos := "inner.go:334", after := #[{ on := 17, ground := Go.Ground.data }], guard := none }) rfl (fun K hK => ?_) ?_
                · go_simp
                  have hM := hM.build 2 (by decide) rfl 5 (g := w2.heap.size) (by simp)
                  refine hK.out _ _ (keepN hlta hltb CX.out CY.out hM.bel) (fun hHeld => ?_)
                  clear hK K hHeld0
                  rename _ ∧ _ ∧ Bel _ _ => hHeld0
                  (try simp only [Act.put, List.setIfInBounds_toArray, List.set_cons_zero, List.set_cons_succ])
                  refine wpAnyH_ready (rs := [19]) (by kernel_rfl) (by simp) ?_
                  refine AllReadyH.cons (o := { dst := some 118, op := Go.Op.call { callee := Go.Callee.builtin Go.Builtin.append, args := #[Go.Operand.tmp 113, Go.Operand.tmp 117], argTypes := #[60, 60] }, type := 60, pos := "inner.go:334", after := #[{ on := 14, ground := Go.Ground.data }, { on := 18, ground := Go.Ground.data }, { on := 13, ground := Go.Ground.chain }], guard := none }) rfl (fun K hK => ?_) ?_
                  · refine hM.step 2 (by decide) rfl rfl (.tmp 113) (.tmp 117) 60 rfl i05 (.int .u8 0) 1 Try.underlying60 I5.out I51.out I52.out I53.out rfl ?hs ?hx rfl (by unfold maxLen; omega) (by omega) ?_
                    case hs => rfl
                    case hx => rfl
                    intro v3 w3 hM
                    refine hK.out _ _ (keepN hlta hltb CX.out CY.out hM.bel) (fun hHeld => ?_)
                    clear hK K hHeld0
                    rename _ ∧ _ ∧ Bel _ _ => hHeld0
                    (try simp only [Act.put, List.setIfInBounds_toArray, List.set_cons_zero, List.set_cons_succ])
                    refine wpAnyH_take (i := 20) (oi := mo20) (v := ?_) rfl (by kernel_rfl) (by kernel_rfl) (by kernel_rfl) (fun _ _ _ h => h) (Or.inl ⟨by rfl, ?_⟩) (by assumption) ?_
                    rotate_left
                    · intro w' hSw
                      obtain ⟨hS1, hS2, hS3⟩ := hSw
                      simp only [mo20]
                      go_simp
                      try with_reducible rfl
                    simp only [mo20]
                    (try simp only [Act.put, List.setIfInBounds_toArray, List.set_cons_zero, List.set_cons_succ])
                    refine wpAnyH_take (i := 21) (oi := mo21) (v := ?_) rfl (by kernel_rfl) (by kernel_rfl) (by kernel_rfl) (fun _ _ _ h => h) (Or.inl ⟨by rfl, ?_⟩) (by assumption) ?_
                    rotate_left
                    · intro w' hSw
                      obtain ⟨hS1, hS2, hS3⟩ := hSw
                      simp only [mo21]
                      go_simp
                      try with_reducible rfl
                    simp only [mo21]
                    (try simp only [Act.put, List.setIfInBounds_toArray, List.set_cons_zero, List.set_cons_succ])
                    refine wpAnyH_take (i := 22) (oi := mo22) (v := ?_) rfl (by kernel_rfl) (by kernel_rfl) (by kernel_rfl) (fun _ _ _ h => h) (Or.inl ⟨by rfl, ?_⟩) (by assumption) ?_
                    rotate_left
                    · intro w' hSw
                      obtain ⟨hS1, hS2, hS3⟩ := hSw
                      simp only [mo22]
                      go_simp
                      try with_reducible rfl
                    simp only [mo22]
                    (try simp only [Act.put, List.setIfInBounds_toArray, List.set_cons_zero, List.set_cons_succ])
                    refine wpAnyH_done (by kernel_rfl) ?_ _
                    refine NoPanic.normal ?_
                    have hF : Hid (St zs ys (nums s) w.heap.size gs w j s.size v3 v1 v2 w3) := Lib.hid (St.step (by omega) ha2 hc2 HX.out HY.out HZ.out HBT.out HSN9.out HSN.out HDIST.out hM.bel hM.seen (hM.row 0 (by decide)) (hM.row 1 (by decide)) (hM.row 2 (by decide)) (hM.dif 0 1 (by decide) (by decide) (by decide)) (hM.dif 0 2 (by decide) (by decide) (by decide)) (hM.dif 1 2 (by decide) (by decide) (by decide)) (hM.difs 0 (by decide)) (hM.difs 1 (by decide)) (hM.difs 2 (by decide)))
                    clear hM
                    go_wp2
                    go_roundw
                    case rel => exact ⟨j, rfl, hF.out⟩
                    case measure => simp [intOf]
                  exact AllReadyH.nil
                exact AllReadyH.nil
              refine AllReadyH.cons (o := { dst := some 117, op := Go.Op.buildSlice 60 1 #[(0, Go.Operand.tmp 116)], type := 60, pos := "inner.go:334", after := #[{ on := 17, ground := Go.Ground.data }], guard := none }) rfl (fun K hK => ?_) ?_
              · go_simp
                have hM := hM.build 2 (by decide) rfl 5 (g := w1.heap.size) (by simp)
                refine hK.out _ _ (keepN hlta hltb CX.out CY.out hM.bel) (fun hHeld => ?_)
                clear hK K hHeld0
                rename _ ∧ _ ∧ Bel _ _ => hHeld0
                (try simp only [Act.put, List.setIfInBounds_toArray, List.set_cons_zero, List.set_cons_succ])
                refine wpAnyH_ready (rs := [13]) (by kernel_rfl) (by simp) ?_
                refine AllReadyH.cons (o := { dst := some 112, op := Go.Op.call { callee := Go.Callee.builtin Go.Builtin.append, args := #[Go.Operand.tmp 106, Go.Operand.tmp 111], argTypes := #[55, 55] }, type := 55, pos := "inner.go:334", after := #[{ on := 7, ground := Go.Ground.data }, { on := 12, ground := Go.Ground.data }, { on := 6, ground := Go.Ground.chain }], guard := none }) rfl (fun K hK => ?_) ?_
                · refine hM.step 1 (by decide) rfl rfl (.tmp 106) (.tmp 111) 55 rfl i03 (.int .i64 0) 8 Try.underlying55 I3.out I31.out I32.out I33.out rfl ?hs ?hx rfl (by unfold maxLen; omega) (by omega) ?_
                  case hs => rfl
                  case hx => rfl
                  intro v2 w2 hM
                  refine hK.out _ _ (keepN hlta hltb CX.out CY.out hM.bel) (fun hHeld => ?_)
                  clear hK K hHeld0
                  rename _ ∧ _ ∧ Bel _ _ => hHeld0
                  (try simp only [Act.put, List.setIfInBounds_toArray, List.set_cons_zero, List.set_cons_succ])
                  refine wpAnyH_ready (rs := [19]) (by kernel_rfl) (by simp) ?_
                  refine AllReadyH.cons (o := { dst := some 118, op := Go.Op.call { callee := Go.Callee.builtin Go.Builtin.append, args := #[Go.Operand.tmp 113, Go.Operand.tmp 117], argTypes := #[60, 60] }, type := 60, pos := "inner.go:334", after := #[{ on := 14, ground := Go.Ground.data }, { on := 18, ground := Go.Ground.data }, { on := 13, ground := Go.Ground.chain }], guard := none }) rfl (fun K hK => ?_) ?_
                  · refine hM.step 2 (by decide) rfl rfl (.tmp 113) (.tmp 117) 60 rfl i05 (.int .u8 0) 1 Try.underlying60 I5.out I51.out I52.out I53.out rfl ?hs ?hx rfl (by unfold maxLen; omega) (by omega) ?_
                    case hs => rfl
                    case hx => rfl
                    intro v3 w3 hM
                    refine hK.out _ _ (keepN hlta hltb CX.out CY.out hM.bel) (fun hHeld => ?_)
                    clear hK K hHeld0
                    rename _ ∧ _ ∧ Bel _ _ => hHeld0
                    (try simp only [Act.put, List.setIfInBounds_toArray, List.set_cons_zero, List.set_cons_succ])
                    refine wpAnyH_take (i := 20) (oi := mo20) (v := ?_) rfl (by kernel_rfl) (by kernel_rfl) (by kernel_rfl) (fun _ _ _ h => h) (Or.inl ⟨by rfl, ?_⟩) (by assumption) ?_
                    rotate_left
                    · intro w' hSw
                      obtain ⟨hS1, hS2, hS3⟩ := hSw
                      simp only [mo20]
                      go_simp
                      try with_reducible rfl
                    simp only [mo20]
                    (try simp only [Act.put, List.setIfInBounds_toArray, List.set_cons_zero, List.set_cons_succ])
                    refine wpAnyH_take (i := 21) (oi := mo21) (v := ?_) rfl (by kernel_rfl) (by kernel_rfl) (by kernel_rfl) (fun _ _ _ h => h) (Or.inl ⟨by rfl, ?_⟩) (by assumption) ?_
                    rotate_left
                    · intro w' hSw
                      obtain ⟨hS1, hS2, hS3⟩ := hSw
                      simp only [mo21]
                      go_simp
                      try with_reducible rfl
                    simp only [mo21]
                    (try simp only [Act.put, List.setIfInBounds_toArray, List.set_cons_zero, List.set_cons_succ])
                    refine wpAnyH_take (i := 22) (oi := mo22) (v := ?_) rfl (by kernel_rfl) (by kernel_rfl) (by kernel_rfl) (fun _ _ _ h => h) (Or.inl ⟨by rfl, ?_⟩) (by assumption) ?_
                    rotate_left
                    · intro w' hSw
                      obtain ⟨hS1, hS2, hS3⟩ := hSw
                      simp only [mo22]
                      go_simp
                      try with_reducible rfl
                    simp only [mo22]
                    (try simp only [Act.put, List.setIfInBounds_toArray, List.set_cons_zero, List.set_cons_succ])
                    refine wpAnyH_done (by kernel_rfl) ?_ _
                    refine NoPanic.normal ?_
                    have hF : Hid (St zs ys (nums s) w.heap.size gs w j s.size v3 v1 v2 w3) := Lib.hid (St.step (by omega) ha2 hc2 HX.out HY.out HZ.out HBT.out HSN9.out HSN.out HDIST.out hM.bel hM.seen (hM.row 0 (by decide)) (hM.row 1 (by decide)) (hM.row 2 (by decide)) (hM.dif 0 1 (by decide) (by decide) (by decide)) (hM.dif 0 2 (by decide) (by decide) (by decide)) (hM.dif 1 2 (by decide) (by decide) (by decide)) (hM.difs 0 (by decide)) (hM.difs 1 (by decide)) (hM.difs 2 (by decide)))
                    clear hM
                    go_wp2
                    go_roundw
                    case rel => exact ⟨j, rfl, hF.out⟩
                    case measure => simp [intOf]
                  exact AllReadyH.nil
                exact AllReadyH.nil
              exact AllReadyH.nil
            refine AllReadyH.cons (o := { dst := some 117, op := Go.Op.buildSlice 60 1 #[(0, Go.Operand.tmp 116)], type := 60, pos := "inner.go:334", after := #[{ on := 17, ground := Go.Ground.data }], guard := none }) rfl (fun K hK => ?_) ?_
            · go_simp
              have hM := hM.build 2 (by decide) rfl 5 (g := ws.heap.size + 2) (by simp)
              refine hK.out _ _ (keepN hlta hltb CX.out CY.out hM.bel) (fun hHeld => ?_)
              clear hK K hHeld0
              rename _ ∧ _ ∧ Bel _ _ => hHeld0
              (try simp only [Act.put, List.setIfInBounds_toArray, List.set_cons_zero, List.set_cons_succ])
              refine wpAnyH_ready (rs := [6]) (by kernel_rfl) (by simp) ?_
              refine AllReadyH.cons (o := { dst := some 105, op := Go.Op.call { callee := Go.Callee.builtin Go.Builtin.append, args := #[Go.Operand.tmp 99, Go.Operand.tmp 104], argTypes := #[55, 55] }, type := 55, pos := "inner.go:334", after := #[{ on := 0, ground := Go.Ground.data }, { on := 5, ground := Go.Ground.data }], guard := none }) rfl (fun K hK => ?_) ?_
              · refine hM.step 0 (by decide) rfl rfl (.tmp 99) (.tmp 104) 55 rfl i03 (.int .i64 0) 8 Try.underlying55 I3.out I31.out I32.out I33.out rfl ?hs ?hx rfl (by unfold maxLen; omega) (by omega) ?_
                case hs => rfl
                case hx => rfl
                intro v1 w1 hM
                refine hK.out _ _ (keepN hlta hltb CX.out CY.out hM.bel) (fun hHeld => ?_)
                clear hK K hHeld0
                rename _ ∧ _ ∧ Bel _ _ => hHeld0
                (try simp only [Act.put, List.setIfInBounds_toArray, List.set_cons_zero, List.set_cons_succ])
                refine wpAnyH_ready (rs := [13]) (by kernel_rfl) (by simp) ?_
                refine AllReadyH.cons (o := { dst := some 112, op := Go.Op.call { callee := Go.Callee.builtin Go.Builtin.append, args := #[Go.Operand.tmp 106, Go.Operand.tmp 111], argTypes := #[55, 55] }, type := 55, pos := "inner.go:334", after := #[{ on := 7, ground := Go.Ground.data }, { on := 12, ground := Go.Ground.data }, { on := 6, ground := Go.Ground.chain }], guard := none }) rfl (fun K hK => ?_) ?_
                · refine hM.step 1 (by decide) rfl rfl (.tmp 106) (.tmp 111) 55 rfl i03 (.int .i64 0) 8 Try.underlying55 I3.out I31.out I32.out I33.out rfl ?hs ?hx rfl (by unfold maxLen; omega) (by omega) ?_
                  case hs => rfl
                  case hx => rfl
                  intro v2 w2 hM
                  refine hK.out _ _ (keepN hlta hltb CX.out CY.out hM.bel) (fun hHeld => ?_)
                  clear hK K hHeld0
                  rename _ ∧ _ ∧ Bel _ _ => hHeld0
                  (try simp only [Act.put, List.setIfInBounds_toArray, List.set_cons_zero, List.set_cons_succ])
                  refine wpAnyH_ready (rs := [19]) (by kernel_rfl) (by simp) ?_
                  refine AllReadyH.cons (o := { dst := some 118, op := Go.Op.call { callee := Go.Callee.builtin Go.Builtin.append, args := #[Go.Operand.tmp 113, Go.Operand.tmp 117], argTypes := #[60, 60] }, type := 60, pos := "inner.go:334", after := #[{ on := 14, ground := Go.Ground.data }, { on := 18, ground := Go.Ground.data }, { on := 13, ground := Go.Ground.chain }], guard := none }) rfl (fun K hK => ?_) ?_
                  · refine hM.step 2 (by decide) rfl rfl (.tmp 113) (.tmp 117) 60 rfl i05 (.int .u8 0) 1 Try.underlying60 I5.out I51.out I52.out I53.out rfl ?hs ?hx rfl (by unfold maxLen; omega) (by omega) ?_
                    case hs => rfl
                    case hx => rfl
                    intro v3 w3 hM
                    refine hK.out _ _ (keepN hlta hltb CX.out CY.out hM.bel) (fun hHeld => ?_)
                    clear hK K hHeld0
                    rename _ ∧ _ ∧ Bel _ _ => hHeld0
                    (try simp only [Act.put, List.setIfInBounds_toArray, List.set_cons_zero, List.set_cons_succ])
                    refine wpAnyH_take (i := 20) (oi := mo20) (v := ?_) rfl (by kernel_rfl) (by kernel_rfl) (by kernel_rfl) (fun _ _ _ h => h) (Or.inl ⟨by rfl, ?_⟩) (by assumption) ?_
                    rotate_left
                    · intro w' hSw
                      obtain ⟨hS1, hS2, hS3⟩ := hSw
                      simp only [mo20]
                      go_simp
                      try with_reducible rfl
                    simp only [mo20]
                    (try simp only [Act.put, List.setIfInBounds_toArray, List.set_cons_zero, List.set_cons_succ])
                    refine wpAnyH_take (i := 21) (oi := mo21) (v := ?_) rfl (by kernel_rfl) (by kernel_rfl) (by kernel_rfl) (fun _ _ _ h => h) (Or.inl ⟨by rfl, ?_⟩) (by assumption) ?_
                    rotate_left
                    · intro w' hSw
                      obtain ⟨hS1, hS2, hS3⟩ := hSw
                      simp only [mo21]
                      go_simp
                      try with_reducible rfl
                    simp only [mo21]
                    (try simp only [Act.put, List.setIfInBounds_toArray, List.set_cons_zero, List.set_cons_succ])
                    refine wpAnyH_take (i := 22) (oi := mo22) (v := ?_) rfl (by kernel_rfl) (by kernel_rfl) (by kernel_rfl) (fun _ _ _ h => h) (Or.inl ⟨by rfl, ?_⟩) (by assumption) ?_
                    rotate_left
                    · intro w' hSw
                      obtain ⟨hS1, hS2, hS3⟩ := hSw
                      simp only [mo22]
                      go_simp
                      try with_reducible rfl
                    simp only [mo22]
                    (try simp only [Act.put, List.setIfInBounds_toArray, List.set_cons_zero, List.set_cons_succ])
                    refine wpAnyH_done (by kernel_rfl) ?_ _
                    refine NoPanic.normal ?_
                    have hF : Hid (St zs ys (nums s) w.heap.size gs w j s.size v3 v1 v2 w3) := Lib.hid (St.step (by omega) ha2 hc2 HX.out HY.out HZ.out HBT.out HSN9.out HSN.out HDIST.out hM.bel hM.seen (hM.row 0 (by decide)) (hM.row 1 (by decide)) (hM.row 2 (by decide)) (hM.dif 0 1 (by decide) (by decide) (by decide)) (hM.dif 0 2 (by decide) (by decide) (by decide)) (hM.dif 1 2 (by decide) (by decide) (by decide)) (hM.difs 0 (by decide)) (hM.difs 1 (by decide)) (hM.difs 2 (by decide)))
                    clear hM
                    go_wp2
                    go_roundw
                    case rel => exact ⟨j, rfl, hF.out⟩
                    case measure => simp [intOf]
                  exact AllReadyH.nil
                exact AllReadyH.nil
              exact AllReadyH.nil
            exact AllReadyH.nil
          refine AllReadyH.cons (o := { dst := some 117, op := Go.Op.buildSlice 60 1 #[(0, Go.Operand.tmp 116)], type := 60, pos := "inner.go:334", after := #[{ on := 17, ground := Go.Ground.data }], guard := none }) rfl (fun K hK => ?_) ?_
          · go_simp
            have hM := hM.build 2 (by decide) rfl 5 (g := ws.heap.size + 1) (by simp)
            refine hK.out _ _ (keepN hlta hltb CX.out CY.out hM.bel) (fun hHeld => ?_)
            clear hK K hHeld0
            rename _ ∧ _ ∧ Bel _ _ => hHeld0
            (try simp only [Act.put, List.setIfInBounds_toArray, List.set_cons_zero, List.set_cons_succ])
            refine wpAnyH_ready (rs := [6, 12]) (by kernel_rfl) (by simp) ?_
            refine AllReadyH.cons (o := { dst := some 105, op := Go.Op.call { callee := Go.Callee.builtin Go.Builtin.append, args := #[Go.Operand.tmp 99, Go.Operand.tmp 104], argTypes := #[55, 55] }, type := 55, pos := "inner.go:334", after := #[{ on := 0, ground := Go.Ground.data }, { on := 5, ground := Go.Ground.data }], guard := none }) rfl (fun K hK => ?_) ?_
            · refine hM.step 0 (by decide) rfl rfl (.tmp 99) (.tmp 104) 55 rfl i03 (.int .i64 0) 8 Try.underlying55 I3.out I31.out I32.out I33.out rfl ?hs ?hx rfl (by unfold maxLen; omega) (by omega) ?_
              case hs => rfl
              case hx => rfl
              intro v1 w1 hM
              refine hK.out _ _ (keepN hlta hltb CX.out CY.out hM.bel) (fun hHeld => ?_)
              clear hK K hHeld0
              rename _ ∧ _ ∧ Bel _ _ => hHeld0
              (try simp only [Act.put, List.setIfInBounds_toArray, List.set_cons_zero, List.set_cons_succ])
              refine wpAnyH_ready (rs := [12]) (by kernel_rfl) (by simp) ?_
              refine AllReadyH.cons (o := { dst := some 111, op := Go.Op.buildSlice 55 1 #[(0, Go.Operand.tmp 110)], type := 55, pos := "inner.go:334", after := #[{ on := 11, ground := Go.Ground.data }], guard := none }) rfl (fun K hK => ?_) ?_
              · go_simp
                have hM := hM.build 1 (by decide) rfl 3 (g := w1.heap.size) (by simp)
                refine hK.out _ _ (keepN hlta hltb CX.out CY.out hM.bel) (fun hHeld => ?_)
                clear hK K hHeld0
                rename _ ∧ _ ∧ Bel _ _ => hHeld0
                (try simp only [Act.put, List.setIfInBounds_toArray, List.set_cons_zero, List.set_cons_succ])
                refine wpAnyH_ready (rs := [13]) (by kernel_rfl) (by simp) ?_
                refine AllReadyH.cons (o := { dst := some 112, op := Go.Op.call { callee := Go.Callee.builtin Go.Builtin.append, args := #[Go.Operand.tmp 106, Go.Operand.tmp 111], argTypes := #[55, 55] }, type := 55, pos := "inner.go:334", after := #[{ on := 7, ground := Go.Ground.data }, { on := 12, ground := Go.Ground.data }, { on := 6, ground := Go.Ground.chain }], guard := none }) rfl (fun K hK => ?_) ?_
                · refine hM.step 1 (by decide) rfl rfl (.tmp 106) (.tmp 111) 55 rfl i03 (.int .i64 0) 8 Try.underlying55 I3.out I31.out I32.out I33.out rfl ?hs ?hx rfl (by unfold maxLen; omega) (by omega) ?_
                  case hs => rfl
                  case hx => rfl
                  intro v2 w2 hM
                  refine hK.out _ _ (keepN hlta hltb CX.out CY.out hM.bel) (fun hHeld => ?_)
                  clear hK K hHeld0
                  rename _ ∧ _ ∧ Bel _ _ => hHeld0
                  (try simp only [Act.put, List.setIfInBounds_toArray, List.set_cons_zero, List.set_cons_succ])
                  refine wpAnyH_ready (rs := [19]) (by kernel_rfl) (by simp) ?_
                  refine AllReadyH.cons (o := { dst := some 118, op := Go.Op.call { callee := Go.Callee.builtin Go.Builtin.append, args := #[Go.Operand.tmp 113, Go.Operand.tmp 117], argTypes := #[60, 60] }, type := 60, pos := "inner.go:334", after := #[{ on := 14, ground := Go.Ground.data }, { on := 18, ground := Go.Ground.data }, { on := 13, ground := Go.Ground.chain }], guard := none }) rfl (fun K hK => ?_) ?_
                  · refine hM.step 2 (by decide) rfl rfl (.tmp 113) (.tmp 117) 60 rfl i05 (.int .u8 0) 1 Try.underlying60 I5.out I51.out I52.out I53.out rfl ?hs ?hx rfl (by unfold maxLen; omega) (by omega) ?_
                    case hs => rfl
                    case hx => rfl
                    intro v3 w3 hM
                    refine hK.out _ _ (keepN hlta hltb CX.out CY.out hM.bel) (fun hHeld => ?_)
                    clear hK K hHeld0
                    rename _ ∧ _ ∧ Bel _ _ => hHeld0
                    (try simp only [Act.put, List.setIfInBounds_toArray, List.set_cons_zero, List.set_cons_succ])
                    refine wpAnyH_take (i := 20) (oi := mo20) (v := ?_) rfl (by kernel_rfl) (by kernel_rfl) (by kernel_rfl) (fun _ _ _ h => h) (Or.inl ⟨by rfl, ?_⟩) (by assumption) ?_
                    rotate_left
                    · intro w' hSw
                      obtain ⟨hS1, hS2, hS3⟩ := hSw
                      simp only [mo20]
                      go_simp
                      try with_reducible rfl
                    simp only [mo20]
                    (try simp only [Act.put, List.setIfInBounds_toArray, List.set_cons_zero, List.set_cons_succ])
                    refine wpAnyH_take (i := 21) (oi := mo21) (v := ?_) rfl (by kernel_rfl) (by kernel_rfl) (by kernel_rfl) (fun _ _ _ h => h) (Or.inl ⟨by rfl, ?_⟩) (by assumption) ?_
                    rotate_left
                    · intro w' hSw
                      obtain ⟨hS1, hS2, hS3⟩ := hSw
                      simp only [mo21]
                      go_simp
                      try with_reducible rfl
                    simp only [mo21]
                    (try simp only [Act.put, List.setIfInBounds_toArray, List.set_cons_zero, List.set_cons_succ])
                    refine wpAnyH_take (i := 22) (oi := mo22) (v := ?_) rfl (by kernel_rfl) (by kernel_rfl) (by kernel_rfl) (fun _ _ _ h => h) (Or.inl ⟨by rfl, ?_⟩) (by assumption) ?_
                    rotate_left
                    · intro w' hSw
                      obtain ⟨hS1, hS2, hS3⟩ := hSw
                      simp only [mo22]
                      go_simp
                      try with_reducible rfl
                    simp only [mo22]
                    (try simp only [Act.put, List.setIfInBounds_toArray, List.set_cons_zero, List.set_cons_succ])
                    refine wpAnyH_done (by kernel_rfl) ?_ _
                    refine NoPanic.normal ?_
                    have hF : Hid (St zs ys (nums s) w.heap.size gs w j s.size v3 v1 v2 w3) := Lib.hid (St.step (by omega) ha2 hc2 HX.out HY.out HZ.out HBT.out HSN9.out HSN.out HDIST.out hM.bel hM.seen (hM.row 0 (by decide)) (hM.row 1 (by decide)) (hM.row 2 (by decide)) (hM.dif 0 1 (by decide) (by decide) (by decide)) (hM.dif 0 2 (by decide) (by decide) (by decide)) (hM.dif 1 2 (by decide) (by decide) (by decide)) (hM.difs 0 (by decide)) (hM.difs 1 (by decide)) (hM.difs 2 (by decide)))
                    clear hM
                    go_wp2
                    go_roundw
                    case rel => exact ⟨j, rfl, hF.out⟩
                    case measure => simp [intOf]
                  exact AllReadyH.nil
                exact AllReadyH.nil
              exact AllReadyH.nil
            refine AllReadyH.cons (o := { dst := some 111, op := Go.Op.buildSlice 55 1 #[(0, Go.Operand.tmp 110)], type := 55, pos := "inner.go:334", after := #[{ on := 11, ground := Go.Ground.data }], guard := none }) rfl (fun K hK => ?_) ?_
            · go_simp
              have hM := hM.build 1 (by decide) rfl 3 (g := ws.heap.size + 2) (by simp)
              refine hK.out _ _ (keepN hlta hltb CX.out CY.out hM.bel) (fun hHeld => ?_)
              clear hK K hHeld0
              rename _ ∧ _ ∧ Bel _ _ => hHeld0
              (try simp only [Act.put, List.setIfInBounds_toArray, List.set_cons_zero, List.set_cons_succ])
              refine wpAnyH_ready (rs := [6]) (by kernel_rfl) (by simp) ?_
              refine AllReadyH.cons (o := { dst := some 105, op := Go.Op.call { callee := Go.Callee.builtin Go.Builtin.append, args := #[Go.Operand.tmp 99, Go.Operand.tmp 104], argTypes := #[55, 55] }, type := 55, pos := "inner.go:334", after := #[{ on := 0, ground := Go.Ground.data }, { on := 5, ground := Go.Ground.data }], guard := none }) rfl (fun K hK => ?_) ?_
              · refine hM.step 0 (by decide) rfl rfl (.tmp 99) (.tmp 104) 55 rfl i03 (.int .i64 0) 8 Try.underlying55 I3.out I31.out I32.out I33.out rfl ?hs ?hx rfl (by unfold maxLen; omega) (by omega) ?_
                case hs => rfl
                case hx => rfl
                intro v1 w1 hM
                refine hK.out _ _ (keepN hlta hltb CX.out CY.out hM.bel) (fun hHeld => ?_)
                clear hK K hHeld0
                rename _ ∧ _ ∧ Bel _ _ => hHeld0
                (try simp only [Act.put, List.setIfInBounds_toArray, List.set_cons_zero, List.set_cons_succ])
                refine wpAnyH_ready (rs := [13]) (by kernel_rfl) (by simp) ?_
                refine AllReadyH.cons (o := { dst := some 112, op := Go.Op.call { callee := Go.Callee.builtin Go.Builtin.append, args := #[Go.Operand.tmp 106, Go.Operand.tmp 111], argTypes := #[55, 55] }, type := 55, pos := "inner.go:334", after := #[{ on := 7, ground := Go.Ground.data }, { on := 12, ground := Go.Ground.data }, { on := 6, ground := Go.Ground.chain }], guard := none }) rfl (fun K hK => ?_) ?_
                · refine hM.step 1 (by decide) rfl rfl (.tmp 106) (.tmp 111) 55 rfl i03 (.int .i64 0) 8 Try.underlying55 I3.out I31.out I32.out I33.out rfl ?hs ?hx rfl (by unfold maxLen; omega) (by omega) ?_
                  case hs => rfl
                  case hx => rfl
                  intro v2 w2 hM
                  refine hK.out _ _ (keepN hlta hltb CX.out CY.out hM.bel) (fun hHeld => ?_)
                  clear hK K hHeld0
                  rename _ ∧ _ ∧ Bel _ _ => hHeld0
                  (try simp only [Act.put, List.setIfInBounds_toArray, List.set_cons_zero, List.set_cons_succ])
                  refine wpAnyH_ready (rs := [19]) (by kernel_rfl) (by simp) ?_
                  refine AllReadyH.cons (o := { dst := some 118, op := Go.Op.call { callee := Go.Callee.builtin Go.Builtin.append, args := #[Go.Operand.tmp 113, Go.Operand.tmp 117], argTypes := #[60, 60] }, type := 60, pos := "inner.go:334", after := #[{ on := 14, ground := Go.Ground.data }, { on := 18, ground := Go.Ground.data }, { on := 13, ground := Go.Ground.chain }], guard := none }) rfl (fun K hK => ?_) ?_
                  · refine hM.step 2 (by decide) rfl rfl (.tmp 113) (.tmp 117) 60 rfl i05 (.int .u8 0) 1 Try.underlying60 I5.out I51.out I52.out I53.out rfl ?hs ?hx rfl (by unfold maxLen; omega) (by omega) ?_
                    case hs => rfl
                    case hx => rfl
                    intro v3 w3 hM
                    refine hK.out _ _ (keepN hlta hltb CX.out CY.out hM.bel) (fun hHeld => ?_)
                    clear hK K hHeld0
                    rename _ ∧ _ ∧ Bel _ _ => hHeld0
                    (try simp only [Act.put, List.setIfInBounds_toArray, List.set_cons_zero, List.set_cons_succ])
                    refine wpAnyH_take (i := 20) (oi := mo20) (v := ?_) rfl (by kernel_rfl) (by kernel_rfl) (by kernel_rfl) (fun _ _ _ h => h) (Or.inl ⟨by rfl, ?_⟩) (by assumption) ?_
                    rotate_left
                    · intro w' hSw
                      obtain ⟨hS1, hS2, hS3⟩ := hSw
                      simp only [mo20]
                      go_simp
                      try with_reducible rfl
                    simp only [mo20]
                    (try simp only [Act.put, List.setIfInBounds_toArray, List.set_cons_zero, List.set_cons_succ])
                    refine wpAnyH_take (i := 21) (oi := mo21) (v := ?_) rfl (by kernel_rfl) (by kernel_rfl) (by kernel_rfl) (fun _ _ _ h => h) (Or.inl ⟨by rfl, ?_⟩) (by assumption) ?_
                    rotate_left
                    · intro w' hSw
                      obtain ⟨hS1, hS2, hS3⟩ := hSw
                      simp only [mo21]
                      go_simp
                      try with_reducible rfl
                    simp only [mo21]
                    (try simp only [Act.put, List.setIfInBounds_toArray, List.set_cons_zero, List.set_cons_succ])
                    refine wpAnyH_take (i := 22) (oi := mo22) (v := ?_) rfl (by kernel_rfl) (by kernel_rfl) (by kernel_rfl) (fun _ _ _ h => h) (Or.inl ⟨by rfl, ?_⟩) (by assumption) ?_
                    rotate_left
                    · intro w' hSw
                      obtain ⟨hS1, hS2, hS3⟩ := hSw
                      simp only [mo22]
                      go_simp
                      try with_reducible rfl
                    simp only [mo22]
                    (try simp only [Act.put, List.setIfInBounds_toArray, List.set_cons_zero, List.set_cons_succ])
                    refine wpAnyH_done (by kernel_rfl) ?_ _
                    refine NoPanic.normal ?_
                    have hF : Hid (St zs ys (nums s) w.heap.size gs w j s.size v3 v1 v2 w3) := Lib.hid (St.step (by omega) ha2 hc2 HX.out HY.out HZ.out HBT.out HSN9.out HSN.out HDIST.out hM.bel hM.seen (hM.row 0 (by decide)) (hM.row 1 (by decide)) (hM.row 2 (by decide)) (hM.dif 0 1 (by decide) (by decide) (by decide)) (hM.dif 0 2 (by decide) (by decide) (by decide)) (hM.dif 1 2 (by decide) (by decide) (by decide)) (hM.difs 0 (by decide)) (hM.difs 1 (by decide)) (hM.difs 2 (by decide)))
                    clear hM
                    go_wp2
                    go_roundw
                    case rel => exact ⟨j, rfl, hF.out⟩
                    case measure => simp [intOf]
                  exact AllReadyH.nil
                exact AllReadyH.nil
              exact AllReadyH.nil
            exact AllReadyH.nil
          exact AllReadyH.nil
        refine AllReadyH.cons (o := { dst := some 111, op := Go.Op.buildSlice 55 1 #[(0, Go.Operand.tmp 110)], type := 55, pos := "inner.go:334", after := #[{ on := 11, ground := Go.Ground.data }], guard := none }) rfl (fun K hK => ?_) ?_
        · go_simp
          have hM := hM.build 1 (by decide) rfl 3 (g := ws.heap.size) (by simp)
          refine hK.out _ _ (keepN hlta hltb CX.out CY.out hM.bel) (fun hHeld => ?_)
          clear hK K hHeld0
          rename _ ∧ _ ∧ Bel _ _ => hHeld0
          (try simp only [Act.put, List.setIfInBounds_toArray, List.set_cons_zero, List.set_cons_succ])
          refine wpAnyH_ready (rs := [5, 18]) (by kernel_rfl) (by simp) ?_
          refine AllReadyH.cons (o := { dst := some 104, op := Go.Op.buildSlice 55 1 #[(0, Go.Operand.tmp 103)], type := 55, pos := "inner.go:334", after := #[{ on := 4, ground := Go.Ground.data }], guard := none }) rfl (fun K hK => ?_) ?_
          · go_simp
            have hM := hM.build 0 (by decide) rfl 3 (g := ws.heap.size + 1) (by simp)
            refine hK.out _ _ (keepN hlta hltb CX.out CY.out hM.bel) (fun hHeld => ?_)
            clear hK K hHeld0
            rename _ ∧ _ ∧ Bel _ _ => hHeld0
            (try simp only [Act.put, List.setIfInBounds_toArray, List.set_cons_zero, List.set_cons_succ])
            refine wpAnyH_ready (rs := [6, 18]) (by kernel_rfl) (by simp) ?_
            refine AllReadyH.cons (o := { dst := some 105, op := Go.Op.call { callee := Go.Callee.builtin Go.Builtin.append, args := #[Go.Operand.tmp 99, Go.Operand.tmp 104], argTypes := #[55, 55] }, type := 55, pos := "inner.go:334", after := #[{ on := 0, ground := Go.Ground.data }, { on := 5, ground := Go.Ground.data }], guard := none }) rfl (fun K hK => ?_) ?_
            · refine hM.step 0 (by decide) rfl rfl (.tmp 99) (.tmp 104) 55 rfl i03 (.int .i64 0) 8 Try.underlying55 I3.out I31.out I32.out I33.out rfl ?hs ?hx rfl (by unfold maxLen; omega) (by omega) ?_
              case hs => rfl
              case hx => rfl
              intro v1 w1 hM
              refine hK.out _ _ (keepN hlta hltb CX.out CY.out hM.bel) (fun hHeld => ?_)
              clear hK K hHeld0
              rename _ ∧ _ ∧ Bel _ _ => hHeld0
              (try simp only [Act.put, List.setIfInBounds_toArray, List.set_cons_zero, List.set_cons_succ])
              refine wpAnyH_ready (rs := [13, 18]) (by kernel_rfl) (by simp) ?_
              refine AllReadyH.cons (o := { dst := some 112, op := Go.Op.call { callee := Go.Callee.builtin Go.Builtin.append, args := #[Go.Operand.tmp 106, Go.Operand.tmp 111], argTypes := #[55, 55] }, type := 55, pos := "inner.go:334", after := #[{ on := 7, ground := Go.Ground.data }, { on := 12, ground := Go.Ground.data }, { on := 6, ground := Go.Ground.chain }], guard := none }) rfl (fun K hK => ?_) ?_
              · refine hM.step 1 (by decide) rfl rfl (.tmp 106) (.tmp 111) 55 rfl i03 (.int .i64 0) 8 Try.underlying55 I3.out I31.out I32.out I33.out rfl ?hs ?hx rfl (by unfold maxLen; omega) (by omega) ?_
                case hs => rfl
                case hx => rfl
                intro v2 w2 hM
                refine hK.out _ _ (keepN hlta hltb CX.out CY.out hM.bel) (fun hHeld => ?_)
                clear hK K hHeld0
                rename _ ∧ _ ∧ Bel _ _ => hHeld0
                (try simp only [Act.put, List.setIfInBounds_toArray, List.set_cons_zero, List.set_cons_succ])
                refine wpAnyH_ready (rs := [18]) (by kernel_rfl) (by simp) ?_
                refine AllReadyH.cons (o := { dst := some 117, op := Go.Op.buildSlice 60 1 #[(0, Go.Operand.tmp 116)], type := 60, pos := "inner.go:334", after := #[{ on := 17, ground := Go.Ground.data }], guard := none }) rfl (fun K hK => ?_) ?_
                · go_simp
                  have hM := hM.build 2 (by decide) rfl 5 (g := w2.heap.size) (by simp)
                  refine hK.out _ _ (keepN hlta hltb CX.out CY.out hM.bel) (fun hHeld => ?_)
                  clear hK K hHeld0
                  rename _ ∧ _ ∧ Bel _ _ => hHeld0
                  (try simp only [Act.put, List.setIfInBounds_toArray, List.set_cons_zero, List.set_cons_succ])
                  refine wpAnyH_ready (rs := [19]) (by kernel_rfl) (by simp) ?_
                  refine AllReadyH.cons (o := { dst := some 118, op := Go.Op.call { callee := Go.Callee.builtin Go.Builtin.append, args := #[Go.Operand.tmp 113, Go.Operand.tmp 117], argTypes := #[60, 60] }, type := 60, pos := "inner.go:334", after := #[{ on := 14, ground := Go.Ground.data }, { on := 18, ground := Go.Ground.data }, { on := 13, ground := Go.Ground.chain }], guard := none }) rfl (fun K hK => ?_) ?_
                  · refine hM.step 2 (by decide) rfl rfl (.tmp 113) (.tmp 117) 60 rfl i05 (.int .u8 0) 1 Try.underlying60 I5.out I51.out I52.out I53.out rfl ?hs ?hx rfl (by unfold maxLen; omega) (by omega) ?_
                    case hs => rfl
                    case hx => rfl
                    intro v3 w3 hM
                    refine hK.out _ _ (keepN hlta hltb CX.out CY.out hM.bel) (fun hHeld => ?_)
                    clear hK K hHeld0
                    rename _ ∧ _ ∧ Bel _ _ => hHeld0
                    (try simp only [Act.put, List.setIfInBounds_toArray, List.set_cons_zero, List.set_cons_succ])
                    refine wpAnyH_take (i := 20) (oi := mo20) (v := ?_) rfl (by kernel_rfl) (by kernel_rfl) (by kernel_rfl) (fun _ _ _ h => h) (Or.inl ⟨by rfl, ?_⟩) (by assumption) ?_
                    rotate_left
                    · intro w' hSw
                      obtain ⟨hS1, hS2, hS3⟩ := hSw
                      simp only [mo20]
                      go_simp
                      try with_reducible rfl
                    simp only [mo20]
                    (try simp only [Act.put, List.setIfInBounds_toArray, List.set_cons_zero, List.set_cons_succ])
                    refine wpAnyH_take (i := 21) (oi := mo21) (v := ?_) rfl (by kernel_rfl) (by kernel_rfl) (by kernel_rfl) (fun _ _ _ h => h) (Or.inl ⟨by rfl, ?_⟩) (by assumption) ?_
                    rotate_left
                    · intro w' hSw
                      obtain ⟨hS1, hS2, hS3⟩ := hSw
                      simp only [mo21]
                      go_simp
                      try with_reducible rfl
                    simp only [mo21]
                    (try simp only [Act.put, List.setIfInBounds_toArray, List.set_cons_zero, List.set_cons_succ])
                    refine wpAnyH_take (i := 22) (oi := mo22) (v := ?_) rfl (by kernel_rfl) (by kernel_rfl) (by kernel_rfl) (fun _ _ _ h => h) (Or.inl ⟨by rfl, ?_⟩) (by assumption) ?_
                    rotate_left
                    · intro w' hSw
                      obtain ⟨hS1, hS2, hS3⟩ := hSw
                      simp only [mo22]
                      go_simp
                      try with_reducible rfl
                    simp only [mo22]
                    (try simp only [Act.put, List.setIfInBounds_toArray, List.set_cons_zero, List.set_cons_succ])
                    refine wpAnyH_done (by kernel_rfl) ?_ _
                    refine NoPanic.normal ?_
                    have hF : Hid (St zs ys (nums s) w.heap.size gs w j s.size v3 v1 v2 w3) := Lib.hid (St.step (by omega) ha2 hc2 HX.out HY.out HZ.out HBT.out HSN9.out HSN.out HDIST.out hM.bel hM.seen (hM.row 0 (by decide)) (hM.row 1 (by decide)) (hM.row 2 (by decide)) (hM.dif 0 1 (by decide) (by decide) (by decide)) (hM.dif 0 2 (by decide) (by decide) (by decide)) (hM.dif 1 2 (by decide) (by decide) (by decide)) (hM.difs 0 (by decide)) (hM.difs 1 (by decide)) (hM.difs 2 (by decide)))
                    clear hM
                    go_wp2
                    go_roundw
                    case rel => exact ⟨j, rfl, hF.out⟩
                    case measure => simp [intOf]
                  exact AllReadyH.nil
                exact AllReadyH.nil
              refine AllReadyH.cons (o := { dst := some 117, op := Go.Op.buildSlice 60 1 #[(0, Go.Operand.tmp 116)], type := 60, pos := "inner.go:334", after := #[{ on := 17, ground := Go.Ground.data }], guard := none }) rfl (fun K hK => ?_) ?_
              · go_simp
                have hM := hM.build 2 (by decide) rfl 5 (g := w1.heap.size) (by simp)
                refine hK.out _ _ (keepN hlta hltb CX.out CY.out hM.bel) (fun hHeld => ?_)
                clear hK K hHeld0
                rename _ ∧ _ ∧ Bel _ _ => hHeld0
                (try simp only [Act.put, List.setIfInBounds_toArray, List.set_cons_zero, List.set_cons_succ])
                refine wpAnyH_ready (rs := [13]) (by kernel_rfl) (by simp) ?_
                refine AllReadyH.cons (o := { dst := some 112, op := Go.Op.call { callee := Go.Callee.builtin Go.Builtin.append, args := #[Go.Operand.tmp 106, Go.Operand.tmp 111], argTypes := #[55, 55] }, type := 55, pos := "inner.go:334", after := #[{ on := 7, ground := Go.Ground.data }, { on := 12, ground := Go.Ground.data }, { on := 6, ground := Go.Ground.chain }], guard := none }) rfl (fun K hK => ?_) ?_
                · refine hM.step 1 (by decide) rfl rfl (.tmp 106) (.tmp 111) 55 rfl i03 (.int .i64 0) 8 Try.underlying55 I3.out I31.out I32.out I33.out rfl ?hs ?hx rfl (by unfold maxLen; omega) (by omega) ?_
                  case hs => rfl
                  case hx => rfl
                  intro v2 w2 hM
                  refine hK.out _ _ (keepN hlta hltb CX.out CY.out hM.bel) (fun hHeld => ?_)
                  clear hK K hHeld0
                  rename _ ∧ _ ∧ Bel _ _ => hHeld0
                  (try simp only [Act.put, List.setIfInBounds_toArray, List.set_cons_zero, List.set_cons_succ])
                  refine wpAnyH_ready (rs := [19]) (by kernel_rfl) (by simp) ?_
                  refine AllReadyH.cons (o := { dst := some 118, op := Go.Op.call { callee := Go.Callee.builtin Go.Builtin.append, args := #[Go.Operand.tmp 113, Go.Operand.tmp 117], argTypes := #[60, 60] }, type := 60, pos := "inner.go:334", after := #[{ on := 14, ground := Go.Ground.data }, { on := 18, ground := Go.Ground.data }, { on := 13, ground := Go.Ground.chain }], guard := none }) rfl (fun K hK => ?_) ?_
                  · refine hM.step 2 (by decide) rfl rfl (.tmp 113) (.tmp 117) 60 rfl i05 (.int .u8 0) 1 Try.underlying60 I5.out I51.out I52.out I53.out rfl ?hs ?hx rfl (by unfold maxLen; omega) (by omega) ?_
                    case hs => rfl
                    case hx => rfl
                    intro v3 w3 hM
                    refine hK.out _ _ (keepN hlta hltb CX.out CY.out hM.bel) (fun hHeld => ?_)
                    clear hK K hHeld0
                    rename _ ∧ _ ∧ Bel _ _ => hHeld0
                    (try simp only [Act.put, List.setIfInBounds_toArray, List.set_cons_zero, List.set_cons_succ])
                    refine wpAnyH_take (i := 20) (oi := mo20) (v := ?_) rfl (by kernel_rfl) (by kernel_rfl) (by kernel_rfl) (fun _ _ _ h => h) (Or.inl ⟨by rfl, ?_⟩) (by assumption) ?_
                    rotate_left
                    · intro w' hSw
                      obtain ⟨hS1, hS2, hS3⟩ := hSw
                      simp only [mo20]
                      go_simp
                      try with_reducible rfl
                    simp only [mo20]
                    (try simp only [Act.put, List.setIfInBounds_toArray, List.set_cons_zero, List.set_cons_succ])
                    refine wpAnyH_take (i := 21) (oi := mo21) (v := ?_) rfl (by kernel_rfl) (by kernel_rfl) (by kernel_rfl) (fun _ _ _ h => h) (Or.inl ⟨by rfl, ?_⟩) (by assumption) ?_
                    rotate_left
                    · intro w' hSw
                      obtain ⟨hS1, hS2, hS3⟩ := hSw
                      simp only [mo21]
                      go_simp
                      try with_reducible rfl
                    simp only [mo21]
                    (try simp only [Act.put, List.setIfInBounds_toArray, List.set_cons_zero, List.set_cons_succ])
                    refine wpAnyH_take (i := 22) (oi := mo22) (v := ?_) rfl (by kernel_rfl) (by kernel_rfl) (by kernel_rfl) (fun _ _ _ h => h) (Or.inl ⟨by rfl, ?_⟩) (by assumption) ?_
                    rotate_left
                    · intro w' hSw
                      obtain ⟨hS1, hS2, hS3⟩ := hSw
                      simp only [mo22]
                      go_simp
                      try with_reducible rfl
                    simp only [mo22]
                    (try simp only [Act.put, List.setIfInBounds_toArray, List.set_cons_zero, List.set_cons_succ])
                    refine wpAnyH_done (by kernel_rfl) ?_ _
                    refine NoPanic.normal ?_
                    have hF : Hid (St zs ys (nums s) w.heap.size gs w j s.size v3 v1 v2 w3) := Lib.hid (St.step (by omega) ha2 hc2 HX.out HY.out HZ.out HBT.out HSN9.out HSN.out HDIST.out hM.bel hM.seen (hM.row 0 (by decide)) (hM.row 1 (by decide)) (hM.row 2 (by decide)) (hM.dif 0 1 (by decide) (by decide) (by decide)) (hM.dif 0 2 (by decide) (by decide) (by decide)) (hM.dif 1 2 (by decide) (by decide) (by decide)) (hM.difs 0 (by decide)) (hM.difs 1 (by decide)) (hM.difs 2 (by decide)))
                    clear hM
                    go_wp2
                    go_roundw
                    case rel => exact ⟨j, rfl, hF.out⟩
                    case measure => simp [intOf]
                  exact AllReadyH.nil
                exact AllReadyH.nil
              exact AllReadyH.nil
            refine AllReadyH.cons (o := { dst := some 117, op := Go.Op.buildSlice 60 1 #[(0, Go.Operand.tmp 116)], type := 60, pos := "inner.go:334", after := #[{ on := 17, ground := Go.Ground.data }], guard := none }) rfl (fun K hK => ?_) ?_
            · go_simp
              have hM := hM.build 2 (by decide) rfl 5 (g := ws.heap.size + 2) (by simp)
              refine hK.out _ _ (keepN hlta hltb CX.out CY.out hM.bel) (fun hHeld => ?_)
              clear hK K hHeld0
              rename _ ∧ _ ∧ Bel _ _ => hHeld0
              (try simp only [Act.put, List.setIfInBounds_toArray, List.set_cons_zero, List.set_cons_succ])
              refine wpAnyH_ready (rs := [6]) (by kernel_rfl) (by simp) ?_
              refine AllReadyH.cons (o := { dst := some 105, op := Go.Op.call { callee := Go.Callee.builtin Go.Builtin.append, args := #[Go.Operand.tmp 99, Go.Operand.tmp 104], argTypes := #[55, 55] }, type := 55, pos := "inner.go:334", after := #[{ on := 0, ground := Go.Ground.data }, { on := 5, ground := Go.Ground.data }], guard := none }) rfl (fun K hK => ?_) ?_
              · refine hM.step 0 (by decide) rfl rfl (.tmp 99) (.tmp 104) 55 rfl i03 (.int .i64 0) 8 Try.underlying55 I3.out I31.out I32.out I33.out rfl ?hs ?hx rfl (by unfold maxLen; omega) (by omega) ?_
                case hs => rfl
                case hx => rfl
                intro v1 w1 hM
                refine hK.out _ _ (keepN hlta hltb CX.out CY.out hM.bel) (fun hHeld => ?_)
                clear hK K hHeld0
                rename _ ∧ _ ∧ Bel _ _ => hHeld0
                (try simp only [Act.put, List.setIfInBounds_toArray, List.set_cons_zero, List.set_cons_succ])
                refine wpAnyH_ready (rs := [13]) (by kernel_rfl) (by simp) ?_
                refine AllReadyH.cons (o := { dst := some 112, op := Go.Op.call { callee := Go.Callee.builtin Go.Builtin.append, args := #[Go.Operand.tmp 106, Go.Operand.tmp 111], argTypes := #[55, 55] }, type := 55, pos := "inner.go:334", after := #[{ on := 7, ground := Go.Ground.data }, { on := 12, ground := Go.Ground.data }, { on := 6, ground := Go.Ground.chain }], guard := none }) rfl (fun K hK => ?_) ?_
                · refine hM.step 1 (by decide) rfl rfl (.tmp 106) (.tmp 111) 55 rfl i03 (.int .i64 0) 8 Try.underlying55 I3.out I31.out I32.out I33.out rfl ?hs ?hx rfl (by unfold maxLen; omega) (by omega) ?_
                  case hs => rfl
                  case hx => rfl
                  intro v2 w2 hM
                  refine hK.out _ _ (keepN hlta hltb CX.out CY.out hM.bel) (fun hHeld => ?_)
                  clear hK K hHeld0
                  rename _ ∧ _ ∧ Bel _ _ => hHeld0
                  (try simp only [Act.put, List.setIfInBounds_toArray, List.set_cons_zero, List.set_cons_succ])
                  refine wpAnyH_ready (rs := [19]) (by kernel_rfl) (by simp) ?_
                  refine AllReadyH.cons (o := { dst := some 118, op := Go.Op.call { callee := Go.Callee.builtin Go.Builtin.append, args := #[Go.Operand.tmp 113, Go.Operand.tmp 117], argTypes := #[60, 60] }, type := 60, pos := "inner.go:334", after := #[{ on := 14, ground := Go.Ground.data }, { on := 18, ground := Go.Ground.data }, { on := 13, ground := Go.Ground.chain }], guard := none }) rfl (fun K hK => ?_) ?_
                  · refine hM.step 2 (by decide) rfl rfl (.tmp 113) (.tmp 117) 60 rfl i05 (.int .u8 0) 1 Try.underlying60 I5.out I51.out I52.out I53.out rfl ?hs ?hx rfl (by unfold maxLen; omega) (by omega) ?_
                    case hs => rfl
                    case hx => rfl
                    intro v3 w3 hM
                    refine hK.out _ _ (keepN hlta hltb CX.out CY.out hM.bel) (fun hHeld => ?_)
                    clear hK K hHeld0
                    rename _ ∧ _ ∧ Bel _ _ => hHeld0
                    (try simp only [Act.put, List.setIfInBounds_toArray, List.set_cons_zero, List.set_cons_succ])
                    refine wpAnyH_take (i := 20) (oi := mo20) (v := ?_) rfl (by kernel_rfl) (by kernel_rfl) (by kernel_rfl) (fun _ _ _ h => h) (Or.inl ⟨by rfl, ?_⟩) (by assumption) ?_
                    rotate_left
                    · intro w' hSw
                      obtain ⟨hS1, hS2, hS3⟩ := hSw
                      simp only [mo20]
                      go_simp
                      try with_reducible rfl
                    simp only [mo20]
                    (try simp only [Act.put, List.setIfInBounds_toArray, List.set_cons_zero, List.set_cons_succ])
                    refine wpAnyH_take (i := 21) (oi := mo21) (v := ?_) rfl (by kernel_rfl) (by kernel_rfl) (by kernel_rfl) (fun _ _ _ h => h) (Or.inl ⟨by rfl, ?_⟩) (by assumption) ?_
                    rotate_left
                    · intro w' hSw
                      obtain ⟨hS1, hS2, hS3⟩ := hSw
                      simp only [mo21]
                      go_simp
                      try with_reducible rfl
                    simp only [mo21]
                    (try simp only [Act.put, List.setIfInBounds_toArray, List.set_cons_zero, List.set_cons_succ])
                    refine wpAnyH_take (i := 22) (oi := mo22) (v := ?_) rfl (by kernel_rfl) (by kernel_rfl) (by kernel_rfl) (fun _ _ _ h => h) (Or.inl ⟨by rfl, ?_⟩) (by assumption) ?_
                    rotate_left
                    · intro w' hSw
                      obtain ⟨hS1, hS2, hS3⟩ := hSw
                      simp only [mo22]
                      go_simp
                      try with_reducible rfl
                    simp only [mo22]
                    (try simp only [Act.put, List.setIfInBounds_toArray, List.set_cons_zero, List.set_cons_succ])
                    refine wpAnyH_done (by kernel_rfl) ?_ _
                    refine NoPanic.normal ?_
                    have hF : Hid (St zs ys (nums s) w.heap.size gs w j s.size v3 v1 v2 w3) := Lib.hid (St.step (by omega) ha2 hc2 HX.out HY.out HZ.out HBT.out HSN9.out HSN.out HDIST.out hM.bel hM.seen (hM.row 0 (by decide)) (hM.row 1 (by decide)) (hM.row 2 (by decide)) (hM.dif 0 1 (by decide) (by decide) (by decide)) (hM.dif 0 2 (by decide) (by decide) (by decide)) (hM.dif 1 2 (by decide) (by decide) (by decide)) (hM.difs 0 (by decide)) (hM.difs 1 (by decide)) (hM.difs 2 (by decide)))
                    clear hM
                    go_wp2
                    go_roundw
                    case rel => exact ⟨j, rfl, hF.out⟩
                    case measure => simp [intOf]
                  exact AllReadyH.nil
                exact AllReadyH.nil
              exact AllReadyH.nil
            exact AllReadyH.nil
          refine AllReadyH.cons (o := { dst := some 117, op := Go.Op.buildSlice 60 1 #[(0, Go.Operand.tmp 116)], type := 60, pos := "inner.go:334", after := #[{ on := 17, ground := Go.Ground.data }], guard := none }) rfl (fun K hK => ?_) ?_
          · go_simp
            have hM := hM.build 2 (by decide) rfl 5 (g := ws.heap.size + 1) (by simp)
            refine hK.out _ _ (keepN hlta hltb CX.out CY.out hM.bel) (fun hHeld => ?_)
            clear hK K hHeld0
            rename _ ∧ _ ∧ Bel _ _ => hHeld0
            (try simp only [Act.put, List.setIfInBounds_toArray, List.set_cons_zero, List.set_cons_succ])
            refine wpAnyH_ready (rs := [5]) (by kernel_rfl) (by simp) ?_
            refine AllReadyH.cons (o := { dst := some 104, op := Go.Op.buildSlice 55 1 #[(0, Go.Operand.tmp 103)], type := 55, pos := "inner.go:334", after := #[{ on := 4, ground := Go.Ground.data }], guard := none }) rfl (fun K hK => ?_) ?_
            · go_simp
              have hM := hM.build 0 (by decide) rfl 3 (g := ws.heap.size + 2) (by simp)
              refine hK.out _ _ (keepN hlta hltb CX.out CY.out hM.bel) (fun hHeld => ?_)
              clear hK K hHeld0
              rename _ ∧ _ ∧ Bel _ _ => hHeld0
              (try simp only [Act.put, List.setIfInBounds_toArray, List.set_cons_zero, List.set_cons_succ])
              refine wpAnyH_ready (rs := [6]) (by kernel_rfl) (by simp) ?_
              refine AllReadyH.cons (o := { dst := some 105, op := Go.Op.call { callee := Go.Callee.builtin Go.Builtin.append, args := #[Go.Operand.tmp 99, Go.Operand.tmp 104], argTypes := #[55, 55] }, type := 55, pos := "inner.go:334", after := #[{ on := 0, ground := Go.Ground.data }, { on := 5, ground := Go.Ground.data }], guard := none }) rfl (fun K hK => ?_) ?_
              · refine hM.step 0 (by decide) rfl rfl (.tmp 99) (.tmp 104) 55 rfl i03 (.int .i64 0) 8 Try.underlying55 I3.out I31.out I32.out I33.out rfl ?hs ?hx rfl (by unfold maxLen; omega) (by omega) ?_
                case hs => rfl
                case hx => rfl
                intro v1 w1 hM
                refine hK.out _ _ (keepN hlta hltb CX.out CY.out hM.bel) (fun hHeld => ?_)
                clear hK K hHeld0
                rename _ ∧ _ ∧ Bel _ _ => hHeld0
                (try simp only [Act.put, List.setIfInBounds_toArray, List.set_cons_zero, List.set_cons_succ])
                refine wpAnyH_ready (rs := [13]) (by kernel_rfl) (by simp) ?_
                refine AllReadyH.cons (o := { dst := some 112, op := Go.Op.call { callee := Go.Callee.builtin Go.Builtin.append, args := #[Go.Operand.tmp 106, Go.Operand.tmp 111], argTypes := #[55, 55] }, type := 55, pos := "inner.go:334", after := #[{ on := 7, ground := Go.Ground.data }, { on := 12, ground := Go.Ground.data }, { on := 6, ground := Go.Ground.chain }], guard := none }) rfl (fun K hK => ?_) ?_
                · refine hM.step 1 (by decide) rfl rfl (.tmp 106) (.tmp 111) 55 rfl i03 (.int .i64 0) 8 Try.underlying55 I3.out I31.out I32.out I33.out rfl ?hs ?hx rfl (by unfold maxLen; omega) (by omega) ?_
                  case hs => rfl
                  case hx => rfl
                  intro v2 w2 hM
                  refine hK.out _ _ (keepN hlta hltb CX.out CY.out hM.bel) (fun hHeld => ?_)
                  clear hK K hHeld0
                  rename _ ∧ _ ∧ Bel _ _ => hHeld0
                  (try simp only [Act.put, List.setIfInBounds_toArray, List.set_cons_zero, List.set_cons_succ])
                  refine wpAnyH_ready (rs := [19]) (by kernel_rfl) (by simp) ?_
                  refine AllReadyH.cons (o := { dst := some 118, op := Go.Op.call { callee := Go.Callee.builtin Go.Builtin.append, args := #[Go.Operand.tmp 113, Go.Operand.tmp 117], argTypes := #[60, 60] }, type := 60, pos := "inner.go:334", after := #[{ on := 14, ground := Go.Ground.data }, { on := 18, ground := Go.Ground.data }, { on := 13, ground := Go.Ground.chain }], guard := none }) rfl (fun K hK => ?_) ?_
                  · refine hM.step 2 (by decide) rfl rfl (.tmp 113) (.tmp 117) 60 rfl i05 (.int .u8 0) 1 Try.underlying60 I5.out I51.out I52.out I53.out rfl ?hs ?hx rfl (by unfold maxLen; omega) (by omega) ?_
                    case hs => rfl
                    case hx => rfl
                    intro v3 w3 hM
                    refine hK.out _ _ (keepN hlta hltb CX.out CY.out hM.bel) (fun hHeld => ?_)
                    clear hK K hHeld0
                    rename _ ∧ _ ∧ Bel _ _ => hHeld0
                    (try simp only [Act.put, List.setIfInBounds_toArray, List.set_cons_zero, List.set_cons_succ])
                    refine wpAnyH_take (i := 20) (oi := mo20) (v := ?_) rfl (by kernel_rfl) (by kernel_rfl) (by kernel_rfl) (fun _ _ _ h => h) (Or.inl ⟨by rfl, ?_⟩) (by assumption) ?_
                    rotate_left
                    · intro w' hSw
                      obtain ⟨hS1, hS2, hS3⟩ := hSw
                      simp only [mo20]
                      go_simp
                      try with_reducible rfl
                    simp only [mo20]
                    (try simp only [Act.put, List.setIfInBounds_toArray, List.set_cons_zero, List.set_cons_succ])
                    refine wpAnyH_take (i := 21) (oi := mo21) (v := ?_) rfl (by kernel_rfl) (by kernel_rfl) (by kernel_rfl) (fun _ _ _ h => h) (Or.inl ⟨by rfl, ?_⟩) (by assumption) ?_
                    rotate_left
                    · intro w' hSw
                      obtain ⟨hS1, hS2, hS3⟩ := hSw
                      simp only [mo21]
                      go_simp
                      try with_reducible rfl
                    simp only [mo21]
                    (try simp only [Act.put, List.setIfInBounds_toArray, List.set_cons_zero, List.set_cons_succ])
                    refine wpAnyH_take (i := 22) (oi := mo22) (v := ?_) rfl (by kernel_rfl) (by kernel_rfl) (by kernel_rfl) (fun _ _ _ h => h) (Or.inl ⟨by rfl, ?_⟩) (by assumption) ?_
                    rotate_left
                    · intro w' hSw
                      obtain ⟨hS1, hS2, hS3⟩ := hSw
                      simp only [mo22]
                      go_simp
                      try with_reducible rfl
                    simp only [mo22]
                    (try simp only [Act.put, List.setIfInBounds_toArray, List.set_cons_zero, List.set_cons_succ])
                    refine wpAnyH_done (by kernel_rfl) ?_ _
                    refine NoPanic.normal ?_
                    have hF : Hid (St zs ys (nums s) w.heap.size gs w j s.size v3 v1 v2 w3) := Lib.hid (St.step (by omega) ha2 hc2 HX.out HY.out HZ.out HBT.out HSN9.out HSN.out HDIST.out hM.bel hM.seen (hM.row 0 (by decide)) (hM.row 1 (by decide)) (hM.row 2 (by decide)) (hM.dif 0 1 (by decide) (by decide) (by decide)) (hM.dif 0 2 (by decide) (by decide) (by decide)) (hM.dif 1 2 (by decide) (by decide) (by decide)) (hM.difs 0 (by decide)) (hM.difs 1 (by decide)) (hM.difs 2 (by decide)))
                    clear hM
                    go_wp2
                    go_roundw
                    case rel => exact ⟨j, rfl, hF.out⟩
                    case measure => simp [intOf]
                  exact AllReadyH.nil
                exact AllReadyH.nil
              exact AllReadyH.nil
            exact AllReadyH.nil
          exact AllReadyH.nil
        refine AllReadyH.cons (o := { dst := some 117, op := Go.Op.buildSlice 60 1 #[(0, Go.Operand.tmp 116)], type := 60, pos := "inner.go:334", after := #[{ on := 17, ground := Go.Ground.data }], guard := none }) rfl (fun K hK => ?_) ?_
        · go_simp
          have hM := hM.build 2 (by decide) rfl 5 (g := ws.heap.size) (by simp)
          refine hK.out _ _ (keepN hlta hltb CX.out CY.out hM.bel) (fun hHeld => ?_)
          clear hK K hHeld0
          rename _ ∧ _ ∧ Bel _ _ => hHeld0
          (try simp only [Act.put, List.setIfInBounds_toArray, List.set_cons_zero, List.set_cons_succ])
          refine wpAnyH_ready (rs := [5, 12]) (by kernel_rfl) (by simp) ?_
          refine AllReadyH.cons (o := { dst := some 104, op := Go.Op.buildSlice 55 1 #[(0, Go.Operand.tmp 103)], type := 55, pos := "inner.go:334", after := #[{ on := 4, ground := Go.Ground.data }], guard := none }) rfl (fun K hK => ?_) ?_
          · go_simp
            have hM := hM.build 0 (by decide) rfl 3 (g := ws.heap.size + 1) (by simp)
            refine hK.out _ _ (keepN hlta hltb CX.out CY.out hM.bel) (fun hHeld => ?_)
            clear hK K hHeld0
            rename _ ∧ _ ∧ Bel _ _ => hHeld0
            (try simp only [Act.put, List.setIfInBounds_toArray, List.set_cons_zero, List.set_cons_succ])
            refine wpAnyH_ready (rs := [6, 12]) (by kernel_rfl) (by simp) ?_
            refine AllReadyH.cons (o := { dst := some 105, op := Go.Op.call { callee := Go.Callee.builtin Go.Builtin.append, args := #[Go.Operand.tmp 99, Go.Operand.tmp 104], argTypes := #[55, 55] }, type := 55, pos := "inner.go:334", after := #[{ on := 0, ground := Go.Ground.data }, { on := 5, ground := Go.Ground.data }], guard := none }) rfl (fun K hK => ?_) ?_
            · refine hM.step 0 (by decide) rfl rfl (.tmp 99) (.tmp 104) 55 rfl i03 (.int .i64 0) 8 Try.underlying55 I3.out I31.out I32.out I33.out rfl ?hs ?hx rfl (by unfold maxLen; omega) (by omega) ?_
              case hs => rfl
              case hx => rfl
              intro v1 w1 hM
              refine hK.out _ _ (keepN hlta hltb CX.out CY.out hM.bel) (fun hHeld => ?_)
              clear hK K hHeld0
              rename _ ∧ _ ∧ Bel _ _ => hHeld0
              (try simp only [Act.put, List.setIfInBounds_toArray, List.set_cons_zero, List.set_cons_succ])
              refine wpAnyH_ready (rs := [12]) (by kernel_rfl) (by simp) ?_
              refine AllReadyH.cons (o := { dst := some 111, op := Go.Op.buildSlice 55 1 #[(0, Go.Operand.tmp 110)], type := 55, pos := "inner.go:334", after := #[{ on := 11, ground := Go.Ground.data }], guard := none }) rfl (fun K hK => ?_) ?_
              · go_simp
                have hM := hM.build 1 (by decide) rfl 3 (g := w1.heap.size) (by simp)
                refine hK.out _ _ (keepN hlta hltb CX.out CY.out hM.bel) (fun hHeld => ?_)
                clear hK K hHeld0
                rename _ ∧ _ ∧ Bel _ _ => hHeld0
                (try simp only [Act.put, List.setIfInBounds_toArray, List.set_cons_zero, List.set_cons_succ])
                refine wpAnyH_ready (rs := [13]) (by kernel_rfl) (by simp) ?_
                refine AllReadyH.cons (o := { dst := some 112, op := Go.Op.call { callee := Go.Callee.builtin Go.Builtin.append, args := #[Go.Operand.tmp 106, Go.Operand.tmp 111], argTypes := #[55, 55] }, type := 55, pos := "inner.go:334", after := #[{ on := 7, ground := Go.Ground.data }, { on := 12, ground := Go.Ground.data }, { on := 6, ground := Go.Ground.chain }], guard := none }) rfl (fun K hK => ?_) ?_
                · refine hM.step 1 (by decide) rfl rfl (.tmp 106) (.tmp 111) 55 rfl i03 (.int .i64 0) 8 Try.underlying55 I3.out I31.out I32.out I33.out rfl ?hs ?hx rfl (by unfold maxLen; omega) (by omega) ?_
                  case hs => rfl
                  case hx => rfl
                  intro v2 w2 hM
                  refine hK.out _ _ (keepN hlta hltb CX.out CY.out hM.bel) (fun hHeld => ?_)
                  clear hK K hHeld0
                  rename _ ∧ _ ∧ Bel _ _ => hHeld0
                  (try simp only [Act.put, List.setIfInBounds_toArray, List.set_cons_zero, List.set_cons_succ])
                  refine wpAnyH_ready (rs := [19]) (by kernel_rfl) (by simp) ?_
                  refine AllReadyH.cons (o := { dst := some 118, op := Go.Op.call { callee := Go.Callee.builtin Go.Builtin.append, args := #[Go.Operand.tmp 113, Go.Operand.tmp 117], argTypes := #[60, 60] }, type := 60, pos := "inner.go:334", after := #[{ on := 14, ground := Go.Ground.data }, { on := 18, ground := Go.Ground.data }, { on := 13, ground := Go.Ground.chain }], guard := none }) rfl (fun K hK => ?_) ?_
                  · refine hM.step 2 (by decide) rfl rfl (.tmp 113) (.tmp 117) 60 rfl i05 (.int .u8 0) 1 Try.underlying60 I5.out I51.out I52.out I53.out rfl ?hs ?hx rfl (by unfold maxLen; omega) (by omega) ?_
                    case hs => rfl
                    case hx => rfl
                    intro v3 w3 hM
                    refine hK.out _ _ (keepN hlta hltb CX.out CY.out hM.bel) (fun hHeld => ?_)
                    clear hK K hHeld0
                    rename _ ∧ _ ∧ Bel _ _ => hHeld0
                    (try simp only [Act.put, List.setIfInBounds_toArray, List.set_cons_zero, List.set_cons_succ])
                    refine wpAnyH_take (i := 20) (oi := mo20) (v := ?_) rfl (by kernel_rfl) (by kernel_rfl) (by kernel_rfl) (fun _ _ _ h => h) (Or.inl ⟨by rfl, ?_⟩) (by assumption) ?_
                    rotate_left
                    · intro w' hSw
                      obtain ⟨hS1, hS2, hS3⟩ := hSw
                      simp only [mo20]
                      go_simp
                      try with_reducible rfl
                    simp only [mo20]
                    (try simp only [Act.put, List.setIfInBounds_toArray, List.set_cons_zero, List.set_cons_succ])
                    refine wpAnyH_take (i := 21) (oi := mo21) (v := ?_) rfl (by kernel_rfl) (by kernel_rfl) (by kernel_rfl) (fun _ _ _ h => h) (Or.inl ⟨by rfl, ?_⟩) (by assumption) ?_
                    rotate_left
                    · intro w' hSw
                      obtain ⟨hS1, hS2, hS3⟩ := hSw
                      simp only [mo21]
                      go_simp
                      try with_reducible rfl
                    simp only [mo21]
                    (try simp only [Act.put, List.setIfInBounds_toArray, List.set_cons_zero, List.set_cons_succ])
                    refine wpAnyH_take (i := 22) (oi := mo22) (v := ?_) rfl (by kernel_rfl) (by kernel_rfl) (by kernel_rfl) (fun _ _ _ h => h) (Or.inl ⟨by rfl, ?_⟩) (by assumption) ?_
                    rotate_left
                    · intro w' hSw
                      obtain ⟨hS1, hS2, hS3⟩ := hSw
                      simp only [mo22]
                      go_simp
                      try with_reducible rfl
                    simp only [mo22]
                    (try simp only [Act.put, List.setIfInBounds_toArray, List.set_cons_zero, List.set_cons_succ])
                    refine wpAnyH_done (by kernel_rfl) ?_ _
                    refine NoPanic.normal ?_
                    have hF : Hid (St zs ys (nums s) w.heap.size gs w j s.size v3 v1 v2 w3) := Lib.hid (St.step (by omega) ha2 hc2 HX.out HY.out HZ.out HBT.out HSN9.out HSN.out HDIST.out hM.bel hM.seen (hM.row 0 (by decide)) (hM.row 1 (by decide)) (hM.row 2 (by decide)) (hM.dif 0 1 (by decide) (by decide) (by decide)) (hM.dif 0 2 (by decide) (by decide) (by decide)) (hM.dif 1 2 (by decide) (by decide) (by decide)) (hM.difs 0 (by decide)) (hM.difs 1 (by decide)) (hM.difs 2 (by decide)))
                    clear hM
                    go_wp2
                    go_roundw
                    case rel => exact ⟨j, rfl, hF.out⟩
                    case measure => simp [intOf]
                  exact AllReadyH.nil
                exact AllReadyH.nil
              exact AllReadyH.nil
            refine AllReadyH.cons (o := { dst := some 111, op := Go.Op.buildSlice 55 1 #[(0, Go.Operand.tmp 110)], type := 55, pos := "inner.go:334", after := #[{ on := 11, ground := Go.Ground.data }], guard := none }) rfl (fun K hK => ?_) ?_
            · go_simp
              have hM := hM.build 1 (by decide) rfl 3 (g := ws.heap.size + 2) (by simp)
              refine hK.out _ _ (keepN hlta hltb CX.out CY.out hM.bel) (fun hHeld => ?_)
              clear hK K hHeld0
              rename _ ∧ _ ∧ Bel _ _ => hHeld0
              (try simp only [Act.put, List.setIfInBounds_toArray, List.set_cons_zero, List.set_cons_succ])
              refine wpAnyH_ready (rs := [6]) (by kernel_rfl) (by simp) ?_
              refine AllReadyH.cons (o := { dst := some 105, op := Go.Op.call { callee := Go.Callee.builtin Go.Builtin.append, args := #[Go.Operand.tmp 99, Go.Operand.tmp 104], argTypes := #[55, 55] }, type := 55, pos := "inner.go:334", after := #[{ on := 0, ground := Go.Ground.data }, { on := 5, ground := Go.Ground.data }], guard := none }) rfl (fun K hK => ?_) ?_
              · refine hM.step 0 (by decide) rfl rfl (.tmp 99) (.tmp 104) 55 rfl i03 (.int .i64 0) 8 Try.underlying55 I3.out I31.out I32.out I33.out rfl ?hs ?hx rfl (by unfold maxLen; omega) (by omega) ?_
                case hs => rfl
                case hx => rfl
                intro v1 w1 hM
                refine hK.out _ _ (keepN hlta hltb CX.out CY.out hM.bel) (fun hHeld => ?_)
                clear hK K hHeld0
                rename _ ∧ _ ∧ Bel _ _ => hHeld0
                (try simp only [Act.put, List.setIfInBounds_toArray, List.set_cons_zero, List.set_cons_succ])
                refine wpAnyH_ready (rs := [13]) (by kernel_rfl) (by simp) ?_
                refine AllReadyH.cons (o := { dst := some 112, op := Go.Op.call { callee := Go.Callee.builtin Go.Builtin.append, args := #[Go.Operand.tmp 106, Go.Operand.tmp 111], argTypes := #[55, 55] }, type := 55, pos := "inner.go:334", after := #[{ on := 7, ground := Go.Ground.data }, { on := 12, ground := Go.Ground.data }, { on := 6, ground := Go.Ground.chain }], guard := none }) rfl (fun K hK => ?_) ?_
                · refine hM.step 1 (by decide) rfl rfl (.tmp 106) (.tmp 111) 55 rfl i03 (.int .i64 0) 8 Try.underlying55 I3.out I31.out I32.out I33.out rfl ?hs ?hx rfl (by unfold maxLen; omega) (by omega) ?_
                  case hs => rfl
                  case hx => rfl
                  intro v2 w2 hM
                  refine hK.out _ _ (keepN hlta hltb CX.out CY.out hM.bel) (fun hHeld => ?_)
                  clear hK K hHeld0
                  rename _ ∧ _ ∧ Bel _ _ => hHeld0
                  (try simp only [Act.put, List.setIfInBounds_toArray, List.set_cons_zero, List.set_cons_succ])
                  refine wpAnyH_ready (rs := [19]) (by kernel_rfl) (by simp) ?_
                  refine AllReadyH.cons (o := { dst := some 118, op := Go.Op.call { callee := Go.Callee.builtin Go.Builtin.append, args := #[Go.Operand.tmp 113, Go.Operand.tmp 117], argTypes := #[60, 60] }, type := 60, pos := "inner.go:334", after := #[{ on := 14, ground := Go.Ground.data }, { on := 18, ground := Go.Ground.data }, { on := 13, ground := Go.Ground.chain }], guard := none }) rfl (fun K hK => ?_) ?_
                  · refine hM.step 2 (by decide) rfl rfl (.tmp 113) (.tmp 117) 60 rfl i05 (.int .u8 0) 1 Try.underlying60 I5.out I51.out I52.out I53.out rfl ?hs ?hx rfl (by unfold maxLen; omega) (by omega) ?_
                    case hs => rfl
                    case hx => rfl
                    intro v3 w3 hM
                    refine hK.out _ _ (keepN hlta hltb CX.out CY.out hM.bel) (fun hHeld => ?_)
                    clear hK K hHeld0
                    rename _ ∧ _ ∧ Bel _ _ => hHeld0
                    (try simp only [Act.put, List.setIfInBounds_toArray, List.set_cons_zero, List.set_cons_succ])
                    refine wpAnyH_take (i := 20) (oi := mo20) (v := ?_) rfl (by kernel_rfl) (by kernel_rfl) (by kernel_rfl) (fun _ _ _ h => h) (Or.inl ⟨by rfl, ?_⟩) (by assumption) ?_
                    rotate_left
                    · intro w' hSw
                      obtain ⟨hS1, hS2, hS3⟩ := hSw
                      simp only [mo20]
                      go_simp
                      try with_reducible rfl
                    simp only [mo20]
                    (try simp only [Act.put, List.setIfInBounds_toArray, List.set_cons_zero, List.set_cons_succ])
                    refine wpAnyH_take (i := 21) (oi := mo21) (v := ?_) rfl (by kernel_rfl) (by kernel_rfl) (by kernel_rfl) (fun _ _ _ h => h) (Or.inl ⟨by rfl, ?_⟩) (by assumption) ?_
                    rotate_left
                    · intro w' hSw
                      obtain ⟨hS1, hS2, hS3⟩ := hSw
                      simp only [mo21]
                      go_simp
                      try with_reducible rfl
                    simp only [mo21]
                    (try simp only [Act.put, List.setIfInBounds_toArray, List.set_cons_zero, List.set_cons_succ])
                    refine wpAnyH_take (i := 22) (oi := mo22) (v := ?_) rfl (by kernel_rfl) (by kernel_rfl) (by kernel_rfl) (fun _ _ _ h => h) (Or.inl ⟨by rfl, ?_⟩) (by assumption) ?_
                    rotate_left
                    · intro w' hSw
                      obtain ⟨hS1, hS2, hS3⟩ := hSw
                      simp only [mo22]
                      go_simp
                      try with_reducible rfl
                    simp only [mo22]
                    (try simp only [Act.put, List.setIfInBounds_toArray, List.set_cons_zero, List.set_cons_succ])
                    refine wpAnyH_done (by kernel_rfl) ?_ _
                    refine NoPanic.normal ?_
                    have hF : Hid (St zs ys (nums s) w.heap.size gs w j s.size v3 v1 v2 w3) := Lib.hid (St.step (by omega) ha2 hc2 HX.out HY.out HZ.out HBT.out HSN9.out HSN.out HDIST.out hM.bel hM.seen (hM.row 0 (by decide)) (hM.row 1 (by decide)) (hM.row 2 (by decide)) (hM.dif 0 1 (by decide) (by decide) (by decide)) (hM.dif 0 2 (by decide) (by decide) (by decide)) (hM.dif 1 2 (by decide) (by decide) (by decide)) (hM.difs 0 (by decide)) (hM.difs 1 (by decide)) (hM.difs 2 (by decide)))
                    clear hM
                    go_wp2
                    go_roundw
                    case rel => exact ⟨j, rfl, hF.out⟩
                    case measure => simp [intOf]
                  exact AllReadyH.nil
                exact AllReadyH.nil
              exact AllReadyH.nil
            exact AllReadyH.nil
          refine AllReadyH.cons (o := { dst := some 111, op := Go.Op.buildSlice 55 1 #[(0, Go.Operand.tmp 110)], type := 55, pos := "inner.go:334", after := #[{ on := 11, ground := Go.Ground.data }], guard := none }) rfl (fun K hK => ?_) ?_
          · go_simp
            have hM := hM.build 1 (by decide) rfl 3 (g := ws.heap.size + 1) (by simp)
            refine hK.out _ _ (keepN hlta hltb CX.out CY.out hM.bel) (fun hHeld => ?_)
            clear hK K hHeld0
            rename _ ∧ _ ∧ Bel _ _ => hHeld0
            (try simp only [Act.put, List.setIfInBounds_toArray, List.set_cons_zero, List.set_cons_succ])
            refine wpAnyH_ready (rs := [5]) (by kernel_rfl) (by simp) ?_
            refine AllReadyH.cons (o := { dst := some 104, op := Go.Op.buildSlice 55 1 #[(0, Go.Operand.tmp 103)], type := 55, pos := "inner.go:334", after := #[{ on := 4, ground := Go.Ground.data }], guard := none }) rfl (fun K hK => ?_) ?_
            · go_simp
              have hM := hM.build 0 (by decide) rfl 3 (g := ws.heap.size + 2) (by simp)
              refine hK.out _ _ (keepN hlta hltb CX.out CY.out hM.bel) (fun hHeld => ?_)
              clear hK K hHeld0
              rename _ ∧ _ ∧ Bel _ _ => hHeld0
              (try simp only [Act.put, List.setIfInBounds_toArray, List.set_cons_zero, List.set_cons_succ])
              refine wpAnyH_ready (rs := [6]) (by kernel_rfl) (by simp) ?_
              refine AllReadyH.cons (o := { dst := some 105, op := Go.Op.call { callee := Go.Callee.builtin Go.Builtin.append, args := #[Go.Operand.tmp 99, Go.Operand.tmp 104], argTypes := #[55, 55] }, type := 55, pos := "inner.go:334", after := #[{ on := 0, ground := Go.Ground.data }, { on := 5, ground := Go.Ground.data }], guard := none }) rfl (fun K hK => ?_) ?_
              · refine hM.step 0 (by decide) rfl rfl (.tmp 99) (.tmp 104) 55 rfl i03 (.int .i64 0) 8 Try.underlying55 I3.out I31.out I32.out I33.out rfl ?hs ?hx rfl (by unfold maxLen; omega) (by omega) ?_
                case hs => rfl
                case hx => rfl
                intro v1 w1 hM
                refine hK.out _ _ (keepN hlta hltb CX.out CY.out hM.bel) (fun hHeld => ?_)
                clear hK K hHeld0
                rename _ ∧ _ ∧ Bel _ _ => hHeld0
                (try simp only [Act.put, List.setIfInBounds_toArray, List.set_cons_zero, List.set_cons_succ])
                refine wpAnyH_ready (rs := [13]) (by kernel_rfl) (by simp) ?_
                refine AllReadyH.cons (o := { dst := some 112, op := Go.Op.call { callee := Go.Callee.builtin Go.Builtin.append, args := #[Go.Operand.tmp 106, Go.Operand.tmp 111], argTypes := #[55, 55] }, type := 55, pos := "inner.go:334", after := #[{ on := 7, ground := Go.Ground.data }, { on := 12, ground := Go.Ground.data }, { on := 6, ground := Go.Ground.chain }], guard := none }) rfl (fun K hK => ?_) ?_
                · refine hM.step 1 (by decide) rfl rfl (.tmp 106) (.tmp 111) 55 rfl i03 (.int .i64 0) 8 Try.underlying55 I3.out I31.out I32.out I33.out rfl ?hs ?hx rfl (by unfold maxLen; omega) (by omega) ?_
                  case hs => rfl
                  case hx => rfl
                  intro v2 w2 hM
                  refine hK.out _ _ (keepN hlta hltb CX.out CY.out hM.bel) (fun hHeld => ?_)
                  clear hK K hHeld0
                  rename _ ∧ _ ∧ Bel _ _ => hHeld0
                  (try simp only [Act.put, List.setIfInBounds_toArray, List.set_cons_zero, List.set_cons_succ])
                  refine wpAnyH_ready (rs := [19]) (by kernel_rfl) (by simp) ?_
                  refine AllReadyH.cons (o := { dst := some 118, op := Go.Op.call { callee := Go.Callee.builtin Go.Builtin.append, args := #[Go.Operand.tmp 113, Go.Operand.tmp 117], argTypes := #[60, 60] }, type := 60, pos := "inner.go:334", after := #[{ on := 14, ground := Go.Ground.data }, { on := 18, ground := Go.Ground.data }, { on := 13, ground := Go.Ground.chain }], guard := none }) rfl (fun K hK => ?_) ?_
                  · refine hM.step 2 (by decide) rfl rfl (.tmp 113) (.tmp 117) 60 rfl i05 (.int .u8 0) 1 Try.underlying60 I5.out I51.out I52.out I53.out rfl ?hs ?hx rfl (by unfold maxLen; omega) (by omega) ?_
                    case hs => rfl
                    case hx => rfl
                    intro v3 w3 hM
                    refine hK.out _ _ (keepN hlta hltb CX.out CY.out hM.bel) (fun hHeld => ?_)
                    clear hK K hHeld0
                    rename _ ∧ _ ∧ Bel _ _ => hHeld0
                    (try simp only [Act.put, List.setIfInBounds_toArray, List.set_cons_zero, List.set_cons_succ])
                    refine wpAnyH_take (i := 20) (oi := mo20) (v := ?_) rfl (by kernel_rfl) (by kernel_rfl) (by kernel_rfl) (fun _ _ _ h => h) (Or.inl ⟨by rfl, ?_⟩) (by assumption) ?_
                    rotate_left
                    · intro w' hSw
                      obtain ⟨hS1, hS2, hS3⟩ := hSw
                      simp only [mo20]
                      go_simp
                      try with_reducible rfl
                    simp only [mo20]
                    (try simp only [Act.put, List.setIfInBounds_toArray, List.set_cons_zero, List.set_cons_succ])
                    refine wpAnyH_take (i := 21) (oi := mo21) (v := ?_) rfl (by kernel_rfl) (by kernel_rfl) (by kernel_rfl) (fun _ _ _ h => h) (Or.inl ⟨by rfl, ?_⟩) (by assumption) ?_
                    rotate_left
                    · intro w' hSw
                      obtain ⟨hS1, hS2, hS3⟩ := hSw
                      simp only [mo21]
                      go_simp
                      try with_reducible rfl
                    simp only [mo21]
                    (try simp only [Act.put, List.setIfInBounds_toArray, List.set_cons_zero, List.set_cons_succ])
                    refine wpAnyH_take (i := 22) (oi := mo22) (v := ?_) rfl (by kernel_rfl) (by kernel_rfl) (by kernel_rfl) (fun _ _ _ h => h) (Or.inl ⟨by rfl, ?_⟩) (by assumption) ?_
                    rotate_left
                    · intro w' hSw
                      obtain ⟨hS1, hS2, hS3⟩ := hSw
                      simp only [mo22]
                      go_simp
                      try with_reducible rfl
                    simp only [mo22]
                    (try simp only [Act.put, List.setIfInBounds_toArray, List.set_cons_zero, List.set_cons_succ])
                    refine wpAnyH_done (by kernel_rfl) ?_ _
                    refine NoPanic.normal ?_
                    have hF : Hid (St zs ys (nums s) w.heap.size gs w j s.size v3 v1 v2 w3) := Lib.hid (St.step (by omega) ha2 hc2 HX.out HY.out HZ.out HBT.out HSN9.out HSN.out HDIST.out hM.bel hM.seen (hM.row 0 (by decide)) (hM.row 1 (by decide)) (hM.row 2 (by decide)) (hM.dif 0 1 (by decide) (by decide) (by decide)) (hM.dif 0 2 (by decide) (by decide) (by decide)) (hM.dif 1 2 (by decide) (by decide) (by decide)) (hM.difs 0 (by decide)) (hM.difs 1 (by decide)) (hM.difs 2 (by decide)))
                    clear hM
                    go_wp2
                    go_roundw
                    case rel => exact ⟨j, rfl, hF.out⟩
                    case measure => simp [intOf]
                  exact AllReadyH.nil
                exact AllReadyH.nil
              exact AllReadyH.nil
            exact AllReadyH.nil
          exact AllReadyH.nil
        exact AllReadyH.nil
      · go_wp2
        go_ret
        exact ⟨rfl, HBEL.out.drewN _⟩

set_option maxRecDepth 100000 in
theorem f9_big (p q : Option Addr) (n n2 c c2 : Nat) (s : ByteArray) (w : World) (h : 2147483647 < n ∨ 2147483647 < n2 ∨ 2147483647 < s.size) :
    Calls Try.prog 9 #[.slice p n c, .slice q n2 c2, .string s] w fun e w' => e = .returned (.bool true) ∧ Bel w w' := by
  by_cases h1 : 2147483647 < n
  · go_enter Try.func9, Try.ntmps9
    go_wp2
    go_ret
    exact ⟨rfl, Bel.refl _⟩
  by_cases h2 : 2147483647 < n2
  · go_enter Try.func9, Try.ntmps9
    go_wp2
    go_ret
    exact ⟨rfl, Bel.refl _⟩
  have h3 : 2147483647 < s.size := by omega
  go_enter Try.func9, Try.ntmps9
  go_wp2
  go_ret
  exact ⟨rfl, Bel.refl _⟩
theorem f9_any (zs ys : List Int) (va vb : Value) (s : ByteArray) (w : World) (ha : NSl w va zs) (hb : NSl w vb ys) :
    Calls Try.prog 9 #[va, vb, .string s] w fun e w' => e = .returned (.bool true) ∧ Bel w w' := by
  by_cases hS : Sets zs ys s.size
  · exact f9_in zs ys va vb s w ha hb (Lib.hid hS)
  by_cases h : 2147483647 < zs.length ∨ 2147483647 < ys.length ∨ 2147483647 < s.size
  · obtain ⟨p, c1, rfl, -⟩ := ha
    obtain ⟨q, c2, rfl, -⟩ := hb
    exact f9_big p q _ _ c1 c2 s w h
  · refine f9_out zs ys va vb s w ha hb (by omega) (by omega) (by omega) ((f26_any zs ys va vb s w ha hb).mono ?_)
    rintro e w' ⟨t, rfl, rfl, ht⟩
    cases t
    · exact ⟨rfl, rfl⟩
    · exact absurd (ht rfl) hS
/-! ### The row's step -/
set_option maxRecDepth 100000 in
set_option maxHeartbeats 2000000 in
theorem fnMatrixTurned_lifted (os : Os) (started : os.Started) (H : Type) (enc : TypeId × Value → H) :
    ReturnsInHanded {} Try.checked os 9 .any (Rows.fnMatrixTurnedSpec.pre6 enc Try.prog Try.f9 Rows.fnMatrixTurnedRow.domain false) (Rows.fnMatrixTurnedSpec.post enc Try.prog Try.f9 false true false false) := by
  refine returnsInHanded_of_change (C := Try.checked) own started (by kernel_rfl) Try.func9
    (ChangeSpec.witness6 (enc := enc) (C := Try.checked) false ⟨#[], #[.slice none 0 0, .slice none 0 0, .string ⟨#[]⟩], []⟩ 8 (by kernel_rfl) (by kernel_rfl) (by kernel_rfl) (by kernel_rfl)) ?_
  intro W base args ds gs before hval0 hW hcnd _
  have hval : ∀ (j : Nat) t v, Try.f9.params[j]? = some t → args[j]? = some v → Value.okWide Try.prog W .any base t v := hval0
  have hW' := hW
  obtain ⟨p, q, hA0, hV, rfl, hfz, hnd⟩ := hW
  have hA : DataW.TrodAll enc Try.prog W 0 (fun _ => true) true Try.f9.params.toList args.toList ds p := hA0
  rw [Try.params9] at hA hval
  obtain ⟨rfl, rfl⟩ := trodVars_none hV
  obtain ⟨v0, vs0, d0, ds0, p0, q0, hargs, rfl, rfl, h0, r0⟩ := trodAll_cons hA
  obtain ⟨v1, vs1, d1, ds1, p1, q1, rfl, rfl, rfl, h1, r1⟩ := trodAll_cons r0
  obtain ⟨v2, vs2, d2, ds2, p2, q2, rfl, rfl, rfl, h2, r2⟩ := trodAll_cons r1
  obtain ⟨rfl, rfl, rfl⟩ := trodAll_nil r2
  obtain rfl : args = #[v0, v1, v2] := by cases args; simp_all
  obtain ⟨f0, hf0⟩ := h0
  obtain ⟨f1, hf1⟩ := h1
  obtain ⟨s, rfl⟩ := okWide_string Try.underlying9 (hval 2 9 v2 rfl rfl)
  obtain ⟨zs, hzs⟩ : ∃ zs, NSl W v0 zs := by
    obtain ⟨a0, l0, c0, rfl⟩ := okWide_slice Try.underlying55 (hval 0 55 v0 rfl rfl)
    exact open_nsl hf0
  obtain ⟨ys, hys⟩ : ∃ ys, NSl W v1 ys := by
    obtain ⟨a0, l0, c0, rfl⟩ := okWide_slice Try.underlying55 (hval 1 55 v1 rfl rfl)
    exact open_nsl hf1
  refine (f9_any zs ys _ _ s W hzs hys).mono fun e W' ⟨he, hg⟩ => ?_
  subst he
  exact ⟨_, rfl, law_post (tb := 4) laidOut hW' rfl rfl rfl Try.underlying4 (by rw [Try.params9]; intro t ht; simp at ht; first | (subst ht; exact ⟨by kernel_rfl, of_decide_eq_true (by kernel_rfl)⟩) | (rcases ht with rfl | rfl | rfl <;> exact ⟨by kernel_rfl, of_decide_eq_true (by kernel_rfl)⟩)) hg⟩

theorem fnMatrixTurned_over : Rows.fnMatrixTurnedRow.holds Try.pinned (OpenSpec.ofChange Rows.fnMatrixTurnedSpec) :=
  OpenClaim.holds_of_wide 9 Try.f9 rfl rfl rfl rfl rfl rfl rfl ⟨rfl, rfl, rfl, rfl, rfl⟩ rfl rfl rfl rfl rfl (by kernel_rfl) Try.func9 (by kernel_rfl)
    (of_decide_eq_true (by kernel_rfl)) (by unfold Func.isWrapper; first | (rw [if_pos (by decide +kernel)]; kernel_rfl) | (rw [if_neg (by decide +kernel)]; exact ⟨rfl, rfl⟩))
    (fun os started H enc _ => fnMatrixTurned_lifted os started H enc)

/-- The statement. -/
theorem fnMatrixTurned_holds : Rows.FnMatrixTurnedSaid :=
  fnMatrixTurned_over
#print axioms fnMatrixTurned_holds
end Go.Proofs.Ytdebkmioaglmaaa
