import Derived.Test.YtdebkmioaglmaaaMat3
import Derived.Deep.RegionHeld3
namespace Go.Proofs.Ytdebkmioaglmaaa
open Go.ChangeShapes Go.WideShapes Go.ChangeAt Go.RowKit
theorem f78_lit (w : World) : Calls Try.prog 78 #[] w fun e w' => e = .returned (.agg #[.int .u8 70, .int .u8 70, .int .u8 70, .int .u8 70, .int .u8 70, .int .u8 70, .int .u8 70, .int .u8 70, .int .u8 70]) ∧ Bel w w' := f78_any w
/-- A slice of bytes, read. -/
def BSl (w : World) (v : Value) (zs : List Int) : Prop :=
  ∃ p cap, v = .slice p zs.length cap ∧ zs.length ≤ cap ∧ cap ≤ 9223372036854775807 ∧
    (zs ≠ [] → ∃ b off, p = some ⟨b, off, none⟩ ∧ b < w.heap.size ∧ ∀ (i : Nat) (z : Int), zs[i]? = some z → w.cell? ⟨b, off + i, none⟩ = some (.int .u8 z))
theorem BSl.bel {w w' : World} {v : Value} {zs : List Int} (h : BSl w v zs) (hb : Bel w w') : BSl w' v zs := by
  obtain ⟨p, cap, hv, hl, hc, h⟩ := h
  refine ⟨p, cap, hv, hl, hc, fun hn => ?_⟩
  obtain ⟨b, off, hp, hlt, hq⟩ := h hn
  exact ⟨b, off, hp, Nat.lt_of_lt_of_le hlt hb.size, fun i z hi => (hb.cell hlt).trans (hq i z hi)⟩
def matN (zs ys ss : List Int) : Nat → List Int
  | 0 => List.replicate 9 70
  | k + 1 => (matN zs ys ss k).set (3 * zs.getD k 0 + ys.getD k 0).toNat (ss.getD k 0)
theorem keepM {w w' : World} {p q r : Addr} {x y z : Value} (hp : p.block < w.heap.size) (hq : q.block < w.heap.size) (hr : r.block < w.heap.size) (cx : w.cell? p = some x) (cy : w.cell? q = some y) (cz : w.cell? r = some z) (h : Bel w w') :
    w'.cell? p = some x ∧ w'.cell? q = some y ∧ w'.cell? r = some z ∧ Bel w w' := ⟨(h.cell hp).trans cx, (h.cell hq).trans cy, (h.cell hr).trans cz, h⟩
def turnIf (t : Bool) (m : List Int) : List Int := if t then part m 9 else m
set_option maxHeartbeats 1000000 in
set_option maxRecDepth 100000 in
theorem f53_some (zs ys ss : List Int) (va vb vc : Value) (t : Bool) (n : Nat) (w : World) (ha : NSl w va zs) (hb : NSl w vb ys) (hbs : BSl w vc ss) (hS : Hid (Sets zs ys n)) (hn : ss.length = n) (hpos : 0 < n) :
    Calls Try.prog 53 #[va, vb, vc, .bool t] w fun x w' => x = .returned (.string (strOfNums (turnIf t (matN zs ys ss n)))) ∧ Bel w w' := by
  obtain ⟨p, cap, rfl, hl, hc, hr, ha⟩ := ha
  obtain ⟨p', cap', rfl, hl', hc', hr', hb⟩ := hb
  obtain ⟨p'', cap'', rfl, hl'', hc'', hd⟩ := hbs
  have k1 := hS.out.1
  have k2 := hS.out.2.1
  have k3 := hS.out.2.2.1
  obtain ⟨ba, oa, rfl, hlta, hca⟩ := ha (by intro e; rw [e] at k1; simp at k1; omega)
  obtain ⟨bb, ob, rfl, hltb, hcb⟩ := hb (by intro e; rw [e] at k2; simp at k2; omega)
  obtain ⟨bd, od, rfl, hltd, hcd⟩ := hd (by intro e; rw [e] at hn; simp at hn; omega)
  have CA := Lib.hid hca
  have CB := Lib.hid hcb
  have CD := Lib.hid hcd
  rw [k1] at hl ⊢
  rw [k2] at hl' ⊢
  rw [hn] at hl'' ⊢
  have L1 := Lib.hid k1
  have L2 := Lib.hid k2
  have L3 := Lib.hid hn
  clear hca hcb hcd hr hr' ha hb hd k1 k2 hn
  go_enter Try.func53, Try.ntmps53
  go_wp2_with (go_at_call 78; (with_reducible refine (f78_lit _).mono ?_); rintro e w1 ⟨rfl, hb1⟩)
  have hg : w.heap.size ≤ w1.heap.size := hb1.size
  have h0 : MB (w1.alloc (Obj.cells (mc (List.replicate 9 70)) 141)) w1.heap.size (matN zs ys ss 0) := ⟨Blk.new _ _ _, rfl⟩
  have hb0 : Bel w (w1.alloc (Obj.cells (mc (List.replicate 9 70)) 141)) := hb1.alloc _
  have H0 := Lib.hid (And.intro h0 hb0)
  clear h0 hb0
  generalize w1.heap.size = g at *
  go_loopw [14] (fun i wr => ∃ k : Nat, k ≤ n ∧ i = .int .i64 k ∧ MB wr g (matN zs ys ss k) ∧ Bel w wr) (fun i _ => n - (intOf i).toNat)
  case atStart => exact ⟨0, Nat.zero_le _, rfl, H0.out⟩
  case round =>
    obtain ⟨k, hk, rfl, hmb, hbel⟩ := hrel
    have HMB := Lib.hid hmb
    have HBEL := Lib.hid hbel
    by_cases hlt : k < n
    · obtain ⟨x, hx⟩ : ∃ x, zs[k]? = some x := ⟨zs[k]'(by have := L1.out; omega), List.getElem?_eq_getElem _⟩
      obtain ⟨y, hy⟩ : ∃ y, ys[k]? = some y := ⟨ys[k]'(by have := L2.out; omega), List.getElem?_eq_getElem _⟩
      obtain ⟨z, hz⟩ : ∃ z, ss[k]? = some z := ⟨ss[k]'(by have := L3.out; omega), List.getElem?_eq_getElem _⟩
      have cx := CA.out k x hx
      have cy := CB.out k y hy
      have cz := CD.out k z hz
      have hok := hS.out.2.2.2 k hlt
      have hst : matN zs ys ss (k + 1) = (matN zs ys ss k).set (3 * x + y).toNat z := by
        show (matN zs ys ss k).set (3 * zs.getD k 0 + ys.getD k 0).toNat (ss.getD k 0) = _
        rw [List.getD, hx, List.getD, hy, List.getD, hz]
        rfl
      rw [List.getD, hx, List.getD, hy] at hok
      simp only [Option.getD_some] at hok
      obtain ⟨ox, oy⟩ := hok
      have OX := Lib.hid ox
      have OY := Lib.hid oy
      obtain ⟨o1, o2⟩ := ox
      obtain ⟨o3, o4⟩ := oy
      have HST := Lib.hid hst
      have wx : IntKind.u32.wrap x = x := IntWalk.u32_in _ (by omega)
      have wy : IntKind.u32.wrap y = y := IntWalk.u32_in _ (by omega)
      have hws := hbel.size
      have ax := (hbel.cell (p := ⟨ba, oa + k, none⟩) hlta).trans cx
      have ay := (hbel.cell (p := ⟨bb, ob + k, none⟩) hltb).trans cy
      have az := (hbel.cell (p := ⟨bd, od + k, none⟩) hltd).trans cz
      have CX := Lib.hid cx
      have CY := Lib.hid cy
      have CZ := Lib.hid cz
      clear hst hx hy hz cx cy cz hmb
      go_wp2
      go_region_held3 (fun w' => w'.cell? ⟨ba, oa + k, none⟩ = some (.int .i64 x) ∧ w'.cell? ⟨bb, ob + k, none⟩ = some (.int .i64 y) ∧ w'.cell? ⟨bd, od + k, none⟩ = some (.int .u8 z) ∧ Bel w w')
        ((refine keepM hlta hltb hltd CX.out CY.out CZ.out ?_; ((repeat (first | with_reducible assumption | with_reducible exact Bel.refl _ | with_reducible apply Bel.alloc | with_reducible apply Bel.drew | (with_reducible apply Bel.setCellR; (simp <;> omega)) | with_reducible refine Bel.behind (by with_reducible assumption) ?_)); done)))
        (first | (go_at_call 79; (with_reducible refine (f79_any g (matN zs ys ss k) x y z OX.out OY.out _ (HMB.out.bel ?hb)).mono ?_); (case hb => repeat (first | with_reducible assumption | with_reducible exact Bel.refl _ | with_reducible apply Bel.alloc | with_reducible apply Bel.drew | (with_reducible apply Bel.setCellR; (simp <;> omega)) | with_reducible refine Bel.behind (by with_reducible assumption) ?_)); rintro e w5 ⟨rfl, hm5, hu5⟩; have hb5 : Bel w w5 := hu5.1 _ (by repeat (first | with_reducible assumption | with_reducible exact Bel.refl _ | with_reducible apply Bel.alloc | with_reducible apply Bel.drew | (with_reducible apply Bel.setCellR; (simp <;> omega)) | with_reducible refine Bel.behind (by with_reducible assumption) ?_)) (by omega); have HM5 := Lib.hid hm5; clear hm5 hu5))
      all_goals
        go_wp2
        go_roundw
      case rel => exact ⟨k + 1, by omega, by go_num, by rw [HST.out]; exact HM5.out, hb5⟩
      case measure => simp [intOf]; omega
    · have : k = n := by omega
      subst this
      clear hmb hbel
      cases t
      · go_wp2_with (first | (go_at_call 81; (with_reducible refine (f81_any g _ _ HMB.out).mono ?_); rintro e w2 ⟨rfl, hb2⟩))
        go_ret
        exact ⟨rfl, HBEL.out.trans hb2⟩
      · go_wp2_with (first | (go_at_call 80; (with_reducible refine (f80_any g _ _ HMB.out).mono ?_); rintro e w2 ⟨rfl, hm2, hu2⟩; have HM2 := Lib.hid hm2; have HU2 := Lib.hid hu2; clear hm2 hu2) | (go_at_call 81; (with_reducible refine (f81_any g _ _ HM2.out).mono ?_); rintro e w3 ⟨rfl, hb3⟩))
        go_ret
        exact ⟨rfl, (HU2.out.1 _ HBEL.out hg).trans hb3⟩
end Go.Proofs.Ytdebkmioaglmaaa
