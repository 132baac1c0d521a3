import Derived.Test.YtdebkmioaglmaaaMat
namespace Go.Proofs.Ytdebkmioaglmaaa
open Go.ChangeShapes Go.WideShapes Go.ChangeAt Go.RowKit
set_option maxHeartbeats 1000000 in
theorem f94_any (b : Nat) (m : List Int) (a c e : Int) (ha : 0 ≤ a ∧ a ≤ 2) (hc : 0 ≤ c ∧ c ≤ 2) (he : m[(3 * a + c).toNat]? = some e) (w : World) (hM : MB w b m) :
    Calls Try.prog 94 #[.pointer (some ⟨b, 0, none⟩), .int .u32 a, .int .u32 c] w fun x w' => x = .returned (.int .u8 e) ∧ Bel w w' := by
  obtain ⟨hB, h9⟩ := hM
  obtain ⟨m0, m1, m2, m3, m4, m5, m6, m7, m8, rfl⟩ := nine h9
  simp only [mc, List.map_cons, List.map_nil] at hB
  obtain ⟨r, z, hl⟩ := hB.facts
  rcases (by omega : a = 0 ∨ a = 1 ∨ a = 2) with rfl | rfl | rfl <;> rcases (by omega : c = 0 ∨ c = 1 ∨ c = 2) with rfl | rfl | rfl
  all_goals
    cases he
    go_enter Try.func94, Try.ntmps94
    go_wp2_with (go_at_call 93; (with_reducible refine (f93_any _ _ _ (by decide) (by decide) _).mono ?_); rintro e w' ⟨rfl, rfl⟩)
    refine post_ret (results_one rfl (resIs_tmp (by rfl))) ⟨rfl, Bel.alloc1 _ _⟩

theorem MB.upd {w w' : World} {g b : Nat} {m : List Int} (h : MB w g m) (hu : Upd w w' b) (hne : g ≠ b) : MB w' g m := ⟨hu.2 _ _ _ hne h.1, h.2⟩
def part (m : List Int) (t : Nat) : List Int := (List.range t).foldl (fun acc q => acc.set (3 * (q % 3) + q / 3) (m.getD q 0)) m
theorem part_step (m : List Int) (k j : Nat) (hj : j < 3) : part m (3 * k + (j + 1)) = (part m (3 * k + j)).set (3 * (j : Int) + (k : Int)).toNat (m.getD (3 * k + j) 0) := by
  unfold part
  rw [← Nat.add_assoc, List.range_succ, List.foldl_append]
  simp only [List.foldl_cons, List.foldl_nil]
  rw [show (3 * k + j) % 3 = j by omega, show (3 * k + j) / 3 = k by omega, show (3 * (j : Int) + (k : Int)).toNat = 3 * j + k by omega]

set_option maxHeartbeats 1000000 in
theorem f80_any (b : Nat) (m : List Int) (w : World) (hM : MB w b m) :
    Calls Try.prog 80 #[.pointer (some ⟨b, 0, none⟩)] w fun x w' => x = .returned (.tuple #[]) ∧ MB w' b (part m 9) ∧ Upd w w' b := by
  have HM := Lib.hid hM
  obtain ⟨hB, h9⟩ := hM
  obtain ⟨m0, m1, m2, m3, m4, m5, m6, m7, m8, hm⟩ := nine h9
  have hB' := hB
  rw [hm] at hB'
  simp only [mc, List.map_cons, List.map_nil] at hB'
  obtain ⟨r, z, hl⟩ := hB'.facts
  have HMM := Lib.hid hm
  clear hB hB' hm
  go_enter Try.func80, Try.ntmps80
  go_wp2
  have HL := Lib.hid hl
  go_loopw [12] (fun i wr => ∃ k : Nat, k ≤ 3 ∧ i = .int .i64 k ∧ MB wr w.heap.size m ∧ Blk wr (w.heap.size + 1) #[.int .u32 0, .int .u32 1, .int .u32 2] 127 ∧ MB wr b (part m (3 * k)) ∧ Upd w wr b) (fun i _ => 3 - (intOf i).toNat)
  case atStart =>
    have hu : Bel w ((w.alloc (Obj.cells #[.int .u8 m0, .int .u8 m1, .int .u8 m2, .int .u8 m3, .int .u8 m4, .int .u8 m5, .int .u8 m6, .int .u8 m7, .int .u8 m8] 141)).alloc (Obj.cells #[.int .u32 0, .int .u32 1, .int .u32 2] 127)) := ((Bel.refl _).alloc _).alloc _
    refine ⟨0, by omega, rfl, ⟨?_, HM.out.2⟩, Blk.new' _ _ _ (by simp), HM.out.bel hu, Upd.bel hu⟩
    rw [HMM.out]
    exact (Blk.new _ _ _).alloc _
  case round =>
    obtain ⟨k, hk, rfl, hcp, hlit, hmb, hu⟩ := hrel
    have HCP := Lib.hid hcp
    have HLIT := Lib.hid hlit
    have HMB := Lib.hid hmb
    have HU := Lib.hid hu
    obtain ⟨l1, l2, l3⟩ := hlit.facts
    clear hcp hlit hmb hu
    by_cases hk3 : k < 3
    · have hcell : wr.cell? ⟨w.heap.size + 1, k, none⟩ = some (.int .u32 k) := by
        rw [l1]
        rcases (by omega : k = 0 ∨ k = 1 ∨ k = 2) with rfl | rfl | rfl <;> rfl
      clear l1
      go_wp2
      have hb1 : Bel wr (wr.alloc (Obj.cells #[.int .u32 0, .int .u32 1, .int .u32 2] 127)) := Bel.alloc1 _ _
      have hne1 : w.heap.size ≠ b := by omega
      have hne2 : w.heap.size + 1 ≠ b := by omega
      have hne3 : wr.heap.size ≠ b := by omega
      have hL2 : Blk (wr.alloc (Obj.cells #[.int .u32 0, .int .u32 1, .int .u32 2] 127)) wr.heap.size #[.int .u32 0, .int .u32 1, .int .u32 2] 127 := Blk.new _ _ _
      have h0 : MB (wr.alloc (Obj.cells #[.int .u32 0, .int .u32 1, .int .u32 2] 127)) w.heap.size m := HCP.out.bel hb1
      have h1 : Blk (wr.alloc (Obj.cells #[.int .u32 0, .int .u32 1, .int .u32 2] 127)) (w.heap.size + 1) #[.int .u32 0, .int .u32 1, .int .u32 2] 127 := HLIT.out.bel hb1
      have h2 : MB (wr.alloc (Obj.cells #[.int .u32 0, .int .u32 1, .int .u32 2] 127)) b (part m (3 * k)) := HMB.out.bel hb1
      have h3 : Upd w (wr.alloc (Obj.cells #[.int .u32 0, .int .u32 1, .int .u32 2] 127)) b := HU.out.trans (Upd.bel hb1)
      have hAll := Lib.hid (And.intro hL2 (And.intro h0 (And.intro h1 (And.intro h2 h3))))
      clear hb1 hL2 h0 h1 h2 h3
      generalize hws : wr.alloc (Obj.cells #[.int .u32 0, .int .u32 1, .int .u32 2] 127) = ws at *
      generalize wr.heap.size = g at *
      clear hws
      rw [decide_eq_true (show (k : Int) < 3 by omega)]
      go_loopw [18] (fun i wt => ∃ j : Nat, j ≤ 3 ∧ i = .int .i64 j ∧ Blk wt g #[.int .u32 0, .int .u32 1, .int .u32 2] 127 ∧ MB wt w.heap.size m ∧ Blk wt (w.heap.size + 1) #[.int .u32 0, .int .u32 1, .int .u32 2] 127 ∧ MB wt b (part m (3 * k + j)) ∧ Upd w wt b) (fun i _ => 3 - (intOf i).toNat)
      case atStart => exact ⟨0, by omega, rfl, hAll.out⟩
      case round =>
        obtain ⟨j, hj, rfl, hL2, h0, h1, h2, h3⟩ := hrel
        have hAl := Lib.hid (And.intro hL2 (And.intro h0 (And.intro h1 (And.intro h2 h3))))
        obtain ⟨l1, l2, l3⟩ := hL2.facts
        clear hL2 h0 h1 h2 h3
        by_cases hj3 : j < 3
        · have hcell2 : wr.cell? ⟨g, j, none⟩ = some (.int .u32 j) := by
            rw [l1]
            rcases (by omega : j = 0 ∨ j = 1 ∨ j = 2) with rfl | rfl | rfl <;> rfl
          have he : m[(3 * (k : Int) + (j : Int)).toNat]? = some (m.getD (3 * k + j) 0) := by
            rw [show (3 * (k : Int) + (j : Int)).toNat = 3 * k + j by omega, List.getD, List.getElem?_eq_getElem (by omega)]
            rfl
          have HE := Lib.hid he
          have PS := Lib.hid (part_step m k j hj3)
          clear l1 he
          generalize m.getD (3 * k + j) 0 = v at *
          have ak : (0 : Int) ≤ k ∧ (k : Int) ≤ 2 := by omega
          have aj : (0 : Int) ≤ j ∧ (j : Int) ≤ 2 := by omega
          have AK := Lib.hid ak
          have AJ := Lib.hid aj
          clear ak aj
          go_wp2_with (first | (go_at_call 94; (with_reducible refine (f94_any w.heap.size m k j v AK.out AJ.out HE.out _ hAl.out.2.1).mono ?_); rintro e w4 ⟨rfl, hb4⟩; have HB4 := Lib.hid hb4; clear hb4) | (go_at_call 79; (with_reducible refine (f79_any b (part m (3 * k + j)) j k v AJ.out AK.out _ (hAl.out.2.2.2.1.bel HB4.out)).mono ?_); rintro e w5 ⟨rfl, hm5, hu5⟩; have HM5 := Lib.hid hm5; have HU5 := Lib.hid hu5; clear hm5 hu5))
          go_roundw
          case rel =>
            obtain ⟨hL2, h0, h1, h2, h3⟩ := hAl.out
            refine ⟨j + 1, by omega, by go_num, HU5.out.2 _ _ _ hne3 (hL2.bel HB4.out), (h0.bel HB4.out).upd HU5.out hne1, HU5.out.2 _ _ _ hne2 (h1.bel HB4.out), ?_, h3.trans ((Upd.bel HB4.out).trans HU5.out)⟩
            rw [PS.out]
            exact HM5.out
          case measure => simp [intOf]; omega
        · have : j = 3 := by omega
          subst this
          go_wp2
          go_roundw
          case rel =>
            obtain ⟨hL2, h0, h1, h2, h3⟩ := hAl.out
            exact ⟨k + 1, by omega, by go_num, h0, h1, by rw [show 3 * (k + 1) = 3 * k + 3 by omega]; exact h2, h3⟩
          case measure => simp [intOf]; omega
    · have : k = 3 := by omega
      subst this
      go_wp2
      exact post_norm rfl ⟨rfl, HMB.out, HU.out⟩
end Go.Proofs.Ytdebkmioaglmaaa
