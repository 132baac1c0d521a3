/-
  spec.ForceCoordinatesType. No panic; what stood in memory has not turned.
-/
import Derived.Test.YtpipehenfcbjbaaGreatSpf
set_option linter.unusedVariables false
namespace Go.Proofs.YtpipehenfcbjbaaGreat
open Go.ChangeShapes Go.WideShapes Go.ChangeAt Go.RowKit
theorem force_take {c : Nat} {ks : List Gm} {t : Nat} {g : Gm} (h : ks[t]? = some g) : (ks.take (t + 1)).map (force c) = (ks.take t).map (force c) ++ [force c g] := by
  rw [List.take_add_one, h]
  simp
theorem force_kind (c : Nat) (g : Gm) : (force c g).kind = g.kind ∧ (force c g).dim = c := by
  cases g
  exact ⟨rfl, rfl⟩
def SpForce (c : Nat) (g : Gm) : Prop := ∀ G : Nat → Prop, GmArg g fun v w => New G w → Calls Tryz.prog 19 #[v, .int .i64 c] w (IsGm G (force c g) w)
set_option maxHeartbeats 8000000 in
set_option maxRecDepth 100000 in
theorem spForce_ind (cc : Nat) (hcc : cc ≤ 3) : ∀ (n : Nat) (g : Gm), g.size ≤ n → g.size ≤ 1048576 → SpForce cc g := by
  intro n
  induction n with
  | zero => exact fun g h _ => absurd h (by have := g.size_pos; omega)
  | succ n ih =>
    intro g hsz hbig G F pn nn cn pk nk ck w hN hK hG
    obtain ⟨k, d, ns, ks⟩ := g
    obtain ⟨hnl, hncap, -⟩ := hN.len
    obtain ⟨_, _, hve, hkl, hkc⟩ := hK.isSlice
    cases hve
    change ks.length ≤ ck at hkl
    show Calls Tryz.prog 19 #[.agg #[.int .i64 k, .int .i64 d, .slice pn nn cn, .slice pk ks.length ck], .int .i64 cc] w _
    have HK := Lib.hid (show GmSl F w (.slice pk ks.length ck) ks from hK)
    have HNS := Lib.hid (show FlSl F w (.slice pn nn cn) ns from hN)
    have hnl2 : ns.length = nn := hnl
    have hks : ks.length ≤ 1048576 := by
      have := Gm.len_sizes ks
      simp only [Gm.size] at hbig
      omega
    have hnb : nn ≤ 1048576 := by
      simp only [Gm.size] at hbig
      omega
    have HIH : Hid (∀ g ∈ ks, SpForce cc g) := Lib.hid fun g hg => ih g (by
      have h2 := Gm.size_mem hg
      simp only [Gm.size] at hsz
      omega) (by
      have h2 := Gm.size_mem hg
      simp only [Gm.size] at hbig
      omega)
    have HPL : Hid (∀ (W : World), Bel w W → Calls Tryz.prog 36 #[.slice pn nn cn, .int .i64 d] W (IsPls (fun _ => True) W (plsOf (ct d) ns))) := Lib.hid fun W hW => places_any (fun _ => True) F _ ns d W (New.any W) (HNS.out.bel hW) (by rw [hnl2]; omega)
    have HNU : Hid (∀ (v : Value) (W : World), w.heap.size + 3 ≤ W.heap.size → PlSl (fun _ => True) W v (plsOf (ct d) ns) → Calls Tryz.prog 35 #[v, .int .i64 cc] W (IsFlx (fun b => w.heap.size + 3 ≤ b) (forceN (ct d) cc ns) W)) := Lib.hid fun v W hW hp => by
      have := nums_any (fun b => w.heap.size + 3 ≤ b) (fun _ => True) v (plsOf (ct d) ns) cc W (fun b hb => Nat.le_trans hW hb) hp (by rw [plsOf_len, hnl2]; exact Nat.le_trans (Nat.div_le_self _ _) hnb)
      rw [ct_nat hcc] at this
      exact this
    obtain ⟨i0, hi, hz0, hz1, hz2⟩ := info_parts infoGm
    have HFO : Hid (force cc (.mk k d ns ks) = .mk k cc (forceN (ct d) cc ns) (ks.map (force cc))) := Lib.hid (by rw [force, forceAll_map])
    clear ih hsz hN hK hnl hnl2 hbig
    generalize hn : ks.length = n at *
    have HN := Lib.hid hn
    clear hn
    generalize forceN (ct d) cc ns = ys at *
    go_enter Tryz.func19, Tryz.ntmps19
    go_wp2_with (first
      | (go_at_call 36; (with_reducible refine (HPL.out _ ?hb).mono ?_); (case hb => (repeat (first | with_reducible assumption | with_reducible exact Bel.refl _ | with_reducible apply Bel.alloc | with_reducible apply Bel.drew | with_reducible apply Bel.drewN | ((with_reducible apply Bel.setCellR); (simp <;> omega)) | with_reducible refine Bel.behind (by with_reducible assumption) ?_))); rintro e w1 ⟨v1, rfl, hp1, hb1⟩; have HP1 := Lib.hid hp1; have HSZ1 : Hid (w.heap.size + 3 ≤ w1.heap.size) := Lib.hid (by have := hb1.size; simp at this; omega); have HB1 : Hid (Bel w w1) := Lib.hid ((((Bel.alloc1 w _).alloc _).alloc _).trans hb1); have HQ1 : Hid (Blk w1 (w.heap.size + 1) #[.int .i64 0, .int .i64 0, .slice none 0 0, .slice none 0 0] 25) := Lib.hid (((Blk.new' _ _ _ (by simp)).alloc _).bel hb1); have HQ2 : Hid (Blk w1 (w.heap.size + 2) #[.int .i64 k, .int .i64 cc, .slice none 0 0, .slice none 0 0] 25) := Lib.hid ((Blk.new' _ _ _ (by simp)).bel hb1); have HQ0 : Hid (Blk w1 w.heap.size #[.int .i64 k, .int .i64 d, .slice pn nn cn, .slice pk n ck] 25) := Lib.hid ((((Blk.new w _ _).alloc _).alloc _).bel hb1); clear hb1 hp1)
      | (go_at_call 35; (with_reducible refine (HNU.out _ _ HSZ1.out HP1.out).mono ?_); rintro e w2 ⟨p2, m2, c2, rfl, hf2, hb2⟩; have HF2 := Lib.hid hf2; have HB2 : Hid (Bel w w2) := Lib.hid (HB1.out.trans hb2); have HSZ2 : Hid (w.heap.size + 3 ≤ w2.heap.size) := Lib.hid (Nat.le_trans HSZ1.out hb2.size); have B0 := HQ0.out.bel hb2; have B1 := HQ1.out.bel hb2; have B2 := HQ2.out.bel hb2; obtain ⟨r0, z0, l0⟩ := B0.facts; obtain ⟨r2, z2, l2⟩ := B2.facts; have HR1 := Lib.hid B1; have HR2 := Lib.hid B2; clear hb2 hf2 B0 B1 B2))
    go_loopw [23] (fun iv wr => ∃ (t : Nat) (p : Option Addr) (c : Nat) (xs : List Value), iv = .int .i64 t ∧ t ≤ n ∧ Bel w wr ∧ w.heap.size + 3 ≤ wr.heap.size ∧ Blk wr (w.heap.size + 1) #[.int .i64 0, .int .i64 0, .slice none 0 0, .slice none 0 0] 25 ∧ Blk wr (w.heap.size + 1 + 1) #[.int .i64 k, .int .i64 cc, .slice p2 m2 c2, .slice p t c] 25 ∧ wr.ownsRow (w.heap.size + 3) 25 4 (.slice p t c) t xs ∧ RowGm (fun b => w.heap.size + 3 ≤ b ∧ Value.ownBlock (.slice p t c) ≠ some b) wr xs ((ks.take t).map (force cc)) ∧ FlSl (fun b => w.heap.size + 3 ≤ b ∧ Value.ownBlock (.slice p t c) ≠ some b) wr (.slice p2 m2 c2) ys) (fun iv _ => n - (intOf iv).toNat)
    case atStart =>
      refine ⟨0, none, 0, [], rfl, Nat.zero_le _, ?_, ?_, ?_, ?_, World.ownsRow_nil _ _ _ _, fun i g hg => by simp at hg, ?_⟩
      · exact HB2.out.setCell (by simp; omega) _
      · simpa using HSZ2.out
      · have HB := HR1.out
        (repeat (first | with_reducible assumption | with_reducible exact Blk.new _ _ _ | ((with_reducible refine Blk.new' _ _ _ ?_); (focus ((simp; done)))) | with_reducible apply Blk.drew | with_reducible apply Blk.drewN | with_reducible refine Blk.alloc ?_ _ | with_reducible apply Blk.same | (with_reducible refine Blk.bel ?_ (by with_reducible assumption)) | ((with_reducible refine Blk.otherR ?_ ?_); (focus ((simp <;> omega); done)))))
      · exact Blk.cast (HR2.out.set 2 _) (by rfl)
      · exact (HF2.out.set (g := w.heap.size + 1 + 1) (by omega) 2 _).mono fun b _ hb => ⟨hb, by simp [Value.ownBlock]⟩
    case round =>
      obtain ⟨t, p, c, xs, rfl, ht, hbel, hgrow, hb1, hb2, hown, hrow, hfl⟩ := hrel
      have HBEL := Lib.hid hbel
      have HGROW := Lib.hid hgrow
      have HG1 := Lib.hid hb1
      have HG2 := Lib.hid hb2
      have HOWN := Lib.hid hown
      have HROW := Lib.hid hrow
      have HFL := Lib.hid hfl
      obtain ⟨q1, y1, u1⟩ := hb1.facts
      obtain ⟨q2, y2, u2⟩ := hb2.facts
      clear hb1 hb2 hown hrow hfl
      by_cases htn : t < n
      · obtain ⟨kd, hkd⟩ : ∃ kd, ks[t]? = some kd := ⟨_, List.getElem?_eq_getElem (by have := HN.out; omega)⟩
        have HKD := Lib.hid (HIH.out kd (List.mem_iff_getElem?.2 ⟨t, hkd⟩))
        obtain ⟨b, off, pn', nn', cn', pk', nk', ck', rfl, hlt, -, d0, d1, d2, d3, hf, hg'⟩ := HK.out.at hkd
        have D0 := cell_kept hbel d0
        have D1 := cell_kept hbel d1
        have D2 := cell_kept hbel d2
        have D3 := cell_kept hbel d3
        have hbl : b < wr.heap.size := Nat.lt_of_lt_of_le hlt hbel.size
        have HC : Hid (∀ (W : World), Bel w W → Calls Tryz.prog 19 #[.agg #[.int .i64 kd.kind, .int .i64 kd.dim, .slice pn' nn' cn', .slice pk' nk' ck'], .int .i64 cc] W (IsGm (fun b => W.heap.size ≤ b) (force cc kd) W)) := Lib.hid fun W hW => GmArg.of (HKD.out (fun b => W.heap.size ≤ b)) hf hg' hW (fun b hb => hb)
        have HTK := Lib.hid (force_take (c := cc) hkd)
        have HLT : Hid (((ks.take t).map (force cc)).length = t) := Lib.hid (by rw [List.length_map, List.length_take, HN.out]; omega)
        clear HKD d0 d1 d2 d3 hf hg' hbel hkd
        generalize kd.dim = kdim at *
        generalize kd.kind = kkind at *
        generalize force cc kd = fk at *
        go_wp2
        go_region_law (first
          | (go_simp; go_at_call 19; ((with_reducible refine (HC.out _ ?hb).mono ?_); (case hb => (have HB := HBEL.out; (repeat (first | with_reducible assumption | with_reducible exact Bel.refl _ | with_reducible apply Bel.alloc | with_reducible apply Bel.drew | with_reducible apply Bel.drewN | ((with_reducible apply Bel.setCellR); (simp <;> omega)) | with_reducible refine Bel.behind (by with_reducible assumption) ?_)))); rintro e w3 ⟨p4, n4, c4, p5, n5, c5, rfl, hf4, hg4, hb4⟩; have HF4 := Lib.hid hf4; have HG4 := Lib.hid hg4; have HB3 : Hid (Bel wr w3) := Lib.hid (by (repeat (first | with_reducible assumption | with_reducible exact Bel.refl _ | with_reducible apply Bel.alloc | with_reducible apply Bel.drew | with_reducible apply Bel.drewN | ((with_reducible apply Bel.setCellR); (simp <;> omega)) | with_reducible refine Bel.behind (by with_reducible assumption) ?_))); have HSZ3 : Hid (wr.heap.size + 1 ≤ w3.heap.size) := Lib.hid (by have := hb4.size; simp at this; exact this); have C1 := HG1.out.bel HB3.out; have C2 := HG2.out.bel HB3.out; have HC1 := Lib.hid C1; have HC2 := Lib.hid C2; obtain ⟨q3, y3, u3⟩ := C2.facts; clear hf4 hg4 hb4 C1 C2))
          | (refine step_append_row _ rfl (.tmp 28) (.tmp 32) 23 rfl (w.heap.size + 3) 25 i0 _ 4 64 Tryz.underlying23 hi hz0 hz1 hz2 rfl (by decide) (.slice p t c) t xs rfl ((own_kept HOWN.out HB3.out).alloc _) ⟨w3.heap.size, 0, none⟩ 1 1 [.int .i64 fk.kind, .int .i64 fk.dim, .slice p4 n4 c4, .slice p5 n5 c5] rfl rfl (cells_arr _ _ _ (by simp)) (by simp [Value.oneCell']) (by decide) (by unfold maxLen; omega) (by omega) (by have := HGROW.out; have := HB3.out.size; simp; omega) ?_; intro v' w6 ho6 hg6 hb6; obtain ⟨p6, c6, rfl⟩ := ho6.isSlice; have HO6 := Lib.hid ho6; have HG6 := Lib.hid hg6; have HB6 := Lib.hid hb6; have E1 := grownBy_blk hg6 (HC1.out.alloc _) (fun e => by have := (HOWN.out.lt _ e.symm).1; omega); have E2 := grownBy_blk hg6 (HC2.out.alloc _) (fun e => by have := (HOWN.out.lt _ e.symm).1; omega); have HE1 := Lib.hid E1; have HE2 := Lib.hid E2; obtain ⟨q6, y6, u6⟩ := E2.facts; clear ho6 hg6 hb6 E1 E2))
        all_goals
          go_wp2
          go_roundw
          case rel =>
            have hs3 := HSZ3.out
            have hs6 := HG6.out.size
            have hgr := HGROW.out
            simp at hs6
            have hne : ∀ b, b < w3.heap.size → Value.ownBlock (.slice p t c) ≠ some b → Value.ownBlock (.slice p6 (t + 1) c6) ≠ some b := fun b hb hn => by
              rcases HB6.out with h | h
              · rw [h]
                exact hn
              · rw [h]
                intro e
                have := Option.some.inj e
                simp at this
                omega
            have hblk : ∀ b, b < w3.heap.size → Value.ownBlock (.slice p t c) ≠ some b → w6.heap[b]? = w3.heap[b]? := fun b hb hn => by
              rw [HG6.out.block b (by simp; omega) (fun e => hn e.symm)]
              exact Below.heap_alloc _ _ _ (by simpa using hb)
            refine ⟨t + 1, p6, c6, _, by go_num, by omega, ?_, by simp; omega, ?_, ?_, (HO6.out.kept (grownBy_set _ _ _ _) (HO6.out.ne_of_lt' (by omega))), ?_, ?_⟩
            · exact ((show Bel w _ from HBEL.out.trans (show Bel wr _ by (have HB := HB3.out; (repeat (first | with_reducible assumption | with_reducible exact Bel.refl _ | with_reducible apply Bel.alloc | with_reducible apply Bel.drew | with_reducible apply Bel.drewN | ((with_reducible apply Bel.setCellR); (simp <;> omega)) | with_reducible refine Bel.behind (by with_reducible assumption) ?_))))).of_row HG6.out (fun g hg => by have := (HOWN.out.lt g hg).1; omega)).setCell (by simp; omega) _
            · have HB := HE1.out
              (repeat (first | with_reducible assumption | with_reducible exact Blk.new _ _ _ | ((with_reducible refine Blk.new' _ _ _ ?_); (focus ((simp; done)))) | with_reducible apply Blk.drew | with_reducible apply Blk.drewN | with_reducible refine Blk.alloc ?_ _ | with_reducible apply Blk.same | (with_reducible refine Blk.bel ?_ (by with_reducible assumption)) | ((with_reducible refine Blk.otherR ?_ ?_); (focus ((simp <;> omega); done)))))
            · exact Blk.cast (HE2.out.set 3 _) (by rfl)
            · rw [HTK.out]
              refine RowGm.push (HROW.out.keep (by simp; omega) (fun b hb hl => ?_) fun b hl hb => ⟨hb.1, hne b (by omega) hb.2⟩) HLT.out HOWN.out.1 (HF4.out.keep (by simp; omega) (fun b hb hl => ?_) fun b hl hb => ⟨?_, ?_⟩) (HG4.out.keep (by simp; omega) (fun b hb hl => ?_) fun b hl hb => ⟨?_, ?_⟩)
              · rw [Below.heap_setCell _ _ _ _ (by simp; omega), hblk b (by omega) hb.2]
                exact HB3.out.block b hl
              · rw [Below.heap_setCell _ _ _ _ (by simp at hb; simp; omega), hblk b hl (fun e => by have h1 := (HOWN.out.lt _ e).2; simp at hb; omega)]
              · simp at hb; omega
              · exact hne b hl (fun e => by have h1 := (HOWN.out.lt _ e).2; simp at hb; omega)
              · rw [Below.heap_setCell _ _ _ _ (by simp at hb; simp; omega), hblk b hl (fun e => by have h1 := (HOWN.out.lt _ e).2; simp at hb; omega)]
              · simp at hb; omega
              · exact hne b hl (fun e => by have h1 := (HOWN.out.lt _ e).2; simp at hb; omega)
            · refine HFL.out.keep (by simp; omega) (fun b hb hl => ?_) fun b hl hb => ⟨hb.1, hne b (by omega) hb.2⟩
              rw [Below.heap_setCell _ _ _ _ (by simp; omega), hblk b (by omega) hb.2]
              exact HB3.out.block b hl
          case measure => simp [intOf]; omega
      · obtain rfl : t = n := by omega
        have hrow := HROW.out
        rw [List.take_of_length_le (by have := HN.out; omega)] at hrow
        have HGS : Hid (GmSl (fun b => w.heap.size + 3 ≤ b) wr (.slice p t c) (ks.map (force cc))) := Lib.hid (RowGm.sl HOWN.out hrow (by rw [List.length_map, HN.out]) (fun b hb => hb) fun b _ hb => hb.1)
        have HFS : Hid (FlSl (fun b => w.heap.size + 3 ≤ b) wr (.slice p2 m2 c2) ys) := Lib.hid (HFL.out.mono fun b _ hb => hb.1)
        have HEND : Hid (∀ W : World, wr.heap.size ≤ W.heap.size → (∀ b, w.heap.size + 3 ≤ b → b < wr.heap.size → W.heap[b]? = wr.heap[b]?) → Bel w W → IsGm G (force cc (.mk k d ns ks)) w (.returned (.agg #[.int .i64 k, .int .i64 cc, .slice p2 m2 c2, .slice p t c])) W) := Lib.hid fun W hW hk hb => by
          rw [HFO.out]
          exact ⟨_, _, _, _, _, _, rfl, HFS.out.keep hW hk (fun b _ hb => hG b (by omega)), HGS.out.keep hW hk (fun b _ hb => hG b (by omega)), hb⟩
        clear hrow hbel
        go_wp2
        refine post_ret (results_one rfl (resIs_agg (n := 4) (cs := #[.int .i64 k, .int .i64 cc, .slice p2 m2 c2, .slice p t c]) (by rfl) Tryz.underlying25 (by kernel_rfl) (T := 25) ?_ rfl)) (HEND.out _ ?_ (fun b hb hl => ?_) ?_)
        · have HB := HG1.out
          (apply Blk.cast; (repeat (first | with_reducible assumption | with_reducible apply Blk.set | ((with_reducible apply Blk.otherR); (focus ((simp <;> omega); done))) | with_reducible exact Blk.new _ _ _ | ((with_reducible apply Blk.new'); (focus (simp; done))) | with_reducible apply Blk.alloc | with_reducible apply Blk.drew | with_reducible apply Blk.drewN | (with_reducible refine Blk.bel ?_ (by with_reducible assumption)))); rfl)
        · simp
        · repeat rw [Below.heap_setCell _ _ _ _ (by simp; omega)]
        · have HB := HBEL.out
          (repeat (first | with_reducible assumption | with_reducible exact Bel.refl _ | with_reducible apply Bel.alloc | with_reducible apply Bel.drew | with_reducible apply Bel.drewN | ((with_reducible apply Bel.setCellR); (simp <;> omega)) | with_reducible refine Bel.behind (by with_reducible assumption) ?_))
theorem spForce_any (c : Nat) (hc : c ≤ 3) (g : Gm) (h : g.size ≤ 1048576) : SpForce c g := spForce_ind c hc g.size g (Nat.le_refl _) h
end Go.Proofs.YtpipehenfcbjbaaGreat
