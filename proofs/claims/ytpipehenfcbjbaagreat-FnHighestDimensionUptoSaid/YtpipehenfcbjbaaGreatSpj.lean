/-
  spec.New of plain data: a point. No panic; what stood in memory has not turned.
-/
import Derived.Test.YtpipehenfcbjbaaGreatSpi
set_option linter.unusedVariables false
namespace Go.Proofs.YtpipehenfcbjbaaGreat
open Go.ChangeShapes Go.WideShapes Go.ChangeAt Go.RowKit
set_option maxHeartbeats 8000000 in
set_option maxRecDepth 100000 in
theorem spNewPoint_0 (d : Int) (ns : List Nat) (ks : List Gm) (h31 : ns.length ≤ 1048576) (hq : ns.length / wd (ct d) = 0) : SpNew (.mk 1 d ns ks) := by
  intro G F pn nn cn pk nk ck w hN hK hG
  obtain ⟨hnl, hncap, hcap⟩ := hN.len
  have hnl2 : ns.length = nn := hnl
  have HNS := Lib.hid (show FlSl F w (.slice pn nn cn) ns from hN)
  clear hK hN
  show Calls Tryz.prog 8 #[.agg #[.int .i64 1, .int .i64 d, .slice pn nn cn, .slice pk nk ck]] w _
  have HNEW : Hid (newOf (.mk 1 d ns ks) = .mk 1 (ct d) (ns.take (0)) []) := Lib.hid (by
    rw [newOf, if_pos (Or.inl (by decide)), if_pos (by decide)]
    congr 2
    rw [hq]; simp)
  have a3 : bits .and .i64 d 3 = (ct d : Nat) := by
    rw [i64_and3]
    unfold ct
    omega
  have hc3 := ct_le d
  generalize hcd : ct d = cd at *
  have hD := wd_bd cd
  have HW : Hid (∀ W, Calls Tryz.prog 17 #[.int .i64 cd] W fun e w' => e = .returned (.int .i64 (wd cd)) ∧ W = w') := Lib.hid fun W => by
    have := width_any cd W
    rw [ct_nat hc3] at this
    exact this
  have hq0 : ((nn : Int) / (wd cd : Int)) = ((nn / wd cd : Nat) : Int) := (Int.natCast_ediv _ _).symm
  have hq1 : nn / wd cd ≤ nn := Nat.div_le_self _ _
  rw [hnl2] at hq
  clear hcd hc3
  obtain ⟨i0, hi, hz0, hz1, hz2⟩ := info_parts infoF
  generalize nn / wd cd = q at *
  subst hq
  generalize wd cd = D at *
  obtain ⟨hD1, hD2⟩ := hD
  have HNL := Lib.hid hnl2
  clear hnl hnl2
  have hwl : IntKind.i64.wrap (0 : Int) = (0 : Int) := by
    rw [IntKind.wrap_i64]
    omega
  have hLc : (0 : Int) ≤ (cn : Int) := by omega
  have hL0 : (0 : Int) ≤ (0 : Int) := by omega
  go_enter Tryz.func8, Tryz.ntmps8
  go_wp2_with (go_at_call 16; (with_reducible refine (leaf_any _ _).mono ?_); rintro e w' ⟨rfl, rfl⟩)
  go_quiet ((go_at_call 17; exact Calls.quiet_of_same ((HW.out _).mono fun _ _ h => ⟨h.1, h.2.symm⟩)))
  go_wp2
  generalize hW : World.drewN (World.alloc (World.alloc (World.alloc w _) _) _) _ = w5 at *
  have B0 : Blk w5 w.heap.size #[.int .i64 1, .int .i64 d, .slice pn nn cn, .slice pk nk ck] 25 := by
    subst hW
    (repeat (first | with_reducible assumption | with_reducible exact Blk.new _ _ _ | ((with_reducible refine Blk.new' _ _ _ ?_); (focus ((simp; done)))) | with_reducible apply Blk.drew | with_reducible apply Blk.drewN | with_reducible refine Blk.alloc ?_ _ | with_reducible apply Blk.same | (with_reducible refine Blk.bel ?_ (by with_reducible assumption)) | ((with_reducible refine Blk.otherR ?_ ?_); (focus ((simp <;> omega); done)))))
  have B1 : Blk w5 (w.heap.size + 1) #[.int .i64 0, .int .i64 0, .slice none 0 0, .slice none 0 0] 25 := by
    subst hW
    (repeat (first | with_reducible assumption | with_reducible exact Blk.new _ _ _ | ((with_reducible refine Blk.new' _ _ _ ?_); (focus ((simp; done)))) | with_reducible apply Blk.drew | with_reducible apply Blk.drewN | with_reducible refine Blk.alloc ?_ _ | with_reducible apply Blk.same | (with_reducible refine Blk.bel ?_ (by with_reducible assumption)) | ((with_reducible refine Blk.otherR ?_ ?_); (focus ((simp <;> omega); done)))))
  have B2 : Blk w5 (w.heap.size + 1 + 1) #[.int .i64 1, .int .i64 cd, .slice none 0 0, .slice none 0 0] 25 := by
    subst hW
    (repeat (first | with_reducible assumption | with_reducible exact Blk.new _ _ _ | ((with_reducible refine Blk.new' _ _ _ ?_); (focus ((simp; done)))) | with_reducible apply Blk.drew | with_reducible apply Blk.drewN | with_reducible refine Blk.alloc ?_ _ | with_reducible apply Blk.same | (with_reducible refine Blk.bel ?_ (by with_reducible assumption)) | ((with_reducible refine Blk.otherR ?_ ?_); (focus ((simp <;> omega); done)))))
  have HB5 : Hid (Bel w w5) := Lib.hid (by
    subst hW
    (repeat (first | with_reducible assumption | with_reducible exact Bel.refl _ | with_reducible apply Bel.alloc | with_reducible apply Bel.drew | with_reducible apply Bel.drewN | ((with_reducible apply Bel.setCellR); (simp <;> omega)) | with_reducible refine Bel.behind (by with_reducible assumption) ?_)))
  have hsz5 : w.heap.size + 3 ≤ w5.heap.size := by
    subst hW
    simp
  clear hW
  have HQ1 := Lib.hid B1
  have HQ2 := Lib.hid B2
  obtain ⟨r0, z0, l0⟩ := B0.facts
  obtain ⟨r2, z2, l2⟩ := B2.facts
  clear B0 B1 B2
  refine wp_region_still_tail 10 (by kernel_rfl) (by kernel_rfl) ?_
  simp only [List.take_succ_cons, List.take_zero, List.drop_succ_cons, List.drop_zero]
  repeat still_step
  still_call ((HW.out _).mono fun _ _ h => ⟨h.1, h.2.symm⟩)
  repeat still_step
  refine wpStill_nil ?_
  change wpList _ _ _ _ _ w5.drew
  go_wp2_with (at_builtin; (refine wpList_append_some _ rfl (.tmp 40) (.tmp 48) 22 rfl (w.heap.size + 3) 29 i0 _ 1 8 Tryz.underlying22 hi hz0 hz1 hz2 rfl (by decide) (.slice none 0 0) 0 [] rfl (World.ownsRow_nil _ _ _ _) pn 0 cn ((ns.take 0).map flv) rfl (by rw [List.length_map, List.length_take, HNL.out]; omega) (fun hm => (HNS.out.bel (show Bel w _ by (have HB := HB5.out; (repeat (first | with_reducible assumption | with_reducible exact Bel.refl _ | with_reducible apply Bel.alloc | with_reducible apply Bel.drew | with_reducible apply Bel.drewN | ((with_reducible apply Bel.setCellR); (simp <;> omega)) | with_reducible refine Bel.behind (by with_reducible assumption) ?_))))).src (by rw [List.length_map, List.length_take, HNL.out]; omega)) (flv_one _) (by unfold maxLen; have := HNL.out; omega) (by have := HNL.out; omega) (by simp; omega) ?_; intro v' w6 ho6 hg6 hb6; obtain ⟨p6, c6, rfl⟩ := ho6.isSlice; have HO6 := Lib.hid ho6; have HG6 := Lib.hid hg6; have HB6 := Lib.hid hb6; have E1 := grownBy_blk hg6 (show Blk _ (w.heap.size + 1) #[.int .i64 0, .int .i64 0, .slice none 0 0, .slice none 0 0] 25 by (have HB := HQ1.out; (repeat (first | with_reducible assumption | with_reducible exact Blk.new _ _ _ | ((with_reducible refine Blk.new' _ _ _ ?_); (focus ((simp; done)))) | with_reducible apply Blk.drew | with_reducible apply Blk.drewN | with_reducible refine Blk.alloc ?_ _ | with_reducible apply Blk.same | (with_reducible refine Blk.bel ?_ (by with_reducible assumption)) | ((with_reducible refine Blk.otherR ?_ ?_); (focus ((simp <;> omega); done))))))) (fun e => by simp [Value.ownBlock] at e); have E2 := grownBy_blk hg6 (show Blk _ (w.heap.size + 1 + 1) #[.int .i64 1, .int .i64 cd, .slice none 0 0, .slice none 0 0] 25 by (have HB := HQ2.out; (repeat (first | with_reducible assumption | with_reducible exact Blk.new _ _ _ | ((with_reducible refine Blk.new' _ _ _ ?_); (focus ((simp; done)))) | with_reducible apply Blk.drew | with_reducible apply Blk.drewN | with_reducible refine Blk.alloc ?_ _ | with_reducible apply Blk.same | (with_reducible refine Blk.bel ?_ (by with_reducible assumption)) | ((with_reducible refine Blk.otherR ?_ ?_); (focus ((simp <;> omega); done))))))) (fun e => by simp [Value.ownBlock] at e); have HE1 := Lib.hid E1; obtain ⟨q5, y5, u5⟩ := E1.facts; have HE2 := Lib.hid E2; obtain ⟨q6, y6, u6⟩ := E2.facts; clear ho6 hg6 hb6 E1 E2))
  have ho : Hid (w6.ownsRow (w.heap.size + 3) 29 1 (.slice p6 0 c6) 0 ((ns.take 0).map flv)) := Lib.hid (by
    have := HO6.out
    rw [Nat.zero_add] at this
    exact this)
  have HFS : Hid (FlSl (fun b => w.heap.size + 3 ≤ b) w6 (.slice p6 0 c6) (ns.take 0)) := Lib.hid (FlSl.of_owns ho.out (by rw [List.length_take, HNL.out]; omega) fun b hb => hb)
  have HEND : Hid (∀ W : World, w6.heap.size ≤ W.heap.size → (∀ b, w.heap.size + 3 ≤ b → b < w6.heap.size → W.heap[b]? = w6.heap[b]?) → Bel w W → IsGm G (newOf (.mk 1 d ns ks)) w (.returned (.agg #[.int .i64 1, .int .i64 cd, .slice p6 0 c6, .slice none 0 0])) W) := Lib.hid fun W hW hk hb => by
    rw [HNEW.out]
    exact ⟨_, _, _, _, _, _, rfl, HFS.out.keep hW hk (fun b _ hb => hG b (by omega)), GmSl.nil G W, hb⟩
  have HB6' : Hid (Bel w w6) := Lib.hid ((show Bel w _ by (have HB := HB5.out; (repeat (first | with_reducible assumption | with_reducible exact Bel.refl _ | with_reducible apply Bel.alloc | with_reducible apply Bel.drew | with_reducible apply Bel.drewN | ((with_reducible apply Bel.setCellR); (simp <;> omega)) | with_reducible refine Bel.behind (by with_reducible assumption) ?_)))).of_row HG6.out (fun g hg => by simp [Value.ownBlock] at hg))
  refine post_ret (results_one rfl (resIs_agg (n := 4) (cs := #[.int .i64 1, .int .i64 cd, .slice p6 0 c6, .slice none 0 0]) (by rfl) Tryz.underlying25 (by kernel_rfl) (T := 25) ?_ rfl)) (HEND.out _ ?_ (fun b hb hl => ?_) ?_)
  · have HB := HE1.out
    (apply Blk.cast; (repeat (first | with_reducible assumption | with_reducible apply Blk.set | ((with_reducible apply Blk.otherR); (focus ((simp <;> omega); done))) | with_reducible exact Blk.new _ _ _ | ((with_reducible apply Blk.new'); (focus (simp; done))) | with_reducible apply Blk.alloc | with_reducible apply Blk.drew | with_reducible apply Blk.drewN | (with_reducible refine Blk.bel ?_ (by with_reducible assumption)))); rfl)
  · simp
  · repeat rw [Below.heap_setCell _ _ _ _ (by simp; omega)]
  · have HB := HB6'.out
    (repeat (first | with_reducible assumption | with_reducible exact Bel.refl _ | with_reducible apply Bel.alloc | with_reducible apply Bel.drew | with_reducible apply Bel.drewN | ((with_reducible apply Bel.setCellR); (simp <;> omega)) | with_reducible refine Bel.behind (by with_reducible assumption) ?_))
set_option maxHeartbeats 8000000 in
set_option maxRecDepth 100000 in
theorem spNewPoint_1 (d : Int) (ns : List Nat) (ks : List Gm) (h31 : ns.length ≤ 1048576) (hq : ns.length / wd (ct d) = 1) : SpNew (.mk 1 d ns ks) := by
  intro G F pn nn cn pk nk ck w hN hK hG
  obtain ⟨hnl, hncap, hcap⟩ := hN.len
  have hnl2 : ns.length = nn := hnl
  have HNS := Lib.hid (show FlSl F w (.slice pn nn cn) ns from hN)
  clear hK hN
  show Calls Tryz.prog 8 #[.agg #[.int .i64 1, .int .i64 d, .slice pn nn cn, .slice pk nk ck]] w _
  have HNEW : Hid (newOf (.mk 1 d ns ks) = .mk 1 (ct d) (ns.take (wd (ct d))) []) := Lib.hid (by
    rw [newOf, if_pos (Or.inl (by decide)), if_pos (by decide)]
    congr 2
    rw [hq]; simp)
  have a3 : bits .and .i64 d 3 = (ct d : Nat) := by
    rw [i64_and3]
    unfold ct
    omega
  have hc3 := ct_le d
  generalize hcd : ct d = cd at *
  have hD := wd_bd cd
  have HW : Hid (∀ W, Calls Tryz.prog 17 #[.int .i64 cd] W fun e w' => e = .returned (.int .i64 (wd cd)) ∧ W = w') := Lib.hid fun W => by
    have := width_any cd W
    rw [ct_nat hc3] at this
    exact this
  have hq0 : ((nn : Int) / (wd cd : Int)) = ((nn / wd cd : Nat) : Int) := (Int.natCast_ediv _ _).symm
  have hq1 : nn / wd cd ≤ nn := Nat.div_le_self _ _
  rw [hnl2] at hq
  have hDn : wd cd ≤ nn := by
    have h1 := Nat.div_mul_le_self nn (wd cd)
    have h2 : 1 * wd cd ≤ nn / wd cd * wd cd := Nat.mul_le_mul_right _ (by omega)
    omega
  clear hcd hc3
  obtain ⟨i0, hi, hz0, hz1, hz2⟩ := info_parts infoF
  generalize nn / wd cd = q at *
  subst hq
  generalize wd cd = D at *
  obtain ⟨hD1, hD2⟩ := hD
  have HNL := Lib.hid hnl2
  clear hnl hnl2
  have hwl : IntKind.i64.wrap (D : Int) = (D : Int) := by
    rw [IntKind.wrap_i64]
    omega
  have hLc : (D : Int) ≤ (cn : Int) := by omega
  have hL0 : (0 : Int) ≤ (D : Int) := by omega
  go_enter Tryz.func8, Tryz.ntmps8
  go_wp2_with (go_at_call 16; (with_reducible refine (leaf_any _ _).mono ?_); rintro e w' ⟨rfl, rfl⟩)
  go_quiet ((go_at_call 17; exact Calls.quiet_of_same ((HW.out _).mono fun _ _ h => ⟨h.1, h.2.symm⟩)))
  go_wp2
  generalize hW : World.drewN (World.alloc (World.alloc (World.alloc w _) _) _) _ = w5 at *
  have B0 : Blk w5 w.heap.size #[.int .i64 1, .int .i64 d, .slice pn nn cn, .slice pk nk ck] 25 := by
    subst hW
    (repeat (first | with_reducible assumption | with_reducible exact Blk.new _ _ _ | ((with_reducible refine Blk.new' _ _ _ ?_); (focus ((simp; done)))) | with_reducible apply Blk.drew | with_reducible apply Blk.drewN | with_reducible refine Blk.alloc ?_ _ | with_reducible apply Blk.same | (with_reducible refine Blk.bel ?_ (by with_reducible assumption)) | ((with_reducible refine Blk.otherR ?_ ?_); (focus ((simp <;> omega); done)))))
  have B1 : Blk w5 (w.heap.size + 1) #[.int .i64 0, .int .i64 0, .slice none 0 0, .slice none 0 0] 25 := by
    subst hW
    (repeat (first | with_reducible assumption | with_reducible exact Blk.new _ _ _ | ((with_reducible refine Blk.new' _ _ _ ?_); (focus ((simp; done)))) | with_reducible apply Blk.drew | with_reducible apply Blk.drewN | with_reducible refine Blk.alloc ?_ _ | with_reducible apply Blk.same | (with_reducible refine Blk.bel ?_ (by with_reducible assumption)) | ((with_reducible refine Blk.otherR ?_ ?_); (focus ((simp <;> omega); done)))))
  have B2 : Blk w5 (w.heap.size + 1 + 1) #[.int .i64 1, .int .i64 cd, .slice none 0 0, .slice none 0 0] 25 := by
    subst hW
    (repeat (first | with_reducible assumption | with_reducible exact Blk.new _ _ _ | ((with_reducible refine Blk.new' _ _ _ ?_); (focus ((simp; done)))) | with_reducible apply Blk.drew | with_reducible apply Blk.drewN | with_reducible refine Blk.alloc ?_ _ | with_reducible apply Blk.same | (with_reducible refine Blk.bel ?_ (by with_reducible assumption)) | ((with_reducible refine Blk.otherR ?_ ?_); (focus ((simp <;> omega); done)))))
  have HB5 : Hid (Bel w w5) := Lib.hid (by
    subst hW
    (repeat (first | with_reducible assumption | with_reducible exact Bel.refl _ | with_reducible apply Bel.alloc | with_reducible apply Bel.drew | with_reducible apply Bel.drewN | ((with_reducible apply Bel.setCellR); (simp <;> omega)) | with_reducible refine Bel.behind (by with_reducible assumption) ?_)))
  have hsz5 : w.heap.size + 3 ≤ w5.heap.size := by
    subst hW
    simp
  clear hW
  have HQ1 := Lib.hid B1
  have HQ2 := Lib.hid B2
  obtain ⟨r0, z0, l0⟩ := B0.facts
  obtain ⟨r2, z2, l2⟩ := B2.facts
  clear B0 B1 B2
  refine wp_region_still_tail 10 (by kernel_rfl) (by kernel_rfl) ?_
  simp only [List.take_succ_cons, List.take_zero, List.drop_succ_cons, List.drop_zero]
  repeat still_step
  still_call ((HW.out _).mono fun _ _ h => ⟨h.1, h.2.symm⟩)
  repeat still_step
  refine wpStill_nil ?_
  change wpList _ _ _ _ _ w5.drew
  go_wp2_with (at_builtin; (refine wpList_append_some _ rfl (.tmp 40) (.tmp 48) 22 rfl (w.heap.size + 3) 29 i0 _ 1 8 Tryz.underlying22 hi hz0 hz1 hz2 rfl (by decide) (.slice none 0 0) 0 [] rfl (World.ownsRow_nil _ _ _ _) pn D cn ((ns.take D).map flv) rfl (by rw [List.length_map, List.length_take, HNL.out]; omega) (fun hm => (HNS.out.bel (show Bel w _ by (have HB := HB5.out; (repeat (first | with_reducible assumption | with_reducible exact Bel.refl _ | with_reducible apply Bel.alloc | with_reducible apply Bel.drew | with_reducible apply Bel.drewN | ((with_reducible apply Bel.setCellR); (simp <;> omega)) | with_reducible refine Bel.behind (by with_reducible assumption) ?_))))).src (by rw [List.length_map, List.length_take, HNL.out]; omega)) (flv_one _) (by unfold maxLen; have := HNL.out; omega) (by have := HNL.out; omega) (by simp; omega) ?_; intro v' w6 ho6 hg6 hb6; obtain ⟨p6, c6, rfl⟩ := ho6.isSlice; have HO6 := Lib.hid ho6; have HG6 := Lib.hid hg6; have HB6 := Lib.hid hb6; have E1 := grownBy_blk hg6 (show Blk _ (w.heap.size + 1) #[.int .i64 0, .int .i64 0, .slice none 0 0, .slice none 0 0] 25 by (have HB := HQ1.out; (repeat (first | with_reducible assumption | with_reducible exact Blk.new _ _ _ | ((with_reducible refine Blk.new' _ _ _ ?_); (focus ((simp; done)))) | with_reducible apply Blk.drew | with_reducible apply Blk.drewN | with_reducible refine Blk.alloc ?_ _ | with_reducible apply Blk.same | (with_reducible refine Blk.bel ?_ (by with_reducible assumption)) | ((with_reducible refine Blk.otherR ?_ ?_); (focus ((simp <;> omega); done))))))) (fun e => by simp [Value.ownBlock] at e); have E2 := grownBy_blk hg6 (show Blk _ (w.heap.size + 1 + 1) #[.int .i64 1, .int .i64 cd, .slice none 0 0, .slice none 0 0] 25 by (have HB := HQ2.out; (repeat (first | with_reducible assumption | with_reducible exact Blk.new _ _ _ | ((with_reducible refine Blk.new' _ _ _ ?_); (focus ((simp; done)))) | with_reducible apply Blk.drew | with_reducible apply Blk.drewN | with_reducible refine Blk.alloc ?_ _ | with_reducible apply Blk.same | (with_reducible refine Blk.bel ?_ (by with_reducible assumption)) | ((with_reducible refine Blk.otherR ?_ ?_); (focus ((simp <;> omega); done))))))) (fun e => by simp [Value.ownBlock] at e); have HE1 := Lib.hid E1; obtain ⟨q5, y5, u5⟩ := E1.facts; have HE2 := Lib.hid E2; obtain ⟨q6, y6, u6⟩ := E2.facts; clear ho6 hg6 hb6 E1 E2))
  have ho : Hid (w6.ownsRow (w.heap.size + 3) 29 1 (.slice p6 D c6) D ((ns.take D).map flv)) := Lib.hid (by
    have := HO6.out
    rw [Nat.zero_add] at this
    exact this)
  have HFS : Hid (FlSl (fun b => w.heap.size + 3 ≤ b) w6 (.slice p6 D c6) (ns.take D)) := Lib.hid (FlSl.of_owns ho.out (by rw [List.length_take, HNL.out]; omega) fun b hb => hb)
  have HEND : Hid (∀ W : World, w6.heap.size ≤ W.heap.size → (∀ b, w.heap.size + 3 ≤ b → b < w6.heap.size → W.heap[b]? = w6.heap[b]?) → Bel w W → IsGm G (newOf (.mk 1 d ns ks)) w (.returned (.agg #[.int .i64 1, .int .i64 cd, .slice p6 D c6, .slice none 0 0])) W) := Lib.hid fun W hW hk hb => by
    rw [HNEW.out]
    exact ⟨_, _, _, _, _, _, rfl, HFS.out.keep hW hk (fun b _ hb => hG b (by omega)), GmSl.nil G W, hb⟩
  have HB6' : Hid (Bel w w6) := Lib.hid ((show Bel w _ by (have HB := HB5.out; (repeat (first | with_reducible assumption | with_reducible exact Bel.refl _ | with_reducible apply Bel.alloc | with_reducible apply Bel.drew | with_reducible apply Bel.drewN | ((with_reducible apply Bel.setCellR); (simp <;> omega)) | with_reducible refine Bel.behind (by with_reducible assumption) ?_)))).of_row HG6.out (fun g hg => by simp [Value.ownBlock] at hg))
  refine post_ret (results_one rfl (resIs_agg (n := 4) (cs := #[.int .i64 1, .int .i64 cd, .slice p6 D c6, .slice none 0 0]) (by rfl) Tryz.underlying25 (by kernel_rfl) (T := 25) ?_ rfl)) (HEND.out _ ?_ (fun b hb hl => ?_) ?_)
  · have HB := HE1.out
    (apply Blk.cast; (repeat (first | with_reducible assumption | with_reducible apply Blk.set | ((with_reducible apply Blk.otherR); (focus ((simp <;> omega); done))) | with_reducible exact Blk.new _ _ _ | ((with_reducible apply Blk.new'); (focus (simp; done))) | with_reducible apply Blk.alloc | with_reducible apply Blk.drew | with_reducible apply Blk.drewN | (with_reducible refine Blk.bel ?_ (by with_reducible assumption)))); rfl)
  · simp
  · repeat rw [Below.heap_setCell _ _ _ _ (by simp; omega)]
  · have HB := HB6'.out
    (repeat (first | with_reducible assumption | with_reducible exact Bel.refl _ | with_reducible apply Bel.alloc | with_reducible apply Bel.drew | with_reducible apply Bel.drewN | ((with_reducible apply Bel.setCellR); (simp <;> omega)) | with_reducible refine Bel.behind (by with_reducible assumption) ?_))
set_option maxHeartbeats 8000000 in
set_option maxRecDepth 100000 in
theorem spNewPoint_2 (d : Int) (ns : List Nat) (ks : List Gm) (h31 : ns.length ≤ 1048576) (hq : 1 < ns.length / wd (ct d)) : SpNew (.mk 1 d ns ks) := by
  intro G F pn nn cn pk nk ck w hN hK hG
  obtain ⟨hnl, hncap, hcap⟩ := hN.len
  have hnl2 : ns.length = nn := hnl
  have HNS := Lib.hid (show FlSl F w (.slice pn nn cn) ns from hN)
  clear hK hN
  show Calls Tryz.prog 8 #[.agg #[.int .i64 1, .int .i64 d, .slice pn nn cn, .slice pk nk ck]] w _
  have HNEW : Hid (newOf (.mk 1 d ns ks) = .mk 1 (ct d) (ns.take (wd (ct d))) []) := Lib.hid (by
    rw [newOf, if_pos (Or.inl (by decide)), if_pos (by decide)]
    congr 2
    rw [Nat.min_eq_right (Nat.le_of_lt hq), Nat.one_mul])
  have a3 : bits .and .i64 d 3 = (ct d : Nat) := by
    rw [i64_and3]
    unfold ct
    omega
  have hc3 := ct_le d
  generalize hcd : ct d = cd at *
  have hD := wd_bd cd
  have HW : Hid (∀ W, Calls Tryz.prog 17 #[.int .i64 cd] W fun e w' => e = .returned (.int .i64 (wd cd)) ∧ W = w') := Lib.hid fun W => by
    have := width_any cd W
    rw [ct_nat hc3] at this
    exact this
  have hq0 : ((nn : Int) / (wd cd : Int)) = ((nn / wd cd : Nat) : Int) := (Int.natCast_ediv _ _).symm
  have hq1 : nn / wd cd ≤ nn := Nat.div_le_self _ _
  rw [hnl2] at hq
  have hDn : wd cd ≤ nn := by
    have h1 := Nat.div_mul_le_self nn (wd cd)
    have h2 : 1 * wd cd ≤ nn / wd cd * wd cd := Nat.mul_le_mul_right _ (by omega)
    omega
  clear hcd hc3
  obtain ⟨i0, hi, hz0, hz1, hz2⟩ := info_parts infoF
  generalize nn / wd cd = q at *
  have hqm : ¬ ((q : Int) < 1) := by omega
  have hqm2 : (1 : Int) < (q : Int) := by omega
  have hqm3 : ¬ (q : Int) = 1 := by omega
  generalize wd cd = D at *
  obtain ⟨hD1, hD2⟩ := hD
  have HNL := Lib.hid hnl2
  clear hnl hnl2
  have hwl : IntKind.i64.wrap (D : Int) = (D : Int) := by
    rw [IntKind.wrap_i64]
    omega
  have hLc : (D : Int) ≤ (cn : Int) := by omega
  have hL0 : (0 : Int) ≤ (D : Int) := by omega
  go_enter Tryz.func8, Tryz.ntmps8
  go_wp2_with (go_at_call 16; (with_reducible refine (leaf_any _ _).mono ?_); rintro e w' ⟨rfl, rfl⟩)
  go_quiet ((go_at_call 17; exact Calls.quiet_of_same ((HW.out _).mono fun _ _ h => ⟨h.1, h.2.symm⟩)))
  go_wp2
  generalize hW : World.drewN (World.alloc (World.alloc (World.alloc w _) _) _) _ = w5 at *
  have B0 : Blk w5 w.heap.size #[.int .i64 1, .int .i64 d, .slice pn nn cn, .slice pk nk ck] 25 := by
    subst hW
    (repeat (first | with_reducible assumption | with_reducible exact Blk.new _ _ _ | ((with_reducible refine Blk.new' _ _ _ ?_); (focus ((simp; done)))) | with_reducible apply Blk.drew | with_reducible apply Blk.drewN | with_reducible refine Blk.alloc ?_ _ | with_reducible apply Blk.same | (with_reducible refine Blk.bel ?_ (by with_reducible assumption)) | ((with_reducible refine Blk.otherR ?_ ?_); (focus ((simp <;> omega); done)))))
  have B1 : Blk w5 (w.heap.size + 1) #[.int .i64 0, .int .i64 0, .slice none 0 0, .slice none 0 0] 25 := by
    subst hW
    (repeat (first | with_reducible assumption | with_reducible exact Blk.new _ _ _ | ((with_reducible refine Blk.new' _ _ _ ?_); (focus ((simp; done)))) | with_reducible apply Blk.drew | with_reducible apply Blk.drewN | with_reducible refine Blk.alloc ?_ _ | with_reducible apply Blk.same | (with_reducible refine Blk.bel ?_ (by with_reducible assumption)) | ((with_reducible refine Blk.otherR ?_ ?_); (focus ((simp <;> omega); done)))))
  have B2 : Blk w5 (w.heap.size + 1 + 1) #[.int .i64 1, .int .i64 cd, .slice none 0 0, .slice none 0 0] 25 := by
    subst hW
    (repeat (first | with_reducible assumption | with_reducible exact Blk.new _ _ _ | ((with_reducible refine Blk.new' _ _ _ ?_); (focus ((simp; done)))) | with_reducible apply Blk.drew | with_reducible apply Blk.drewN | with_reducible refine Blk.alloc ?_ _ | with_reducible apply Blk.same | (with_reducible refine Blk.bel ?_ (by with_reducible assumption)) | ((with_reducible refine Blk.otherR ?_ ?_); (focus ((simp <;> omega); done)))))
  have HB5 : Hid (Bel w w5) := Lib.hid (by
    subst hW
    (repeat (first | with_reducible assumption | with_reducible exact Bel.refl _ | with_reducible apply Bel.alloc | with_reducible apply Bel.drew | with_reducible apply Bel.drewN | ((with_reducible apply Bel.setCellR); (simp <;> omega)) | with_reducible refine Bel.behind (by with_reducible assumption) ?_)))
  have hsz5 : w.heap.size + 3 ≤ w5.heap.size := by
    subst hW
    simp
  clear hW
  have HQ1 := Lib.hid B1
  have HQ2 := Lib.hid B2
  obtain ⟨r0, z0, l0⟩ := B0.facts
  obtain ⟨r2, z2, l2⟩ := B2.facts
  clear B0 B1 B2
  refine wp_region_still_tail 10 (by kernel_rfl) (by kernel_rfl) ?_
  simp only [List.take_succ_cons, List.take_zero, List.drop_succ_cons, List.drop_zero]
  repeat still_step
  still_call ((HW.out _).mono fun _ _ h => ⟨h.1, h.2.symm⟩)
  repeat still_step
  refine wpStill_nil ?_
  change wpList _ _ _ _ _ w5.drew
  go_wp2_with (at_builtin; (refine wpList_append_some _ rfl (.tmp 40) (.tmp 48) 22 rfl (w.heap.size + 3) 29 i0 _ 1 8 Tryz.underlying22 hi hz0 hz1 hz2 rfl (by decide) (.slice none 0 0) 0 [] rfl (World.ownsRow_nil _ _ _ _) pn D cn ((ns.take D).map flv) rfl (by rw [List.length_map, List.length_take, HNL.out]; omega) (fun hm => (HNS.out.bel (show Bel w _ by (have HB := HB5.out; (repeat (first | with_reducible assumption | with_reducible exact Bel.refl _ | with_reducible apply Bel.alloc | with_reducible apply Bel.drew | with_reducible apply Bel.drewN | ((with_reducible apply Bel.setCellR); (simp <;> omega)) | with_reducible refine Bel.behind (by with_reducible assumption) ?_))))).src (by rw [List.length_map, List.length_take, HNL.out]; omega)) (flv_one _) (by unfold maxLen; have := HNL.out; omega) (by have := HNL.out; omega) (by simp; omega) ?_; intro v' w6 ho6 hg6 hb6; obtain ⟨p6, c6, rfl⟩ := ho6.isSlice; have HO6 := Lib.hid ho6; have HG6 := Lib.hid hg6; have HB6 := Lib.hid hb6; have E1 := grownBy_blk hg6 (show Blk _ (w.heap.size + 1) #[.int .i64 0, .int .i64 0, .slice none 0 0, .slice none 0 0] 25 by (have HB := HQ1.out; (repeat (first | with_reducible assumption | with_reducible exact Blk.new _ _ _ | ((with_reducible refine Blk.new' _ _ _ ?_); (focus ((simp; done)))) | with_reducible apply Blk.drew | with_reducible apply Blk.drewN | with_reducible refine Blk.alloc ?_ _ | with_reducible apply Blk.same | (with_reducible refine Blk.bel ?_ (by with_reducible assumption)) | ((with_reducible refine Blk.otherR ?_ ?_); (focus ((simp <;> omega); done))))))) (fun e => by simp [Value.ownBlock] at e); have E2 := grownBy_blk hg6 (show Blk _ (w.heap.size + 1 + 1) #[.int .i64 1, .int .i64 cd, .slice none 0 0, .slice none 0 0] 25 by (have HB := HQ2.out; (repeat (first | with_reducible assumption | with_reducible exact Blk.new _ _ _ | ((with_reducible refine Blk.new' _ _ _ ?_); (focus ((simp; done)))) | with_reducible apply Blk.drew | with_reducible apply Blk.drewN | with_reducible refine Blk.alloc ?_ _ | with_reducible apply Blk.same | (with_reducible refine Blk.bel ?_ (by with_reducible assumption)) | ((with_reducible refine Blk.otherR ?_ ?_); (focus ((simp <;> omega); done))))))) (fun e => by simp [Value.ownBlock] at e); have HE1 := Lib.hid E1; obtain ⟨q5, y5, u5⟩ := E1.facts; have HE2 := Lib.hid E2; obtain ⟨q6, y6, u6⟩ := E2.facts; clear ho6 hg6 hb6 E1 E2))
  have ho : Hid (w6.ownsRow (w.heap.size + 3) 29 1 (.slice p6 D c6) D ((ns.take D).map flv)) := Lib.hid (by
    have := HO6.out
    rw [Nat.zero_add] at this
    exact this)
  have HFS : Hid (FlSl (fun b => w.heap.size + 3 ≤ b) w6 (.slice p6 D c6) (ns.take D)) := Lib.hid (FlSl.of_owns ho.out (by rw [List.length_take, HNL.out]; omega) fun b hb => hb)
  have HEND : Hid (∀ W : World, w6.heap.size ≤ W.heap.size → (∀ b, w.heap.size + 3 ≤ b → b < w6.heap.size → W.heap[b]? = w6.heap[b]?) → Bel w W → IsGm G (newOf (.mk 1 d ns ks)) w (.returned (.agg #[.int .i64 1, .int .i64 cd, .slice p6 D c6, .slice none 0 0])) W) := Lib.hid fun W hW hk hb => by
    rw [HNEW.out]
    exact ⟨_, _, _, _, _, _, rfl, HFS.out.keep hW hk (fun b _ hb => hG b (by omega)), GmSl.nil G W, hb⟩
  have HB6' : Hid (Bel w w6) := Lib.hid ((show Bel w _ by (have HB := HB5.out; (repeat (first | with_reducible assumption | with_reducible exact Bel.refl _ | with_reducible apply Bel.alloc | with_reducible apply Bel.drew | with_reducible apply Bel.drewN | ((with_reducible apply Bel.setCellR); (simp <;> omega)) | with_reducible refine Bel.behind (by with_reducible assumption) ?_)))).of_row HG6.out (fun g hg => by simp [Value.ownBlock] at hg))
  refine post_ret (results_one rfl (resIs_agg (n := 4) (cs := #[.int .i64 1, .int .i64 cd, .slice p6 D c6, .slice none 0 0]) (by rfl) Tryz.underlying25 (by kernel_rfl) (T := 25) ?_ rfl)) (HEND.out _ ?_ (fun b hb hl => ?_) ?_)
  · have HB := HE1.out
    (apply Blk.cast; (repeat (first | with_reducible assumption | with_reducible apply Blk.set | ((with_reducible apply Blk.otherR); (focus ((simp <;> omega); done))) | with_reducible exact Blk.new _ _ _ | ((with_reducible apply Blk.new'); (focus (simp; done))) | with_reducible apply Blk.alloc | with_reducible apply Blk.drew | with_reducible apply Blk.drewN | (with_reducible refine Blk.bel ?_ (by with_reducible assumption)))); rfl)
  · simp
  · repeat rw [Below.heap_setCell _ _ _ _ (by simp; omega)]
  · have HB := HB6'.out
    (repeat (first | with_reducible assumption | with_reducible exact Bel.refl _ | with_reducible apply Bel.alloc | with_reducible apply Bel.drew | with_reducible apply Bel.drewN | ((with_reducible apply Bel.setCellR); (simp <;> omega)) | with_reducible refine Bel.behind (by with_reducible assumption) ?_))
theorem spNewPoint_any (d : Int) (ns : List Nat) (ks : List Gm) (h31 : ns.length ≤ 1048576) : SpNew (.mk 1 d ns ks) := by
  rcases Nat.lt_or_ge 1 (ns.length / wd (ct d)) with h | h
  · exact spNewPoint_2 d ns ks h31 h
  · rcases Nat.eq_zero_or_pos (ns.length / wd (ct d)) with h0 | h0
    · exact spNewPoint_0 d ns ks h31 h0
    · exact spNewPoint_1 d ns ks h31 (by omega)
end Go.Proofs.YtpipehenfcbjbaaGreat
