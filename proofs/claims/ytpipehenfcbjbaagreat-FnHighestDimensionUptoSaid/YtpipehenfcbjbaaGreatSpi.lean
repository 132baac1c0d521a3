/-
  spec.New of plain data: a point, a line string. No panic; what stood in memory has not turned.
-/
import Derived.Test.YtpipehenfcbjbaaGreatSph
import Derived.StillTailTactics
set_option linter.unusedVariables false
namespace Go.Proofs.YtpipehenfcbjbaaGreat
open Go.ChangeShapes Go.WideShapes Go.ChangeAt Go.RowKit
section
variable {P : Program} (w : World)
/-- Append of a row that may be empty, inside a region that draws its order. -/
theorem step_append_some {ops : Array Oper} {o : Oper} {a : Act} {K : Act → World → Prop} {Q : Exit → Act → World → Prop} (hgd : o.guard = none) (s x : Operand) (t : TypeId)
    (ho : o.op = .call { callee := .builtin .append, args := #[s, x], argTypes := #[t, t] })
    (base : Nat) (e : TypeId) (i : TypeInfo) (z : Value) (size bytes : Nat) (ht : P.underlying t = some (.slice e)) (hi : P.info? e = some i) (hz : i.zero = some z)
    (hsize : i.size = size) (hby : i.bytes = bytes) (hzs : z.cells.size = size) (hsz : 0 < size)
    (v : Value) (n : Nat) (xs : List Value) (hs : a.eval s = v) (hown : w.ownsRow base e size v n xs)
    (p : Option Addr) (m c : Nat) (news : List Value) (hx : a.eval x = .slice p m c) (hl : news.length = m * size) (hnews : 0 < m → ∃ ad, p = some ad ∧ ∀ j u, news[j]? = some u → w.cell? (ad.add j) = some u) (h1 : ∀ u ∈ news, u.oneCell' = true)
    (h63 : n + m ≤ maxLen) (hbytes : (n + m) * bytes ≤ 140737488355328) (hbase : base ≤ w.heap.size)
    (h : ∀ v' w', w'.ownsRow base e size v' (n + m) (xs ++ news) → w.grownBy w' v.ownBlock → (v'.ownBlock = v.ownBlock ∨ v'.ownBlock = some w.heap.size) → K (a.put o.dst v') w') :
    if Region.wanted o (yielded ops a.tmps) = true then o.wp P a w K Q else K (a.put o.dst undef) w := by
  rcases Nat.eq_zero_or_pos m with rfl | hm
  · have hn : news = [] := List.length_eq_zero_iff.1 (by omega)
    subst hn
    have hw : Region.wanted o (yielded ops a.tmps) = true := by simp [Region.wanted, hgd]
    rw [if_pos hw]
    have hr := run_append_zero (P := P) w base t o.type e i size ht hi v n xs hown p c
    unfold Oper.wp execOp
    simp only [ho, resolve, invoke, builtin, Sem.run_bind, Sem.run_pure, Result.andThen_ok, List.map_toArray, List.map_cons, List.map_nil, hs, hx, hr]
    exact h v w (by simpa using hown) (World.grownBy.of_bel (Bel.refl w) _) (Or.inl rfl)
  · obtain ⟨ad, rfl, hq⟩ := hnews hm
    exact step_append_row w hgd s x t ho base e i z size bytes ht hi hz hsize hby hzs hsz v n xs hs hown ad m c news hx hl hq h1 hm h63 hbytes hbase h
end
def SpNew (g : Gm) : Prop := ∀ G : Nat → Prop, GmArg g fun v w => New G w → Calls Tryz.prog 8 #[v] w (IsGm G (newOf g) w)
set_option maxHeartbeats 8000000 in
set_option maxRecDepth 100000 in
theorem newLine_any (d : Int) (ns : List Nat) (ks : List Gm) (h31 : ns.length ≤ 1048576) : SpNew (.mk 2 d ns ks) := by
  intro G F pn nn cn pk nk ck w hN hK hG
  obtain ⟨hnl, hncap, hcap⟩ := hN.len
  have hnl2 : ns.length = nn := hnl
  have HNS := Lib.hid (show FlSl F w (.slice pn nn cn) ns from hN)
  clear hK hN
  show Calls Tryz.prog 8 #[.agg #[.int .i64 2, .int .i64 d, .slice pn nn cn, .slice pk nk ck]] w _
  have HNEW : Hid (newOf (.mk 2 d ns ks) = .mk 2 (ct d) (ns.take (nn / wd (ct d) * wd (ct d))) []) := Lib.hid (by
    rw [newOf, if_pos (Or.inr (by decide)), hnl2]
    rfl)
  have a3 : bits .and .i64 d 3 = (ct d : Nat) := by
    rw [i64_and3]
    unfold ct
    omega
  have hc3 := ct_le d
  generalize hcd : ct d = cd at *
  have hD := wd_bd cd
  have HW : Hid (∀ W, Calls Tryz.prog 17 #[.int .i64 cd] W fun e w' => e = .returned (.int .i64 (wd cd)) ∧ W = w') := Lib.hid fun W => by
    have := width_any cd W
    rw [ct_nat hc3] at this
    exact this
  have hq0 : ((nn : Int) / (wd cd : Int)) = ((nn / wd cd : Nat) : Int) := (Int.natCast_ediv _ _).symm
  have hq1 : nn / wd cd ≤ nn := Nat.div_le_self _ _
  have hq2 : nn / wd cd * wd cd ≤ nn := Nat.div_mul_le_self _ _
  have hmul : ((nn / wd cd : Nat) : Int) * (wd cd : Int) = ((nn / wd cd * wd cd : Nat) : Int) := (Int.natCast_mul _ _).symm
  clear hcd hc3
  obtain ⟨i0, hi, hz0, hz1, hz2⟩ := info_parts infoF
  generalize nn / wd cd * wd cd = L at *
  generalize nn / wd cd = q at *
  generalize wd cd = D at *
  obtain ⟨hD1, hD2⟩ := hD
  have HNL := Lib.hid hnl2
  clear hnl hnl2
  have hwl : IntKind.i64.wrap (L : Int) = (L : Int) := by
    rw [IntKind.wrap_i64]
    omega
  have hLc : (L : Int) ≤ (cn : Int) := by omega
  have hL0 : (0 : Int) ≤ (L : Int) := by omega
  go_enter Tryz.func8, Tryz.ntmps8
  go_wp2_with (go_at_call 16; (with_reducible refine (leaf_any _ _).mono ?_); rintro e w' ⟨rfl, rfl⟩)
  go_quiet ((go_at_call 17; exact Calls.quiet_of_same ((HW.out _).mono fun _ _ h => ⟨h.1, h.2.symm⟩)))
  go_wp2
  generalize hW : World.drewN (World.alloc (World.alloc (World.alloc w _) _) _) _ = w5 at *
  have B0 : Blk w5 w.heap.size #[.int .i64 2, .int .i64 d, .slice pn nn cn, .slice pk nk ck] 25 := by
    subst hW
    (repeat (first | with_reducible assumption | with_reducible exact Blk.new _ _ _ | ((with_reducible refine Blk.new' _ _ _ ?_); (focus ((simp; done)))) | with_reducible apply Blk.drew | with_reducible apply Blk.drewN | with_reducible refine Blk.alloc ?_ _ | with_reducible apply Blk.same | (with_reducible refine Blk.bel ?_ (by with_reducible assumption)) | ((with_reducible refine Blk.otherR ?_ ?_); (focus ((simp <;> omega); done)))))
  have B1 : Blk w5 (w.heap.size + 1) #[.int .i64 0, .int .i64 0, .slice none 0 0, .slice none 0 0] 25 := by
    subst hW
    (repeat (first | with_reducible assumption | with_reducible exact Blk.new _ _ _ | ((with_reducible refine Blk.new' _ _ _ ?_); (focus ((simp; done)))) | with_reducible apply Blk.drew | with_reducible apply Blk.drewN | with_reducible refine Blk.alloc ?_ _ | with_reducible apply Blk.same | (with_reducible refine Blk.bel ?_ (by with_reducible assumption)) | ((with_reducible refine Blk.otherR ?_ ?_); (focus ((simp <;> omega); done)))))
  have B2 : Blk w5 (w.heap.size + 1 + 1) #[.int .i64 2, .int .i64 cd, .slice none 0 0, .slice none 0 0] 25 := by
    subst hW
    (repeat (first | with_reducible assumption | with_reducible exact Blk.new _ _ _ | ((with_reducible refine Blk.new' _ _ _ ?_); (focus ((simp; done)))) | with_reducible apply Blk.drew | with_reducible apply Blk.drewN | with_reducible refine Blk.alloc ?_ _ | with_reducible apply Blk.same | (with_reducible refine Blk.bel ?_ (by with_reducible assumption)) | ((with_reducible refine Blk.otherR ?_ ?_); (focus ((simp <;> omega); done)))))
  have HB5 : Hid (Bel w w5) := Lib.hid (by
    subst hW
    (repeat (first | with_reducible assumption | with_reducible exact Bel.refl _ | with_reducible apply Bel.alloc | with_reducible apply Bel.drew | with_reducible apply Bel.drewN | ((with_reducible apply Bel.setCellR); (simp <;> omega)) | with_reducible refine Bel.behind (by with_reducible assumption) ?_)))
  have hsz5 : w.heap.size + 3 ≤ w5.heap.size := by
    subst hW
    simp
  clear hW
  have HQ1 := Lib.hid B1
  have HQ2 := Lib.hid B2
  obtain ⟨r0, z0, l0⟩ := B0.facts
  obtain ⟨r2, z2, l2⟩ := B2.facts
  clear B0 B1 B2
  refine wp_region_still_tail 10 (by kernel_rfl) (by kernel_rfl) ?_
  simp only [List.take_succ_cons, List.take_zero, List.drop_succ_cons, List.drop_zero]
  repeat still_step
  still_call ((HW.out _).mono fun _ _ h => ⟨h.1, h.2.symm⟩)
  repeat still_step
  refine wpStill_nil ?_
  change wpList _ _ _ _ _ w5.drew
  go_wp2_with (at_builtin; (refine wpList_append_some _ rfl (.tmp 40) (.tmp 48) 22 rfl (w.heap.size + 3) 29 i0 _ 1 8 Tryz.underlying22 hi hz0 hz1 hz2 rfl (by decide) (.slice none 0 0) 0 [] rfl (World.ownsRow_nil _ _ _ _) pn L cn ((ns.take L).map flv) rfl (by rw [List.length_map, List.length_take, HNL.out]; omega) (fun hm => (HNS.out.bel (show Bel w _ by (have HB := HB5.out; (repeat (first | with_reducible assumption | with_reducible exact Bel.refl _ | with_reducible apply Bel.alloc | with_reducible apply Bel.drew | with_reducible apply Bel.drewN | ((with_reducible apply Bel.setCellR); (simp <;> omega)) | with_reducible refine Bel.behind (by with_reducible assumption) ?_))))).src (by rw [List.length_map, List.length_take, HNL.out]; omega)) (flv_one _) (by unfold maxLen; have := HNL.out; omega) (by have := HNL.out; omega) (by simp; omega) ?_; intro v' w6 ho6 hg6 hb6; obtain ⟨p6, c6, rfl⟩ := ho6.isSlice; have HO6 := Lib.hid ho6; have HG6 := Lib.hid hg6; have HB6 := Lib.hid hb6; have E1 := grownBy_blk hg6 (show Blk _ (w.heap.size + 1) #[.int .i64 0, .int .i64 0, .slice none 0 0, .slice none 0 0] 25 by (have HB := HQ1.out; (repeat (first | with_reducible assumption | with_reducible exact Blk.new _ _ _ | ((with_reducible refine Blk.new' _ _ _ ?_); (focus ((simp; done)))) | with_reducible apply Blk.drew | with_reducible apply Blk.drewN | with_reducible refine Blk.alloc ?_ _ | with_reducible apply Blk.same | (with_reducible refine Blk.bel ?_ (by with_reducible assumption)) | ((with_reducible refine Blk.otherR ?_ ?_); (focus ((simp <;> omega); done))))))) (fun e => by simp [Value.ownBlock] at e); have E2 := grownBy_blk hg6 (show Blk _ (w.heap.size + 1 + 1) #[.int .i64 2, .int .i64 cd, .slice none 0 0, .slice none 0 0] 25 by (have HB := HQ2.out; (repeat (first | with_reducible assumption | with_reducible exact Blk.new _ _ _ | ((with_reducible refine Blk.new' _ _ _ ?_); (focus ((simp; done)))) | with_reducible apply Blk.drew | with_reducible apply Blk.drewN | with_reducible refine Blk.alloc ?_ _ | with_reducible apply Blk.same | (with_reducible refine Blk.bel ?_ (by with_reducible assumption)) | ((with_reducible refine Blk.otherR ?_ ?_); (focus ((simp <;> omega); done))))))) (fun e => by simp [Value.ownBlock] at e); have HE1 := Lib.hid E1; obtain ⟨q5, y5, u5⟩ := E1.facts; have HE2 := Lib.hid E2; obtain ⟨q6, y6, u6⟩ := E2.facts; clear ho6 hg6 hb6 E1 E2))
  have ho : Hid (w6.ownsRow (w.heap.size + 3) 29 1 (.slice p6 L c6) L ((ns.take L).map flv)) := Lib.hid (by
    have := HO6.out
    rw [Nat.zero_add] at this
    exact this)
  have HFS : Hid (FlSl (fun b => w.heap.size + 3 ≤ b) w6 (.slice p6 L c6) (ns.take L)) := Lib.hid (FlSl.of_owns ho.out (by rw [List.length_take, HNL.out]; omega) fun b hb => hb)
  have HEND : Hid (∀ W : World, w6.heap.size ≤ W.heap.size → (∀ b, w.heap.size + 3 ≤ b → b < w6.heap.size → W.heap[b]? = w6.heap[b]?) → Bel w W → IsGm G (newOf (.mk 2 d ns ks)) w (.returned (.agg #[.int .i64 2, .int .i64 cd, .slice p6 L c6, .slice none 0 0])) W) := Lib.hid fun W hW hk hb => by
    rw [HNEW.out]
    exact ⟨_, _, _, _, _, _, rfl, HFS.out.keep hW hk (fun b _ hb => hG b (by omega)), GmSl.nil G W, hb⟩
  have HB6' : Hid (Bel w w6) := Lib.hid ((show Bel w _ by (have HB := HB5.out; (repeat (first | with_reducible assumption | with_reducible exact Bel.refl _ | with_reducible apply Bel.alloc | with_reducible apply Bel.drew | with_reducible apply Bel.drewN | ((with_reducible apply Bel.setCellR); (simp <;> omega)) | with_reducible refine Bel.behind (by with_reducible assumption) ?_)))).of_row HG6.out (fun g hg => by simp [Value.ownBlock] at hg))
  refine post_ret (results_one rfl (resIs_agg (n := 4) (cs := #[.int .i64 2, .int .i64 cd, .slice p6 L c6, .slice none 0 0]) (by rfl) Tryz.underlying25 (by kernel_rfl) (T := 25) ?_ rfl)) (HEND.out _ ?_ (fun b hb hl => ?_) ?_)
  · have HB := HE1.out
    (apply Blk.cast; (repeat (first | with_reducible assumption | with_reducible apply Blk.set | ((with_reducible apply Blk.otherR); (focus ((simp <;> omega); done))) | with_reducible exact Blk.new _ _ _ | ((with_reducible apply Blk.new'); (focus (simp; done))) | with_reducible apply Blk.alloc | with_reducible apply Blk.drew | with_reducible apply Blk.drewN | (with_reducible refine Blk.bel ?_ (by with_reducible assumption)))); rfl)
  · simp
  · repeat rw [Below.heap_setCell _ _ _ _ (by simp; omega)]
  · have HB := HB6'.out
    (repeat (first | with_reducible assumption | with_reducible exact Bel.refl _ | with_reducible apply Bel.alloc | with_reducible apply Bel.drew | with_reducible apply Bel.drewN | ((with_reducible apply Bel.setCellR); (simp <;> omega)) | with_reducible refine Bel.behind (by with_reducible assumption) ?_))
end Go.Proofs.YtpipehenfcbjbaaGreat
