/-
  Append of a slice that may be empty; AllNums, kAny: they come back.
-/
import Derived.Test.YtpipehenfcbjbaaGreatSpb
import Derived.Laws.OwnMore
set_option linter.unusedVariables false
namespace Go.Proofs.YtpipehenfcbjbaaGreat
open Go.ChangeShapes Go.WideShapes Go.ChangeAt Go.RowKit
section
variable {P : Program} (w : World)
theorem run_append_zero (base : Nat) (t ty e : TypeId) (i : TypeInfo) (size : Nat) (ht : P.underlying t = some (.slice e)) (hi : P.info? e = some i)
    (v : Value) (n : Nat) (xs : List Value) (hown : w.ownsRow base e size v n xs) (p : Option Addr) (c : Nat) :
    (Builtin.append_ #[t, t] ty #[v, .slice p 0 c]).run P w = .ok v w := by
  rcases hown.2 with ⟨rfl, rfl⟩ | ⟨g, cap, cur, rfl, _, _, hnc, _⟩
  · cases p <;> simp [Builtin.append_, run_underlying ht, sizeOf, typeInfo, hi, Builtin.lenOf, Builtin.firstCells, loadCells, loadCellsFrom]
  · cases p <;> simp [Builtin.append_, run_underlying ht, sizeOf, typeInfo, hi, Builtin.lenOf, Builtin.firstCells, hnc, storeCells, loadCells, loadCellsFrom]
/-- Append of a row that may be empty, in the order of the text. -/
theorem wpList_append_some {ops : Array Oper} {rest : List Oper} {o : Oper} {a : Act} {Q : Exit → Act → World → Prop} (hgd : o.guard = none) (s x : Operand) (t : TypeId)
    (ho : o.op = .call { callee := .builtin .append, args := #[s, x], argTypes := #[t, t] })
    (base : Nat) (e : TypeId) (i : TypeInfo) (z : Value) (size bytes : Nat) (ht : P.underlying t = some (.slice e)) (hi : P.info? e = some i) (hz : i.zero = some z)
    (hsize : i.size = size) (hby : i.bytes = bytes) (hzs : z.cells.size = size) (hsz : 0 < size)
    (v : Value) (n : Nat) (xs : List Value) (hs : a.eval s = v) (hown : w.ownsRow base e size v n xs)
    (p : Option Addr) (m c : Nat) (news : List Value) (hx : a.eval x = .slice p m c) (hl : news.length = m * size) (hnews : 0 < m → ∃ ad, p = some ad ∧ ∀ j u, news[j]? = some u → w.cell? (ad.add j) = some u) (h1 : ∀ u ∈ news, u.oneCell' = true)
    (h63 : n + m ≤ maxLen) (hbytes : (n + m) * bytes ≤ 140737488355328) (hbase : base ≤ w.heap.size)
    (h : ∀ v' w', w'.ownsRow base e size v' (n + m) (xs ++ news) → w.grownBy w' v.ownBlock → (v'.ownBlock = v.ownBlock ∨ v'.ownBlock = some w.heap.size) → wpList P ops Q rest (a.put o.dst v') w') : wpList P ops Q (o :: rest) a w := by
  rcases Nat.eq_zero_or_pos m with rfl | hm
  · have hn : news = [] := List.length_eq_zero_iff.1 (by omega)
    subst hn
    refine wpList_plain hgd fun K hK => ?_
    have hr := run_append_zero (P := P) w base t o.type e i size ht hi v n xs hown p c
    unfold Oper.wp execOp
    simp only [ho, resolve, invoke, builtin, Sem.run_bind, Sem.run_pure, Result.andThen_ok, List.map_toArray, List.map_cons, List.map_nil, hs, hx, hr]
    exact hK _ _ (h v w (by simpa using hown) (World.grownBy.of_bel (Bel.refl w) _) (Or.inl rfl))
  · obtain ⟨ad, rfl, hq⟩ := hnews hm
    exact wpList_append_row w hgd s x t ho base e i z size bytes ht hi hz hsize hby hzs hsz v n xs hs hown ad m c news hx hl hq h1 hm h63 hbytes hbase h
end
theorem FlSl.feed {F : Nat → Prop} {w : World} {p : Option Addr} {n c : Nat} {xs : List Nat} (h : FlSl F w (.slice p n c) xs) (hn : 0 < n) : ∃ ad, p = some ad ∧ ∀ j u, (xs.map flv)[j]? = some u → w.cell? (ad.add j) = some u := by
  have hl := h.len.1
  have := h.src (m := n) (by rw [List.length_map, List.length_take]; omega)
  rw [List.take_of_length_le (by omega)] at this
  exact this
mutual
/-- All numbers, in their order. -/
def allOf : Gm → List Nat
  | .mk _ _ ns ks => ns ++ allOfs ks
def allOfs : List Gm → List Nat
  | [] => []
  | g :: r => allOf g ++ allOfs r
end
mutual
theorem allOf_len : ∀ g : Gm, (allOf g).length ≤ g.size
  | .mk k d ns ks => by
    have := allOfs_len ks
    rw [allOf, Gm.size, List.length_append]
    omega
theorem allOfs_len : ∀ l : List Gm, (allOfs l).length ≤ Gm.sizes l
  | [] => by rw [allOfs]; simp
  | g :: r => by
    have := allOf_len g
    have := allOfs_len r
    rw [allOfs, Gm.sizes, List.length_append]
    omega
end
theorem allOfs_snoc : ∀ (l : List Gm) (a : Gm), allOfs (l ++ [a]) = allOfs l ++ allOf a
  | [], a => by simp [allOfs]
  | x :: r, a => by rw [List.cons_append, allOfs, allOfs, allOfs_snoc r a, List.append_assoc]
theorem allOfs_take {ks : List Gm} {t : Nat} {g : Gm} (h : ks[t]? = some g) : allOfs (ks.take (t + 1)) = allOfs (ks.take t) ++ allOf g := by
  rw [List.take_add_one, h]
  exact allOfs_snoc _ _
def IsFls (F : Nat → Prop) (xs : List Nat) (n : Nat) (w : World) (e : Ending) (w' : World) : Prop := ∃ p m c, e = .returned (.slice p m c) ∧ FlSl F w' (.slice p m c) xs ∧ m ≤ n ∧ Bel w w'
def AllNumsOf (g : Gm) : Prop := ∀ G : Nat → Prop, GmArg g fun v w => New G w → Calls Tryz.prog 11 #[v] w (IsFls G (allOf g) g.size w)
set_option maxHeartbeats 4000000 in
set_option maxRecDepth 100000 in
theorem allNums_ind : ∀ (n : Nat) (g : Gm), g.size ≤ n → g.size ≤ 1048576 → AllNumsOf g := by
  intro n
  induction n with
  | zero => exact fun g h _ => absurd h (by have := g.size_pos; omega)
  | succ n ih =>
    intro g hsz hbig G F pn nn cn pk nk ck w hN hK hG
    obtain ⟨k, d, ns, ks⟩ := g
    obtain ⟨hnl, hncap, -⟩ := hN.len
    obtain ⟨_, _, hve, hkl, hkc⟩ := hK.isSlice
    cases hve
    change ks.length ≤ ck at hkl
    show Calls Tryz.prog 11 #[.agg #[.int .i64 k, .int .i64 d, .slice pn nn cn, .slice pk ks.length ck]] w _
    have HK := Lib.hid (show GmSl F w (.slice pk ks.length ck) ks from hK)
    have HNS := Lib.hid (show FlSl F w (.slice pn nn cn) ns from hN)
    have hnl2 : ns.length = nn := hnl
    have HNL := Lib.hid hnl2
    have HSZ : Hid ((Gm.mk k d ns ks).size = nn + Gm.sizes ks + 1) := Lib.hid (by rw [Gm.size, hnl2])
    have HBIG : Hid (nn + Gm.sizes ks + 1 ≤ 1048576) := Lib.hid (by rw [← HSZ.out]; exact hbig)
    have HIH : Hid (∀ g ∈ ks, AllNumsOf g) := Lib.hid fun g hg => ih g (by
      have h2 := Gm.size_mem hg
      simp only [Gm.size] at hsz
      omega) (by
      have h2 := Gm.size_mem hg
      simp only [Gm.size] at hbig
      omega)
    rw [HSZ.out, allOf]
    have hnb : nn ≤ 1048576 := by have := HBIG.out; omega
    obtain ⟨i0, hi, hz0, hz1, hz2⟩ := info_parts infoF
    clear ih hsz hN hK hnl hnl2 HSZ hbig
    generalize hn : ks.length = n at *
    have HN := Lib.hid hn
    clear hn
    have hown0 : ((w.alloc (.cells #[.int .i64 k, .int .i64 d, .slice pn nn cn, .slice pk n ck] 25)).alloc (.cells #[] 29)).ownsRow (w.heap.size + 1) 29 1 (.slice (some ⟨w.heap.size + 1, 0, none⟩) 0 0) 0 ([].map flv) := by
      have := World.ownsRow_lit (base := w.heap.size + 1) (e := 29) (size := 1) (w.alloc (.cells #[.int .i64 k, .int .i64 d, .slice pn nn cn, .slice pk n ck] 25)) #[] 0 (by simp) (by decide) rfl
      simpa using this
    have HOWN0 := Lib.hid hown0
    clear hown0
    go_enter Tryz.func11, Tryz.ntmps11
    go_wp2_with (at_builtin; (refine wpList_append_some _ rfl (.tmp 6) (.tmp 8) 22 rfl (w.heap.size + 1) 29 i0 _ 1 8 Tryz.underlying22 hi hz0 hz1 hz2 rfl (by decide) (.slice (some ⟨w.heap.size + 1, 0, none⟩) 0 0) 0 _ rfl HOWN0.out pn nn cn (ns.map flv) rfl (by rw [List.length_map, HNL.out]; omega) (HNS.out.bel (show Bel w _ by (repeat (first | with_reducible assumption | with_reducible exact Bel.refl _ | with_reducible apply Bel.alloc | with_reducible apply Bel.drew | with_reducible apply Bel.drewN | ((with_reducible apply Bel.setCellR); (simp <;> omega)) | with_reducible refine Bel.behind (by with_reducible assumption) ?_)))).feed (flv_one ns) (by unfold maxLen; omega) (by omega) (by simp) ?_; intro v1 w1 ho1 hg1 hb1; simp only [Nat.zero_add, List.map_nil, List.nil_append] at ho1; obtain ⟨p1, c1, rfl⟩ := ho1.isSlice; have HO1 := Lib.hid ho1; have HB1 : Hid (Bel w w1) := Lib.hid ((show Bel w _ by (repeat (first | with_reducible assumption | with_reducible exact Bel.refl _ | with_reducible apply Bel.alloc | with_reducible apply Bel.drew | with_reducible apply Bel.drewN | ((with_reducible apply Bel.setCellR); (simp <;> omega)) | with_reducible refine Bel.behind (by with_reducible assumption) ?_))).of_row hg1 (fun g hg => by have := (HOWN0.out.lt g hg).1; omega)); have B1 := ((Blk.new w #[.int .i64 k, .int .i64 d, .slice pn nn cn, .slice pk n ck] 25).alloc (.cells #[] 29)); have r1 : ∀ j, w1.cell? ⟨w.heap.size, j, none⟩ = (#[Value.int .i64 k, .int .i64 d, .slice pn nn cn, .slice pk n ck])[j]? := (fun j => (World.cell?_of_block (w := (w.alloc (.cells #[.int .i64 k, .int .i64 d, .slice pn nn cn, .slice pk n ck] 25)).alloc (.cells #[] 29)) (hg1.5 _ (by simp; omega) (fun e => by simp [Value.ownBlock] at e))).trans (B1.rules.1 j)); clear ho1 hg1 hb1 B1))
    go_loopw [3, 13] (fun dv iv wr => ∃ (t m : Nat) (xs : List Nat), iv = .int .i64 t ∧ t ≤ n ∧ xs = ns ++ allOfs (ks.take t) ∧ Bel w wr ∧ List.length xs = m ∧ m ≤ nn + Gm.sizes (ks.take t) ∧ wr.ownsRow (w.heap.size + 1) 29 1 dv m (xs.map flv)) (fun _ iv _ => n - (intOf iv).toNat)
    case atStart => exact ⟨0, nn, ns, rfl, Nat.zero_le _, by simp [allOfs], HB1.out, HNL.out, by omega, HO1.out⟩
    case round =>
      obtain ⟨t, m, xs, rfl, ht, hxe, hbel, hxm, hm, hown⟩ := hrel
      have HXE := Lib.hid hxe
      clear hxe
      have HBEL := Lib.hid hbel
      have HOWN := Lib.hid hown
      have HXM := Lib.hid hxm
      have HM := Lib.hid hm
      have HTL := Lib.hid (sizes_take_le ks t)
      obtain ⟨pv, cv, rfl⟩ := hown.isSlice
      clear hm hxm hown
      by_cases htn : t < n
      · obtain ⟨kd, hkd⟩ : ∃ kd, ks[t]? = some kd := ⟨_, List.getElem?_eq_getElem (by have := HN.out; omega)⟩
        have HKD := Lib.hid (HIH.out kd (List.mem_iff_getElem?.2 ⟨t, hkd⟩))
        obtain ⟨b, off, pn', nn', cn', pk', nk', ck', rfl, hlt, -, d0, d1, d2, d3, hf, hg'⟩ := HK.out.at hkd
        have D0 := cell_kept hbel d0
        have D1 := cell_kept hbel d1
        have D2 := cell_kept hbel d2
        have D3 := cell_kept hbel d3
        have hbl : b < wr.heap.size := Nat.lt_of_lt_of_le hlt hbel.size
        have HC : Hid (∀ (W : World), Bel w W → Calls Tryz.prog 11 #[.agg #[.int .i64 kd.kind, .int .i64 kd.dim, .slice pn' nn' cn', .slice pk' nk' ck']] W (IsFls (fun _ => True) (allOf kd) kd.size W)) := Lib.hid fun W hW => GmArg.of (HKD.out (fun _ => True)) hf hg' hW (New.any W)
        have HTK := Lib.hid (sizes_take ks t kd hkd)
        have HAT := Lib.hid (allOfs_take hkd)
        have HTL1 := Lib.hid (sizes_take_le ks (t + 1))
        clear HKD d0 d1 d2 d3 hf hg' hbel hkd
        generalize kd.dim = kdim at *
        generalize kd.kind = kkind at *
        generalize kd.size = ksz at *
        generalize allOf kd = ys at *
        go_wp2_with (first
          | (go_at_call 11; (with_reducible refine (HC.out _ ?hb).mono ?_); (case hb => exact HBEL.out.alloc _); rintro e w3 ⟨p3, m3, c3, rfl, hf3, hm3, hb⟩; have HF3 := Lib.hid hf3; have hyl : ys.length = m3 := hf3.len.1; have HYL := Lib.hid hyl; have HM3 := Lib.hid hm3; have HB3 : Hid (Bel wr w3) := Lib.hid ((Bel.alloc1 _ _).trans hb); have HSZ3 : Hid (wr.heap.size + 1 ≤ w3.heap.size) := Lib.hid (by have := hb.size; simp at this; omega); clear hb hm3 hf3 hyl)
          | (at_builtin; (refine wpList_append_some _ rfl (.tmp 17) (.tmp 19) 22 rfl (w.heap.size + 1) 29 i0 _ 1 8 Tryz.underlying22 hi hz0 hz1 hz2 rfl (by decide) (.slice pv m cv) m _ rfl (own_kept HOWN.out HB3.out) p3 m3 c3 (ys.map flv) rfl (by rw [List.length_map, HYL.out]; omega) HF3.out.feed (flv_one ys) (by unfold maxLen; have := HTK.out; have := HTL1.out; have := HBIG.out; have := HM.out; have := HM3.out; omega) (by have := HTK.out; have := HTL1.out; have := HBIG.out; have := HM.out; have := HM3.out; omega) (by have h1 := HBEL.out.size; have h2 := HSZ3.out; omega) ?_; intro v' w6 ho6 hg6 hb6; obtain ⟨p6, c6, rfl⟩ := ho6.isSlice; have HO6 := Lib.hid ho6; have HB6 : Hid (Bel w w6) := Lib.hid ((HBEL.out.trans HB3.out).of_row hg6 (fun g hg => by have := (HOWN.out.lt g hg).1; omega)); clear ho6 hg6 hb6)))
        go_roundw
        case rel => exact ⟨t + 1, m + m3, xs ++ ys, by go_num, by omega, by rw [HAT.out, HXE.out, List.append_assoc], HB6.out, by rw [List.length_append, HXM.out, HYL.out], by have := HTK.out; have := HM.out; have := HM3.out; omega, by rw [List.map_append]; exact HO6.out⟩
        case measure => simp [intOf]; omega
      · obtain rfl : t = n := by omega
        clear hbel
        have HXF : Hid (ns ++ allOfs ks = xs) := Lib.hid (by
          have := HXE.out
          rw [List.take_of_length_le (by have := HN.out; omega)] at this
          exact this.symm)
        go_wp2
        go_ret
        rw [HXF.out]
        exact ⟨_, _, _, rfl, FlSl.of_owns HOWN.out HXM.out (fun b hb => hG b (by omega)), by have := HM.out; have := HTL.out; omega, HBEL.out⟩
theorem allNums_any (g : Gm) (h : g.size ≤ 1048576) : AllNumsOf g := allNums_ind g.size g (Nat.le_refl _) h
end Go.Proofs.YtpipehenfcbjbaaGreat
