/-
  zzFits2, pDeep, Weight: what they say. What stood in memory has not turned.
-/
import Derived.Test.YtpipehenfcbjbaaGreatSpa
set_option linter.unusedVariables false
namespace Go.Proofs.YtpipehenfcbjbaaGreat
open Go.ChangeShapes Go.WideShapes Go.ChangeAt Go.RowKit
def IsBool (w : World) (e : Ending) (w' : World) : Prop := ∃ b : Bool, e = .returned (.bool b) ∧ Bel w w'
def IsB (b : Bool) (w : World) (e : Ending) (w' : World) : Prop := e = .returned (.bool b) ∧ Bel w w'
theorem IsB.mk' {b c : Bool} {w w' : World} (h : c = b) (hb : Bel w w') : IsB b w (.returned (.bool c)) w' := ⟨by rw [h], hb⟩
def IsSmall (n : Nat) (m : Int) (w : World) (e : Ending) (w' : World) : Prop := ∃ v : Nat, e = .returned (.int .i64 v) ∧ v ≤ n ∧ ((v : Int) ≤ m → v = n) ∧ Bel w w'
mutual
/-- No deeper than m parts within one another. -/
def deepOf : Gm → Int → Bool
  | .mk _ _ _ ks, m => if m < 0 then false else deepAll ks (m - 1)
def deepAll : List Gm → Int → Bool
  | [], _ => true
  | g :: r, m => deepOf g m && deepAll r m
end
theorem deepAll_snoc (m : Int) : ∀ (l : List Gm) (a : Gm), deepAll (l ++ [a]) m = (deepAll l m && deepOf a m)
  | [], a => by simp [deepAll]
  | x :: r, a => by rw [List.cons_append, deepAll, deepAll, deepAll_snoc m r a, Bool.and_assoc]
theorem deepAll_take {ks : List Gm} {t : Nat} {g : Gm} (m : Int) (h : ks[t]? = some g) : deepAll (ks.take (t + 1)) m = (deepAll (ks.take t) m && deepOf g m) := by
  rw [List.take_add_one, h]
  exact deepAll_snoc m _ _
theorem deepAll_false {m : Int} : ∀ {ks : List Gm} {t : Nat} {g : Gm}, ks[t]? = some g → deepOf g m = false → deepAll ks m = false
  | [], t, g, h, _ => by simp at h
  | a :: r, 0, g, h, hd => by
    simp at h
    subst h
    rw [deepAll, hd]
    rfl
  | a :: r, t + 1, g, h, hd => by
    rw [deepAll, deepAll_false (ks := r) (t := t) (by simpa using h) hd, Bool.and_false]
theorem sizes_take : ∀ (ks : List Gm) (t : Nat) (g : Gm), ks[t]? = some g → Gm.sizes (ks.take (t + 1)) = Gm.sizes (ks.take t) + g.size := by
  have key : ∀ (l : List Gm) (a : Gm), Gm.sizes (l ++ [a]) = Gm.sizes l + a.size := fun l a => by
    induction l with
    | nil => simp [Gm.sizes]
    | cons x r ih => simp only [List.cons_append, Gm.sizes, ih]; omega
  intro ks t g h
  rw [List.take_add_one, h]
  exact key _ _
theorem sizes_take_le : ∀ (ks : List Gm) (t : Nat), Gm.sizes (ks.take t) ≤ Gm.sizes ks
  | [], t => by simp [Gm.sizes]
  | a :: r, 0 => by simp [Gm.sizes]
  | a :: r, t + 1 => by
    have := sizes_take_le r t
    simp only [List.take_succ_cons, Gm.sizes]
    omega
theorem fits_any (g : Gm) : GmArg g fun v w => Calls Tryz.prog 4 #[v] w (IsBool w) := by
  intro F pn nn cn pk nk ck w hN hK
  clear hN hK
  generalize g.kind = k
  generalize g.dim = d
  by_cases h1 : nn > 2147483647
  · go_enter Tryz.func4, Tryz.ntmps4
    go_wp2
    go_ret
    exact ⟨_, rfl, by (repeat (first | with_reducible assumption | with_reducible exact Bel.refl _ | with_reducible apply Bel.alloc | with_reducible apply Bel.drew | with_reducible apply Bel.drewN | ((with_reducible apply Bel.setCellR); (simp <;> omega)) | with_reducible refine Bel.behind (by with_reducible assumption) ?_))⟩
  · by_cases h2 : nk > 2147483647
    · go_enter Tryz.func4, Tryz.ntmps4
      go_wp2
      go_ret
      exact ⟨_, rfl, by (repeat (first | with_reducible assumption | with_reducible exact Bel.refl _ | with_reducible apply Bel.alloc | with_reducible apply Bel.drew | with_reducible apply Bel.drewN | ((with_reducible apply Bel.setCellR); (simp <;> omega)) | with_reducible refine Bel.behind (by with_reducible assumption) ?_))⟩
    · go_enter Tryz.func4, Tryz.ntmps4
      go_wp2
      go_ret
      exact ⟨_, rfl, by (repeat (first | with_reducible assumption | with_reducible exact Bel.refl _ | with_reducible apply Bel.alloc | with_reducible apply Bel.drew | with_reducible apply Bel.drewN | ((with_reducible apply Bel.setCellR); (simp <;> omega)) | with_reducible refine Bel.behind (by with_reducible assumption) ?_))⟩
def PDeep (g : Gm) : Prop := ∀ m : Int, m ≤ 1000 → GmArg g fun v w => Calls Tryz.prog 9 #[v, .int .i64 m] w (IsB (deepOf g m) w)
set_option maxHeartbeats 4000000 in
set_option maxRecDepth 100000 in
theorem pDeep_ind : ∀ (n : Nat) (g : Gm), g.size ≤ n → PDeep g := by
  intro n
  induction n with
  | zero => exact fun g h => absurd h (by have := g.size_pos; omega)
  | succ n ih =>
    intro g hsz m hm F pn nn cn pk nk ck w hN hK
    obtain ⟨k, d, ns, ks⟩ := g
    obtain ⟨hnl, -, -⟩ := hN.len
    obtain ⟨_, _, hve, hkl, hkc⟩ := hK.isSlice
    cases hve
    change ks.length ≤ ck at hkl
    show Calls Tryz.prog 9 #[.agg #[.int .i64 k, .int .i64 d, .slice pn nn cn, .slice pk ks.length ck], .int .i64 m] w _
    have HK := Lib.hid (show GmSl F w (.slice pk ks.length ck) ks from hK)
    have hnl2 : ns.length = nn := hnl
    have HRE : Hid (deepOf (.mk k d ns ks) m = if m < 0 then false else deepAll ks (m - 1)) := Lib.hid (by rw [deepOf])
    by_cases h0 : m < 0
    · rw [HRE.out, if_pos h0]
      clear ih hsz hN hK HK hnl hnl2 hkl
      generalize ks.length = n at *
      go_enter Tryz.func9, Tryz.ntmps9
      go_wp2
      go_ret
      exact ⟨rfl, by (repeat (first | with_reducible assumption | with_reducible exact Bel.refl _ | with_reducible apply Bel.alloc | with_reducible apply Bel.drew | with_reducible apply Bel.drewN | ((with_reducible apply Bel.setCellR); (simp <;> omega)) | with_reducible refine Bel.behind (by with_reducible assumption) ?_))⟩
    · rw [HRE.out, if_neg h0]
      have HIH : Hid (∀ g ∈ ks, PDeep g) := Lib.hid fun g hg => ih g (by
        have h2 := Gm.size_mem hg
        simp only [Gm.size] at hsz
        omega)
      clear ih hsz hN hK hnl hnl2
      generalize hn : ks.length = n at *
      have HN := Lib.hid hn
      clear hn
      go_enter Tryz.func9, Tryz.ntmps9
      go_wp2
      go_loopw [12] (fun iv wr => ∃ t : Nat, iv = .int .i64 t ∧ t ≤ n ∧ deepAll (ks.take t) (m - 1) = true ∧ Bel w wr) (fun iv _ => n - (intOf iv).toNat)
      case atStart => exact ⟨0, rfl, Nat.zero_le _, by simp [deepAll], by (repeat (first | with_reducible assumption | with_reducible exact Bel.refl _ | with_reducible apply Bel.alloc | with_reducible apply Bel.drew | with_reducible apply Bel.drewN | ((with_reducible apply Bel.setCellR); (simp <;> omega)) | with_reducible refine Bel.behind (by with_reducible assumption) ?_))⟩
      case round =>
        obtain ⟨t, rfl, ht, hdt, hbel⟩ := hrel
        have HBEL := Lib.hid hbel
        have HDT := Lib.hid hdt
        clear hdt
        by_cases htn : t < n
        · obtain ⟨kd, hkd⟩ : ∃ kd, ks[t]? = some kd := ⟨_, List.getElem?_eq_getElem (by have := HN.out; omega)⟩
          have HKD := Lib.hid (HIH.out kd (List.mem_iff_getElem?.2 ⟨t, hkd⟩))
          obtain ⟨b, off, pn', nn', cn', pk', nk', ck', rfl, hlt, -, d0, d1, d2, d3, hf, hg'⟩ := HK.out.at hkd
          have D0 := cell_kept hbel d0
          have D1 := cell_kept hbel d1
          have D2 := cell_kept hbel d2
          have D3 := cell_kept hbel d3
          have hbl : b < wr.heap.size := Nat.lt_of_lt_of_le hlt hbel.size
          have HC : Hid (∀ (W : World), Bel w W → Calls Tryz.prog 9 #[.agg #[.int .i64 kd.kind, .int .i64 kd.dim, .slice pn' nn' cn', .slice pk' nk' ck'], .int .i64 (m - 1)] W (IsB (deepOf kd (m - 1)) W)) := Lib.hid fun W hW => GmArg.of (HKD.out (m - 1) (by omega)) hf hg' hW
          have HTK := Lib.hid (deepAll_take (m - 1) hkd)
          have HFA := Lib.hid (fun (bd : Bool) (hb : bd = false) (h : deepOf kd (m - 1) = bd) => deepAll_false hkd (h.trans hb))
          clear HKD d0 d1 d2 d3 hf hg' hbel hkd
          generalize kd.dim = kdim at *
          generalize kd.kind = kkind at *
          generalize hbd : deepOf kd (m - 1) = bd at *
          have HBD := Lib.hid hbd
          clear hbd
          go_wp2_with (go_at_call 9; (with_reducible refine (HC.out _ ?hb).mono ?_); (case hb => exact HBEL.out.alloc _); rintro e w3 ⟨rfl, hb⟩; have HB3 : Hid (Bel wr w3) := Lib.hid ((Bel.alloc1 _ _).trans hb); clear hb; cases bd)
          · go_ret
            exact IsB.mk' (HFA.out false rfl rfl).symm (HBEL.out.trans HB3.out)
          · go_roundw
            case rel => exact ⟨t + 1, by go_num, by omega, by rw [HTK.out, HDT.out]; rfl, HBEL.out.trans HB3.out⟩
            case measure => simp [intOf]; omega
        · obtain rfl : t = n := by omega
          clear hbel
          have hdt := HDT.out
          rw [List.take_of_length_le (by have := HN.out; omega)] at hdt
          have HDF := Lib.hid hdt
          clear hdt
          go_wp2
          go_ret
          exact IsB.mk' HDF.out.symm HBEL.out
theorem pDeep_any (g : Gm) : PDeep g := pDeep_ind g.size g (Nat.le_refl _)
def SpWeight (g : Gm) : Prop := ∀ m : Int, GmArg g fun v w => Calls Tryz.prog 10 #[v, .int .i64 m] w (IsSmall g.size m w)
set_option maxHeartbeats 4000000 in
set_option maxRecDepth 100000 in
theorem spWeight_ind : ∀ (n : Nat) (g : Gm), g.size ≤ n → g.size ≤ 1048576 → SpWeight g := by
  intro n
  induction n with
  | zero => exact fun g h _ => absurd h (by have := g.size_pos; omega)
  | succ n ih =>
    intro g hsz hbig m F pn nn cn pk nk ck w hN hK
    obtain ⟨k, d, ns, ks⟩ := g
    obtain ⟨hnl, -, -⟩ := hN.len
    obtain ⟨_, _, hve, hkl, hkc⟩ := hK.isSlice
    cases hve
    change ks.length ≤ ck at hkl
    show Calls Tryz.prog 10 #[.agg #[.int .i64 k, .int .i64 d, .slice pn nn cn, .slice pk ks.length ck], .int .i64 m] w _
    have HK := Lib.hid (show GmSl F w (.slice pk ks.length ck) ks from hK)
    have hnl2 : ns.length = nn := hnl
    have HSZ : Hid ((Gm.mk k d ns ks).size = nn + Gm.sizes ks + 1) := Lib.hid (by rw [Gm.size, hnl2])
    have HBIG : Hid (nn + Gm.sizes ks + 1 ≤ 1048576) := Lib.hid (by rw [← HSZ.out]; exact hbig)
    have HIH : Hid (∀ g ∈ ks, SpWeight g) := Lib.hid fun g hg => ih g (by
      have h2 := Gm.size_mem hg
      simp only [Gm.size] at hsz
      omega) (by
      have h2 := Gm.size_mem hg
      simp only [Gm.size] at hbig
      omega)
    rw [HSZ.out]
    have hnb : nn ≤ 1048576 := by have := HBIG.out; omega
    clear ih hsz hN hK hnl hnl2 HSZ hbig
    generalize hn : ks.length = n at *
    have HN := Lib.hid hn
    clear hn
    go_enter Tryz.func10, Tryz.ntmps10
    go_wp2
    go_loopw [5, 15] (fun dv iv wr => ∃ t v : Nat, dv = .int .i64 v ∧ v ≤ nn + Gm.sizes (ks.take t) + 1 ∧ ((v : Int) ≤ m → v = nn + Gm.sizes (ks.take t) + 1) ∧ iv = .int .i64 t ∧ t ≤ n ∧ Bel w wr) (fun _ iv _ => n - (intOf iv).toNat)
    case atStart => exact ⟨0, nn + 1, by first | rfl | go_num | (congr 1; omega), by omega, fun _ => by simp [Gm.sizes], rfl, Nat.zero_le _, by (repeat (first | with_reducible assumption | with_reducible exact Bel.refl _ | with_reducible apply Bel.alloc | with_reducible apply Bel.drew | with_reducible apply Bel.drewN | ((with_reducible apply Bel.setCellR); (simp <;> omega)) | with_reducible refine Bel.behind (by with_reducible assumption) ?_))⟩
    case round =>
      obtain ⟨t, v, rfl, hv, hvx, rfl, ht, hbel⟩ := hrel
      have HVX := Lib.hid hvx
      clear hvx
      have HBEL := Lib.hid hbel
      have HV := Lib.hid hv
      have HTL := Lib.hid (sizes_take_le ks t)
      have hvb : v ≤ 1048576 := by have := HTL.out; have := HBIG.out; omega
      clear hv
      by_cases htn : t < n
      · obtain ⟨kd, hkd⟩ : ∃ kd, ks[t]? = some kd := ⟨_, List.getElem?_eq_getElem (by have := HN.out; omega)⟩
        have HKD := Lib.hid (HIH.out kd (List.mem_iff_getElem?.2 ⟨t, hkd⟩))
        obtain ⟨b, off, pn', nn', cn', pk', nk', ck', rfl, hlt, -, d0, d1, d2, d3, hf, hg'⟩ := HK.out.at hkd
        have D0 := cell_kept hbel d0
        have D1 := cell_kept hbel d1
        have D2 := cell_kept hbel d2
        have D3 := cell_kept hbel d3
        have hbl : b < wr.heap.size := Nat.lt_of_lt_of_le hlt hbel.size
        have HC : Hid (∀ (m : Int) (W : World), Bel w W → Calls Tryz.prog 10 #[.agg #[.int .i64 kd.kind, .int .i64 kd.dim, .slice pn' nn' cn', .slice pk' nk' ck'], .int .i64 m] W (IsSmall kd.size m W)) := Lib.hid fun m W hW => GmArg.of (HKD.out m) hf hg' hW
        have HTK := Lib.hid (sizes_take ks t kd hkd)
        have HTL1 := Lib.hid (sizes_take_le ks (t + 1))
        clear HKD d0 d1 d2 d3 hf hg' hbel hkd
        generalize kd.dim = kdim at *
        generalize kd.kind = kkind at *
        generalize kd.size = ksz at *
        by_cases hvm : m < (v : Int)
        · go_wp2
          go_ret
          exact ⟨v, rfl, by have := HV.out; have := HTL.out; omega, fun h => by omega, HBEL.out.alloc _⟩
        · go_wp2_with (go_at_call 10; (with_reducible refine (HC.out _ _ ?hb).mono ?_); (case hb => exact HBEL.out.alloc _); rintro e w3 ⟨v3, rfl, hv3, hx3, hb⟩; have HV3 := Lib.hid hv3; have HX3 := Lib.hid hx3; have hv3b : v3 ≤ 1048576 := (by have := HTK.out; have := HTL1.out; have := HBIG.out; omega); have HB3 : Hid (Bel wr w3) := Lib.hid ((Bel.alloc1 _ _).trans hb); clear hb hv3 hx3)
          go_roundw
          case rel => exact ⟨t + 1, v + v3, by go_num, by have := HTK.out; have := HV.out; have := HV3.out; omega, fun h => by (have h1 := HX3.out (by omega); have h2 := HVX.out (by omega); have := HTK.out; omega), by go_num, by omega, HBEL.out.trans HB3.out⟩
          case measure => simp [intOf]; omega
      · obtain rfl : t = n := by omega
        clear hbel
        go_wp2
        go_ret
        exact ⟨v, rfl, by have := HV.out; have := HTL.out; omega, fun h => by (have h2 := HVX.out h; rw [List.take_of_length_le (by have := HN.out; omega)] at h2; exact h2), HBEL.out⟩
theorem spWeight_any (g : Gm) (h : g.size ≤ 1048576) : SpWeight g := spWeight_ind g.size g (Nat.le_refl _) h
end Go.Proofs.YtpipehenfcbjbaaGreat
