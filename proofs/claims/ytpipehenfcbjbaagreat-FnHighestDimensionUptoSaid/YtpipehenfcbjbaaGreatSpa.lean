/-
  spec.IsEmpty, spec.Dimension, spec.Highest of plain data. No panic; what stood in memory has not turned.
-/
import Derived.Test.YtpipehenfcbjbaaGreatHi
set_option linter.unusedVariables false
namespace Go.Proofs.YtpipehenfcbjbaaGreat
open Go.ChangeShapes Go.WideShapes Go.ChangeAt Go.RowKit
/-- All plain data that mean g: what holds of their four cells. -/
def GmArg (g : Gm) (P : Value → World → Prop) : Prop := ∀ (F : Nat → Prop) (pn : Option Addr) (nn cn : Nat) (pk : Option Addr) (nk ck : Nat) (w : World), FlSl F w (.slice pn nn cn) g.nums → GmSl F w (.slice pk nk ck) g.kids →
    P (.agg #[.int .i64 g.kind, .int .i64 g.dim, .slice pn nn cn, .slice pk nk ck]) w
theorem GmArg.of {g : Gm} {P : Value → World → Prop} (h : GmArg g P) {F : Nat → Prop} {w W : World} {pn : Option Addr} {nn cn : Nat} {pk : Option Addr} {nk ck : Nat} (hf : FlSl F w (.slice pn nn cn) g.nums) (hg : GmSl F w (.slice pk nk ck) g.kids) (hb : Bel w W) :
    P (.agg #[.int .i64 g.kind, .int .i64 g.dim, .slice pn nn cn, .slice pk nk ck]) W := h F pn nn cn pk nk ck W (hf.bel hb) (hg.bel hb)
def SpEmpty (g : Gm) : Prop := GmArg g fun v w => Calls Tryz.prog 14 #[v] w fun e w' => e = .returned (.bool (emptyOf g)) ∧ Bel w w'
set_option maxHeartbeats 4000000 in
set_option maxRecDepth 100000 in
theorem spEmpty_ind : ∀ (n : Nat) (g : Gm), g.size ≤ n → SpEmpty g := by
  intro n
  induction n with
  | zero => exact fun g h => absurd h (by have := g.size_pos; omega)
  | succ n ih =>
    intro g hsz F pn nn cn pk nk ck w hN hK
    obtain ⟨k, d, ns, ks⟩ := g
    obtain ⟨hnl, -, -⟩ := hN.len
    obtain ⟨_, _, hve, hkl, hkc⟩ := hK.isSlice
    cases hve
    change ks.length ≤ ck at hkl
    show Calls Tryz.prog 14 #[.agg #[.int .i64 k, .int .i64 d, .slice pn nn cn, .slice pk ks.length ck]] w _
    have HK := Lib.hid (show GmSl F w (.slice pk ks.length ck) ks from hK)
    have hnl2 : ns.length = nn := hnl
    by_cases h3 : k = 3
    · subst h3
      have he : emptyOf (.mk 3 d ns ks) = decide ((ks.length : Int) = 0) := by
        rw [emptyOf, if_pos rfl]
        cases ks with
        | nil => simp
        | cons a r =>
          have : ¬ ((a :: r).length : Int) = 0 := by simp; omega
          rw [decide_eq_false this]
          rfl
      rw [he]
      clear ih hsz hN hK HK he hnl hnl2 hkl
      generalize ks.length = n at *
      go_enter Tryz.func14, Tryz.ntmps14
      go_wp2
      go_ret
      exact ⟨by first | rfl | (congr 2; first | rfl | (by_cases hq : n = 0 <;> simp [hq])), by (repeat (first | with_reducible assumption | with_reducible exact Bel.refl _ | with_reducible apply Bel.alloc | with_reducible apply Bel.drew | with_reducible apply Bel.drewN | ((with_reducible apply Bel.setCellR); (simp <;> omega)) | with_reducible refine Bel.behind (by with_reducible assumption) ?_))⟩
    · have he : emptyOf (.mk k d ns ks) = (emptyAll ks && decide ((nn : Int) = 0)) := by
        rw [emptyOf, if_neg h3]
        congr 1
        rw [← hnl2]
        cases ns with
        | nil => simp
        | cons a r =>
          have : ¬ ((a :: r).length : Int) = 0 := by simp; omega
          rw [decide_eq_false this]
          rfl
      rw [he]
      have HIH : Hid (∀ g ∈ ks, SpEmpty g) := Lib.hid fun g hg => ih g (by
        have h2 := Gm.size_mem hg
        simp only [Gm.size] at hsz
        omega)
      have q3 : (k == 3) = false := by simp; omega
      clear ih hsz hN hK he hnl hnl2
      generalize hn : ks.length = n at *
      have HN := Lib.hid hn
      clear hn
      go_enter Tryz.func14, Tryz.ntmps14
      go_wp2
      go_loopw [15] (fun iv wr => ∃ t : Nat, iv = .int .i64 t ∧ t ≤ n ∧ Bel w wr ∧ emptyAll (ks.take t) = true ∧ Blk wr w.heap.size #[.int .i64 k, .int .i64 d, .slice pn nn cn, .slice pk n ck] 25) (fun iv _ => n - (intOf iv).toNat)
      case atStart => exact ⟨0, rfl, Nat.zero_le _, by (repeat (first | with_reducible assumption | with_reducible exact Bel.refl _ | with_reducible apply Bel.alloc | with_reducible apply Bel.drew | with_reducible apply Bel.drewN | ((with_reducible apply Bel.setCellR); (simp <;> omega)) | with_reducible refine Bel.behind (by with_reducible assumption) ?_)), by simp [emptyAll], by (repeat (first | with_reducible assumption | with_reducible exact Blk.new _ _ _ | ((with_reducible refine Blk.new' _ _ _ ?_); (focus ((simp; done)))) | with_reducible apply Blk.drew | with_reducible apply Blk.drewN | with_reducible refine Blk.alloc ?_ _ | with_reducible apply Blk.same | (with_reducible refine Blk.bel ?_ (by with_reducible assumption)) | ((with_reducible refine Blk.otherR ?_ ?_); (focus ((simp <;> omega); done)))))⟩
      case round =>
        obtain ⟨t, rfl, ht, hbel, hall, hb3⟩ := hrel
        have HBEL := Lib.hid hbel
        have HALL := Lib.hid hall
        have HG3 := Lib.hid hb3
        by_cases htn : t < n
        · obtain ⟨kd, hkd⟩ : ∃ kd, ks[t]? = some kd := ⟨_, List.getElem?_eq_getElem (by have := HN.out; omega)⟩
          have HKD := Lib.hid (HIH.out kd (List.mem_iff_getElem?.2 ⟨t, hkd⟩))
          obtain ⟨b, off, pn', nn', cn', pk', nk', ck', rfl, hlt, -, d0, d1, d2, d3, hf, hg'⟩ := HK.out.at hkd
          have D0 := cell_kept hbel d0
          have D1 := cell_kept hbel d1
          have D2 := cell_kept hbel d2
          have D3 := cell_kept hbel d3
          have hbl : b < wr.heap.size := Nat.lt_of_lt_of_le hlt hbel.size
          have HC : Hid (∀ W, Bel w W → Calls Tryz.prog 14 #[.agg #[.int .i64 kd.kind, .int .i64 kd.dim, .slice pn' nn' cn', .slice pk' nk' ck']] W fun e w' => e = .returned (.bool (emptyOf kd)) ∧ Bel W w') := Lib.hid fun W hW => GmArg.of HKD.out hf hg' hW
          have HTK := Lib.hid (emptyAll_take hkd)
          have HNT : Hid (emptyOf kd = false → emptyAll ks = false) := Lib.hid (emptyAll_not hkd)
          clear HKD d0 d1 d2 d3 hf hg' hbel hkd hall hb3
          generalize kd.dim = kdim at *
          generalize kd.kind = kkind at *
          generalize emptyOf kd = eg at *
          cases eg
          · have HR := Lib.hid (HNT.out rfl)
            go_wp2_with (go_at_call 14; (with_reducible refine (HC.out _ ?hb).mono ?_); (case hb => exact HBEL.out.alloc _); rintro e w3 ⟨rfl, hb⟩; have HB3 : Hid (Bel wr w3) := Lib.hid ((Bel.alloc1 _ _).trans hb); clear hb)
            go_ret
            exact ⟨by rw [HR.out]; rfl, HBEL.out.trans HB3.out⟩
          · go_wp2_with (go_at_call 14; (with_reducible refine (HC.out _ ?hb).mono ?_); (case hb => exact HBEL.out.alloc _); rintro e w3 ⟨rfl, hb⟩; have HB3 : Hid (Bel wr w3) := Lib.hid ((Bel.alloc1 _ _).trans hb); have HP3 := Lib.hid (HG3.out.bel HB3.out); clear hb)
            go_roundw
            case rel => exact ⟨t + 1, by go_num, by omega, HBEL.out.trans HB3.out, by rw [HTK.out, HALL.out]; rfl, HP3.out⟩
            case measure => simp [intOf]; omega
        · obtain rfl : t = n := by omega
          have hx : ks.take t = ks := List.take_of_length_le (by have := HN.out; omega)
          rw [hx] at HALL
          obtain ⟨r3, z3, l3⟩ := hb3.facts
          clear hx hbel hall
          go_wp2
          go_ret
          exact ⟨by rw [HALL.out]; first | rfl | (congr 2; first | rfl | (by_cases hq : nn = 0 <;> simp [hq])), HBEL.out⟩
theorem spEmpty_any (g : Gm) : SpEmpty g := spEmpty_ind g.size g (Nat.le_refl _)
def SpDim (g : Gm) : Prop := GmArg g fun v w => Calls Tryz.prog 15 #[v] w fun e w' => e = .returned (.int .i64 (dimG g)) ∧ Bel w w'
set_option maxHeartbeats 4000000 in
set_option maxRecDepth 100000 in
theorem spDim_ind : ∀ (n : Nat) (g : Gm), g.size ≤ n → SpDim g := by
  intro n
  induction n with
  | zero => exact fun g h => absurd h (by have := g.size_pos; omega)
  | succ n ih =>
    intro g hsz F pn nn cn pk nk ck w hN hK
    obtain ⟨k, d, ns, ks⟩ := g
    obtain ⟨hnl, -, -⟩ := hN.len
    obtain ⟨_, _, hve, hkl, hkc⟩ := hK.isSlice
    cases hve
    change ks.length ≤ ck at hkl
    show Calls Tryz.prog 15 #[.agg #[.int .i64 k, .int .i64 d, .slice pn nn cn, .slice pk ks.length ck]] w _
    have HK := Lib.hid (show GmSl F w (.slice pk ks.length ck) ks from hK)
    have hnl2 : ns.length = nn := hnl
    by_cases h6 : k = 2 ∨ k = 5 ∨ k = 3 ∨ k = 6
    · clear ih hsz hN hK HK hnl hnl2 hkl
      generalize ks.length = n at *
      rcases h6 with rfl | rfl | rfl | rfl
      all_goals
        go_enter Tryz.func15, Tryz.ntmps15
        go_wp2
        go_ret
        exact ⟨by simp [dimG], by (repeat (first | with_reducible assumption | with_reducible exact Bel.refl _ | with_reducible apply Bel.alloc | with_reducible apply Bel.drew | with_reducible apply Bel.drewN | ((with_reducible apply Bel.setCellR); (simp <;> omega)) | with_reducible refine Bel.behind (by with_reducible assumption) ?_))⟩
    · have he : dimG (.mk k d ns ks) = dimAll ks := by
        rw [dimG, if_neg (by omega), if_neg (by omega)]
      rw [he]
      have HIH : Hid (∀ g ∈ ks, SpDim g) := Lib.hid fun g hg => ih g (by
        have h2 := Gm.size_mem hg
        simp only [Gm.size] at hsz
        omega)
      have q2 : (k == 2) = false := by simp; omega
      have q5 : (k == 5) = false := by simp; omega
      have q3 : (k == 3) = false := by simp; omega
      have q6 : (k == 6) = false := by simp; omega
      have HBD : Hid (∀ l : List Gm, 0 ≤ dimAll l ∧ dimAll l ≤ 2) := Lib.hid fun l => dimAll_bd l fun k _ => dimG_bd k.size k (Nat.le_refl _)
      clear ih hsz hN hK hnl hnl2
      generalize hn : ks.length = n at *
      have HN := Lib.hid hn
      clear hn
      clear he h6
      go_enter Tryz.func15, Tryz.ntmps15
      go_wp2
      go_loopw [3, 17] (fun dv iv wr => ∃ t : Nat, dv = .int .i64 (dimAll (ks.take t)) ∧ iv = .int .i64 t ∧ t ≤ n ∧ Bel w wr) (fun _ iv _ => n - (intOf iv).toNat)
      case atStart => exact ⟨0, by simp [dimAll], rfl, Nat.zero_le _, by (repeat (first | with_reducible assumption | with_reducible exact Bel.refl _ | with_reducible apply Bel.alloc | with_reducible apply Bel.drew | with_reducible apply Bel.drewN | ((with_reducible apply Bel.setCellR); (simp <;> omega)) | with_reducible refine Bel.behind (by with_reducible assumption) ?_))⟩
      case round =>
        obtain ⟨t, rfl, rfl, ht, hbel⟩ := hrel
        have HBEL := Lib.hid hbel
        by_cases htn : t < n
        · obtain ⟨kd, hkd⟩ : ∃ kd, ks[t]? = some kd := ⟨_, List.getElem?_eq_getElem (by have := HN.out; omega)⟩
          have HKD := Lib.hid (HIH.out kd (List.mem_iff_getElem?.2 ⟨t, hkd⟩))
          obtain ⟨b, off, pn', nn', cn', pk', nk', ck', rfl, hlt, -, d0, d1, d2, d3, hf, hg'⟩ := HK.out.at hkd
          have D0 := cell_kept hbel d0
          have D1 := cell_kept hbel d1
          have D2 := cell_kept hbel d2
          have D3 := cell_kept hbel d3
          have hbl : b < wr.heap.size := Nat.lt_of_lt_of_le hlt hbel.size
          have HC : Hid (∀ W, Bel w W → Calls Tryz.prog 15 #[.agg #[.int .i64 kd.kind, .int .i64 kd.dim, .slice pn' nn' cn', .slice pk' nk' ck']] W fun e w' => e = .returned (.int .i64 (dimG kd)) ∧ Bel W w') := Lib.hid fun W hW => GmArg.of HKD.out hf hg' hW
          have HTK := Lib.hid (dimAll_take hkd)
          have hb1 := HBD.out (ks.take t)
          clear HKD d0 d1 d2 d3 hf hg' hbel hkd
          generalize kd.dim = kdim at *
          generalize kd.kind = kkind at *
          generalize dimG kd = hv at *
          generalize dimAll (ks.take t) = ha at *
          by_cases hmx : ha < hv
          · have HMX : Hid (max ha hv = hv) := Lib.hid (by omega)
            go_wp2_with (go_at_call 15; (with_reducible refine (HC.out _ ?hb).mono ?_); (case hb => exact HBEL.out.alloc _); rintro e w3 ⟨rfl, hb⟩; have HB3 : Hid (Bel wr w3) := Lib.hid ((Bel.alloc1 _ _).trans hb); clear hb)
            go_roundw
            case rel => exact ⟨t + 1, by rw [HTK.out]; (first | rfl | (rw [HMX.out]) | (congr 1; omega)), by go_num, by omega, HBEL.out.trans HB3.out⟩
            case measure => simp [intOf]; omega
          · have HMX : Hid (max ha hv = ha) := Lib.hid (by omega)
            go_wp2_with (go_at_call 15; (with_reducible refine (HC.out _ ?hb).mono ?_); (case hb => exact HBEL.out.alloc _); rintro e w3 ⟨rfl, hb⟩; have HB3 : Hid (Bel wr w3) := Lib.hid ((Bel.alloc1 _ _).trans hb); clear hb)
            go_roundw
            case rel => exact ⟨t + 1, by rw [HTK.out]; (first | rfl | (rw [HMX.out]) | (congr 1; omega)), by go_num, by omega, HBEL.out.trans HB3.out⟩
            case measure => simp [intOf]; omega
        · obtain rfl : t = n := by omega
          have hx : ks.take t = ks := List.take_of_length_le (by have := HN.out; omega)
          rw [hx]
          clear hx hbel
          go_wp2
          go_ret
          exact ⟨rfl, HBEL.out⟩
theorem spDim_any (g : Gm) : SpDim g := spDim_ind g.size g (Nat.le_refl _)
def SpHigh (g : Gm) : Prop := GmArg g fun v w => Calls Tryz.prog 7 #[v] w fun e w' => e = .returned (.int .i64 (highOf g)) ∧ Bel w w'
set_option maxHeartbeats 4000000 in
set_option maxRecDepth 100000 in
theorem spHigh_ind : ∀ (n : Nat) (g : Gm), g.size ≤ n → SpHigh g := by
  intro n
  induction n with
  | zero => exact fun g h => absurd h (by have := g.size_pos; omega)
  | succ n ih =>
    intro g hsz F pn nn cn pk nk ck w hN hK
    obtain ⟨k, d, ns, ks⟩ := g
    obtain ⟨hnl, -, -⟩ := hN.len
    obtain ⟨_, _, hve, hkl, hkc⟩ := hK.isSlice
    cases hve
    change ks.length ≤ ck at hkl
    show Calls Tryz.prog 7 #[.agg #[.int .i64 k, .int .i64 d, .slice pn nn cn, .slice pk ks.length ck]] w _
    have HK := Lib.hid (show GmSl F w (.slice pk ks.length ck) ks from hK)
    have hnl2 : ns.length = nn := hnl
    have HE : Hid (∀ W, Bel w W → Calls Tryz.prog 14 #[.agg #[.int .i64 k, .int .i64 d, .slice pn nn cn, .slice pk ks.length ck]] W fun e w' => e = .returned (.bool (emptyOf (.mk k d ns ks))) ∧ Bel W w') := Lib.hid fun W hW => GmArg.of (spEmpty_any (.mk k d ns ks)) hN hK hW
    have HD : Hid (∀ W, Bel w W → Calls Tryz.prog 15 #[.agg #[.int .i64 k, .int .i64 d, .slice pn nn cn, .slice pk ks.length ck]] W fun e w' => e = .returned (.int .i64 (dimG (.mk k d ns ks))) ∧ Bel W w') := Lib.hid fun W hW => GmArg.of (spDim_any (.mk k d ns ks)) hN hK hW
    rcases Bool.eq_false_or_eq_true (emptyOf (.mk k d ns ks)) with he | he
    · rw [highOf_empty he]
      rw [he] at HE
      clear ih hsz hN hK HK hnl hnl2 hkl HD he
      generalize ks.length = n at *
      go_enter Tryz.func7, Tryz.ntmps7
      go_wp2_with (go_at_call 14; (with_reducible refine (HE.out _ ?hb).mono ?_); (case hb => (repeat (first | with_reducible assumption | with_reducible exact Bel.refl _ | with_reducible apply Bel.alloc | with_reducible apply Bel.drew | with_reducible apply Bel.drewN | ((with_reducible apply Bel.setCellR); (simp <;> omega)) | with_reducible refine Bel.behind (by with_reducible assumption) ?_))); rintro e w1 ⟨rfl, hb1⟩; have HB1 : Hid (Bel w w1) := Lib.hid ((Bel.alloc1 w _).trans hb1); clear hb1)
      go_ret
      exact ⟨rfl, HB1.out⟩
    · rw [he] at HE
      by_cases h0 : k = 0
      · subst h0
        have hr : highOf (.mk 0 d ns ks) = highAll ks := highOf_coll he rfl
        rw [hr]
        have HIH : Hid (∀ g ∈ ks, SpHigh g) := Lib.hid fun g hg => ih g (by
          have h2 := Gm.size_mem hg
          simp only [Gm.size] at hsz
          omega)
        have HBD : Hid (∀ l : List Gm, 0 ≤ highAll l ∧ highAll l ≤ 2) := Lib.hid fun l => highAll_bd l fun k _ => highOf_bd k.size k (Nat.le_refl _)
        clear ih hsz hN hK hnl hnl2
        generalize hn : ks.length = n at *
        have HN := Lib.hid hn
        clear hn
        clear he hr HD
        go_enter Tryz.func7, Tryz.ntmps7
        go_wp2_with (go_at_call 14; (with_reducible refine (HE.out _ ?hb).mono ?_); (case hb => (repeat (first | with_reducible assumption | with_reducible exact Bel.refl _ | with_reducible apply Bel.alloc | with_reducible apply Bel.drew | with_reducible apply Bel.drewN | ((with_reducible apply Bel.setCellR); (simp <;> omega)) | with_reducible refine Bel.behind (by with_reducible assumption) ?_))); rintro e w1 ⟨rfl, hb1⟩; have HB1 : Hid (Bel w w1) := Lib.hid ((Bel.alloc1 w _).trans hb1); have B1 := (Blk.new w #[.int .i64 0, .int .i64 d, .slice pn nn cn, .slice pk n ck] 25).bel hb1; obtain ⟨r1, z1, l1⟩ := B1.facts; clear hb1 B1)
        go_loopw [3, 16] (fun dv iv wr => ∃ t : Nat, dv = .int .i64 (highAll (ks.take t)) ∧ iv = .int .i64 t ∧ t ≤ n ∧ Bel w wr) (fun _ iv _ => n - (intOf iv).toNat)
        case atStart => exact ⟨0, by simp [highAll], rfl, Nat.zero_le _, by (have HB := HB1.out; (repeat (first | with_reducible assumption | with_reducible exact Bel.refl _ | with_reducible apply Bel.alloc | with_reducible apply Bel.drew | with_reducible apply Bel.drewN | ((with_reducible apply Bel.setCellR); (simp <;> omega)) | with_reducible refine Bel.behind (by with_reducible assumption) ?_)))⟩
        case round =>
          obtain ⟨t, rfl, rfl, ht, hbel⟩ := hrel
          have HBEL := Lib.hid hbel
          by_cases htn : t < n
          · obtain ⟨kd, hkd⟩ : ∃ kd, ks[t]? = some kd := ⟨_, List.getElem?_eq_getElem (by have := HN.out; omega)⟩
            have HKD := Lib.hid (HIH.out kd (List.mem_iff_getElem?.2 ⟨t, hkd⟩))
            obtain ⟨b, off, pn', nn', cn', pk', nk', ck', rfl, hlt, -, d0, d1, d2, d3, hf, hg'⟩ := HK.out.at hkd
            have D0 := cell_kept hbel d0
            have D1 := cell_kept hbel d1
            have D2 := cell_kept hbel d2
            have D3 := cell_kept hbel d3
            have hbl : b < wr.heap.size := Nat.lt_of_lt_of_le hlt hbel.size
            have HC : Hid (∀ W, Bel w W → Calls Tryz.prog 7 #[.agg #[.int .i64 kd.kind, .int .i64 kd.dim, .slice pn' nn' cn', .slice pk' nk' ck']] W fun e w' => e = .returned (.int .i64 (highOf kd)) ∧ Bel W w') := Lib.hid fun W hW => GmArg.of HKD.out hf hg' hW
            have HTK := Lib.hid (highAll_take hkd)
            have hb1 := HBD.out (ks.take t)
            clear HKD d0 d1 d2 d3 hf hg' hbel hkd
            generalize kd.dim = kdim at *
            generalize kd.kind = kkind at *
            generalize highOf kd = hv at *
            generalize highAll (ks.take t) = ha at *
            by_cases hmx : ha < hv
            · have HMX : Hid (max ha hv = hv) := Lib.hid (by omega)
              go_wp2_with (go_at_call 7; (with_reducible refine (HC.out _ ?hb).mono ?_); (case hb => exact HBEL.out.alloc _); rintro e w3 ⟨rfl, hb⟩; have HB3 : Hid (Bel wr w3) := Lib.hid ((Bel.alloc1 _ _).trans hb); clear hb)
              go_roundw
              case rel => exact ⟨t + 1, by rw [HTK.out]; (first | rfl | (rw [HMX.out]) | (congr 1; omega)), by go_num, by omega, HBEL.out.trans HB3.out⟩
              case measure => simp [intOf]; omega
            · have HMX : Hid (max ha hv = ha) := Lib.hid (by omega)
              go_wp2_with (go_at_call 7; (with_reducible refine (HC.out _ ?hb).mono ?_); (case hb => exact HBEL.out.alloc _); rintro e w3 ⟨rfl, hb⟩; have HB3 : Hid (Bel wr w3) := Lib.hid ((Bel.alloc1 _ _).trans hb); clear hb)
              go_roundw
              case rel => exact ⟨t + 1, by rw [HTK.out]; (first | rfl | (rw [HMX.out]) | (congr 1; omega)), by go_num, by omega, HBEL.out.trans HB3.out⟩
              case measure => simp [intOf]; omega
          · obtain rfl : t = n := by omega
            have hx : ks.take t = ks := List.take_of_length_le (by have := HN.out; omega)
            rw [hx]
            clear hx hbel
            go_wp2
            go_ret
            exact ⟨rfl, HBEL.out⟩
      · have hr : highOf (.mk k d ns ks) = dimG (.mk k d ns ks) := highOf_leaf he h0
        rw [hr]
        have q0 : (k != 0) = true := by simp; omega
        clear ih hsz hN hK HK hnl hnl2 hkl he hr
        generalize ks.length = n at *
        generalize dimG (.mk k d ns ks) = dv at *
        go_enter Tryz.func7, Tryz.ntmps7
        go_wp2_with (first
          | (go_at_call 14; (with_reducible refine (HE.out _ ?hb).mono ?_); (case hb => (repeat (first | with_reducible assumption | with_reducible exact Bel.refl _ | with_reducible apply Bel.alloc | with_reducible apply Bel.drew | with_reducible apply Bel.drewN | ((with_reducible apply Bel.setCellR); (simp <;> omega)) | with_reducible refine Bel.behind (by with_reducible assumption) ?_))); rintro e w1 ⟨rfl, hb1⟩; have HB1 : Hid (Bel w w1) := Lib.hid ((Bel.alloc1 w _).trans hb1); have B1 := (Blk.new w #[.int .i64 k, .int .i64 d, .slice pn nn cn, .slice pk n ck] 25).bel hb1; obtain ⟨r1, z1, l1⟩ := B1.facts; clear hb1 B1)
          | (go_at_call 15; (with_reducible refine (HD.out _ HB1.out).mono ?_); rintro e w2 ⟨rfl, hb2⟩; have HB2 : Hid (Bel w w2) := Lib.hid (HB1.out.trans hb2); clear hb2))
        go_ret
        exact ⟨rfl, HB2.out⟩
theorem spHigh_any (g : Gm) : SpHigh g := spHigh_ind g.size g (Nat.le_refl _)
end Go.Proofs.YtpipehenfcbjbaaGreat
