/-
  PrioritySearch with any callback. No panic; nothing but the callback's own blocks has turned.
-/
import Derived.Test.YtdfamnlmhikolaaDoorTh2
set_option linter.unusedVariables false
namespace Go.Proofs.YtdfamnlmhikolaaDoor
open Go.ChangeShapes Go.WideShapes Go.ChangeAt Go.RowKit
/-- A search by distance, with a callback. -/
def pr {σ : Type} (step : σ → Int → σ × Ek) (o : Bx) : Nat → List En → σ → σ × Ek
  | 0, _, s => (s, .none)
  | f + 1, q, s => match (sunk (enLt o) q)[q.length - 1]? with
    | none => (s, .none)
    | some e => match e.kid with
      | none => match step s e.id with
        | (s', .none) => pr step o f ((sunk (enLt o) q).take (q.length - 1)) s'
        | (s', k) => if k.ends then (s', .none) else (s', k)
      | some t => pr step o f (enqueue o t ((sunk (enLt o) q).take (q.length - 1))) s
section
variable {σ : Type} {step : σ → Int → σ × Ek} {o : Bx} {f m : Nat} {q : List En} {s s2 : σ} {e : En} {ek : Ek}
theorem pr_nil : pr step o f [] s = (s, .none) := by
  cases f <;> rfl
theorem pr_on (hm : q.length = m + 1) (he : (sunk (enLt o) q)[m]? = some e) (hk : e.kid = none) (hs : step s e.id = (s2, ek)) (hx : ek.isErr = false) : pr step o (f + 1) q s = pr step o f ((sunk (enLt o) q).take m) s2 := by
  rw [pr, hm, Nat.add_sub_cancel, he]
  simp only [hk, hs]
  cases ek <;> simp_all [Ek.isErr]
theorem pr_ends (hm : q.length = m + 1) (he : (sunk (enLt o) q)[m]? = some e) (hk : e.kid = none) (hs : step s e.id = (s2, ek)) (hx : ek.ends = true) : pr step o (f + 1) q s = (s2, .none) := by
  rw [pr, hm, Nat.add_sub_cancel, he]
  simp only [hk, hs]
  cases ek <;> simp_all [Ek.ends]
theorem pr_err (hm : q.length = m + 1) (he : (sunk (enLt o) q)[m]? = some e) (hk : e.kid = none) (hs : step s e.id = (s2, ek)) (hx : ek.isErr = true) (hy : ek.ends = false) : pr step o (f + 1) q s = (s2, ek) := by
  rw [pr, hm, Nat.add_sub_cancel, he]
  simp only [hk, hs]
  cases ek <;> simp_all [Ek.isErr, Ek.ends]
theorem pr_sub {t : Tr} (hm : q.length = m + 1) (he : (sunk (enLt o) q)[m]? = some e) (hk : e.kid = some t) : pr step o (f + 1) q s = pr step o f (enqueue o t ((sunk (enLt o) q).take m)) s := by
  rw [pr, hm, Nat.add_sub_cancel, he]
  simp only [hk]
end
/-- The weights, when one is taken. -/
theorem weights_pop {o : Bx} {q : List En} {m : Nat} {e : En} (hm : q.length = m + 1) (he : (sunk (enLt o) q)[m]? = some e) : weights ((sunk (enLt o) q).take m) + e.weight = weights q := by
  have hl := sunk_len (enLt o) q
  have h1 : sunk (enLt o) q = (sunk (enLt o) q).take m ++ [e] := by
    obtain ⟨hk, hx⟩ := List.getElem?_eq_some_iff.1 he
    rw [← hx, ← List.take_succ_eq_append_getElem hk, List.take_of_length_le (by omega)]
  have h2 := weights_perm (sunk_perm (enLt o) q)
  rw [h1, weights_snoc] at h2
  exact h2
theorem weights_len (q : List En) : q.length ≤ weights q := by
  induction q with
  | nil => simp [weights]
  | cons e r ih =>
    have h1 : weights (e :: r) = e.weight + weights r := by
      unfold weights
      simp
    have h2 : 1 ≤ e.weight := by
      unfold En.weight
      omega
    rw [h1, List.length_cons]
    omega
/-- The nodes that wait are small. -/
def KidsSm (q : List En) : Prop := ∀ e ∈ q, ∀ t, e.kid = some t → t.Sm
theorem KidsSm.push {o : Bx} {q : List En} {e : En} (h : KidsSm q) (he : ∀ t, e.kid = some t → t.Sm) : KidsSm (push (enLt o) q e) := by
  intro a ha
  exact push_mem (P := fun (a : En) => ∀ t, a.kid = some t → t.Sm) (enLt o) q e (fun a ha => h a ha) he a ha
theorem KidsSm.enqueue {o : Bx} : ∀ (t : Tr) (q : List En), KidsSm q → t.Sm → KidsSm (enqueue o t q)
  | .nil, _, h, _ => h
  | .item b i r, q, h, ht => KidsSm.enqueue r _ (h.push (fun t hk => by simp at hk)) ht.2
  | .sub b k r, q, h, ht => KidsSm.enqueue r _ (h.push (fun t hk => by simp at hk; subst hk; exact ht.2.1)) ht.2.2
theorem KidsSm.pop {o : Bx} {q : List En} (h : KidsSm q) (m : Nat) : KidsSm ((sunk (enLt o) q).take m) := fun e he => h e ((sunk_perm (enLt o) q).mem_iff.1 (List.mem_of_mem_take he))
theorem PQ.keep {w0 w w' : World} {Q x y z u : Nat} {o : Bx} {v : Value} {es : List En} {G : Nat → Prop} (h : PQ w0 w Q x y z u o v es) (k : KeepF G w w') (h0 : ∀ b, b < w0.heap.size → G b) (hQ : G Q) (hv : ∀ b, v.ownBlock = some b → G b) : PQ w0 w' Q x y z u o v es := by
  refine ⟨KeepF.below h0 h.below k, k.blk hQ h.blk, ?_, h.hQ, h.box, h.osm, h.small, h.few⟩
  rcases h.row with hr | ⟨g, cap, cur, rfl, h2, h3, h4⟩
  · exact Or.inl hr
  · exact Or.inr ⟨g, cap, cur, rfl, h2, k.blk (hv g rfl) h3, h4⟩
/-- What the callback must leave alone: F, the queue, its row. -/
def FQ (F : Nat → Prop) (Q : Nat) (v : Value) (b : Nat) : Prop := F b ∨ b = Q ∨ v.ownBlock = some b
theorem PQ.fin {w0 w w1 : World} {Q x y z u : Nat} {o : Bx} {v : Value} {es : List En} {F : Nat → Prop} (h : PQ w0 w Q x y z u o v es) (hF : ∀ b, F b → b < w1.heap.size) (hs : w1.heap.size ≤ w.heap.size) (b : Nat) (hb : FQ F Q v b) : b < w.heap.size := by
  rcases hb with hb | hb | hb
  · have := hF b hb
    omega
  · rw [hb]
    exact h.blk.lt
  · rcases h.row with ⟨rfl, _⟩ | ⟨g, cap, cur, rfl, _, h3, _⟩
    · simp [Value.ownBlock] at hb
    · simp [Value.ownBlock] at hb
      rw [← hb]
      exact h3.lt
theorem inv_step {a : Addr} {f : Nat} {caps : Array Value} {σ : Type} {size : σ → Nat} {Inv : (Nat → Prop) → σ → World → Prop} {step : σ → Int → σ × Ek} (cb : Callback a f caps σ size Inv step) {F : Nat → Prop} {Q : Nat} {v v' : Value} {w w' : World} {s : σ} (h : Inv (FQ F Q v) s w) (r : QRel Q w v w' v') (hQ0 : Q ≠ 0) (hv0 : v.ownBlock ≠ some 0) : Inv (FQ F Q v') s w' := by
  have h1 : Inv (fun b => FQ F Q v b ∨ FQ F Q v' b) s w := cb.sub _ _ _ _ h (fun b hl hb => by
    rcases hb with hb | hb
    · exact hb
    · rcases hb with hb | hb | hb
      · exact Or.inl hb
      · exact Or.inr (Or.inl hb)
      · rcases r.own with e | ⟨g, e, hg⟩
        · exact Or.inr (Or.inr (e ▸ hb))
        · rw [e] at hb
          obtain rfl := Option.some.inj hb
          omega)
  have h2 := cb.only _ _ _ w' h1 ⟨r.size, fun b hb hl => r.block b (fun e => hb (Or.inl (Or.inr (Or.inl e)))) (fun e => hb (Or.inl (Or.inr (Or.inr e)))) hl, fun c hc => (World.cell?_of_block (r.block 0 (fun e => hQ0 e.symm) hv0 (World.block_lt_of_cell? w _ hc))).trans hc⟩
  exact cb.sub _ _ _ _ h2 (fun b _ hb => Or.inr hb)
theorem QRel.keep {w0 w wr w' : World} {Q x y z u : Nat} {o : Bx} {v v' : Value} {es : List En} {F : Nat → Prop} (h : PQ w0 wr Q x y z u o v es) (r : QRel Q wr v w' v') (hQ : w.heap.size ≤ Q) : KeepF (fun b => F b ∧ b < w.heap.size) wr w' := by
  refine ⟨r.os, r.tape, r.output, r.size, fun b hb hl => r.block b (fun e => by have := hb.2; omega) (fun e => ?_) hl⟩
  have := h.row.ownBlock_ne (b := b) (by have := hb.2; omega)
  exact this e
set_option maxHeartbeats 4000000 in
set_option maxRecDepth 100000 in
theorem prio_any {a : Addr} {f : Nat} {caps : Array Value} {σ : Type} {size : σ → Nat} {Inv : (Nat → Prop) → σ → World → Prop} {step : σ → Int → σ × Ek} (cb : Callback a f caps σ size Inv step) (F : Nat → Prop) (w0 w : World) (x y z u : Nat) (q : Bx) (hq : BxB x y z u q) (hqs : q.Small 1048576) (p : Nat) (L : List It) (s : σ)
    (hF : ∀ b, b < w0.heap.size → F b) (hFw : ∀ b, F b → b < w.heap.size) (hb : Below w0.heap.size w0 w) (hg : w0.cell? ⟨0, 0, none⟩ = some (.iface 128 (.pointer (some a)))) (ht : TreeAt w0 p L) (hts : (treeOf L).Sm) (hta : (treeOf L).all ≤ 800000) (hss : size s + (treeOf L).all ≤ 1000000) (hi : Inv F s w) :
    Calls Tryd.prog 21 #[.pointer (some ⟨p, 0, none⟩), .agg #[.float .f64 x, .float .f64 y, .float .f64 z, .float .f64 u], .func (.func f) #[] caps] w
      fun e w' => e = .returned ((pr step q ((treeOf L).all + 1) (enqueue q (treeOf L) []) s).2.val a) ∧ Inv F (pr step q ((treeOf L).all + 1) (enqueue q (treeOf L) []) s).1 w' ∧ KeepF F w w' := by
  obtain ⟨root, h1, _, h3⟩ := ht
  have hl0 := World.block_lt_of_cell? w0 _ h1
  simp only at hl0
  have h1' : w.cell? ⟨p, 0, none⟩ = some (.pointer root) := (hb.cell hl0).trans h1
  have hsz := hb.size
  have hpl : p < w.heap.size := by omega
  rcases h3 with ⟨rfl, rfl⟩ | ⟨h0, k, rfl, hn⟩
  · have hR : pr step q ((treeOf []).all + 1) (enqueue q (treeOf []) []) s = (s, .none) := pr_nil
    rw [hR]
    have HI := Lib.hid hi
    have CB := Lib.hid cb
    clear hq hi cb hb
    go_enter Tryd.func21, Tryd.ntmps21
    go_wp2
    go_ret
    exact ⟨rfl, CB.out.only _ _ _ _ HI.out (OnlyF.bel (by (repeat (first | with_reducible assumption | with_reducible exact Bel.refl _ | with_reducible apply Bel.alloc | with_reducible apply Bel.drew | with_reducible apply Bel.drewN | ((with_reducible apply Bel.setCellR); (simp <;> omega)) | with_reducible refine Bel.behind (by with_reducible assumption) ?_)))), KeepF.bel (by (repeat (first | with_reducible assumption | with_reducible exact Bel.refl _ | with_reducible apply Bel.alloc | with_reducible apply Bel.drew | with_reducible apply Bel.drewN | ((with_reducible apply Bel.setCellR); (simp <;> omega)) | with_reducible refine Bel.behind (by with_reducible assumption) ?_)))⟩
  · generalize hT : treeOf L = T at *
    have HN := Lib.hid hn
    have CB := Lib.hid cb
    have HG := Lib.hid hg
    have HF := Lib.hid hF
    have HTS := Lib.hid hts
    have HI : Hid (Inv (fun b => F b ∨ b = w.heap.size ∨ b = w.heap.size + 1) s w) := Lib.hid (cb.sub _ _ _ _ hi (fun b hl hb => by
      rcases hb with hb | rfl | rfl
      · exact hb
      · omega
      · omega))
    have HPQ0 : Hid (∀ w1 : World, Bel ((w.alloc (.cells #[.float .f64 x, .float .f64 y, .float .f64 z, .float .f64 u] 51)).alloc (.cells #[.slice none 0 0, .float .f64 x, .float .f64 y, .float .f64 z, .float .f64 u] 85)) w1 → PQ w0 w1 (w.heap.size + 1) x y z u q (.slice none 0 0) []) := by
      refine Lib.hid fun w1 hb1 => PQ.bel ⟨(hb.alloc hsz _).alloc (by simp; omega) _, Blk.new' _ _ _ (by simp), Or.inl ⟨rfl, rfl⟩, by omega, hq, hqs, fun e he => by simp at he, by simp⟩ hb1
    generalize hR : pr step q (T.all + 1) (enqueue q T []) s = R
    have HR := Lib.hid hR
    clear hn hq cb hi hb hg hR hF hts
    go_enter Tryd.func21, Tryd.ntmps21
    go_wp2_with (first
      | (go_at_call 29; (with_reducible refine (enqueue_any (HPQ0.out _ ?hb) T k HN.out HTS.out (by simp)).mono ?_); (case hb => (repeat (first | with_reducible assumption | with_reducible exact Bel.refl _ | with_reducible apply Bel.alloc | with_reducible apply Bel.drew | with_reducible apply Bel.drewN | ((with_reducible apply Bel.setCellR); (simp <;> omega)) | with_reducible refine Bel.behind (by with_reducible assumption) ?_))); rintro e w2 ⟨v2, rfl, hq2, hr2⟩; have Q2 := Lib.hid hq2; have R2 := Lib.hid hr2; clear hq2 hr2))
    have hW0 : Hid (Inv (FQ F (w.heap.size + 1) v2) s w2 ∧ KeepF (fun b => F b ∧ b < w.heap.size) w w2) := by
      have hb1 : Bel w ((w.alloc (.cells #[.float .f64 x, .float .f64 y, .float .f64 z, .float .f64 u] 51)).alloc (.cells #[.slice none 0 0, .float .f64 x, .float .f64 y, .float .f64 z, .float .f64 u] 85)) := by (repeat (first | with_reducible assumption | with_reducible exact Bel.refl _ | with_reducible apply Bel.alloc | with_reducible apply Bel.drew | with_reducible apply Bel.drewN | ((with_reducible apply Bel.setCellR); (simp <;> omega)) | with_reducible refine Bel.behind (by with_reducible assumption) ?_))
      have h1 := CB.out.only _ _ _ _ HI.out (OnlyF.bel hb1)
      have h2 : Inv (FQ F (w.heap.size + 1) (.slice none 0 0)) s ((w.alloc (.cells #[.float .f64 x, .float .f64 y, .float .f64 z, .float .f64 u] 51)).alloc (.cells #[.slice none 0 0, .float .f64 x, .float .f64 y, .float .f64 z, .float .f64 u] 85)) := CB.out.sub _ _ _ _ h1 (fun b _ hb => by
        rcases hb with hb | hb | hb
        · exact Or.inl hb
        · exact Or.inr (Or.inr hb)
        · simp [Value.ownBlock] at hb)
      exact Lib.hid ⟨inv_step CB.out h2 R2.out (by omega) (by simp [Value.ownBlock]), (KeepF.bel hb1).trans (R2.out.keep (HPQ0.out _ (Bel.refl _)) (by omega))⟩
    clear R2 HPQ0 HI
    have hent := CB.out.enters
    go_loopg [9] (T.all + 1) (fun gk _ wr => ∃ (l : List En) (s' : σ) (v : Value), weights l < gk ∧ gk ≤ T.all + 1 ∧ size s' + weights l ≤ 1000000 ∧ pr step q gk l s' = R ∧ KidsSm l ∧ PQ w0 wr (w.heap.size + 1) x y z u q v l ∧ Inv (FQ F (w.heap.size + 1) v) s' wr ∧ KeepF (fun b => F b ∧ b < w.heap.size) w wr)
    case atStart => exact ⟨enqueue q T [], s, v2, by rw [enqueue_weights]; simp [weights], Nat.le_refl _, by rw [enqueue_weights]; simp [weights]; exact hss, HR.out, KidsSm.enqueue T [] (fun e he => by simp at he) HTS.out, Q2.out, hW0.out.1, hW0.out.2⟩
    case round =>
      obtain ⟨l, s', v, hwl, hgk, hsw, hpr, hks, hpq, hinv, hkeep⟩ := hrel
      have HP := Lib.hid hpq
      have HI := Lib.hid hinv
      have HK := Lib.hid hkeep
      have HPR := Lib.hid hpr
      have HKS := Lib.hid hks
      have hlen := weights_len l
      obtain ⟨r1, z1, l1⟩ := hpq.blk.facts
      obtain ⟨pq, cq, rfl⟩ : ∃ pq cq, v = .slice pq l.length cq := by
        rcases hpq.row with ⟨rfl, rfl⟩ | ⟨g, cap, cur, h1, _⟩
        · exact ⟨_, _, rfl⟩
        · exact ⟨_, _, h1⟩
      clear hpq hinv hkeep hpr hks Q2 hW0 HR
      rcases Nat.eq_zero_or_pos l.length with h0l | h0l
      · have hl : l = [] := List.length_eq_zero_iff.1 h0l
        subst hl
        have hc : ¬ (0 : Int) < ((([] : List En).length : Nat) : Int) := by simp
        have hR2 : R = (s', .none) := HPR.out.symm.trans pr_nil
        go_wp2
        go_ret
        exact ⟨rfl, CB.out.sub _ _ _ _ HI.out (fun b _ hb => Or.inl hb), HK.out.mono fun b hl hb => ⟨hb, hl⟩⟩
      · obtain ⟨m, hm⟩ : ∃ m, l.length = m + 1 := ⟨l.length - 1, by omega⟩
        have HM := Lib.hid hm
        have hc : (0 : Int) < (l.length : Int) := by omega
        obtain ⟨f', hf'⟩ : ∃ f', gk = f' + 1 := ⟨gk - 1, by omega⟩
        subst hf'
        have hta := assertEP
        obtain ⟨e0, he0⟩ : ∃ e0, (sunk (enLt q) l)[m]? = some e0 := ⟨_, List.getElem?_eq_getElem (by rw [sunk_len]; omega)⟩
        have HE0 := Lib.hid he0
        have hwp := weights_pop hm he0
        have hm2 : ((sunk (enLt q) l).take m).length = m := by
          rw [List.length_take, sunk_len]
          omega
        have HLT := Lib.hid hm2
        cases hk : e0.kid with
        | none =>
          obtain ⟨s2, ek, hstep⟩ : ∃ s2 ek, step s' e0.id = (s2, ek) := ⟨_, _, rfl⟩
          have HSTEP := Lib.hid hstep
          have hgr := CB.out.grow s' e0.id
          rw [hstep] at hgr
          have HGR := Lib.hid hgr
          clear hgr
          have he1 := ek_guard a ek
          have he2 := ek_neq a ek
          have hw1 : e0.weight = 1 := by
            simp [En.weight, hk]
          rcases ek_three ek with h1 | ⟨h1, h2⟩ | ⟨h1, h2⟩
          · have h2 : ek.isErr = true := by cases ek <;> simp_all [Ek.ends, Ek.isErr]
            have hr := (pr_ends (f := f') hm he0 hk hstep h1).symm.trans HPR.out
            have HR := Lib.hid hr
            clear hstep hr hm he0 hm2
            go_wp2_with (first
              | (go_at_call 31; (with_reducible refine (heapPop_any HP.out m HM.out).mono ?_); rintro e w3 ⟨pv, v3, e1, rfl, he1, hen, hq3, hr3⟩; obtain rfl : e0 = e1 := Option.some.inj (HE0.out.symm.trans he1); obtain ⟨k0, j0, rfl, hx0⟩ := hen; have Q3 := Lib.hid hq3; have R3 := Lib.hid hr3; have I3 := Lib.hid (inv_step CB.out HI.out hr3 (by omega) (HP.out.row.ownBlock_ne (by omega))); have K3 := Lib.hid (HK.out.trans (hr3.keep HP.out (by omega))); rw [hk] at hx0; have hbw := hq3.below; have hg3 := (hbw.cell (World.block_lt_of_cell? w0 _ HG.out)).trans HG.out; obtain ⟨_, _, _, _, _, _, _, _, d4, d5, _⟩ := hx0; have D4 := (hbw.cell (World.block_lt_of_cell? w0 _ d4)).trans d4; have D5 := (hbw.cell (World.block_lt_of_cell? w0 _ d5)).trans d5; have hkl := World.block_lt_of_cell? w3 _ D4; simp only [Option.map_none] at D4 hkl; clear d4 d5; clear hq3 hr3 he1 hbw)
              | ((with_reducible refine (CB.out.call _ s' e0.id _ ?hsz I3.out).mono ?_); (case hsz => (have h1 := HM.out; omega)); rintro e w4 ⟨rfl, hi4, hk4⟩; rw [HSTEP.out]; rw [HSTEP.out] at hi4; have I4 := Lib.hid (CB.out.sub _ (FQ F (w.heap.size + 1) v3) _ _ hi4 (fun b _ hb => ⟨hb, Q3.out.fin hFw K3.out.size b hb⟩)); have Q4 := Lib.hid (Q3.out.keep hk4 (fun b hb => Or.inl (HF.out b hb)) (Or.inr (Or.inl rfl)) (fun b hb => Or.inr (Or.inr hb))); have K4 := Lib.hid (K3.out.trans (hk4.mono fun b _ hb => Or.inl hb.1)); have hg4 := (Q4.out.below.cell (World.block_lt_of_cell? w0 _ HG.out)).trans HG.out; clear hi4 hk4)
              | (go_at_call 28; (with_reducible refine (is_ek a ek _).mono ?_); rintro e w5 ⟨rfl, hb5⟩; have HB5 := Lib.hid hb5; clear hb5))
            go_ret
            rw [← HR.out]
            exact ⟨rfl, CB.out.only _ _ _ _ (CB.out.sub _ _ _ _ I4.out (fun b _ hb => Or.inl hb)) (OnlyF.bel HB5.out), (K4.out.trans (KeepF.bel HB5.out)).mono fun b hl hb => ⟨hb, hl⟩⟩
          · have hr := (pr_on (f := f') hm he0 hk hstep h2).symm.trans HPR.out
            have HR := Lib.hid hr
            clear hstep hr hm he0 hm2
            go_wp2_with (first
              | (go_at_call 31; (with_reducible refine (heapPop_any HP.out m HM.out).mono ?_); rintro e w3 ⟨pv, v3, e1, rfl, he1, hen, hq3, hr3⟩; obtain rfl : e0 = e1 := Option.some.inj (HE0.out.symm.trans he1); obtain ⟨k0, j0, rfl, hx0⟩ := hen; have Q3 := Lib.hid hq3; have R3 := Lib.hid hr3; have I3 := Lib.hid (inv_step CB.out HI.out hr3 (by omega) (HP.out.row.ownBlock_ne (by omega))); have K3 := Lib.hid (HK.out.trans (hr3.keep HP.out (by omega))); rw [hk] at hx0; have hbw := hq3.below; have hg3 := (hbw.cell (World.block_lt_of_cell? w0 _ HG.out)).trans HG.out; obtain ⟨_, _, _, _, _, _, _, _, d4, d5, _⟩ := hx0; have D4 := (hbw.cell (World.block_lt_of_cell? w0 _ d4)).trans d4; have D5 := (hbw.cell (World.block_lt_of_cell? w0 _ d5)).trans d5; have hkl := World.block_lt_of_cell? w3 _ D4; simp only [Option.map_none] at D4 hkl; clear d4 d5; clear hq3 hr3 he1 hbw)
              | ((with_reducible refine (CB.out.call _ s' e0.id _ ?hsz I3.out).mono ?_); (case hsz => (have h1 := HM.out; omega)); rintro e w4 ⟨rfl, hi4, hk4⟩; rw [HSTEP.out]; rw [HSTEP.out] at hi4; have I4 := Lib.hid (CB.out.sub _ (FQ F (w.heap.size + 1) v3) _ _ hi4 (fun b _ hb => ⟨hb, Q3.out.fin hFw K3.out.size b hb⟩)); have Q4 := Lib.hid (Q3.out.keep hk4 (fun b hb => Or.inl (HF.out b hb)) (Or.inr (Or.inl rfl)) (fun b hb => Or.inr (Or.inr hb))); have K4 := Lib.hid (K3.out.trans (hk4.mono fun b _ hb => Or.inl hb.1)); have hg4 := (Q4.out.below.cell (World.block_lt_of_cell? w0 _ HG.out)).trans HG.out; clear hi4 hk4)
              | (go_at_call 28; (with_reducible refine (is_ek a ek _).mono ?_); rintro e w5 ⟨rfl, hb5⟩; have HB5 := Lib.hid hb5; clear hb5))
            go_roundg f'
            case rel => exact ⟨_, s2, v3, by omega, by omega, by have h : size s2 ≤ _ := HGR.out; omega, HR.out, HKS.out.pop m, Q4.out, I4.out, K4.out⟩
            case measure => omega
          · have hr := (pr_err (f := f') hm he0 hk hstep h2 h1).symm.trans HPR.out
            have HR := Lib.hid hr
            clear hstep hr hm he0 hm2
            go_wp2_with (first
              | (go_at_call 31; (with_reducible refine (heapPop_any HP.out m HM.out).mono ?_); rintro e w3 ⟨pv, v3, e1, rfl, he1, hen, hq3, hr3⟩; obtain rfl : e0 = e1 := Option.some.inj (HE0.out.symm.trans he1); obtain ⟨k0, j0, rfl, hx0⟩ := hen; have Q3 := Lib.hid hq3; have R3 := Lib.hid hr3; have I3 := Lib.hid (inv_step CB.out HI.out hr3 (by omega) (HP.out.row.ownBlock_ne (by omega))); have K3 := Lib.hid (HK.out.trans (hr3.keep HP.out (by omega))); rw [hk] at hx0; have hbw := hq3.below; have hg3 := (hbw.cell (World.block_lt_of_cell? w0 _ HG.out)).trans HG.out; obtain ⟨_, _, _, _, _, _, _, _, d4, d5, _⟩ := hx0; have D4 := (hbw.cell (World.block_lt_of_cell? w0 _ d4)).trans d4; have D5 := (hbw.cell (World.block_lt_of_cell? w0 _ d5)).trans d5; have hkl := World.block_lt_of_cell? w3 _ D4; simp only [Option.map_none] at D4 hkl; clear d4 d5; clear hq3 hr3 he1 hbw)
              | ((with_reducible refine (CB.out.call _ s' e0.id _ ?hsz I3.out).mono ?_); (case hsz => (have h1 := HM.out; omega)); rintro e w4 ⟨rfl, hi4, hk4⟩; rw [HSTEP.out]; rw [HSTEP.out] at hi4; have I4 := Lib.hid (CB.out.sub _ (FQ F (w.heap.size + 1) v3) _ _ hi4 (fun b _ hb => ⟨hb, Q3.out.fin hFw K3.out.size b hb⟩)); have Q4 := Lib.hid (Q3.out.keep hk4 (fun b hb => Or.inl (HF.out b hb)) (Or.inr (Or.inl rfl)) (fun b hb => Or.inr (Or.inr hb))); have K4 := Lib.hid (K3.out.trans (hk4.mono fun b _ hb => Or.inl hb.1)); have hg4 := (Q4.out.below.cell (World.block_lt_of_cell? w0 _ HG.out)).trans HG.out; clear hi4 hk4)
              | (go_at_call 28; (with_reducible refine (is_ek a ek _).mono ?_); rintro e w5 ⟨rfl, hb5⟩; have HB5 := Lib.hid hb5; clear hb5))
            go_ret
            rw [← HR.out]
            exact ⟨rfl, CB.out.only _ _ _ _ (CB.out.sub _ _ _ _ I4.out (fun b _ hb => Or.inl hb)) (OnlyF.bel HB5.out), (K4.out.trans (KeepF.bel HB5.out)).mono fun b hl hb => ⟨hb, hl⟩⟩
        | some tk =>
          have hr := (pr_sub (f := f') (s := s') hm he0 hk).symm.trans HPR.out
          have HR := Lib.hid hr
          have HSMK := Lib.hid (HKS.out e0 ((sunk_perm (enLt q) l).mem_iff.1 (List.mem_of_getElem? he0)) tk hk)
          have hw1 : e0.weight = 1 + tk.all := by
            simp [En.weight, hk]
          clear hr hm he0 hm2
          go_wp2_with (first
            | (go_at_call 31; (with_reducible refine (heapPop_any HP.out m HM.out).mono ?_); rintro e w3 ⟨pv, v3, e1, rfl, he1, hen, hq3, hr3⟩; obtain rfl : e0 = e1 := Option.some.inj (HE0.out.symm.trans he1); obtain ⟨k0, j0, rfl, hx0⟩ := hen; have Q3 := Lib.hid hq3; have R3 := Lib.hid hr3; have I3 := Lib.hid (inv_step CB.out HI.out hr3 (by omega) (HP.out.row.ownBlock_ne (by omega))); have K3 := Lib.hid (HK.out.trans (hr3.keep HP.out (by omega))); rw [hk] at hx0; have hbw := hq3.below; have hg3 := (hbw.cell (World.block_lt_of_cell? w0 _ HG.out)).trans HG.out; obtain ⟨c, ⟨_, _, _, _, _, _, _, _, d4, _⟩, hnode⟩ := hx0; have D4 := (hbw.cell (World.block_lt_of_cell? w0 _ d4)).trans d4; have hkl := World.block_lt_of_cell? w3 _ D4; simp only [Option.map_some] at D4 hkl; have HND := Lib.hid hnode; clear d4 hnode; clear hq3 hr3 he1 hbw)
            | (go_at_call 29; (with_reducible refine (enqueue_any Q3.out tk c HND.out HSMK.out (by (have h1 := HLT.out; have h2 := HM.out; omega))).mono ?_); rintro e w4 ⟨v4, rfl, hq4, hr4⟩; have Q4 := Lib.hid hq4; have R4 := Lib.hid hr4; clear hq4 hr4))
          go_roundg f'
          case rel => exact ⟨_, s', v4, by rw [enqueue_weights]; omega, by omega, by rw [enqueue_weights]; omega, HR.out, KidsSm.enqueue tk _ (HKS.out.pop m) HSMK.out, Q4.out, inv_step CB.out I3.out R4.out (by omega) (Q3.out.row.ownBlock_ne (by omega)), K3.out.trans (R4.out.keep Q3.out (by omega))⟩
          case measure => omega
end Go.Proofs.YtdfamnlmhikolaaDoor
