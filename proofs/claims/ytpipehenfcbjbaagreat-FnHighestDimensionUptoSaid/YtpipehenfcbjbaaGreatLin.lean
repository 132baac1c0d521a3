/-
  Line strings: their type, under another type; rows of objects. No panic; what stood in memory has not turned.
-/
import Derived.Test.YtpipehenfcbjbaaGreatFor
import Derived.Test.YtpipehenfcbjbaaGreatPnt
set_option linter.unusedVariables false
namespace Go.Proofs.YtpipehenfcbjbaaGreat
open Go.ChangeShapes Go.WideShapes Go.ChangeAt Go.RowKit
theorem Ob.ln {F : Nat → Prop} {w : World} {cs : List Value} {g : Gm} (h : Ob F w 2 cs g) : ∃ (c : Nat) (p : Option Addr) (n cap : Nat) (xs : List Nat), cs = [.int .u8 c, .slice p n cap] ∧ c ≤ 3 ∧ g = .mk 2 c xs [] ∧ FlSl F w (.slice p n cap) xs ∧ n % wd c = 0 ∧ n / wd c ≤ 1048576 := by
  cases h with
  | line c p n cap xs hc h hw hb => exact ⟨c, p, n, cap, xs, rfl, hc, rfl, h, hw, hb⟩
  | parts s e k c p cap gs cs he hc hl hcap hb h0 hkk h1 => cases he
theorem force_ln {c : Nat} (hc : c ≤ 3) (c' : Nat) (xs : List Nat) : force c' (.mk 2 c xs []) = .mk 2 c' (forceN c c' xs) [] := by
  simp only [force, forceAll, ct_nat hc]
theorem lineType_any (c : Int) (p : Option Addr) (n cap : Nat) (w : World) : Calls Tryz.prog 79 #[.agg #[.int .u8 c, .slice p n cap]] w fun e w' => e = .returned (.int .u8 c) ∧ Bel w w' := by
  go_enter Tryz.func79, Tryz.ntmps79
  go_wp2_with (go_at_call 86; refine (seqType_any _ _ _ _ _).mono ?_; rintro e w1 ⟨rfl, hb1⟩; have HB1 : Hid (Bel w w1) := Lib.hid ((Bel.alloc1 w _).trans hb1); clear hb1)
  go_ret
  exact ⟨rfl, HB1.out⟩
set_option maxRecDepth 100000 in
theorem lineForce_any (F : Nat → Prop) (cs : List Value) (g : Gm) (c' : Nat) (hc' : c' ≤ 3) (w : World) (hF : New F w) (h : Ob F w 2 cs g) : Calls Tryz.prog 78 #[.agg cs.toArray, .int .u8 c'] w (IsOb F w 2 (force c' g)) := by
  obtain ⟨c, p, n, cap, xs, rfl, hc, rfl, hf, hw, hb⟩ := h.ln
  rw [force_ln hc]
  have hl := hf.len.1
  have HS : Hid (∀ W, Bel w W → Calls Tryz.prog 85 #[.agg #[.int .u8 c, .slice p n cap], .int .u8 c'] W (IsSeq (fun b => W.heap.size ≤ b ∨ (F b ∧ b < w.heap.size)) W c' (forceN c c' xs))) := Lib.hid fun W hW => seqForce_any _ c c' p n cap xs hc hc' W (fun b hb => Or.inl hb) ((hf.keep hW.size (fun b _ hl => hW.block b hl) fun b hl hb => Or.inr ⟨hb, hl⟩)) hw hb
  have HLEN : Hid ((forceN c c' xs).length % wd c' = 0 ∧ (forceN c c' xs).length / wd c' ≤ 1048576) := Lib.hid (by
    have h0 := wd_bd c'
    rw [forceN_len, hl]
    exact ⟨Nat.mul_mod_left _ _, by rw [Nat.mul_div_cancel _ (by omega)]; exact hb⟩)
  clear h hf hw hb hl
  show Calls Tryz.prog 78 #[.agg #[.int .u8 c, .slice p n cap], .int .u8 c'] w _
  generalize forceN c c' xs = ys at *
  go_enter Tryz.func78, Tryz.ntmps78
  go_wp2_with (go_at_call 85; (with_reducible refine (HS.out _ ?hb).mono ?_); (case hb => (repeat (first | with_reducible assumption | with_reducible exact Bel.refl _ | with_reducible apply Bel.alloc | with_reducible apply Bel.drew | with_reducible apply Bel.drewN | ((with_reducible apply Bel.setCellR); (simp <;> omega)) | with_reducible refine Bel.behind (by with_reducible assumption) ?_))); rintro e w1 ⟨p1, n1, c1, rfl, hf1, hb1⟩; have HF1 := Lib.hid hf1; have B2 := (Blk.new' (w.alloc (.cells #[.int .u8 c, .slice p n cap] 53)) #[.int .u8 0, .slice none 0 0] 53 (b := w.heap.size + 1) (by simp)).bel hb1; have HB1 : Hid (Bel w w1) := Lib.hid (((Bel.alloc1 w _).alloc _).trans hb1); obtain ⟨r2, z2, l2⟩ := B2.facts; have HP2 := Lib.hid B2; clear hf1 hb1 B2)
  have hl := HF1.out.len.1
  refine post_ret (results_one rfl (resIs_agg (n := 2) (cs := #[.int .u8 c', .slice p1 n1 c1]) (by rfl) Tryz.underlying53 (by kernel_rfl) (T := 53) ?_ rfl)) ⟨_, rfl, .line c' p1 n1 c1 ys hc' ?_ (by rw [← hl]; exact HLEN.out.1) (by rw [← hl]; exact HLEN.out.2), ?_⟩
  · have HB := HP2.out
    (apply Blk.cast; (repeat (first | with_reducible assumption | with_reducible apply Blk.set | ((with_reducible apply Blk.otherR); (focus ((simp <;> omega); done))) | with_reducible exact Blk.new _ _ _ | ((with_reducible apply Blk.new'); (focus (simp; done))) | with_reducible apply Blk.alloc | with_reducible apply Blk.drew | with_reducible apply Blk.drewN | (with_reducible refine Blk.bel ?_ (by with_reducible assumption)))); rfl)
  · refine HF1.out.keep (by simp) (fun b hb hl => ?_) (fun b _ hb => ?_)
    · rw [Below.heap_setCell _ _ _ _ (by simp; simp at hb; omega), Below.heap_setCell _ _ _ _ (by simp; simp at hb; omega)]
    · rcases hb with hb | hb
      · exact hF b (by simp at hb; omega)
      · exact hb.1
  · have HB := HB1.out
    (repeat (first | with_reducible assumption | with_reducible exact Bel.refl _ | with_reducible apply Bel.alloc | with_reducible apply Bel.drew | with_reducible apply Bel.drewN | ((with_reducible apply Bel.setCellR); (simp <;> omega)) | with_reducible refine Bel.behind (by with_reducible assumption) ?_))

/-! ### Rows of objects -/
def RowOb (F : Nat → Prop) (w : World) (arr : Nat → Option Value) (e k : Nat) (hs : List Gm) : Prop := ∀ (i : Nat) (g : Gm), hs[i]? = some g → ∃ cl : List Value, cl.length = k ∧ (∀ (j : Nat) (u : Value), cl[j]? = some u → arr (i * k + j) = some u) ∧ Ob F w e cl g
/-- A slice of objects. -/
def ObSl (F : Nat → Prop) (w : World) (e k : Nat) (v : Value) (gs : List Gm) : Prop :=
  ∃ p cap, v = .slice p gs.length cap ∧ gs.length ≤ cap ∧ cap ≤ 9223372036854775807 ∧ (gs ≠ [] → ∃ b off, p = some ⟨b, off, none⟩ ∧ b < w.heap.size ∧ F b ∧ RowOb F w (fun o => w.cell? ⟨b, off + o, none⟩) e k gs)
theorem RowOb.keep {F G : Nat → Prop} {w w' : World} {arr : Nat → Option Value} {e k : Nat} {hs : List Gm} (h : RowOb F w arr e k hs) (hs' : w.heap.size ≤ w'.heap.size) (hk : ∀ b, F b → b < w.heap.size → w'.heap[b]? = w.heap[b]?) (hG : ∀ b, b < w.heap.size → F b → G b) : RowOb G w' arr e k hs := fun i g hg => by
  obtain ⟨cl, h1, h2, h3⟩ := h i g hg
  exact ⟨cl, h1, h2, h3.keep hs' hk hG⟩
theorem RowOb.cells {F : Nat → Prop} {w : World} {arr arr' : Nat → Option Value} {e k : Nat} {hs : List Gm} (h : RowOb F w arr e k hs) (hc : ∀ o u, arr o = some u → arr' o = some u) : RowOb F w arr' e k hs := fun i g hg => by
  obtain ⟨cl, h1, h2, h3⟩ := h i g hg
  exact ⟨cl, h1, fun j u hu => hc _ _ (h2 j u hu), h3⟩
theorem ObSl.keep {F G : Nat → Prop} {w w' : World} {e k : Nat} {v : Value} {gs : List Gm} (h : ObSl F w e k v gs) (hs : w.heap.size ≤ w'.heap.size) (hk : ∀ b, F b → b < w.heap.size → w'.heap[b]? = w.heap[b]?) (hG : ∀ b, b < w.heap.size → F b → G b) : ObSl G w' e k v gs := by
  obtain ⟨p, cap, hv, hl, hc, h⟩ := h
  refine ⟨p, cap, hv, hl, hc, fun hn => ?_⟩
  obtain ⟨b, off, hp, hlt, hF, hr⟩ := h hn
  refine ⟨b, off, hp, by omega, hG b hlt hF, (hr.keep hs hk hG).cells fun o u ho => (World.cell?_of_block (w := w) (hk b hF hlt)).trans ho⟩
theorem ObSl.bel {F : Nat → Prop} {w w' : World} {e k : Nat} {v : Value} {gs : List Gm} (h : ObSl F w e k v gs) (hb : Bel w w') : ObSl F w' e k v gs := h.keep hb.size (fun b _ hl => hb.block b hl) fun _ _ h => h
theorem ObSl.ob {F : Nat → Prop} {w : World} {s e k c : Nat} {p : Option Addr} {n cap : Nat} {gs : List Gm} (h : ObSl F w e k (.slice p n cap) gs) (he : partOf s = some (e, k)) (hc : c ≤ 3) (hb : gs.length ≤ 1048576) : Ob F w s [.slice p n cap, .int .u8 c] (.mk s c [] gs) := by
  obtain ⟨p', cap', hv, hl, hcap, h⟩ := h
  cases hv
  have hex : ∀ i, ∃ cl : List Value, ∀ g, gs[i]? = some g → cl.length = k ∧ (∀ b off, p = some ⟨b, off, none⟩ → ∀ (j : Nat) (u : Value), cl[j]? = some u → w.cell? ⟨b, off + i * k + j, none⟩ = some u) ∧ Ob F w e cl g := fun i => by
    cases hg : gs[i]? with
    | none => exact ⟨[], fun g h => by cases h⟩
    | some g =>
      obtain ⟨b, off, hp, _, _, hr⟩ := h (by intro e; rw [e] at hg; simp at hg)
      obtain ⟨cl, h1, h2, h3⟩ := hr i g hg
      refine ⟨cl, fun g' hg' => ?_⟩
      cases hg'
      refine ⟨h1, fun b' off' hp' j u hu => ?_, h3⟩
      rw [hp] at hp'
      cases hp'
      have := h2 j u hu
      simp only [← Nat.add_assoc] at this
      exact this
  have hcs := fun i => (hex i).choose_spec
  refine .parts s e k c p cap gs (fun i => (hex i).choose) he hc hl hcap hb (fun hn => ?_) (fun i g hg => (hcs i g hg).1) (fun i g hg => (hcs i g hg).2.2)
  obtain ⟨b, off, hp, hlt, hF, _⟩ := h hn
  exact ⟨b, off, hp, hlt, hF, fun i g hg j u hu => (hcs i g hg).2.1 b off hp j u hu⟩
theorem Ob.sl {F : Nat → Prop} {w : World} {s e k : Nat} {cs : List Value} {g : Gm} (h : Ob F w s cs g) (he : partOf s = some (e, k)) : ∃ (p : Option Addr) (cap c : Nat) (gs : List Gm), cs = [.slice p gs.length cap, .int .u8 c] ∧ c ≤ 3 ∧ g = .mk s c [] gs ∧ gs.length ≤ 1048576 ∧ ObSl F w e k (.slice p gs.length cap) gs := by
  cases h with
  | point x y z m c full hc => cases he
  | line c p n cap xs hc h hw hb => cases he
  | geo s b cs g hs' hb hF hc h => cases he
  | parts s e' k' c p cap gs cs he' hc hl hcap hb h0 hkk h1 =>
    rw [he] at he'
    cases he'
    refine ⟨p, cap, c, gs, rfl, hc, rfl, hb, p, cap, rfl, hl, hcap, fun hn => ?_⟩
    obtain ⟨b, off, hp, hlt, hF, hq⟩ := h0 hn
    refine ⟨b, off, hp, hlt, hF, fun i g hg => ⟨cs i, hkk i g hg, fun j u hu => ?_, h1 i g hg⟩⟩
    have := hq i g hg j u hu
    rw [Nat.add_assoc] at this
    exact this
theorem Ob.two {F : Nat → Prop} {w : World} {s : Nat} {cs : List Value} {g : Gm} (h : Ob F w s cs g) (hs : s ≠ 1) : ∃ a b, cs = [a, b] := by
  cases h with
  | point x y z m c full hc => exact absurd rfl hs
  | line c p n cap xs hc h hw hb => exact ⟨_, _, rfl⟩
  | parts s e k c p cap gs cs he hc hl hcap hb h0 hkk h1 => exact ⟨_, _, rfl⟩
  | geo s b cs g hs' hb hF hc h => exact ⟨_, _, rfl⟩
/-- One more, forced, in a row of its own. -/
theorem RowOb.push {F : Nat → Prop} {w : World} {arr arr' : Nat → Option Value} {e k t : Nat} {hs : List Gm} {g : Gm} {cl : List Value} (h : RowOb F w arr e k hs) (hl : hs.length = t) (h1 : ∀ o u, o < t * k → arr o = some u → arr' o = some u) (hk : cl.length = k) (h2 : ∀ (j : Nat) (u : Value), cl[j]? = some u → arr' (t * k + j) = some u) (ho : Ob F w e cl g) : RowOb F w arr' e k (hs ++ [g]) := fun i g' hg => by
  rcases Nat.lt_or_ge i hs.length with q | q
  · rw [List.getElem?_append_left q] at hg
    obtain ⟨cl', a1, a2, a3⟩ := h i g' hg
    refine ⟨cl', a1, fun j u hu => h1 _ _ ?_ (a2 j u hu), a3⟩
    have hj := (List.getElem?_eq_some_iff.1 hu).1
    have : (i + 1) * k ≤ t * k := Nat.mul_le_mul_right _ (by omega)
    rw [Nat.add_mul] at this
    omega
  · rw [List.getElem?_append_right q] at hg
    have hlt := (List.getElem?_eq_some_iff.1 hg).1
    simp at hlt
    have hi : i = t := by omega
    subst hi
    rw [hl, Nat.sub_self] at hg
    simp at hg
    subst hg
    exact ⟨cl, hk, h2, ho⟩
end Go.Proofs.YtpipehenfcbjbaaGreat
