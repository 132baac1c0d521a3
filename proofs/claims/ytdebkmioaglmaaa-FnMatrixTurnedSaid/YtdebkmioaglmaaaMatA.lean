/-
  Append to a row of the call's own: the block in which the longer row lies is the old one or a new one. And a slice of whole numbers that came in, opened. No condition.
-/
import Derived.Test.YtdebkmioaglmaaaMatP
import Derived.Test.YtdebkmioaglmaaaFlat
import Derived.Deep.RegionHeld3
namespace Go.Proofs.Ytdebkmioaglmaaa
open Go.ChangeShapes Go.WideShapes Go.ChangeAt Go.RowKit
section
variable {P : Program} (w : World)
theorem append_block (base : Nat) (t ty e : TypeId) (i : TypeInfo) (z : Value) (size bytes : Nat) (ht : P.underlying t = some (.slice e)) (hi : P.info? e = some i) (hz : i.zero = some z)
    (hsize : i.size = size) (hby : i.bytes = bytes) (v : Value) (n : Nat) (xs : List Value) (hown : w.ownsRow base e size v n xs)
    (a : Addr) (m c : Nat) (news : List Value) (hl : news.length = m * size) (hnews : ∀ j u, news[j]? = some u → w.cell? (a.add j) = some u) (h1 : ∀ u ∈ news, u.oneCell' = true)
    (hm : 0 < m) (h63 : n + m ≤ maxLen) (hbytes : (n + m) * bytes ≤ 140737488355328) {v' : Value} {w' : World}
    (hr : (Builtin.append_ #[t, t] ty #[v, .slice (some a) m c]).run P w = .ok v' w') : v'.ownBlock = v.ownBlock ∨ v'.ownBlock = some w.heap.size := by
  subst hsize
  subst hby
  have hsmall : n + m ≤ 9223372036854775807 := by simp only [maxLen] at h63; omega
  rcases hown.2 with ⟨rfl, rfl⟩ | ⟨g, cap, cur, rfl, hbg, hg, hnc, hcm, hcs, htake⟩
  · rw [run_append_nil w t ty e i z ht hi hz a m c news hl hnews hm (by omega) (by simp only [Nat.zero_add] at hbytes; omega)] at hr
    cases hr
    exact Or.inr rfl
  · by_cases hroom : n + m ≤ cap
    · have hfit : n * i.size + news.length ≤ cur.size := by rw [hl, hcs, ← Nat.add_mul]; exact Nat.mul_le_mul_right _ hroom
      rw [run_append_room w t ty e i ht hi g n cap cur hg a m c news hl hnews h1 hroom hfit] at hr
      cases hr
      exact Or.inl rfl
    · rw [run_append_grow w t ty e i z ht hi hz ⟨g, 0, none⟩ n cap xs hown.1 (hown.cells rfl) a m c news hl hnews (by omega) (by omega) (growslice_fits (by omega) hbytes)] at hr
      cases hr
      exact Or.inr rfl

/-- Append of one element of one cell, inside a region that draws its order. -/
theorem step_append_own2 {ops : Array Oper} {o : Oper} {a : Act} {K : Act → World → Prop} {Q : Exit → Act → World → Prop} (hgd : o.guard = none) (s x : Operand) (t : TypeId)
    (ho : o.op = .call { callee := .builtin .append, args := #[s, x], argTypes := #[t, t] })
    (base : Nat) (e : TypeId) (i : TypeInfo) (z : Value) (bytes : Nat) (ht : P.underlying t = some (.slice e)) (hi : P.info? e = some i) (hz : i.zero = some z)
    (hsize : i.size = 1) (hby : i.bytes = bytes) (hzs : z.cells.size = 1)
    (v : Value) (n : Nat) (xs : List Value) (hs : a.eval s = v) (hown : w.ownsRow base e 1 v n xs)
    (g : Nat) (y : Value) (hx : a.eval x = .slice (some ⟨g, 0, none⟩) 1 1) (hc : w.cell? ⟨g, 0, none⟩ = some y) (h1 : y.oneCell' = true)
    (h63 : n + 1 ≤ maxLen) (hbytes : (n + 1) * bytes ≤ 140737488355328) (hbase : base ≤ w.heap.size)
    (h : ∀ v' w', w'.ownsRow base e 1 v' (n + 1) (xs ++ [y]) → w.grownBy w' v.ownBlock → (v'.ownBlock = v.ownBlock ∨ v'.ownBlock = some w.heap.size) → K (a.put o.dst v') w') :
    if Region.wanted o (yielded ops a.tmps) = true then o.wp P a w K Q else K (a.put o.dst undef) w := by
  have hw : Region.wanted o (yielded ops a.tmps) = true := by simp [Region.wanted, hgd]
  rw [if_pos hw]
  have hnews : ∀ j u, [y][j]? = some u → w.cell? ((⟨g, 0, none⟩ : Addr).add j) = some u := by
    intro j u hj
    match j, hj with
    | 0, hj => simp at hj; subst hj; exact hc
  have h1' : ∀ u ∈ [y], u.oneCell' = true := by simp [h1]
  obtain ⟨v', w', hr, h2, h3, h4⟩ := run_append_own (P := P) w base t o.type e i z 1 bytes ht hi hz hsize hby hzs (by decide) v n xs hown ⟨g, 0, none⟩ 1 1 [y] rfl hnews h1' h63 hbytes hbase
  have h5 := append_block (P := P) w base t o.type e i z 1 bytes ht hi hz hsize hby v n xs hown ⟨g, 0, none⟩ 1 1 [y] rfl hnews h1' (by decide) h63 hbytes hr
  unfold Oper.wp execOp
  simp only [ho, resolve, invoke, builtin, Sem.run_bind, Sem.run_pure, Result.andThen_ok, List.map_toArray, List.map_cons, List.map_nil, hs, hx, hr]
  exact h v' w' h2 h3 h5
end
/-- Two slices that share no own block. -/
def Diff (v u : Value) : Prop := ∀ g, v.ownBlock = some g → u.ownBlock ≠ some g
theorem Diff.symm {v u : Value} (h : Diff v u) : Diff u v := fun g hg e => h g e hg
/-- v has become v1: the same block or a new one. -/
theorem Diff.left {v v1 u : Value} {N H : Nat} (h : Diff v u) (hb : v1.ownBlock = v.ownBlock ∨ v1.ownBlock = some H) (hu : ∀ g, u.ownBlock = some g → g < N) (hN : N ≤ H) : Diff v1 u := by
  intro g hg e
  rcases hb with k | k
  · exact h g (k ▸ hg) e
  · rw [k] at hg
    cases hg
    have := hu _ e
    omega
theorem Diff.ne {v u : Value} (h : Diff v u) : v.ownBlock = none ∨ v.ownBlock ≠ u.ownBlock := by
  cases hv : v.ownBlock with
  | none => exact Or.inl rfl
  | some g => exact Or.inr fun e => h g hv e.symm
theorem open_nsl {H : Type} {enc : TypeId × Value → H} {w : World} {base fuel : Nat} {sp : Nat → Bool} {held : Bool} {v : Value} {x : DataW H × List MemPlace} (h : DataW.trod enc Try.prog w base sp held fuel 55 [v] = some x) : ∃ zs, NSl w v zs := by
  have hc3 : Try.prog.cellsOf 3 = 1 := by kernel_rfl
  rcases Go.Deep.open_slice Try.underlying55 h with ⟨hv, _⟩ | ⟨a, len, cap, m, n, D, Pl, hv, _, hl, hm, hmm, _, hi⟩
  · cases hv
    exact ⟨[], none, 0, rfl, by simp, by simp, fun i q hq => by simp at hq, fun k => absurd rfl k⟩
  · cases hv
    have hlm : len ≤ m := by rw [hmm]; split <;> omega
    obtain ⟨zs, hzs, hp⟩ := list_of (P := fun i (z : Int) => w.cell? (a.add (i * 1)) = some (.int .i64 z) ∧ -9223372036854775808 ≤ z ∧ z ≤ 9223372036854775807) len (fun i hlt => by
      obtain ⟨cs, hcs, ht⟩ := hi i (by omega)
      rw [hc3] at hcs
      obtain ⟨_, hlen, hat⟩ := World.cells?_some hcs
      obtain ⟨n0, k0, _, r0⟩ := DataW.trod_int Try.underlying3 ht
      subst k0
      exact ⟨n0, hat 0 (by decide), wf_range r0⟩)
    subst hzs
    refine ⟨zs, some a, cap, rfl, hl, by unfold maxLen at hm; omega, fun i q hq => (hp i q hq).2, fun hne => ?_⟩
    cases hps : zs with
    | nil => exact absurd hps hne
    | cons q0 r =>
      have h00 := (hp 0 q0 (by rw [hps]; rfl)).1
      have hz := spot_none h00
      obtain ⟨b, off, spot⟩ := a
      have hz' : spot = none := by simpa [Addr.add] using hz
      subst hz'
      rw [← hps]
      refine ⟨b, off, rfl, ?_, fun i q hq => ?_⟩
      · rcases Nat.lt_or_ge b w.heap.size with g | g
        · exact g
        · simp [World.cell?, Addr.add, Array.getElem?_eq_none g] at h00
      · have h1 := (hp i q hq).1
        have e : Addr.add ⟨b, off, none⟩ (i * 1) = ⟨b, off + i, none⟩ := by
          unfold Addr.add
          split
          · rename_i hz2
            rw [show i = 0 by omega]
            rfl
          · rw [Nat.mul_one]
        rw [e] at h1
        exact h1
end Go.Proofs.Ytdebkmioaglmaaa
