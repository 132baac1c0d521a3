/-
  Geometries as plain data: a kind, a type of coordinates, numbers, and parts; how they lie in memory. No condition.
-/
import Derived.Test.YtpipehenfcbjbaaGreatFs
import Derived.Test.YtpipehenfcbjbaaGreatRows
import Derived.Lib.SmallJoins
import Derived.Deep.Slices
set_option linter.unusedVariables false
namespace Go.Proofs.YtpipehenfcbjbaaGreat
open Go.ChangeShapes Go.WideShapes Go.ChangeAt Go.RowKit
inductive Gm where
  | mk (kind dim : Int) (nums : List Nat) (kids : List Gm)
def Gm.kind : Gm → Int
  | .mk k _ _ _ => k
def Gm.dim : Gm → Int
  | .mk _ d _ _ => d
def Gm.nums : Gm → List Nat
  | .mk _ _ n _ => n
def Gm.kids : Gm → List Gm
  | .mk _ _ _ k => k
mutual
def Gm.size : Gm → Nat
  | .mk _ _ ns ks => ns.length + Gm.sizes ks + 1
def Gm.sizes : List Gm → Nat
  | [] => 0
  | g :: r => g.size + Gm.sizes r
end
mutual
def Gm.Ok : Gm → Prop
  | .mk k d ns ks => (-9223372036854775808 ≤ k ∧ k ≤ 9223372036854775807) ∧ (-9223372036854775808 ≤ d ∧ d ≤ 9223372036854775807) ∧ (∀ x ∈ ns, x < 18446744073709551616) ∧ Gm.Oks ks
def Gm.Oks : List Gm → Prop
  | [] => True
  | g :: r => g.Ok ∧ Gm.Oks r
end
theorem Gm.Oks.mem : ∀ {l : List Gm} {g : Gm}, Gm.Oks l → g ∈ l → g.Ok
  | [], g, _, h => by simp at h
  | a :: r, g, h, hm => by
    simp only [Gm.Oks] at h
    rcases List.mem_cons.1 hm with rfl | k
    · exact h.1
    · exact h.2.mem k
theorem Gm.Oks.of_mem : ∀ {l : List Gm}, (∀ g ∈ l, g.Ok) → Gm.Oks l
  | [], _ => by simp [Gm.Oks]
  | a :: r, h => by
    simp only [Gm.Oks]
    exact ⟨h a (by simp), Gm.Oks.of_mem fun g hg => h g (by simp [hg])⟩
theorem Gm.size_mem : ∀ {l : List Gm} {g : Gm}, g ∈ l → g.size ≤ Gm.sizes l
  | [], g, h => by simp at h
  | a :: r, g, h => by
    simp only [Gm.sizes]
    rcases List.mem_cons.1 h with rfl | k
    · omega
    · have := Gm.size_mem k
      omega
theorem Gm.size_pos (g : Gm) : 0 < g.size := by
  cases g
  simp only [Gm.size]
  omega
theorem Gm.len_sizes : ∀ (l : List Gm), l.length ≤ Gm.sizes l
  | [] => by simp [Gm.sizes]
  | a :: r => by
    have := Gm.len_sizes r
    have := a.size_pos
    simp only [Gm.sizes, List.length_cons]
    omega
theorem Gm.size_eq (g : Gm) : g.size = g.nums.length + Gm.sizes g.kids + 1 := by
  cases g
  simp only [Gm.size, Gm.nums, Gm.kids]

/-- A row of geometries: its cells, the numbers and the parts of each. -/
inductive GmSl (F : Nat → Prop) (w : World) : Value → List Gm → Prop
  | intro (p : Option Addr) (cap : Nat) (ks : List Gm) (nv kv : Nat → Value) (hl : ks.length ≤ cap) (hc : cap ≤ 9223372036854775807)
      (h0 : ks ≠ [] → ∃ b off, p = some ⟨b, off, none⟩ ∧ b < w.heap.size ∧ F b ∧ ∀ (i : Nat) (g : Gm), ks[i]? = some g →
        w.cell? ⟨b, off + i * 4, none⟩ = some (.int .i64 g.kind) ∧ w.cell? ⟨b, off + i * 4 + 1, none⟩ = some (.int .i64 g.dim) ∧ w.cell? ⟨b, off + i * 4 + 2, none⟩ = some (nv i) ∧ w.cell? ⟨b, off + i * 4 + 3, none⟩ = some (kv i))
      (h1 : ∀ (i : Nat) (g : Gm), ks[i]? = some g → FlSl F w (nv i) g.nums)
      (h2 : ∀ (i : Nat) (g : Gm), ks[i]? = some g → GmSl F w (kv i) g.kids) : GmSl F w (.slice p ks.length cap) ks
/-- A geometry's four cells. -/
def GmIs (F : Nat → Prop) (w : World) (a b c d : Value) (g : Gm) : Prop := a = .int .i64 g.kind ∧ b = .int .i64 g.dim ∧ FlSl F w c g.nums ∧ GmSl F w d g.kids
theorem GmSl.keep {F G : Nat → Prop} {w w' : World} {v : Value} {ks : List Gm} (h : GmSl F w v ks) (hs : w.heap.size ≤ w'.heap.size) (hk : ∀ b, F b → b < w.heap.size → w'.heap[b]? = w.heap[b]?) (hG : ∀ b, b < w.heap.size → F b → G b) : GmSl G w' v ks := by
  have fl : ∀ {v : Value} {xs : List Nat}, FlSl F w v xs → FlSl G w' v xs := fun {v xs} h => by
    obtain ⟨p, cap, hv, hl, hc, h⟩ := h
    refine ⟨p, cap, hv, hl, hc, fun hn => ?_⟩
    obtain ⟨b, off, hp, hlt, hF, hq⟩ := h hn
    exact ⟨b, off, hp, by omega, hG b hlt hF, fun i x hi => (World.cell?_of_block (w := w) (hk b hF hlt)).trans (hq i x hi)⟩
  induction h with
  | intro p cap ks nv kv hl hc h0 h1 h2 ih =>
    refine .intro p cap ks nv kv hl hc (fun hn => ?_) (fun i g hg => fl (h1 i g hg)) (fun i g hg => ih i g hg)
    obtain ⟨b, off, hp, hlt, hF, hq⟩ := h0 hn
    refine ⟨b, off, hp, by omega, hG b hlt hF, fun i g hg => ?_⟩
    obtain ⟨q0, q1, q2, q3⟩ := hq i g hg
    exact ⟨(World.cell?_of_block (w := w) (hk b hF hlt)).trans q0, (World.cell?_of_block (w := w) (hk b hF hlt)).trans q1, (World.cell?_of_block (w := w) (hk b hF hlt)).trans q2, (World.cell?_of_block (w := w) (hk b hF hlt)).trans q3⟩
theorem GmSl.bel {F : Nat → Prop} {w w' : World} {v : Value} {ks : List Gm} (h : GmSl F w v ks) (hb : Bel w w') : GmSl F w' v ks := h.keep hb.size (fun b _ hl => hb.block b hl) fun _ _ h => h
theorem GmSl.mono {F G : Nat → Prop} {w : World} {v : Value} {ks : List Gm} (h : GmSl F w v ks) (hFG : ∀ b, b < w.heap.size → F b → G b) : GmSl G w v ks := h.keep (Nat.le_refl _) (fun _ _ _ => rfl) hFG
theorem GmSl.isSlice {F : Nat → Prop} {w : World} {v : Value} {ks : List Gm} (h : GmSl F w v ks) : ∃ p c, v = .slice p ks.length c ∧ ks.length ≤ c ∧ c ≤ 9223372036854775807 := by
  cases h with
  | intro p cap _ nv kv hl hc h0 h1 h2 => exact ⟨p, cap, rfl, hl, hc⟩
theorem GmSl.nil (F : Nat → Prop) (w : World) : GmSl F w (.slice none 0 0) [] := .intro none 0 [] (fun _ => .bool false) (fun _ => .bool false) (by simp) (by simp) (fun h => absurd rfl h) (fun i g h => by simp at h) (fun i g h => by simp at h)
/-- One part, read. -/
theorem GmSl.at {F : Nat → Prop} {w : World} {p : Option Addr} {n c : Nat} {ks : List Gm} (h : GmSl F w (.slice p n c) ks) {i : Nat} {g : Gm} (hg : ks[i]? = some g) : ∃ b off pn nn cn pk nk ck, p = some ⟨b, off, none⟩ ∧ b < w.heap.size ∧ F b ∧
      w.cell? ⟨b, off + i * 4, none⟩ = some (.int .i64 g.kind) ∧ w.cell? ⟨b, off + i * 4 + 1, none⟩ = some (.int .i64 g.dim) ∧ w.cell? ⟨b, off + i * 4 + 2, none⟩ = some (.slice pn nn cn) ∧ w.cell? ⟨b, off + i * 4 + 3, none⟩ = some (.slice pk nk ck) ∧
      FlSl F w (.slice pn nn cn) g.nums ∧ GmSl F w (.slice pk nk ck) g.kids := by
  cases h with
  | intro _ _ _ nv kv hl hc h0 h1 h2 =>
    obtain ⟨b, off, hp, hlt, hF, hq⟩ := h0 (by intro e; rw [e] at hg; simp at hg)
    obtain ⟨q0, q1, q2, q3⟩ := hq i g hg
    obtain ⟨pn, nn, cn, en⟩ := (h1 i g hg).isSlice
    obtain ⟨pk, ck, ek, _⟩ := (h2 i g hg).isSlice
    have f1 := h1 i g hg
    have f2 := h2 i g hg
    rw [en] at q2 f1
    rw [ek] at q3 f2
    exact ⟨b, off, pn, nn, cn, pk, _, ck, hp, hlt, hF, q0, q1, q2, q3, f1, f2⟩

/-- A cell that is there stays there. -/
theorem cell_kept {w w' : World} (hb : Bel w w') {p : Addr} {v : Value} (h : w.cell? p = some v) : w'.cell? p = some v := by
  exact (hb.cell (World.block_lt_of_cell? w p h)).trans h
theorem Bel.of_row {w0 w w' : World} {row : Option Nat} (h : Bel w0 w) (hg : w.grownBy w' row) (hn : ∀ g, row = some g → w0.heap.size ≤ g) : Bel w0 w' := Below.grown h hg (Below.size h) (fun k hk => hn k hk)
theorem cells_arr (w : World) (cs : Array Value) (t : TypeId) {n : Nat} (hn : n = w.heap.size) : ∀ j u, cs.toList[j]? = some u → (w.alloc (.cells cs t)).cell? ((⟨n, 0, none⟩ : Addr).add j) = some u := by
  subst hn
  intro j u hj
  rw [add_none, (Blk.new w cs t).rules.1]
  simpa using hj
theorem blk_arr {w : World} {b : Nat} {cs : Array Value} {t : TypeId} (h : Blk w b cs t) : ∀ j u, cs.toList[j]? = some u → w.cell? ((⟨b, 0, none⟩ : Addr).add j) = some u := by
  intro j u hj
  rw [add_none, h.rules.1]
  simpa using hj
theorem _root_.Go.World.grownBy.of_bel {a b : World} (h : Bel a b) (r : Option Nat) : a.grownBy b r := ⟨h.os, h.tape, h.output, h.size, fun i hi _ => h.block i hi⟩
theorem own_kept {w w' : World} {base size n : Nat} {e : TypeId} {p : Option Addr} {c : Nat} {xs : List Value} (h : w.ownsRow base e size (.slice p n c) n xs) (hb : Bel w w') : w'.ownsRow base e size (.slice p n c) n xs :=
  h.kept (World.grownBy.of_bel hb none) (by simp [Value.ownBlock]; cases p <;> simp)
/-! ### Arguments, opened -/
theorem spot_none {w : World} {a : Addr} {v : Value} (h : w.cell? a = some v) : a.spot = none := by
  unfold World.cell? at h
  split at h
  · split at h
    · cases h
    · rename_i k
      cases hs : a.spot <;> simp_all
  · cases h
theorem list_of {α : Type} {P : Nat → α → Prop} : ∀ (n : Nat), (∀ i, i < n → ∃ a, P i a) → ∃ l : List α, l.length = n ∧ ∀ (i : Nat) (a : α), l[i]? = some a → P i a
  | 0, _ => ⟨[], rfl, fun i a h => by simp at h⟩
  | n + 1, h => by
    obtain ⟨l, hl, hp⟩ := list_of n (fun i hi => h i (by omega))
    obtain ⟨a, ha⟩ := h n (by omega)
    refine ⟨l ++ [a], by simp [hl], fun i b hb => ?_⟩
    rcases Nat.lt_or_ge i n with k | k
    · rw [List.getElem?_append_left (by omega)] at hb
      exact hp i b hb
    · rw [List.getElem?_append_right (by omega)] at hb
      obtain ⟨hlt, he⟩ := List.getElem?_eq_some_iff.1 hb
      simp at hlt he
      have : i = n := by omega
      subst this
      rw [← he]
      exact ha
theorem wf_range {n : Int} (h : (Lit.int .i64 n).wf = true) : -9223372036854775808 ≤ n ∧ n ≤ 9223372036854775807 := by
  simp only [Lit.wf, Bool.and_eq_true, decide_eq_true_eq] at h
  have e1 : IntKind.i64.min = -9223372036854775808 := by decide
  have e2 : IntKind.i64.max = 9223372036854775807 := by decide
  omega
theorem wf_float {n : Nat} (h : (Lit.float .f64 n).wf = true) : n < 18446744073709551616 := by
  simp only [Lit.wf, decide_eq_true_eq] at h
  omega
theorem cGeom : Tryz.prog.cellsOf 25 = 4 := by kernel_rfl
theorem cFloat : Tryz.prog.cellsOf 29 = 1 := by kernel_rfl
theorem cInt : Tryz.prog.cellsOf 3 = 1 := by kernel_rfl
theorem cFloats : Tryz.prog.cellsOf 22 = 1 := by kernel_rfl
theorem cGeoms : Tryz.prog.cellsOf 23 = 1 := by kernel_rfl
theorem bulkAll_mem {H : Type} : ∀ {l : List (DataW H)} {d : DataW H}, d ∈ l → Rows.uptoBulk d ≤ Rows.uptoBulkAll l
  | [], d, h => by simp at h
  | a :: r, d, h => by
    simp only [Rows.uptoBulkAll]
    rcases List.mem_cons.1 h with rfl | k
    · omega
    · have := bulkAll_mem k
      omega
theorem bulk_pos {H : Type} (d : DataW H) : 0 < Rows.uptoBulk d := by
  cases d with
  | lit l => cases l <;> simp [Rows.uptoBulk]
  | _ => simp [Rows.uptoBulk]
theorem bulk_len {H : Type} : ∀ (l : List (DataW H)), l.length ≤ Rows.uptoBulkAll l
  | [] => by simp [Rows.uptoBulkAll]
  | a :: r => by
    have := bulk_len r
    have := bulk_pos a
    simp only [Rows.uptoBulkAll, List.length_cons]
    omega
theorem bulk_sum {H : Type} : ∀ (l : List Gm) (ds : List (DataW H)), l.length = ds.length → (∀ (i : Nat) (g : Gm) (d : DataW H), l[i]? = some g → ds[i]? = some d → g.size ≤ Rows.uptoBulk d) → Gm.sizes l ≤ Rows.uptoBulkAll ds
  | [], _, _, _ => by simp [Gm.sizes]
  | a :: r, [], h, _ => by simp at h
  | a :: r, d :: ds, h, hp => by
    have h0 := hp 0 a d rfl rfl
    have h1 := bulk_sum r ds (by simpa using h) (fun i g e hg he => hp (i + 1) g e (by simpa using hg) (by simpa using he))
    simp only [Gm.sizes, Rows.uptoBulkAll]
    omega
/-- A slice of floats, opened. -/
theorem open_floats {H : Type} {enc : TypeId × Value → H} {w : World} {base fuel : Nat} {sp : Nat → Bool} {held : Bool} {v : Value} {x : DataW H × List MemPlace} (h : DataW.trod enc Tryz.prog w base sp held fuel 22 [v] = some x) :
    ∃ xs, FlSl (fun _ => True) w v xs ∧ (∀ x ∈ xs, x < 18446744073709551616) ∧ xs.length < Rows.uptoBulk x.1 := by
  rcases Go.Deep.open_slice1 Tryz.underlying22 cFloat h with ⟨hv, hx⟩ | ⟨a, len, cap, m, n, V, D, Pl, hv, _, hl, hm, hmm, hx, hi⟩
  · cases hv
    refine ⟨[], FlSl.nil _ _, fun q hq => by simp at hq, ?_⟩
    rw [hx]
    exact bulk_pos _
  · cases hv
    have hlm : len ≤ m := by rw [hmm]; split <;> omega
    obtain ⟨xs, hxs, hp⟩ := list_of (P := fun i (q : Nat) => w.cell? (a.add i) = some (.float .f64 q) ∧ q < 18446744073709551616) len (fun i hlt => by
      obtain ⟨h1, h2⟩ := hi i (by omega)
      obtain ⟨b, hb, hw⟩ := trod_float Tryz.underlying29 h2
      simp at hb
      rw [hb] at h1
      exact ⟨b, h1, wf_float hw⟩)
    subst hxs
    refine ⟨xs, ⟨some a, cap, rfl, hl, by unfold maxLen at hm; omega, fun hne => ?_⟩, fun q hq => ?_, ?_⟩
    · cases hq : xs with
      | nil => exact absurd hq hne
      | cons q0 r =>
        have hc0 := (hp 0 q0 (by rw [hq]; rfl)).1
        have hz := spot_none hc0
        obtain ⟨b, off, spot⟩ := a
        have hz' : spot = none := by simpa [Addr.add] using hz
        subst hz'
        rw [← hq]
        refine ⟨b, off, rfl, ?_, trivial, fun i q hq => ?_⟩
        · rcases Nat.lt_or_ge b w.heap.size with g | g
          · exact g
          · simp [World.cell?, Addr.add, Array.getElem?_eq_none g] at hc0
        · have h1 := (hp i q hq).1
          rw [add_off] at h1
          exact h1
    · obtain ⟨i, hi'⟩ := List.mem_iff_getElem?.1 hq
      exact (hp i q hi').2
    · rw [hx]
      simp only [Rows.uptoBulk]
      have := bulk_len ((List.range xs.length).map D)
      simp at this
      omega
set_option maxRecDepth 100000 in
/-- A slice of geometries, opened. -/
theorem open_geoms {H : Type} {enc : TypeId × Value → H} {w : World} {base : Nat} {sp : Nat → Bool} {held : Bool} : ∀ (B fuel : Nat) (v : Value) (x : DataW H × List MemPlace), Rows.uptoBulk x.1 ≤ B → DataW.trod enc Tryz.prog w base sp held fuel 23 [v] = some x →
    ∃ ks, GmSl (fun _ => True) w v ks ∧ Gm.Oks ks ∧ Gm.sizes ks < Rows.uptoBulk x.1
  | 0, _, _, x, hB, _ => absurd hB (by have := bulk_pos x.1; omega)
  | B + 1, fuel, v, x, hB, h => by
    rcases Go.Deep.open_slice Tryz.underlying23 h with ⟨hv, hx⟩ | ⟨a, len, cap, m, n, D, Pl, hv, _, hl, hm, hmm, hx, hi⟩
    · cases hv
      refine ⟨[], GmSl.nil _ _, by simp [Gm.Oks], ?_⟩
      simp only [Gm.sizes]
      exact bulk_pos _
    · cases hv
      have hlm : len ≤ m := by rw [hmm]; split <;> omega
      have hbulk : Rows.uptoBulk x.1 = Rows.uptoBulkAll ((List.range len).map D) + Rows.uptoBulkAll ((List.range (m - len)).map fun j => D (len + j)) + 1 := by rw [hx]; simp only [Rows.uptoBulk]
      obtain ⟨l, hl1, hp⟩ := list_of (P := fun i (z : Gm × Value × Value) => (w.cell? (a.add (i * 4)) = some (.int .i64 z.1.kind) ∧ w.cell? ((a.add (i * 4)).add 1) = some (.int .i64 z.1.dim) ∧ w.cell? ((a.add (i * 4)).add 2) = some z.2.1 ∧ w.cell? ((a.add (i * 4)).add 3) = some z.2.2) ∧ FlSl (fun _ => True) w z.2.1 z.1.nums ∧ GmSl (fun _ => True) w z.2.2 z.1.kids ∧ z.1.Ok ∧ z.1.size ≤ Rows.uptoBulk (D i)) len (fun i hlt => by
        obtain ⟨cs, hcs, ht⟩ := hi i (by omega)
        rw [cGeom] at hcs
        obtain ⟨_, hlen, hat⟩ := World.cells?_some hcs
        obtain ⟨k0, k1, k2, k3, rfl⟩ : ∃ k0 k1 k2 k3, cs = [k0, k1, k2, k3] := by
          match cs, hlen with
          | [k0, k1, k2, k3], _ => exact ⟨k0, k1, k2, k3, rfl⟩
        obtain ⟨y0, y1, y2, y3, n', hxx, _, t0, t1, t2, t3⟩ := Go.Joins.trod_struct4 Tryz.underlying25 ht
        simp [cInt, cFloats, cGeoms] at t0 t1 t2 t3
        have hD : D i = .agg [y0.1, y1.1, y2.1, y3.1] := congrArg Prod.fst hxx
        obtain ⟨n0, g0, _, r0⟩ := DataW.trod_int Tryz.underlying3 t0
        obtain ⟨n1, g1, _, r1⟩ := DataW.trod_int Tryz.underlying3 t1
        simp at g0 g1
        subst g0 g1
        obtain ⟨xs, f1, f2, f3⟩ := open_floats t2
        have hmem : Rows.uptoBulk (D i) ≤ Rows.uptoBulkAll ((List.range len).map D) := bulkAll_mem (List.mem_map.2 ⟨i, List.mem_range.2 hlt, rfl⟩)
        have hagg : Rows.uptoBulk (D i) = Rows.uptoBulk y0.1 + (Rows.uptoBulk y1.1 + (Rows.uptoBulk y2.1 + (Rows.uptoBulk y3.1 + 0))) + 1 := by rw [hD]; simp only [Rows.uptoBulk, Rows.uptoBulkAll]
        have := bulk_pos y0.1
        obtain ⟨ks, q1, q2, q3⟩ := open_geoms B _ k3 y3 (by omega) t3
        refine ⟨⟨.mk n0 n1 xs ks, k2, k3⟩, ⟨hat 0 (by decide), hat 1 (by decide), hat 2 (by decide), hat 3 (by decide)⟩, f1, q1, ?_, ?_⟩
        · simp only [Gm.Ok]
          exact ⟨wf_range r0, wf_range r1, f2, q2⟩
        · simp only [Gm.size]
          omega)
      subst hl1
      have hks : ∀ (i : Nat) (g : Gm), (l.map (·.1))[i]? = some g → ∃ z, l[i]? = some z ∧ z.1 = g := fun i g hg => by
        rw [List.getElem?_map] at hg
        obtain ⟨z, hz, he⟩ := Option.map_eq_some_iff.1 hg
        exact ⟨z, hz, he⟩
      have hle : (l.map (·.1)).length = l.length := by simp
      refine ⟨l.map (·.1), ?_, Gm.Oks.of_mem fun g hg => ?_, ?_⟩
      · rw [← hle]
        refine .intro (some a) cap (l.map (·.1)) (fun i => (l[i]?.map (·.2.1)).getD (.bool false)) (fun i => (l[i]?.map (·.2.2)).getD (.bool false)) (by rw [hle]; exact hl) (by unfold maxLen at hm; omega) (fun hne => ?_) (fun i g hg => ?_) (fun i g hg => ?_)
        · cases hq : l with
          | nil => rw [hq] at hne; exact absurd rfl hne
          | cons q0 r =>
            have hc0 := (hp 0 q0 (by rw [hq]; rfl)).1.1
            have hz := spot_none hc0
            obtain ⟨b, off, spot⟩ := a
            have hz' : spot = none := by simpa [Addr.add] using hz
            subst hz'
            rw [← hq]
            refine ⟨b, off, rfl, ?_, trivial, fun i g hg => ?_⟩
            · rcases Nat.lt_or_ge b w.heap.size with g | g
              · exact g
              · simp [World.cell?, Addr.add, Array.getElem?_eq_none g] at hc0
            · obtain ⟨z, hz, rfl⟩ := hks i g hg
              have h1 := (hp i z hz).1
              simp only [add_off] at h1
              rw [hz]
              exact h1
        · obtain ⟨z, hz, rfl⟩ := hks i g hg
          rw [hz]
          exact (hp i z hz).2.1
        · obtain ⟨z, hz, rfl⟩ := hks i g hg
          rw [hz]
          exact (hp i z hz).2.2.1
      · obtain ⟨i, hi'⟩ := List.mem_iff_getElem?.1 hg
        obtain ⟨z, hz, rfl⟩ := hks i g hi'
        exact (hp i z hz).2.2.2.1
      · have := bulk_sum (l.map (·.1)) ((List.range l.length).map D) (by simp) (fun i g d hg hd => by
          obtain ⟨z, hz, rfl⟩ := hks i g hg
          rw [List.getElem?_map] at hd
          obtain ⟨j, hj, rfl⟩ := Option.map_eq_some_iff.1 hd
          obtain ⟨hj1, hj2⟩ := List.getElem?_eq_some_iff.1 hj
          simp at hj2
          subst hj2
          exact (hp i z hz).2.2.2.2)
        omega
end Go.Proofs.YtpipehenfcbjbaaGreat
