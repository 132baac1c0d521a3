/-
  told: what a tree answers to a question. No panic; what stood in memory has not turned.
-/
import Derived.Test.YtdfamnlmhikolaaDoorTo
set_option linter.unusedVariables false
namespace Go.Proofs.YtdfamnlmhikolaaDoor
open Go.ChangeShapes Go.WideShapes Go.ChangeAt Go.RowKit
theorem asW_nil (w : World) : (Instr.typeAssert .nilIface 57 59 true).run Tryd.prog w = .ok (.tuple #[.agg #[.nilIface], .bool false]) w := by kernel_rfl
theorem asW_stop (v : Value) (w : World) : (Instr.typeAssert (.iface 128 v) 57 59 true).run Tryd.prog w = .ok (.tuple #[.agg #[.nilIface], .bool false]) w := by kernel_rfl
theorem asW_own (v : Value) (w : World) : (Instr.typeAssert (.iface 61 v) 57 59 true).run Tryd.prog w = .ok (.tuple #[.agg #[.nilIface], .bool false]) w := by kernel_rfl
theorem asW_wrapped (v : Value) (w : World) : (Instr.typeAssert (.iface 59 v) 57 59 true).run Tryd.prog w = .ok (.tuple #[v, .bool true]) w := by kernel_rfl
theorem asO_nil (w : World) : (Instr.typeAssert .nilIface 57 61 true).run Tryd.prog w = .ok (.tuple #[.agg #[], .bool false]) w := by kernel_rfl
theorem asO_stop (v : Value) (w : World) : (Instr.typeAssert (.iface 128 v) 57 61 true).run Tryd.prog w = .ok (.tuple #[.agg #[], .bool false]) w := by kernel_rfl
theorem asO_own (v : Value) (w : World) : (Instr.typeAssert (.iface 61 v) 57 61 true).run Tryd.prog w = .ok (.tuple #[v, .bool true]) w := by kernel_rfl
def Ek.isOwn : Ek → Bool
  | .own => true
  | .wown => true
  | _ => false
/-- A slice of integers, read: its cells lie in a block that F lets. -/
def IntSl (F : Nat → Prop) (w : World) (v : Value) (xs : List Int) : Prop :=
  ∃ p cap, v = .slice p xs.length cap ∧ xs.length ≤ cap ∧ cap ≤ 9223372036854775807 ∧
    (xs ≠ [] → ∃ b off, p = some ⟨b, off, none⟩ ∧ b < w.heap.size ∧ F b ∧ ∀ (i : Nat) (x : Int), xs[i]? = some x → w.cell? ⟨b, off + i, none⟩ = some (.int .i64 x))
theorem IntSl.bel {F : Nat → Prop} {w w' : World} {v : Value} {xs : List Int} (h : IntSl F w v xs) (hb : Bel w w') : IntSl F w' v xs := by
  obtain ⟨p, cap, hv, hl, hc, h⟩ := h
  refine ⟨p, cap, hv, hl, hc, fun hn => ?_⟩
  obtain ⟨b, off, hp, hlt, hF, hq⟩ := h hn
  exact ⟨b, off, hp, Nat.lt_of_lt_of_le hlt hb.size, hF, fun i x hi => (hb.cell hlt).trans (hq i x hi)⟩
theorem IntSl.mono {F G : Nat → Prop} {w : World} {v : Value} {xs : List Int} (h : IntSl F w v xs) (hFG : ∀ b, b < w.heap.size → F b → G b) : IntSl G w v xs := by
  obtain ⟨p, cap, hv, hl, hc, h⟩ := h
  refine ⟨p, cap, hv, hl, hc, fun hn => ?_⟩
  obtain ⟨b, off, hp, hlt, hF, hq⟩ := h hn
  exact ⟨b, off, hp, hlt, hFG b hlt hF, hq⟩
theorem IntSl.keep {F : Nat → Prop} {w w' : World} {v : Value} {xs : List Int} (h : IntSl F w v xs) (hs : w.heap.size ≤ w'.heap.size) (hk : ∀ b, F b → b < w.heap.size → w'.heap[b]? = w.heap[b]?) : IntSl F w' v xs := by
  obtain ⟨p, cap, hv, hl, hc, h⟩ := h
  refine ⟨p, cap, hv, hl, hc, fun hn => ?_⟩
  obtain ⟨b, off, hp, hlt, hF, hq⟩ := h hn
  exact ⟨b, off, hp, by omega, hF, fun i x hi => (World.cell?_of_block (w := w) (hk b hF hlt)).trans (hq i x hi)⟩
theorem IntSl.of_owns {w : World} {base n : Nat} {v : Value} {xs : List Int} (h : w.ownsRow base 3 1 v n (xs.map fun x => .int .i64 x)) (hn : xs.length = n) : IntSl (fun b => base ≤ b) w v xs := by
  subst hn
  have hc := fun (g : Nat) (hg : v.ownBlock = some g) => h.cells hg
  rcases h.2 with ⟨rfl, h0⟩ | ⟨g, cap, cur, rfl, hb, hg, h1, h2, _⟩
  · exact ⟨none, 0, by rw [h0], by omega, by omega, fun hn => absurd (List.length_eq_zero_iff.1 h0) hn⟩
  · refine ⟨_, cap, rfl, h1, by unfold maxLen at h2; omega, fun _ => ⟨g, 0, rfl, (Array.getElem?_eq_some_iff.1 hg).1, hb, fun i q hq => ?_⟩⟩
    have c1 := hc g rfl i (.int .i64 q) (by rw [List.getElem?_map, hq]; rfl)
    rw [add_none] at c1
    rw [Nat.zero_add]
    exact c1
/-- An answer. -/
structure Told where
  ids : List Int
  err : Bool
  own : Bool
  found : Bool
  id : Int
  bx : Bx
  count : Int
def IsTold (t : Told) (w : World) (e : Ending) (w' : World) : Prop :=
  ∃ v c0 c1 c2 c3, e = .returned (.agg #[v, .bool t.err, .bool t.own, .bool t.found, .int .i64 t.id, .float .f64 c0, .float .f64 c1, .float .f64 c2, .float .f64 c3, .int .i64 t.count]) ∧ IntSl (fun b => w.heap.size ≤ b) w' v t.ids ∧ BxB c0 c1 c2 c3 t.bx ∧ Bel w w'
def zeroBx : Bx := ⟨0, 0, 0, 0⟩
theorem zeroBx_is : BxB 0 0 0 0 zeroBx := ⟨Is.zero, Is.zero, Is.zero, Is.zero⟩
def ofRun (r : List Int × Ek) : Told := ⟨r.1, r.2.isErr, r.2.isOwn, false, 0, zeroBx, 0⟩
/-- What holds at the start of a search of told's. -/
theorem told_inv {a : Addr} {w0 w w1 : World} {acs : Array Value} (hb : Below w0.heap.size w0 w) (hg : w0.cell? ⟨0, 0, none⟩ = some (.iface 128 (.pointer (some a))))
    (h : Bel (((w.alloc (.cells acs 34)).alloc (.cells #[.slice none 0 0, .bool false, .bool false, .bool false, .int .i64 0, .float .f64 0, .float .f64 0, .float .f64 0, .float .f64 0, .int .i64 0] 40)).alloc (.cells #[.slice none 0 0, .bool false, .bool false, .bool false, .int .i64 0, .float .f64 0, .float .f64 0, .float .f64 0, .float .f64 0, .int .i64 0] 40)) w1) :
    TInv a (w.heap.size + 1 + 1) w.heap.size acs (fun b => b < w.heap.size ∨ b = w.heap.size + 1) [] w1 := by
  have hg0 := World.block_lt_of_cell? w0 _ hg
  have hsz := hb.size
  simp only at hg0
  refine ⟨Blk.bel (((Blk.new w _ _).alloc _).alloc _) h, (by show ¬ (_ ∨ _); omega), (by show ¬ (_ ∨ _); omega), by omega, by omega, ⟨.slice none 0 0, Blk.bel (Blk.new' _ _ _ (by simp)) h, World.ownsRow_nil _ _ _ _, fun g hg => by simp [Value.ownBlock] at hg⟩, ?_⟩
  have hbw : Bel w (((w.alloc (.cells acs 34)).alloc (.cells #[.slice none 0 0, .bool false, .bool false, .bool false, .int .i64 0, .float .f64 0, .float .f64 0, .float .f64 0, .float .f64 0, .int .i64 0] 40)).alloc (.cells #[.slice none 0 0, .bool false, .bool false, .bool false, .int .i64 0, .float .f64 0, .float .f64 0, .float .f64 0, .float .f64 0, .int .i64 0] 40)) := by (repeat (first | with_reducible assumption | with_reducible exact Bel.refl _ | with_reducible apply Bel.alloc | with_reducible apply Bel.drew | with_reducible apply Bel.drewN | ((with_reducible apply Bel.setCellR); (simp <;> omega)) | with_reducible refine Bel.behind (by with_reducible assumption) ?_))
  exact cell_kept (hbw.trans h) ((hb.cell hg0).trans hg)
theorem IntSl.set {F : Nat → Prop} {w : World} {v : Value} {xs : List Int} (h : IntSl F w v xs) {g : Nat} (hg : ¬ F g) (o : Nat) (u : Value) : IntSl F (w.setCell ⟨g, o, none⟩ u) v xs :=
  h.keep (by simp) fun b hb _ => Below.heap_setCell _ _ _ _ (by show b ≠ g; exact fun e => hg (e ▸ hb))
/-- What a search leaves of told's own memory. -/
def Left (w : World) (acs : Array Value) (r : List Int × Ek) (v : Value) (w' : World) : Prop :=
  Blk w' (w.heap.size + 1 + 1) #[v, .bool false, .bool false, .bool false, .int .i64 0, .float .f64 0, .float .f64 0, .float .f64 0, .float .f64 0, .int .i64 0] 40 ∧
  Blk w' (w.heap.size + 1) #[.slice none 0 0, .bool false, .bool false, .bool false, .int .i64 0, .float .f64 0, .float .f64 0, .float .f64 0, .float .f64 0, .int .i64 0] 40 ∧
  Blk w' w.heap.size acs 34 ∧ IntSl (fun b => w.heap.size + 1 + 1 < b) w' v r.1 ∧ Bel w w'
theorem left_of {a : Addr} {w w1 w' : World} {acs : Array Value} {r : List Int × Ek} (hW : Bel w w1) (hR : Blk w1 (w.heap.size + 1) #[.slice none 0 0, .bool false, .bool false, .bool false, .int .i64 0, .float .f64 0, .float .f64 0, .float .f64 0, .float .f64 0, .int .i64 0] 40) (hi : TInv a (w.heap.size + 1 + 1) w.heap.size acs (fun b => b < w.heap.size ∨ b = w.heap.size + 1) r.1 w') (hk : KeepF (fun b => b < w.heap.size ∨ b = w.heap.size + 1) w1 w') : ∃ p n c, Left w acs r (.slice p n c) w' := by
  obtain ⟨v, h1, h2, _⟩ := hi.row
  obtain ⟨p, c, rfl⟩ := h2.isSlice
  exact ⟨p, _, c, h1, hk.blk (Or.inr rfl) hR, hi.blkA, (IntSl.of_owns h2 rfl).mono (fun b _ hb => by omega), bel_of_keep hW (hk.mono fun b _ hb => Or.inl hb)⟩
/-- The three blocks that told makes at its start. -/
def told0 (w : World) (acs : Array Value) : World := ((w.alloc (.cells acs 34)).alloc (.cells #[.slice none 0 0, .bool false, .bool false, .bool false, .int .i64 0, .float .f64 0, .float .f64 0, .float .f64 0, .float .f64 0, .int .i64 0] 40)).alloc (.cells #[.slice none 0 0, .bool false, .bool false, .bool false, .int .i64 0, .float .f64 0, .float .f64 0, .float .f64 0, .float .f64 0, .int .i64 0] 40)
theorem told0_bel (w : World) (acs : Array Value) : Bel w (told0 w acs) := by
  unfold told0
  (repeat (first | with_reducible assumption | with_reducible exact Bel.refl _ | with_reducible apply Bel.alloc | with_reducible apply Bel.drew | with_reducible apply Bel.drewN | ((with_reducible apply Bel.setCellR); (simp <;> omega)) | with_reducible refine Bel.behind (by with_reducible assumption) ?_))
theorem told0_res (w : World) (acs : Array Value) : Blk (told0 w acs) (w.heap.size + 1) #[.slice none 0 0, .bool false, .bool false, .bool false, .int .i64 0, .float .f64 0, .float .f64 0, .float .f64 0, .float .f64 0, .int .i64 0] 40 := by
  unfold told0
  exact (Blk.new' _ _ _ (by simp)).alloc _
/-- The contract that both searches meet here. -/
def Search (f : Nat) (w : World) (p x y z u : Nat) (acs : Array Value) (a : Addr) (r : List Int × Ek) : Prop :=
  ∀ w1, Bel (told0 w acs) w1 → Calls Tryd.prog f #[.pointer (some ⟨p, 0, none⟩), .agg #[.float .f64 x, .float .f64 y, .float .f64 z, .float .f64 u], .func (.func 19) #[] #[.pointer (some ⟨w.heap.size + 1 + 1, 0, none⟩), .pointer (some ⟨w.heap.size, 0, none⟩)]] w1
    fun e w' => ∃ p' n' c', e = .returned (r.2.val a) ∧ Left w acs r (.slice p' n' c') w'
theorem Search.run {f : Nat} {w : World} {p x y z u : Nat} {acs : Array Value} {a : Addr} {r : List Int × Ek} (h : Search f w p x y z u acs a r) (w1 : World) (hb : Bel (told0 w acs) w1) :
    Calls Tryd.prog f #[.pointer (some ⟨p, 0, none⟩), .agg #[.float .f64 x, .float .f64 y, .float .f64 z, .float .f64 u], .func (.func 19) #[] #[.pointer (some ⟨w.heap.size + 1 + 1, 0, none⟩), .pointer (some ⟨w.heap.size, 0, none⟩)]] w1
    fun e w' => ∃ p' n' c', e = .returned (r.2.val a) ∧ Left w acs r (.slice p' n' c') w' := h w1 hb
theorem range_search {a : Addr} {w0 w : World} {x y z u : Nat} {q : Bx} {p : Nat} {L : List It} {dov : Value} {stop how : Int} (hq : BxB x y z u q) (hb : Below w0.heap.size w0 w) (hg : w0.cell? ⟨0, 0, none⟩ = some (.iface 128 (.pointer (some a)))) (ht : TreeAt w0 p L) (hta : (treeOf L).all ≤ 800000) :
    Search 20 w p x y z u #[dov, .float .f64 x, .float .f64 y, .float .f64 z, .float .f64 u, .int .i64 stop, .int .i64 how] a (rg (tstep stop how) q (treeOf L) []) := by
  intro w1 hb1
  have hw := told0_bel w #[dov, .float .f64 x, .float .f64 y, .float .f64 z, .float .f64 u, .int .i64 stop, .int .i64 how]
  have hsz := hb.size
  have hinv := told_inv (acs := #[dov, .float .f64 x, .float .f64 y, .float .f64 z, .float .f64 u, .int .i64 stop, .int .i64 how]) hb hg hb1
  have hs1 : w.heap.size + 3 ≤ w1.heap.size := by
    have := hb1.size
    unfold told0 at this
    simp at this
    omega
  refine (rangeSearch_any (told1_cb a _ _ dov _ _ _ _ stop how) (fun b => b < w.heap.size ∨ b = w.heap.size + 1) w0 w1 x y z u q hq p L [] (fun b hb => Or.inl (by omega)) (fun b hb => by omega) (hb.trans (Below.mono (hw.trans hb1) hsz)) hg ht (by simp; omega) hinv).mono ?_
  rintro e w' ⟨rfl, hi, hk⟩
  obtain ⟨p', n', c', hl⟩ := left_of (hw.trans hb1) ((told0_res w _).bel hb1) hi hk
  exact ⟨p', n', c', rfl, hl⟩
theorem prio_search {a : Addr} {w0 w : World} {x y z u : Nat} {q : Bx} {p : Nat} {L : List It} {dov : Value} {stop how : Int} (hq : BxB x y z u q) (hqs : q.Small 1048576) (hb : Below w0.heap.size w0 w) (hg : w0.cell? ⟨0, 0, none⟩ = some (.iface 128 (.pointer (some a)))) (ht : TreeAt w0 p L) (hts : (treeOf L).Sm) (hta : (treeOf L).all ≤ 800000) :
    Search 21 w p x y z u #[dov, .float .f64 x, .float .f64 y, .float .f64 z, .float .f64 u, .int .i64 stop, .int .i64 how] a (pr (tstep stop how) q ((treeOf L).all + 1) (enqueue q (treeOf L) []) []) := by
  intro w1 hb1
  have hw := told0_bel w #[dov, .float .f64 x, .float .f64 y, .float .f64 z, .float .f64 u, .int .i64 stop, .int .i64 how]
  have hsz := hb.size
  have hinv := told_inv (acs := #[dov, .float .f64 x, .float .f64 y, .float .f64 z, .float .f64 u, .int .i64 stop, .int .i64 how]) hb hg hb1
  have hs1 : w.heap.size + 3 ≤ w1.heap.size := by
    have := hb1.size
    unfold told0 at this
    simp at this
    omega
  refine (prio_any (told1_cb a _ _ dov _ _ _ _ stop how) (fun b => b < w.heap.size ∨ b = w.heap.size + 1) w0 w1 x y z u q hq hqs p L [] (fun b hb => Or.inl (by omega)) (fun b hb => by omega) (hb.trans (Below.mono (hw.trans hb1) hsz)) hg ht hts hta (by simp; omega) hinv).mono ?_
  rintro e w' ⟨rfl, hi, hk⟩
  obtain ⟨p', n', c', hl⟩ := left_of (hw.trans hb1) ((told0_res w _).bel hb1) hi hk
  exact ⟨p', n', c', rfl, hl⟩
end Go.Proofs.YtdfamnlmhikolaaDoor
