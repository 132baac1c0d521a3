/-
  The matrix of nine signs: its functions, each with what it answers.
-/
import Derived.Test.YtdebkmioaglmaaaBase
import Derived.Deep.QuietTactic
import Derived.BigQuiet
import Derived.IntWalk
import Derived.Outline
namespace Go.Proofs.Ytdebkmioaglmaaa
open Go.ChangeShapes Go.WideShapes Go.ChangeAt Go.RowKit

/-- The matrix's cells. -/
def mc (m : List Int) : Array Value := (m.map (Value.int .u8)).toArray
/-- A block that holds a matrix. -/
def MB (w : World) (b : Nat) (m : List Int) : Prop := Blk w b (mc m) 141 ∧ m.length = 9
/-- Beyond new blocks, nothing but block b has turned. -/
def Upd (w w' : World) (b : Nat) : Prop := (∀ W : World, Bel W w → W.heap.size ≤ b → Bel W w') ∧ (∀ g cs t, g ≠ b → Blk w g cs t → Blk w' g cs t)
theorem Upd.trans {a b c : World} {g : Nat} (h : Upd a b g) (k : Upd b c g) : Upd a c g :=
  ⟨fun W hw hg => k.1 W (h.1 W hw hg) hg, fun j cs t hj hb => k.2 j cs t hj (h.2 j cs t hj hb)⟩
theorem Upd.bel {w w' : World} {g : Nat} (h : Bel w w') : Upd w w' g := ⟨fun _ hw _ => hw.trans h, fun _ _ _ _ hb => hb.bel h⟩
theorem Upd.set (w : World) (b o : Nat) (u : Value) : Upd w (w.setCell ⟨b, o, none⟩ u) b := ⟨fun _ hw hg => hw.setCell hg u, fun _ _ _ hj hb => hb.other hj u⟩
theorem nine {m : List Int} (h : m.length = 9) : ∃ m0 m1 m2 m3 m4 m5 m6 m7 m8, m = [m0, m1, m2, m3, m4, m5, m6, m7, m8] := by
  match m, h with
  | [m0, m1, m2, m3, m4, m5, m6, m7, m8], _ => exact ⟨_, _, _, _, _, _, _, _, _, rfl⟩
theorem MB.set {w : World} {b : Nat} {m : List Int} (h : MB w b m) (o : Nat) (e : Int) : MB (w.setCell ⟨b, o, none⟩ (.int .u8 e)) b (m.set o e) := by
  refine ⟨(h.1.set o (.int .u8 e)).cast ?_, by simp [h.2]⟩
  unfold mc
  simp [List.map_set]
theorem MB.bel {w w' : World} {b : Nat} {m : List Int} (h : MB w b m) (hb : Bel w w') : MB w' b m := ⟨h.1.bel hb, h.2⟩

/-- An array's cells, the block whole, read as its value. -/
theorem loadVar_arr {P : Program} {w : World} {ty : TypeId} {b n : Nat} {cs : Array Value} {T e : TypeId} {i : TypeInfo} (hu : P.underlying ty = some (.array n e)) (hi : P.info? ty = some i) (hs : i.size = cs.size) (h : Blk w b cs T) :
    (loadVar ty ⟨b, 0, none⟩).run P w = .ok (.agg cs) w := by
  have hl := run_loadCells_list (P := P) w ⟨b, 0, none⟩ cs.toList (fun j v hj => by
    have := h.rules.1 j
    have e : (⟨b, 0, none⟩ : Addr).add j = ⟨b, j, none⟩ := by
      cases j with
      | zero => rfl
      | succ j => simp [Addr.add]
    rw [e, this]
    simpa using hj)
  simp only [Array.length_toList] at hl
  simp [loadVar, isAgg, sizeOf, typeInfo, run_underlying hu, hi, hs, hl]

theorem loadVar_mat {w : World} {b : Nat} {m : List Int} (h : MB w b m) : (loadVar 141 ⟨b, 0, none⟩).run Try.prog w = .ok (.agg (mc m)) w := by
  have hs : (Try.prog.info? 141).map (·.size) = some 9 := by kernel_rfl
  obtain ⟨i, hi, he⟩ := Option.map_eq_some_iff.1 hs
  exact loadVar_arr Try.underlying141 hi (by rw [he]; simp [mc, h.2]) h.1

theorem post_norm {P : Program} {fn : Func} {R : Ending → World → Prop} {tmps : Array Value} {w : World} (h : fn.results = #[]) (hR : R (.returned (.tuple #[])) w) : bodyPost P fn R .normal { tmps := tmps, defers := [] } w :=
  ⟨rfl, .tuple #[], by simp [results, h], hR⟩

theorem f78_any (w : World) : Calls Try.prog 78 #[] w fun e w' => e = .returned (.agg (mc (List.replicate 9 70))) ∧ Bel w w' := by
  go_enter Try.func78, Try.ntmps78
  go_wp2
  refine post_ret (results_one rfl ?_) ⟨rfl, by repeat (first | with_reducible assumption | with_reducible exact Bel.refl _ | with_reducible apply Bel.alloc | with_reducible apply Bel.drew | (with_reducible apply Bel.setCellR; (simp <;> omega)) | with_reducible refine Bel.behind (by with_reducible assumption) ?_)⟩
  exact resIs_cell (by rfl) (loadVar_mat ⟨Blk.new _ _ _, rfl⟩)

theorem f93_any (cs : Array Value) (a c : Int) (ha : 0 ≤ a ∧ a ≤ 2) (hc : 0 ≤ c ∧ c ≤ 2) (w : World) : Calls Try.prog 93 #[.agg cs, .int .u32 a, .int .u32 c] w fun e w' => e = .returned (.int .i64 (3 * a + c)) ∧ w' = w.alloc (.cells cs 141) := by
  obtain ⟨h1, h2⟩ := ha
  obtain ⟨h3, h4⟩ := hc
  go_enter Try.func93, Try.ntmps93
  go_wp2
  go_ret
  exact ⟨rfl, rfl⟩

set_option maxHeartbeats 1000000 in
theorem f79_any (b : Nat) (m : List Int) (a c e : Int) (ha : 0 ≤ a ∧ a ≤ 2) (hc : 0 ≤ c ∧ c ≤ 2) (w : World) (hM : MB w b m) :
    Calls Try.prog 79 #[.pointer (some ⟨b, 0, none⟩), .int .u32 a, .int .u32 c, .int .u8 e] w fun x w' => x = .returned (.tuple #[]) ∧ MB w' b (m.set (3 * a + c).toNat e) ∧ Upd w w' b := by
  have HM := Lib.hid hM
  obtain ⟨hB, h9⟩ := hM
  obtain ⟨m0, m1, m2, m3, m4, m5, m6, m7, m8, rfl⟩ := nine h9
  simp only [mc, List.map_cons, List.map_nil] at hB
  obtain ⟨r, z, hl⟩ := hB.facts
  rcases (by omega : a = 0 ∨ a = 1 ∨ a = 2) with rfl | rfl | rfl <;> rcases (by omega : c = 0 ∨ c = 1 ∨ c = 2) with rfl | rfl | rfl
  all_goals
    go_enter Try.func79, Try.ntmps79
    go_wp2_with (go_at_call 93; (with_reducible refine (f93_any _ _ _ (by decide) (by decide) _).mono ?_); rintro e w' ⟨rfl, rfl⟩)
    exact post_norm rfl ⟨rfl, (HM.out.set _ e).bel (Bel.alloc1 _ _), (Upd.set _ _ _ _).trans (Upd.bel (Bel.alloc1 _ _))⟩
end Go.Proofs.Ytdebkmioaglmaaa
