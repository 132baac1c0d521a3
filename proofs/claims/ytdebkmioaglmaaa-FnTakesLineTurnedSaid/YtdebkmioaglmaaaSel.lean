/-
  Contracts of the overlay's selection (impl.Selects and what it calls): at an overlay 0 to 3 it answers what the overlay takes, without a panic, and what stood in memory has not turned.
-/
import Derived.Test.YtdebkmioaglmaaaBase
namespace Go.Proofs.Ytdebkmioaglmaaa
open Go.ChangeShapes Go.WideShapes Go.ChangeAt Go.RowKit

theorem f89_any (a b : Bool) (w : World) :
    Calls Try.prog 89 #[.agg #[.bool a, .bool b]] w fun e w' => e = .returned (.bool (a || b)) ∧ Bel w w' := by
  cases a <;> cases b
  all_goals
    go_enter Try.func89, Try.ntmps89
    go_wp2
    go_ret
    exact ⟨rfl, Bel.alloc1 _ _⟩

theorem f90_any (a b : Bool) (w : World) :
    Calls Try.prog 90 #[.agg #[.bool a, .bool b]] w fun e w' => e = .returned (.bool (a && b)) ∧ Bel w w' := by
  cases a <;> cases b
  all_goals
    go_enter Try.func90, Try.ntmps90
    go_wp2
    go_ret
    exact ⟨rfl, Bel.alloc1 _ _⟩

theorem f91_any (a b : Bool) (w : World) :
    Calls Try.prog 91 #[.agg #[.bool a, .bool b]] w fun e w' => e = .returned (.bool (a != b)) ∧ Bel w w' := by
  cases a <;> cases b
  all_goals
    go_enter Try.func91, Try.ntmps91
    go_wp2
    go_ret
    exact ⟨rfl, Bel.alloc1 _ _⟩

theorem f92_any (a b : Bool) (w : World) :
    Calls Try.prog 92 #[.agg #[.bool a, .bool b]] w fun e w' => e = .returned (.bool (a && !b)) ∧ Bel w w' := by
  cases a <;> cases b
  all_goals
    go_enter Try.func92, Try.ntmps92
    go_wp2
    go_ret
    exact ⟨rfl, Bel.alloc1 _ _⟩

theorem f65_0 (w : World) :
    Calls Try.prog 65 #[.int .i64 0] w fun e w' => e = .returned (.func (.func 89) #[] #[]) ∧ Bel w w' := by
  go_enter Try.func65, Try.ntmps65
  go_wp2
  go_ret
  exact ⟨rfl, Bel.alloc1 _ _⟩

theorem f65_1 (w : World) :
    Calls Try.prog 65 #[.int .i64 1] w fun e w' => e = .returned (.func (.func 90) #[] #[]) ∧ Bel w w' := by
  go_enter Try.func65, Try.ntmps65
  go_wp2
  go_ret
  exact ⟨rfl, Bel.alloc1 _ _⟩

theorem f65_2 (w : World) :
    Calls Try.prog 65 #[.int .i64 2] w fun e w' => e = .returned (.func (.func 91) #[] #[]) ∧ Bel w w' := by
  go_enter Try.func65, Try.ntmps65
  go_wp2
  go_ret
  exact ⟨rfl, Bel.alloc1 _ _⟩

theorem f65_3 (w : World) :
    Calls Try.prog 65 #[.int .i64 3] w fun e w' => e = .returned (.func (.func 92) #[] #[]) ∧ Bel w w' := by
  go_enter Try.func65, Try.ntmps65
  go_wp2
  go_ret
  exact ⟨rfl, Bel.alloc1 _ _⟩

/-- What an overlay takes. -/
def takes (op : Int) (a b : Bool) : Bool := if op = 0 then a || b else if op = 1 then a && b else if op = 2 then a != b else a && !b

theorem f36_any (op : Int) (ho : op = 0 ∨ op = 1 ∨ op = 2 ∨ op = 3) (a b : Bool) (w : World) :
    Calls Try.prog 36 #[.int .i64 op, .bool a, .bool b] w fun e w' => e = .returned (.bool (takes op a b)) ∧ Bel w w' := by
  rcases ho with rfl | rfl | rfl | rfl
  · go_enter Try.func36, Try.ntmps36
    go_wp2_with (first | (go_at_call 65; refine (f65_0 _).mono ?_; rintro e w' ⟨rfl, hg⟩) | (go_at_call 89; refine (f89_any _ _ _).mono ?_; rintro e w' ⟨rfl, hk⟩))
    go_ret
    exact ⟨rfl, Bel.trans (by assumption) (by assumption)⟩
  · go_enter Try.func36, Try.ntmps36
    go_wp2_with (first | (go_at_call 65; refine (f65_1 _).mono ?_; rintro e w' ⟨rfl, hg⟩) | (go_at_call 90; refine (f90_any _ _ _).mono ?_; rintro e w' ⟨rfl, hk⟩))
    go_ret
    exact ⟨rfl, Bel.trans (by assumption) (by assumption)⟩
  · go_enter Try.func36, Try.ntmps36
    go_wp2_with (first | (go_at_call 65; refine (f65_2 _).mono ?_; rintro e w' ⟨rfl, hg⟩) | (go_at_call 91; refine (f91_any _ _ _).mono ?_; rintro e w' ⟨rfl, hk⟩))
    go_ret
    exact ⟨rfl, Bel.trans (by assumption) (by assumption)⟩
  · go_enter Try.func36, Try.ntmps36
    go_wp2_with (first | (go_at_call 65; refine (f65_3 _).mono ?_; rintro e w' ⟨rfl, hg⟩) | (go_at_call 92; refine (f92_any _ _ _).mono ?_; rintro e w' ⟨rfl, hk⟩))
    go_ret
    exact ⟨rfl, Bel.trans (by assumption) (by assumption)⟩

theorem f35_idle (p q : Addr) (w : World) :
    CallsD Try.prog 35 #[.pointer (some p), .pointer (some q)] .returning w fun e u' w' => e = .returned (.tuple #[]) ∧ u' = .returning ∧ w' = w := by
  refine callsD_of_wpS Try.func35 rfl fun c₀ cs hu => ?_
  apply wpS_seq
  apply wpS_region
  simp [wpOpsS, go_sem, recoverD, hu, Try.ntmps35, Exit.thenS]
  refine wpS_cond (t := false) (by simp [Act.eval, Array.replicate]) ?_
  simp only [Bool.false_eq_true, if_false]
  refine wpS_of_wp (wp_skip ?_)
  cases c₀
  simp_all [bodyPostS, results, Try.results35]

theorem f13_any (op : Int) (ho : op = 0 ∨ op = 1 ∨ op = 2 ∨ op = 3) (a b : Bool) (w : World) :
    Calls Try.prog 13 #[.int .i64 op, .bool a, .bool b] w fun e w' => e = .returned (.tuple #[.bool (takes op a b), .bool true]) ∧ Bel w w' := by
  have hmf : ∀ (fn : Fn) (first cap : Array Value) (w : World), (Instr.makeFunc fn first cap).run Try.prog w = .ok (.func fn first cap) w := fun _ _ _ _ => rfl
  go_enter_defers Try.func13, Try.ntmps13
  go_wp2_with (go_at_call 36; refine (f36_any op ho _ _ _).mono ?_; rintro e w' ⟨rfl, hg⟩; obtain ⟨hc0, hz0, hc1, hz1, hs, hb⟩ := hg.two)
  refine leaves_cons (f := 35) (args := #[.pointer (some ⟨w.heap.size, 0, none⟩), .pointer (some ⟨w.heap.size + 1, 0, none⟩)]) (by simp) (by simp [go_sem]) ?_
  refine (f35_idle ⟨w.heap.size, 0, none⟩ ⟨w.heap.size + 1, 0, none⟩ _).mono ?_
  rintro e u' w'' ⟨rfl, rfl, rfl⟩
  simp [Leaves, settle, results, Try.results13, go_sem, hc0, hc1]
  exact (hb.setCell (by simp) _).setCell (by simp) _

theorem f12_any (op : Int) (ho : op = 0 ∨ op = 1 ∨ op = 2 ∨ op = 3) (a b : Bool) (w : World) :
    Calls Try.prog 12 #[.int .i64 op, .bool a, .bool b] w fun e w' => e = .returned (.bool (takes op a b)) ∧ Bel w w' := by
  cases h : takes op a b
  all_goals
    have H := Lib.hid h
    clear h
    go_enter Try.func12, Try.ntmps12
    go_wp2_with (go_at_call 13; refine (f13_any op ho _ _ _).mono ?_; rw [H.out]; rintro e w' ⟨rfl, hg⟩)
    go_ret
    exact ⟨rfl, by assumption⟩

set_option maxHeartbeats 4000000 in
theorem f3_any (a b : Bool) (w : World) :
    Calls Try.prog 3 #[.bool a, .bool b] w fun e w' => e = .returned (.bool true) ∧ Bel w w' := by
  cases a <;> cases b
  all_goals
    go_enter Try.func3, Try.ntmps3
    go_wp2_with (go_at_call 12; refine (f12_any _ (by decide) _ _ _).mono ?_; simp only [takes, Int.reduceEq, if_true, if_false, Bool.or_true, Bool.or_false, Bool.and_true, Bool.and_false, Bool.not_true, Bool.not_false, bne_self_eq_false, Bool.false_bne, Bool.bne_false]; rintro e w' ⟨rfl, hg⟩)
    go_ret
    exact ⟨rfl, by repeat (first | assumption | refine Bel.trans ?_ (by assumption))⟩
end Go.Proofs.Ytdebkmioaglmaaa
