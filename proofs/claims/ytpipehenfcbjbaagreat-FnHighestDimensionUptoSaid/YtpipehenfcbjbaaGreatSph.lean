/-
  spec.New of plain data: leaves. No panic; what stood in memory has not turned.
-/
import Derived.Test.YtpipehenfcbjbaaGreatSpg
set_option linter.unusedVariables false
namespace Go.Proofs.YtpipehenfcbjbaaGreat
open Go.ChangeShapes Go.WideShapes Go.ChangeAt Go.RowKit
theorem leaf_any (k : Int) (w : World) : Calls Tryz.prog 16 #[.int .i64 k] w fun e w' => e = .returned (.bool (decide (k = 1 ∨ k = 2))) ∧ w = w' := by
  by_cases h1 : k = 1
  · subst h1
    go_enter Tryz.func16, Tryz.ntmps16
    go_wp2
    go_ret
    exact ⟨rfl, rfl⟩
  · by_cases h2 : k = 2
    · subst h2
      go_enter Tryz.func16, Tryz.ntmps16
      go_wp2
      go_ret
      exact ⟨rfl, rfl⟩
    · have q1 : (k == 1) = false := by simp; omega
      have q2 : (k == 2) = false := by simp; omega
      have hd : decide (k = 1 ∨ k = 2) = false := decide_eq_false (by omega)
      rw [hd]
      clear hd
      go_enter Tryz.func16, Tryz.ntmps16
      go_wp2
      go_ret
      exact ⟨rfl, rfl⟩
theorem kidOf_any (k : Int) (w : World) : Calls Tryz.prog 18 #[.int .i64 k] w fun e w' => e = .returned (.int .i64 (kidOf k)) ∧ w = w' := by
  by_cases h : k = 3 ∨ k = 4 ∨ k = 5 ∨ k = 6
  · rcases h with rfl | rfl | rfl | rfl
    all_goals
      go_enter Tryz.func18, Tryz.ntmps18
      go_wp2
      go_ret
      exact ⟨rfl, rfl⟩
  · have q3 : (k == 3) = false := by simp; omega
    have q4 : (k == 4) = false := by simp; omega
    have q5 : (k == 5) = false := by simp; omega
    have q6 : (k == 6) = false := by simp; omega
    have he : kidOf k = -1 := by
      unfold kidOf
      rw [if_neg (by omega), if_neg (by omega), if_neg (by omega)]
    rw [he]
    clear he h
    go_enter Tryz.func18, Tryz.ntmps18
    go_wp2
    go_ret
    exact ⟨rfl, rfl⟩
end Go.Proofs.YtpipehenfcbjbaaGreat
