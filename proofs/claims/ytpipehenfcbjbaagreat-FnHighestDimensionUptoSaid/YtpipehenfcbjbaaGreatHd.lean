/-
  impl.HighestDimension: the dimension of what is not empty in the geometry that plain data make.
-/
import Derived.Test.YtpipehenfcbjbaaGreatHi
import Derived.Test.YtpipehenfcbjbaaGreatMk
set_option linter.unusedVariables false
namespace Go.Proofs.YtpipehenfcbjbaaGreat
open Go.ChangeShapes Go.WideShapes Go.ChangeAt Go.RowKit
theorem doorHigh_any (F : Nat → Prop) (s b : Nat) (g : Gm) (w : World) (h : Ob F w 7 [.int .i64 s, .iface (ptrT s) (.pointer (some ⟨b, 0, none⟩))] g) : Calls Tryz.prog 12 #[.agg #[.int .i64 s, .iface (ptrT s) (.pointer (some ⟨b, 0, none⟩))]] w fun e w' => e = .returned (.int .i64 (highOf g)) ∧ Bel w w' := by
  have HC : Hid (∀ W, Bel w W → Calls Tryz.prog 20 #[.agg #[.int .i64 s, .iface (ptrT s) (.pointer (some ⟨b, 0, none⟩))]] W fun e w' => e = .returned (.int .i64 (highOf g)) ∧ Bel W w') := Lib.hid fun W hW => geoHigh_any g F _ W (h.bel hW)
  clear h
  generalize ptrT s = T at *
  generalize highOf g = hv at *
  go_enter Tryz.func12, Tryz.ntmps12
  go_wp2_with (go_at_call 20; (with_reducible refine (HC.out _ ?hb).mono ?_); (case hb => (repeat (first | with_reducible assumption | with_reducible exact Bel.refl _ | with_reducible apply Bel.alloc | with_reducible apply Bel.drew | with_reducible apply Bel.drewN | ((with_reducible apply Bel.setCellR); (simp <;> omega)) | with_reducible refine Bel.behind (by with_reducible assumption) ?_))); rintro e w1 ⟨rfl, hb1⟩; have HB1 : Hid (Bel w w1) := Lib.hid ((Bel.alloc1 w _).trans hb1); clear hb1)
  go_ret
  exact ⟨rfl, HB1.out⟩
theorem implHigh_any (F : Nat → Prop) (g : Gm) (hsz : g.size ≤ 1048576) (pn : Option Addr) (nn cn : Nat) (pk : Option Addr) (nk ck : Nat) (w : World) (hF : New F w) (hN : FlSl F w (.slice pn nn cn) g.nums) (hK : GmSl F w (.slice pk nk ck) g.kids) :
    Calls Tryz.prog 6 #[.agg #[.int .i64 g.kind, .int .i64 g.dim, .slice pn nn cn, .slice pk nk ck]] w fun e w' => e = .returned (.int .i64 (highOf (newOf g))) ∧ Bel w w' := by
  have HC : Hid (∀ W, Bel w W → Calls Tryz.prog 13 #[.agg #[.int .i64 g.kind, .int .i64 g.dim, .slice pn nn cn, .slice pk nk ck]] W (IsOb F W 7 (newOf g))) := Lib.hid fun W hW => geometry_any g hsz F pn nn cn pk nk ck W (fun b hb => hF b (Nat.le_trans hW.size hb)) (hN.bel hW) (hK.bel hW)
  clear hN hK
  generalize g.kind = kind at *
  generalize g.dim = dim at *
  generalize newOf g = g' at *
  go_enter Tryz.func6, Tryz.ntmps6
  go_wp2_with (first
    | (go_at_call 13; (with_reducible refine (HC.out _ ?hb).mono ?_); (case hb => (repeat (first | with_reducible assumption | with_reducible exact Bel.refl _ | with_reducible apply Bel.alloc | with_reducible apply Bel.drew | with_reducible apply Bel.drewN | ((with_reducible apply Bel.setCellR); (simp <;> omega)) | with_reducible refine Bel.behind (by with_reducible assumption) ?_))); rintro e w1 ⟨cs, rfl, ho, hb1⟩; have HB1 : Hid (Bel w w1) := Lib.hid ((Bel.alloc1 w _).trans hb1); obtain ⟨s, b, cl, rfl, -⟩ := ho.gi; have HD := Lib.hid (doorHigh_any F s b g' w1 ho); clear ho hb1)
    | (go_at_call 12; (with_reducible refine HD.out.mono ?_); rintro e w2 ⟨rfl, hb2⟩; have HB2 : Hid (Bel w w2) := Lib.hid (HB1.out.trans hb2); clear hb2))
  go_ret
  exact ⟨rfl, HB2.out⟩
end Go.Proofs.YtpipehenfcbjbaaGreat
