/-
  A geometry that is an argument, opened. No condition.
-/
import Derived.Test.YtpipehenfcbjbaaGreatGm
set_option linter.unusedVariables false
namespace Go.Proofs.YtpipehenfcbjbaaGreat
open Go.ChangeShapes Go.WideShapes Go.ChangeAt Go.RowKit
set_option maxRecDepth 100000 in
theorem open_geom {H : Type} {enc : TypeId × Value → H} {w : World} {base b0 : Nat} {sp : Nat → Bool} {held : Bool} {r : Reach} {v : Value} {d : DataW H} {p : List MemPlace}
    (h : ∃ fuel, DataW.trod enc Tryz.prog w base sp held fuel 25 v.cells.toList = some (d, p)) (hv : Value.okWide Tryz.prog w r b0 25 v) :
    ∃ g : Gm, g.size ≤ Rows.uptoBulk d ∧ ∃ pn nn cn pk nk ck, v = .agg #[.int .i64 g.kind, .int .i64 g.dim, .slice pn nn cn, .slice pk nk ck] ∧ FlSl (fun _ => True) w (.slice pn nn cn) g.nums ∧ GmSl (fun _ => True) w (.slice pk nk ck) g.kids := by
  obtain ⟨k0, k1, k2, k3, y0, y1, y2, y3, n, rfl, hd, hp, t0, t1, t2, t3⟩ := Go.Joins.open_agg4 Tryz.underlying25 (by kernel_rfl) cGeom hv h
  obtain ⟨n0, g0, _, r0⟩ := DataW.trod_int Tryz.underlying3 t0
  obtain ⟨n1, g1, _, r1⟩ := DataW.trod_int Tryz.underlying3 t1
  simp at g0 g1
  subst g0 g1
  obtain ⟨xs, f1, f2, f3⟩ := open_floats t2
  obtain ⟨ks, q1, q2, q3⟩ := open_geoms _ _ k3 y3 (Nat.le_refl _) t3
  obtain ⟨pn, nn, cn, rfl⟩ := f1.isSlice
  obtain ⟨pk, ck, rfl, _⟩ := q1.isSlice
  refine ⟨.mk n0 n1 xs ks, ?_, pn, nn, cn, pk, _, ck, rfl, f1, q1⟩
  rw [hd]
  have := bulk_pos y0.1
  have := bulk_pos y1.1
  simp only [Gm.size, Rows.uptoBulk, Rows.uptoBulkAll]
  omega
end Go.Proofs.YtpipehenfcbjbaaGreat
