/-
 spec.SightOf: what its answer says of a geometry. No condition.
-/
import Derived.Test.YtpipehenfcbjbaaGreatDoorPay
import Derived.Test.YtpipehenfcbjbaaGreatDoorPba
import Derived.Test.YtpipehenfcbjbaaGreatDoorPar
import Derived.Deep.RegionHeld3
set_option linter.unusedVariables false
set_option linter.unusedSimpArgs false
namespace Go.Proofs.YtpipehenfcbjbaaGreatDoor
open Go.ChangeShapes Go.WideShapes Go.ChangeAt Go.RowKit
/-- What the reference tells of a geometry; nothing is said of its turns and of its words. -/
def IsSee (g:Gm) (w:World) (e:Ending) (w':World):Prop:=∃ (f:Bool) (a b c d:Nat) (cw ccw:Bool) (s1 s2:ByteArray) (winds:Bool),e=.returned (.tuple #[.agg #[.int .i64 g.kind,.int .i64 g.dim,.int .i64 (dimG g),.bool (emptyOf g),.int .i64 (partsG g),.int .i64 (if g.kind=0 then (totG g:Int) else 0),.int .i64 (if g.kind=3 then ((g.kids.length - 1:Nat):Int) else 0),.bool f,.float .f64 a,.float .f64 b,.float .f64 c,.float .f64 d,.bool cw,.bool ccw,.string s1,.string s2],.bool winds])∧EvW f a b c d (evOf g)∧(winds=true→Shp g)∧Bel w w'
theorem infoSight:(Tryz.prog.info? 33).map (·.size)=some 16:=by kernel_rfl
theorem keep2e {v w:World} {b c o:Nat} {E F:Array Value} {s t:TypeId} {u:Value} (hE:F[o]?=some u) (h0:b ≠ c) (hv:v.heap.size≤c)
  (h:(∀ o,w.cell? ⟨b,o,none⟩=E[o]?)∧(∀ o,w.cell? ⟨c,o,none⟩=F[o]?)∧Blk w b E s∧Blk w c F t∧Bel v w) :
  (∀ j,(w.setCell ⟨c,o,none⟩ u).cell? ⟨b,j,none⟩=E[j]?)∧(∀ j,(w.setCell ⟨c,o,none⟩ u).cell? ⟨c,j,none⟩=F[j]?)∧Blk (w.setCell ⟨c,o,none⟩ u) b E s∧Blk (w.setCell ⟨c,o,none⟩ u) c F t∧Bel v (w.setCell ⟨c,o,none⟩ u):=by
 have h2:Blk (w.setCell ⟨c,o,none⟩ u) c F t:=(h.2.2.2.1.set o u).cast (by
  apply Array.ext
  ·simp
  ·intro i h1 h2
   rw [Array.getElem_setIfInBounds]
   split
   ·rename_i e
    subst e
    have:=hE
    rw [Array.getElem?_eq_getElem h2] at this
    exact (Option.some.inj this).symm
   ·rfl)
 have h1:=h.2.2.1.other (a:=⟨c,o,none⟩) h0 u
 exact ⟨h1.rules.1,h2.rules.1,h1,h2,h.2.2.2.2.setCell hv u⟩
end Go.Proofs.YtpipehenfcbjbaaGreatDoor
