/-
 spec.SightOf of a geometry of bulk at most 1048576,no number of which is NaN: what it says of it.
-/
import Derived.Test.YtpipehenfcbjbaaGreatDoorPbd
import Derived.Test.YtpipehenfcbjbaaGreatDoorPbe
import Derived.Test.YtpipehenfcbjbaaGreatDoorPbf
import Derived.Test.YtpipehenfcbjbaaGreatDoorPbg
import Derived.Test.YtpipehenfcbjbaaGreatDoorPbh
set_option linter.unusedVariables false
set_option linter.unusedSimpArgs false
namespace Go.Proofs.YtpipehenfcbjbaaGreatDoor
open Go.ChangeShapes Go.WideShapes Go.ChangeAt Go.RowKit
theorem sightOf_any (g:Gm) (hsz:g.size≤1048576) (hnn:NN g) (h64:N64 g) {s c:Nat} (hs:s≤6) (hc:c≤3) (hks:g.kind=s) (hdc:g.dim=c):GmArg g fun v w=>Calls Tryz.prog 9 #[v] w (IsSee g w):=by
 by_cases h0:s=0
 ·exact sightOf_0b g hsz hnn h64 hs hc hks hdc h0
 ·by_cases h1:s=1
  ·exact sightOf_1b g hsz hnn h64 hs hc hks hdc h1
  ·by_cases h2:s=2
   ·exact sightOf_2b g hsz hnn h64 hs hc hks hdc h2
   ·by_cases h3:s=3
    ·exact sightOf_3b g hsz hnn h64 hs hc hks hdc h3
    ·exact sightOf_eb g hsz hnn h64 hs hc hks hdc ⟨h0,h1,h2,h3⟩
end Go.Proofs.YtpipehenfcbjbaaGreatDoor
