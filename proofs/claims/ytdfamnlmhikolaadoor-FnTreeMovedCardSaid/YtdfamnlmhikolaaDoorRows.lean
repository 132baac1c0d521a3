/-
  NARROWER THAN 'FOR EVERY INPUT', by the rows' own cells (each row's printed sentence says how): FnTreeMoved: laid · FnTreeStops: laid.
  DERIVED. THE GIVEN ROWS OF THIS SEAT. 2 by the template 'for every input the law returns true; each argument reads behind the call as it read before'; 0 by the template 'total and deterministic' (their statements: YtdfamnlmhikolaaDoorTotals.lean).
  GIVEN WITH THE SEED: the statements are not yours to turn. If you find one false, say at which input.
  Laid BY PROGRAM, IN A SANDBOX (cutbox-rows.mjs): the forced cells as the released guide's own fill.sh prints them over the translation aeec11655b1777cc… (all of the seat's roots in one cut). By AI agents, Wed Nov 11 2026. No macro, syntax, notation, axiom, sorry.
-/
import Derived.Test.YtdfamnlmhikolaaDoorChecked
import GoSem.Claim
import GoSem.ClaimJoined
import GoSem.ClaimMapViews
import Derived.JoinedTies
import Derived.KernelRfl
namespace Go.Proofs.YtdfamnlmhikolaaDoor
/- THE CELL 'sum', in the pinned program and in every row, IS THE sha256 OF THE DUMP (.gsa) THAT YtdfamnlmhikolaaDoorProg.lean LOADS. Nothing in Lean hashes anything: it is a label: what it is worth is what the hold of that sum in a sandbox is worth. -/
noncomputable def Tryd.pinned : Pinned := { name := "ytdfamnlmhikolaadoor", sum := "aeec11655b1777cccf5e338a7c67f61b62f96edd20c8d9e85e2d3da29dc884ab", checked := Tryd.checked }
namespace Rows
def none {H : Type} : Left H := { results := [], args := [] }

/- WHAT THE LISTED PACKAGE-LEVEL VARIABLES READ AS WHEN THE CALL BEGINS. Each datum BY PROGRAM (the guide's laid-datum.mjs) off the statement by which the dump's own 'gosem.cut.vars' lays the variable. In a bare row this is a premise. The card (YtdfamnlmhikolaaDoorCards.lean) ties it to the program's text. -/
def laid_pub_eidograph_pub_simplefeatures_rtree_Stop {H : Type} : DataW H := .iface "*errors.errorString" (.ptr (.agg [.lit (.string [115, 116, 111, 112])]))

/-- 'laws.FnTreeMoved': WHATEVER THE INPUT: true; the input reads as it did. -/
def fnTreeMovedSpec : ChangeSpec := { name := "fnTreeMoved", fn := fun _ => fun
  | [d1, d2, d3, d4] => { results := [.lit (.bool true)], args := [d1, d2, d3, d4] }
  | _ => none }
def fnTreeMovedRow : OpenClaim := { program := "ytdfamnlmhikolaadoor", sum := "aeec11655b1777cccf5e338a7c67f61b62f96edd20c8d9e85e2d3da29dc884ab", func := "pub-eidograph/laws.FnTreeMoved", spec := "fnTreeMoved", inPlace := ["internal/reflectlite.TypeOf"], unfollowed := true, recurses := true, named := ["pub-eidograph/pub/simplefeatures/rtree.Stop"], apart := false, laid := [("pub-eidograph/pub/simplefeatures/rtree.Stop", laid_pub_eidograph_pub_simplefeatures_rtree_Stop)] }
def FnTreeMovedSaid : Prop := fnTreeMovedRow.holds Tryd.pinned (OpenSpec.ofChange fnTreeMovedSpec)

/-- ITS FALSE NEIGHBOUR: 'it returns false'. Refute it at one input. -/
def fnTreeMovedWrong : ChangeSpec := { name := "fnTreeMoved", fn := fun _ => fun
  | [d1, d2, d3, d4] => { results := [.lit (.bool false)], args := [d1, d2, d3, d4] }
  | _ => none }
def FnTreeMovedWrongFalsely : Prop := fnTreeMovedRow.holds Tryd.pinned (OpenSpec.ofChange fnTreeMovedWrong)

/-- 'laws.FnTreeStops': WHATEVER THE INPUT: true; the input reads as it did. -/
def fnTreeStopsSpec : ChangeSpec := { name := "fnTreeStops", fn := fun _ => fun
  | [d1, d2, d3, d4, d5] => { results := [.lit (.bool true)], args := [d1, d2, d3, d4, d5] }
  | _ => none }
def fnTreeStopsRow : OpenClaim := { program := "ytdfamnlmhikolaadoor", sum := "aeec11655b1777cccf5e338a7c67f61b62f96edd20c8d9e85e2d3da29dc884ab", func := "pub-eidograph/laws.FnTreeStops", spec := "fnTreeStops", inPlace := ["internal/reflectlite.TypeOf"], unfollowed := true, recurses := true, named := ["pub-eidograph/pub/simplefeatures/rtree.Stop"], apart := false, laid := [("pub-eidograph/pub/simplefeatures/rtree.Stop", laid_pub_eidograph_pub_simplefeatures_rtree_Stop)] }
def FnTreeStopsSaid : Prop := fnTreeStopsRow.holds Tryd.pinned (OpenSpec.ofChange fnTreeStopsSpec)

/-- ITS FALSE NEIGHBOUR: 'it returns false'. Refute it at one input. -/
def fnTreeStopsWrong : ChangeSpec := { name := "fnTreeStops", fn := fun _ => fun
  | [d1, d2, d3, d4, d5] => { results := [.lit (.bool false)], args := [d1, d2, d3, d4, d5] }
  | _ => none }
def FnTreeStopsWrongFalsely : Prop := fnTreeStopsRow.holds Tryd.pinned (OpenSpec.ofChange fnTreeStopsWrong)

/- THE SECOND FORM. 'bulk': how many values and letters a reading holds, each counted each time it is reached (what is shared counts as often as it is met; a slice's spare places count too). A statement '..UptoSaid' is the law's where the arguments, and the package variables that the reading takes, are together of bulk at most 1048576: NARROWER than '..Said'. Prove '..Said' where nothing that the law and all that it calls make is longer than what came in: it says more and counts as full. Else prove '..UptoSaid'. A law counts once. -/
mutual
def uptoBulk {H : Type} : DataW H → Nat
  | .lit (.string bytes) => bytes.length + 1
  | .lit _ => 1
  | .nil => 1
  | .ptr d => uptoBulk d + 1
  | .slice elems spare => uptoBulkAll elems + uptoBulkAll spare + 1
  | .agg parts => uptoBulkAll parts + 1
  | .iface _ d => uptoBulk d + 1
  | .map entries => uptoBulkEntries entries + 1
  | .held _ => 1
def uptoBulkAll {H : Type} : List (DataW H) → Nat
  | [] => 0
  | d :: r => uptoBulk d + uptoBulkAll r
def uptoBulkEntries {H : Type} : List (Lit × DataW H) → Nat
  | [] => 0
  | x :: r => uptoBulkEntry x + uptoBulkEntries r
def uptoBulkEntry {H : Type} : Lit × DataW H → Nat
  | (.string bytes, d) => bytes.length + uptoBulk d + 1
  | (_, d) => uptoBulk d + 1
 end
def uptoSmall : (H : Type) → List (DataW H) → Bool := fun _ ds => decide (uptoBulkAll ds ≤ 1048576)
def OpenSpec.upto (s : _root_.Go.ChangeSpec) : _root_.Go.OpenSpec := { _root_.Go.OpenSpec.ofChange s with cond := some uptoSmall }

/-- 'laws.FnTreeMoved', WHERE WHAT IT READS IS OF BULK AT MOST 1048576: true; the input reads as it did. -/
def fnTreeMovedUptoRow : OpenClaim := { program := "ytdfamnlmhikolaadoor", sum := "aeec11655b1777cccf5e338a7c67f61b62f96edd20c8d9e85e2d3da29dc884ab", func := "pub-eidograph/laws.FnTreeMoved", spec := "fnTreeMoved", inPlace := ["internal/reflectlite.TypeOf"], unfollowed := true, recurses := true, named := ["pub-eidograph/pub/simplefeatures/rtree.Stop"], apart := false, laid := [("pub-eidograph/pub/simplefeatures/rtree.Stop", laid_pub_eidograph_pub_simplefeatures_rtree_Stop)], narrowed := true }
def FnTreeMovedUptoSaid : Prop := fnTreeMovedUptoRow.holds Tryd.pinned (OpenSpec.upto fnTreeMovedSpec)

/-- 'laws.FnTreeStops', WHERE WHAT IT READS IS OF BULK AT MOST 1048576: true; the input reads as it did. -/
def fnTreeStopsUptoRow : OpenClaim := { program := "ytdfamnlmhikolaadoor", sum := "aeec11655b1777cccf5e338a7c67f61b62f96edd20c8d9e85e2d3da29dc884ab", func := "pub-eidograph/laws.FnTreeStops", spec := "fnTreeStops", inPlace := ["internal/reflectlite.TypeOf"], unfollowed := true, recurses := true, named := ["pub-eidograph/pub/simplefeatures/rtree.Stop"], apart := false, laid := [("pub-eidograph/pub/simplefeatures/rtree.Stop", laid_pub_eidograph_pub_simplefeatures_rtree_Stop)], narrowed := true }
def FnTreeStopsUptoSaid : Prop := fnTreeStopsUptoRow.holds Tryd.pinned (OpenSpec.upto fnTreeStopsSpec)

end Rows
end Go.Proofs.YtdfamnlmhikolaaDoor
