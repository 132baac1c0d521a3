/-
  NARROWER THAN 'FOR EVERY INPUT', by the rows' own cells (each row's printed sentence says how): FnOrderRings: loops.
  DERIVED. THE GIVEN ROWS OF THIS SEAT. 4 by the template 'for every input the law returns true; each argument reads behind the call as it read before'; 0 by the template 'total and deterministic' (their statements: YtnpgmoiiiemghaaTotals.lean).
  GIVEN WITH THE SEED: the statements are not yours to turn. If you find one false, say at which input.
  Laid BY PROGRAM, IN A SANDBOX (cutbox-rows.mjs): the forced cells as the released guide's own fill.sh prints them over the translation a90d0d9e41db4d5e… (all of the seat's roots in one cut). By AI agents, Wed Nov 11 2026. No macro, syntax, notation, axiom, sorry.
-/
import Derived.Test.YtnpgmoiiiemghaaChecked
import GoSem.Claim
import GoSem.ClaimJoined
import GoSem.ClaimMapViews
import Derived.JoinedTies
import Derived.KernelRfl
namespace Go.Proofs.Ytnpgmoiiiemghaa
/- THE CELL 'sum', in the pinned program and in every row, IS THE sha256 OF THE DUMP (.gsa) THAT YtnpgmoiiiemghaaProg.lean LOADS. Nothing in Lean hashes anything: it is a label: what it is worth is what the hold of that sum in a sandbox is worth. -/
noncomputable def Try.pinned : Pinned := { name := "ytnpgmoiiiemghaa", sum := "a90d0d9e41db4d5e4c75effce4cc04a499cbd54869112d9957b44a1522e3cfc2", checked := Try.checked }
namespace Rows
def none {H : Type} : Left H := { results := [], args := [] }

/-- 'laws.FnRunLengths': WHATEVER THE INPUT: true; the input reads as it did. -/
def fnRunLengthsSpec : ChangeSpec := { name := "fnRunLengths", fn := fun _ => fun
  | [d] => { results := [.lit (.bool true)], args := [d] }
  | _ => none }
def fnRunLengthsRow : OpenClaim := { program := "ytnpgmoiiiemghaa", sum := "a90d0d9e41db4d5e4c75effce4cc04a499cbd54869112d9957b44a1522e3cfc2", func := "pub-eidograph/laws.FnRunLengths", spec := "fnRunLengths", inPlace := ["math.sqrt", "math.Float64bits", "math.Float64frombits"], unfollowed := true, recurses := true, apart := false }
def FnRunLengthsSaid : Prop := fnRunLengthsRow.holds Try.pinned (OpenSpec.ofChange fnRunLengthsSpec)

/-- ITS FALSE NEIGHBOUR: 'it returns false'. Refute it at one input. -/
def fnRunLengthsWrong : ChangeSpec := { name := "fnRunLengths", fn := fun _ => fun
  | [d] => { results := [.lit (.bool false)], args := [d] }
  | _ => none }
def FnRunLengthsWrongFalsely : Prop := fnRunLengthsRow.holds Try.pinned (OpenSpec.ofChange fnRunLengthsWrong)

/-- 'laws.FnBetweenTurned': WHATEVER THE INPUT: true; the input reads as it did. -/
def fnBetweenTurnedSpec : ChangeSpec := { name := "fnBetweenTurned", fn := fun _ => fun
  | [d1, d2, d3] => { results := [.lit (.bool true)], args := [d1, d2, d3] }
  | _ => none }
def fnBetweenTurnedRow : OpenClaim := { program := "ytnpgmoiiiemghaa", sum := "a90d0d9e41db4d5e4c75effce4cc04a499cbd54869112d9957b44a1522e3cfc2", func := "pub-eidograph/laws.FnBetweenTurned", spec := "fnBetweenTurned", inPlace := ["math.archFloor", "math.Float64bits", "math.Float64frombits", "math.archTrunc", "math.archMax", "math.archMin"], apart := false }
def FnBetweenTurnedSaid : Prop := fnBetweenTurnedRow.holds Try.pinned (OpenSpec.ofChange fnBetweenTurnedSpec)

/-- ITS FALSE NEIGHBOUR: 'it returns false'. Refute it at one input. -/
def fnBetweenTurnedWrong : ChangeSpec := { name := "fnBetweenTurned", fn := fun _ => fun
  | [d1, d2, d3] => { results := [.lit (.bool false)], args := [d1, d2, d3] }
  | _ => none }
def FnBetweenTurnedWrongFalsely : Prop := fnBetweenTurnedRow.holds Try.pinned (OpenSpec.ofChange fnBetweenTurnedWrong)

/-- 'laws.FnLineSums': WHATEVER THE INPUT: true; the input reads as it did. -/
def fnLineSumsSpec : ChangeSpec := { name := "fnLineSums", fn := fun _ => fun
  | [d] => { results := [.lit (.bool true)], args := [d] }
  | _ => none }
def fnLineSumsRow : OpenClaim := { program := "ytnpgmoiiiemghaa", sum := "a90d0d9e41db4d5e4c75effce4cc04a499cbd54869112d9957b44a1522e3cfc2", func := "pub-eidograph/laws.FnLineSums", spec := "fnLineSums", inPlace := ["math.sqrt", "math.Float64bits", "math.Float64frombits"], recurses := true, apart := false }
def FnLineSumsSaid : Prop := fnLineSumsRow.holds Try.pinned (OpenSpec.ofChange fnLineSumsSpec)

/-- ITS FALSE NEIGHBOUR: 'it returns false'. Refute it at one input. -/
def fnLineSumsWrong : ChangeSpec := { name := "fnLineSums", fn := fun _ => fun
  | [d] => { results := [.lit (.bool false)], args := [d] }
  | _ => none }
def FnLineSumsWrongFalsely : Prop := fnLineSumsRow.holds Try.pinned (OpenSpec.ofChange fnLineSumsWrong)

/-- 'laws.FnOrderRings': WHATEVER THE INPUT: true; the input reads as it did. -/
def fnOrderRingsSpec : ChangeSpec := { name := "fnOrderRings", fn := fun _ => fun
  | [d] => { results := [.lit (.bool true)], args := [d] }
  | _ => none }
def fnOrderRingsRow : OpenClaim := { program := "ytnpgmoiiiemghaa", sum := "a90d0d9e41db4d5e4c75effce4cc04a499cbd54869112d9957b44a1522e3cfc2", func := "pub-eidograph/laws.FnOrderRings", spec := "fnOrderRings", inPlace := ["math.Float64bits", "math.Float64frombits", "math.archTrunc", "internal/reflectlite.ValueOf", "internal/reflectlite.Swapper", "(internal/reflectlite.Value).Len"], unfollowed := true, recurses := true, loops := true, apart := false }
def FnOrderRingsSaid : Prop := fnOrderRingsRow.holds Try.pinned (OpenSpec.ofChange fnOrderRingsSpec)

/-- ITS FALSE NEIGHBOUR: 'it returns false'. Refute it at one input. -/
def fnOrderRingsWrong : ChangeSpec := { name := "fnOrderRings", fn := fun _ => fun
  | [d] => { results := [.lit (.bool false)], args := [d] }
  | _ => none }
def FnOrderRingsWrongFalsely : Prop := fnOrderRingsRow.holds Try.pinned (OpenSpec.ofChange fnOrderRingsWrong)

/- THE SECOND FORM. 'bulk': how many values and letters a reading holds, each counted each time it is reached (what is shared counts as often as it is met; a slice's spare places count too). A statement '..UptoSaid' is the law's where the arguments, and the package variables that the reading takes, are together of bulk at most 1048576: NARROWER than '..Said'. Prove '..Said' where nothing that the law and all that it calls make is longer than what came in: it says more and counts as full. Else prove '..UptoSaid'. A law counts once. -/
mutual
def uptoBulk {H : Type} : DataW H → Nat
  | .lit (.string bytes) => bytes.length + 1
  | .lit _ => 1
  | .nil => 1
  | .ptr d => uptoBulk d + 1
  | .slice elems spare => uptoBulkAll elems + uptoBulkAll spare + 1
  | .agg parts => uptoBulkAll parts + 1
  | .iface _ d => uptoBulk d + 1
  | .map entries => uptoBulkEntries entries + 1
  | .held _ => 1
def uptoBulkAll {H : Type} : List (DataW H) → Nat
  | [] => 0
  | d :: r => uptoBulk d + uptoBulkAll r
def uptoBulkEntries {H : Type} : List (Lit × DataW H) → Nat
  | [] => 0
  | x :: r => uptoBulkEntry x + uptoBulkEntries r
def uptoBulkEntry {H : Type} : Lit × DataW H → Nat
  | (.string bytes, d) => bytes.length + uptoBulk d + 1
  | (_, d) => uptoBulk d + 1
 end
def uptoSmall : (H : Type) → List (DataW H) → Bool := fun _ ds => decide (uptoBulkAll ds ≤ 1048576)
def OpenSpec.upto (s : _root_.Go.ChangeSpec) : _root_.Go.OpenSpec := { _root_.Go.OpenSpec.ofChange s with cond := some uptoSmall }

/-- 'laws.FnRunLengths', WHERE WHAT IT READS IS OF BULK AT MOST 1048576: true; the input reads as it did. -/
def fnRunLengthsUptoRow : OpenClaim := { program := "ytnpgmoiiiemghaa", sum := "a90d0d9e41db4d5e4c75effce4cc04a499cbd54869112d9957b44a1522e3cfc2", func := "pub-eidograph/laws.FnRunLengths", spec := "fnRunLengths", inPlace := ["math.sqrt", "math.Float64bits", "math.Float64frombits"], unfollowed := true, recurses := true, apart := false, narrowed := true }
def FnRunLengthsUptoSaid : Prop := fnRunLengthsUptoRow.holds Try.pinned (OpenSpec.upto fnRunLengthsSpec)

/-- 'laws.FnBetweenTurned', WHERE WHAT IT READS IS OF BULK AT MOST 1048576: true; the input reads as it did. -/
def fnBetweenTurnedUptoRow : OpenClaim := { program := "ytnpgmoiiiemghaa", sum := "a90d0d9e41db4d5e4c75effce4cc04a499cbd54869112d9957b44a1522e3cfc2", func := "pub-eidograph/laws.FnBetweenTurned", spec := "fnBetweenTurned", inPlace := ["math.archFloor", "math.Float64bits", "math.Float64frombits", "math.archTrunc", "math.archMax", "math.archMin"], apart := false, narrowed := true }
def FnBetweenTurnedUptoSaid : Prop := fnBetweenTurnedUptoRow.holds Try.pinned (OpenSpec.upto fnBetweenTurnedSpec)

/-- 'laws.FnLineSums', WHERE WHAT IT READS IS OF BULK AT MOST 1048576: true; the input reads as it did. -/
def fnLineSumsUptoRow : OpenClaim := { program := "ytnpgmoiiiemghaa", sum := "a90d0d9e41db4d5e4c75effce4cc04a499cbd54869112d9957b44a1522e3cfc2", func := "pub-eidograph/laws.FnLineSums", spec := "fnLineSums", inPlace := ["math.sqrt", "math.Float64bits", "math.Float64frombits"], recurses := true, apart := false, narrowed := true }
def FnLineSumsUptoSaid : Prop := fnLineSumsUptoRow.holds Try.pinned (OpenSpec.upto fnLineSumsSpec)

/-- 'laws.FnOrderRings', WHERE WHAT IT READS IS OF BULK AT MOST 1048576: true; the input reads as it did. -/
def fnOrderRingsUptoRow : OpenClaim := { program := "ytnpgmoiiiemghaa", sum := "a90d0d9e41db4d5e4c75effce4cc04a499cbd54869112d9957b44a1522e3cfc2", func := "pub-eidograph/laws.FnOrderRings", spec := "fnOrderRings", inPlace := ["math.Float64bits", "math.Float64frombits", "math.archTrunc", "internal/reflectlite.ValueOf", "internal/reflectlite.Swapper", "(internal/reflectlite.Value).Len"], unfollowed := true, recurses := true, loops := true, apart := false, narrowed := true }
def FnOrderRingsUptoSaid : Prop := fnOrderRingsUptoRow.holds Try.pinned (OpenSpec.upto fnOrderRingsSpec)

end Rows
end Go.Proofs.Ytnpgmoiiiemghaa
