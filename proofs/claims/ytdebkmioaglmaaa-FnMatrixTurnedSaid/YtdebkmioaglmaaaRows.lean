/-
  No cell of these rows narrows 'for every input' (looked for: loops, veiled, ifaces, maps, wideKeys, modest, calm, conditions, laid).
  DERIVED. THE GIVEN ROWS OF THIS SEAT. 9 by the template 'for every input the law returns true; each argument reads behind the call as it read before'; 0 by the template 'total and deterministic' (their statements: YtdebkmioaglmaaaTotals.lean).
  GIVEN WITH THE SEED: the statements are not yours to turn. If you find one false, say at which input.
  Laid BY PROGRAM, IN A SANDBOX (cutbox-rows.mjs): the forced cells as the released guide's own fill.sh prints them over the translation b98b7b888e901e65… (all of the seat's roots in one cut). By AI agents, Wed Nov 11 2026. No macro, syntax, notation, axiom, sorry.
-/
import Derived.Test.YtdebkmioaglmaaaChecked
import GoSem.Claim
import GoSem.ClaimJoined
import GoSem.ClaimMapViews
import Derived.JoinedTies
import Derived.KernelRfl
namespace Go.Proofs.Ytdebkmioaglmaaa
/- THE CELL 'sum', in the pinned program and in every row, IS THE sha256 OF THE DUMP (.gsa) THAT YtdebkmioaglmaaaProg.lean LOADS. Nothing in Lean hashes anything: it is a label: what it is worth is what the hold of that sum in a sandbox is worth. -/
noncomputable def Try.pinned : Pinned := { name := "ytdebkmioaglmaaa", sum := "b98b7b888e901e659e555d455df8005ba620bcb7508916a9d863ae98870d75e9", checked := Try.checked }
namespace Rows
def none {H : Type} : Left H := { results := [], args := [] }

/-- 'laws.FnSelectsSums': WHATEVER THE INPUT: true; the input reads as it did. -/
def fnSelectsSumsSpec : ChangeSpec := { name := "fnSelectsSums", fn := fun _ => fun
  | [d1, d2] => { results := [.lit (.bool true)], args := [d1, d2] }
  | _ => none }
def fnSelectsSumsRow : OpenClaim := { program := "ytdebkmioaglmaaa", sum := "b98b7b888e901e659e555d455df8005ba620bcb7508916a9d863ae98870d75e9", func := "pub-eidograph/laws.FnSelectsSums", spec := "fnSelectsSums", unfollowed := true, recurses := true, apart := false }
def FnSelectsSumsSaid : Prop := fnSelectsSumsRow.holds Try.pinned (OpenSpec.ofChange fnSelectsSumsSpec)

/-- ITS FALSE NEIGHBOUR: 'it returns false'. Refute it at one input. -/
def fnSelectsSumsWrong : ChangeSpec := { name := "fnSelectsSums", fn := fun _ => fun
  | [d1, d2] => { results := [.lit (.bool false)], args := [d1, d2] }
  | _ => none }
def FnSelectsSumsWrongFalsely : Prop := fnSelectsSumsRow.holds Try.pinned (OpenSpec.ofChange fnSelectsSumsWrong)

/-- 'laws.FnKindName': WHATEVER THE INPUT: true; the input reads as it did. -/
def fnKindNameSpec : ChangeSpec := { name := "fnKindName", fn := fun _ => fun
  | [d] => { results := [.lit (.bool true)], args := [d] }
  | _ => none }
def fnKindNameRow : OpenClaim := { program := "ytdebkmioaglmaaa", sum := "b98b7b888e901e659e555d455df8005ba620bcb7508916a9d863ae98870d75e9", func := "pub-eidograph/laws.FnKindName", spec := "fnKindName", apart := false }
def FnKindNameSaid : Prop := fnKindNameRow.holds Try.pinned (OpenSpec.ofChange fnKindNameSpec)

/-- ITS FALSE NEIGHBOUR: 'it returns false'. Refute it at one input. -/
def fnKindNameWrong : ChangeSpec := { name := "fnKindName", fn := fun _ => fun
  | [d] => { results := [.lit (.bool false)], args := [d] }
  | _ => none }
def FnKindNameWrongFalsely : Prop := fnKindNameRow.holds Try.pinned (OpenSpec.ofChange fnKindNameWrong)

/-- 'laws.FnTakesLineTurned': WHATEVER THE INPUT: true; the input reads as it did. -/
def fnTakesLineTurnedSpec : ChangeSpec := { name := "fnTakesLineTurned", fn := fun _ => fun
  | [d1, d2, d3, d4, d5] => { results := [.lit (.bool true)], args := [d1, d2, d3, d4, d5] }
  | _ => none }
def fnTakesLineTurnedRow : OpenClaim := { program := "ytdebkmioaglmaaa", sum := "b98b7b888e901e659e555d455df8005ba620bcb7508916a9d863ae98870d75e9", func := "pub-eidograph/laws.FnTakesLineTurned", spec := "fnTakesLineTurned", unfollowed := true, recurses := true, apart := false }
def FnTakesLineTurnedSaid : Prop := fnTakesLineTurnedRow.holds Try.pinned (OpenSpec.ofChange fnTakesLineTurnedSpec)

/-- ITS FALSE NEIGHBOUR: 'it returns false'. Refute it at one input. -/
def fnTakesLineTurnedWrong : ChangeSpec := { name := "fnTakesLineTurned", fn := fun _ => fun
  | [d1, d2, d3, d4, d5] => { results := [.lit (.bool false)], args := [d1, d2, d3, d4, d5] }
  | _ => none }
def FnTakesLineTurnedWrongFalsely : Prop := fnTakesLineTurnedRow.holds Try.pinned (OpenSpec.ofChange fnTakesLineTurnedWrong)

/-- 'laws.FnEdgeIsTurned': WHATEVER THE INPUT: true; the input reads as it did. -/
def fnEdgeIsTurnedSpec : ChangeSpec := { name := "fnEdgeIsTurned", fn := fun _ => fun
  | [d1, d2, d3] => { results := [.lit (.bool true)], args := [d1, d2, d3] }
  | _ => none }
def fnEdgeIsTurnedRow : OpenClaim := { program := "ytdebkmioaglmaaa", sum := "b98b7b888e901e659e555d455df8005ba620bcb7508916a9d863ae98870d75e9", func := "pub-eidograph/laws.FnEdgeIsTurned", spec := "fnEdgeIsTurned", apart := false }
def FnEdgeIsTurnedSaid : Prop := fnEdgeIsTurnedRow.holds Try.pinned (OpenSpec.ofChange fnEdgeIsTurnedSpec)

/-- ITS FALSE NEIGHBOUR: 'it returns false'. Refute it at one input. -/
def fnEdgeIsTurnedWrong : ChangeSpec := { name := "fnEdgeIsTurned", fn := fun _ => fun
  | [d1, d2, d3] => { results := [.lit (.bool false)], args := [d1, d2, d3] }
  | _ => none }
def FnEdgeIsTurnedWrongFalsely : Prop := fnEdgeIsTurnedRow.holds Try.pinned (OpenSpec.ofChange fnEdgeIsTurnedWrong)

/-- 'laws.FnXYPoint': WHATEVER THE INPUT: true; the input reads as it did. -/
def fnXYPointSpec : ChangeSpec := { name := "fnXYPoint", fn := fun _ => fun
  | [d] => { results := [.lit (.bool true)], args := [d] }
  | _ => none }
def fnXYPointRow : OpenClaim := { program := "ytdebkmioaglmaaa", sum := "b98b7b888e901e659e555d455df8005ba620bcb7508916a9d863ae98870d75e9", func := "pub-eidograph/laws.FnXYPoint", spec := "fnXYPoint", inPlace := ["math.Float64bits"], recurses := true, apart := false }
def FnXYPointSaid : Prop := fnXYPointRow.holds Try.pinned (OpenSpec.ofChange fnXYPointSpec)

/-- ITS FALSE NEIGHBOUR: 'it returns false'. Refute it at one input. -/
def fnXYPointWrong : ChangeSpec := { name := "fnXYPoint", fn := fun _ => fun
  | [d] => { results := [.lit (.bool false)], args := [d] }
  | _ => none }
def FnXYPointWrongFalsely : Prop := fnXYPointRow.holds Try.pinned (OpenSpec.ofChange fnXYPointWrong)

/-- 'laws.FnFlatHull': WHATEVER THE INPUT: true; the input reads as it did. -/
def fnFlatHullSpec : ChangeSpec := { name := "fnFlatHull", fn := fun _ => fun
  | [d] => { results := [.lit (.bool true)], args := [d] }
  | _ => none }
def fnFlatHullRow : OpenClaim := { program := "ytdebkmioaglmaaa", sum := "b98b7b888e901e659e555d455df8005ba620bcb7508916a9d863ae98870d75e9", func := "pub-eidograph/laws.FnFlatHull", spec := "fnFlatHull", unfollowed := true, recurses := true, apart := false }
def FnFlatHullSaid : Prop := fnFlatHullRow.holds Try.pinned (OpenSpec.ofChange fnFlatHullSpec)

/-- ITS FALSE NEIGHBOUR: 'it returns false'. Refute it at one input. -/
def fnFlatHullWrong : ChangeSpec := { name := "fnFlatHull", fn := fun _ => fun
  | [d] => { results := [.lit (.bool false)], args := [d] }
  | _ => none }
def FnFlatHullWrongFalsely : Prop := fnFlatHullRow.holds Try.pinned (OpenSpec.ofChange fnFlatHullWrong)

/-- 'laws.FnMatrixTurned': WHATEVER THE INPUT: true; the input reads as it did. -/
def fnMatrixTurnedSpec : ChangeSpec := { name := "fnMatrixTurned", fn := fun _ => fun
  | [d1, d2, d3] => { results := [.lit (.bool true)], args := [d1, d2, d3] }
  | _ => none }
def fnMatrixTurnedRow : OpenClaim := { program := "ytdebkmioaglmaaa", sum := "b98b7b888e901e659e555d455df8005ba620bcb7508916a9d863ae98870d75e9", func := "pub-eidograph/laws.FnMatrixTurned", spec := "fnMatrixTurned", unfollowed := true, recurses := true, apart := false }
def FnMatrixTurnedSaid : Prop := fnMatrixTurnedRow.holds Try.pinned (OpenSpec.ofChange fnMatrixTurnedSpec)

/-- ITS FALSE NEIGHBOUR: 'it returns false'. Refute it at one input. -/
def fnMatrixTurnedWrong : ChangeSpec := { name := "fnMatrixTurned", fn := fun _ => fun
  | [d1, d2, d3] => { results := [.lit (.bool false)], args := [d1, d2, d3] }
  | _ => none }
def FnMatrixTurnedWrongFalsely : Prop := fnMatrixTurnedRow.holds Try.pinned (OpenSpec.ofChange fnMatrixTurnedWrong)

/-- 'laws.FnEnvBox': WHATEVER THE INPUT: true; the input reads as it did. -/
def fnEnvBoxSpec : ChangeSpec := { name := "fnEnvBox", fn := fun _ => fun
  | [d] => { results := [.lit (.bool true)], args := [d] }
  | _ => none }
def fnEnvBoxRow : OpenClaim := { program := "ytdebkmioaglmaaa", sum := "b98b7b888e901e659e555d455df8005ba620bcb7508916a9d863ae98870d75e9", func := "pub-eidograph/laws.FnEnvBox", spec := "fnEnvBox", apart := false }
def FnEnvBoxSaid : Prop := fnEnvBoxRow.holds Try.pinned (OpenSpec.ofChange fnEnvBoxSpec)

/-- ITS FALSE NEIGHBOUR: 'it returns false'. Refute it at one input. -/
def fnEnvBoxWrong : ChangeSpec := { name := "fnEnvBox", fn := fun _ => fun
  | [d] => { results := [.lit (.bool false)], args := [d] }
  | _ => none }
def FnEnvBoxWrongFalsely : Prop := fnEnvBoxRow.holds Try.pinned (OpenSpec.ofChange fnEnvBoxWrong)

/-- 'laws.FnRunLengths': WHATEVER THE INPUT: true; the input reads as it did. -/
def fnRunLengthsSpec : ChangeSpec := { name := "fnRunLengths", fn := fun _ => fun
  | [d] => { results := [.lit (.bool true)], args := [d] }
  | _ => none }
def fnRunLengthsRow : OpenClaim := { program := "ytdebkmioaglmaaa", sum := "b98b7b888e901e659e555d455df8005ba620bcb7508916a9d863ae98870d75e9", func := "pub-eidograph/laws.FnRunLengths", spec := "fnRunLengths", inPlace := ["math.sqrt", "math.Float64bits", "math.Float64frombits"], unfollowed := true, recurses := true, apart := false }
def FnRunLengthsSaid : Prop := fnRunLengthsRow.holds Try.pinned (OpenSpec.ofChange fnRunLengthsSpec)

/-- ITS FALSE NEIGHBOUR: 'it returns false'. Refute it at one input. -/
def fnRunLengthsWrong : ChangeSpec := { name := "fnRunLengths", fn := fun _ => fun
  | [d] => { results := [.lit (.bool false)], args := [d] }
  | _ => none }
def FnRunLengthsWrongFalsely : Prop := fnRunLengthsRow.holds Try.pinned (OpenSpec.ofChange fnRunLengthsWrong)

/- THE SECOND FORM. 'bulk': how many values and letters a reading holds, each counted each time it is reached (what is shared counts as often as it is met; a slice's spare places count too). A statement '..UptoSaid' is the law's where the arguments, and the package variables that the reading takes, are together of bulk at most 1048576: NARROWER than '..Said'. Prove '..Said' where nothing that the law and all that it calls make is longer than what came in: it says more and counts as full. Else prove '..UptoSaid'. A law counts once. -/
mutual
def uptoBulk {H : Type} : DataW H → Nat
  | .lit (.string bytes) => bytes.length + 1
  | .lit _ => 1
  | .nil => 1
  | .ptr d => uptoBulk d + 1
  | .slice elems spare => uptoBulkAll elems + uptoBulkAll spare + 1
  | .agg parts => uptoBulkAll parts + 1
  | .iface _ d => uptoBulk d + 1
  | .map entries => uptoBulkEntries entries + 1
  | .held _ => 1
def uptoBulkAll {H : Type} : List (DataW H) → Nat
  | [] => 0
  | d :: r => uptoBulk d + uptoBulkAll r
def uptoBulkEntries {H : Type} : List (Lit × DataW H) → Nat
  | [] => 0
  | x :: r => uptoBulkEntry x + uptoBulkEntries r
def uptoBulkEntry {H : Type} : Lit × DataW H → Nat
  | (.string bytes, d) => bytes.length + uptoBulk d + 1
  | (_, d) => uptoBulk d + 1
 end
def uptoSmall : (H : Type) → List (DataW H) → Bool := fun _ ds => decide (uptoBulkAll ds ≤ 1048576)
def OpenSpec.upto (s : _root_.Go.ChangeSpec) : _root_.Go.OpenSpec := { _root_.Go.OpenSpec.ofChange s with cond := some uptoSmall }

/-- 'laws.FnSelectsSums', WHERE WHAT IT READS IS OF BULK AT MOST 1048576: true; the input reads as it did. -/
def fnSelectsSumsUptoRow : OpenClaim := { program := "ytdebkmioaglmaaa", sum := "b98b7b888e901e659e555d455df8005ba620bcb7508916a9d863ae98870d75e9", func := "pub-eidograph/laws.FnSelectsSums", spec := "fnSelectsSums", unfollowed := true, recurses := true, apart := false, narrowed := true }
def FnSelectsSumsUptoSaid : Prop := fnSelectsSumsUptoRow.holds Try.pinned (OpenSpec.upto fnSelectsSumsSpec)

/-- 'laws.FnKindName', WHERE WHAT IT READS IS OF BULK AT MOST 1048576: true; the input reads as it did. -/
def fnKindNameUptoRow : OpenClaim := { program := "ytdebkmioaglmaaa", sum := "b98b7b888e901e659e555d455df8005ba620bcb7508916a9d863ae98870d75e9", func := "pub-eidograph/laws.FnKindName", spec := "fnKindName", apart := false, narrowed := true }
def FnKindNameUptoSaid : Prop := fnKindNameUptoRow.holds Try.pinned (OpenSpec.upto fnKindNameSpec)

/-- 'laws.FnTakesLineTurned', WHERE WHAT IT READS IS OF BULK AT MOST 1048576: true; the input reads as it did. -/
def fnTakesLineTurnedUptoRow : OpenClaim := { program := "ytdebkmioaglmaaa", sum := "b98b7b888e901e659e555d455df8005ba620bcb7508916a9d863ae98870d75e9", func := "pub-eidograph/laws.FnTakesLineTurned", spec := "fnTakesLineTurned", unfollowed := true, recurses := true, apart := false, narrowed := true }
def FnTakesLineTurnedUptoSaid : Prop := fnTakesLineTurnedUptoRow.holds Try.pinned (OpenSpec.upto fnTakesLineTurnedSpec)

/-- 'laws.FnEdgeIsTurned', WHERE WHAT IT READS IS OF BULK AT MOST 1048576: true; the input reads as it did. -/
def fnEdgeIsTurnedUptoRow : OpenClaim := { program := "ytdebkmioaglmaaa", sum := "b98b7b888e901e659e555d455df8005ba620bcb7508916a9d863ae98870d75e9", func := "pub-eidograph/laws.FnEdgeIsTurned", spec := "fnEdgeIsTurned", apart := false, narrowed := true }
def FnEdgeIsTurnedUptoSaid : Prop := fnEdgeIsTurnedUptoRow.holds Try.pinned (OpenSpec.upto fnEdgeIsTurnedSpec)

/-- 'laws.FnXYPoint', WHERE WHAT IT READS IS OF BULK AT MOST 1048576: true; the input reads as it did. -/
def fnXYPointUptoRow : OpenClaim := { program := "ytdebkmioaglmaaa", sum := "b98b7b888e901e659e555d455df8005ba620bcb7508916a9d863ae98870d75e9", func := "pub-eidograph/laws.FnXYPoint", spec := "fnXYPoint", inPlace := ["math.Float64bits"], recurses := true, apart := false, narrowed := true }
def FnXYPointUptoSaid : Prop := fnXYPointUptoRow.holds Try.pinned (OpenSpec.upto fnXYPointSpec)

/-- 'laws.FnFlatHull', WHERE WHAT IT READS IS OF BULK AT MOST 1048576: true; the input reads as it did. -/
def fnFlatHullUptoRow : OpenClaim := { program := "ytdebkmioaglmaaa", sum := "b98b7b888e901e659e555d455df8005ba620bcb7508916a9d863ae98870d75e9", func := "pub-eidograph/laws.FnFlatHull", spec := "fnFlatHull", unfollowed := true, recurses := true, apart := false, narrowed := true }
def FnFlatHullUptoSaid : Prop := fnFlatHullUptoRow.holds Try.pinned (OpenSpec.upto fnFlatHullSpec)

/-- 'laws.FnMatrixTurned', WHERE WHAT IT READS IS OF BULK AT MOST 1048576: true; the input reads as it did. -/
def fnMatrixTurnedUptoRow : OpenClaim := { program := "ytdebkmioaglmaaa", sum := "b98b7b888e901e659e555d455df8005ba620bcb7508916a9d863ae98870d75e9", func := "pub-eidograph/laws.FnMatrixTurned", spec := "fnMatrixTurned", unfollowed := true, recurses := true, apart := false, narrowed := true }
def FnMatrixTurnedUptoSaid : Prop := fnMatrixTurnedUptoRow.holds Try.pinned (OpenSpec.upto fnMatrixTurnedSpec)

/-- 'laws.FnEnvBox', WHERE WHAT IT READS IS OF BULK AT MOST 1048576: true; the input reads as it did. -/
def fnEnvBoxUptoRow : OpenClaim := { program := "ytdebkmioaglmaaa", sum := "b98b7b888e901e659e555d455df8005ba620bcb7508916a9d863ae98870d75e9", func := "pub-eidograph/laws.FnEnvBox", spec := "fnEnvBox", apart := false, narrowed := true }
def FnEnvBoxUptoSaid : Prop := fnEnvBoxUptoRow.holds Try.pinned (OpenSpec.upto fnEnvBoxSpec)

/-- 'laws.FnRunLengths', WHERE WHAT IT READS IS OF BULK AT MOST 1048576: true; the input reads as it did. -/
def fnRunLengthsUptoRow : OpenClaim := { program := "ytdebkmioaglmaaa", sum := "b98b7b888e901e659e555d455df8005ba620bcb7508916a9d863ae98870d75e9", func := "pub-eidograph/laws.FnRunLengths", spec := "fnRunLengths", inPlace := ["math.sqrt", "math.Float64bits", "math.Float64frombits"], unfollowed := true, recurses := true, apart := false, narrowed := true }
def FnRunLengthsUptoSaid : Prop := fnRunLengthsUptoRow.holds Try.pinned (OpenSpec.upto fnRunLengthsSpec)

end Rows
end Go.Proofs.Ytdebkmioaglmaaa
