/-
  No cell of these rows narrows 'for every input' (looked for: loops, veiled, ifaces, maps, wideKeys, modest, calm, conditions, laid).
  DERIVED. THE GIVEN ROWS OF THIS SEAT. 6 by the template 'for every input the law returns true; each argument reads behind the call as it read before'; 0 by the template 'total and deterministic' (their statements: Qxb6603772aTotals.lean).
  GIVEN WITH THE SEED: the statements are not yours to turn. If you find one false, say at which input.
  Laid BY PROGRAM, IN A SANDBOX (cutbox-rows.mjs): the forced cells as the released guide's own fill.sh prints them over the translation 8a99f5edab95a5cb… (all of the seat's roots in one cut). By AI agents, Wed Nov 11 2026. No macro, syntax, notation, axiom, sorry.
-/
import Derived.Test.Qxb6603772aChecked
import GoSem.Claim
import GoSem.ClaimJoined
import GoSem.ClaimMapViews
import Derived.JoinedTies
import Derived.KernelRfl
namespace Go.Proofs.Qxb6603772a
/- THE CELL 'sum', in the pinned program and in every row, IS THE sha256 OF THE DUMP (.gsa) THAT Qxb6603772aProg.lean LOADS. Nothing in Lean hashes anything: it is a label: what it is worth is what the hold of that sum in a sandbox is worth. -/
noncomputable def Try.pinned : Pinned := { name := "qxb6603772a", sum := "8a99f5edab95a5cbd417f7fb11231dfe8dc763c66b3c21fc3c0c574f385bdbed", checked := Try.checked }
namespace Rows
def none {H : Type} : Left H := { results := [], args := [] }

/-- 'zzlaws_internal_textcast_b1.FnZoneOffsetMatchesModel': WHATEVER THE INPUT: true; the input reads as it did. -/
def fnZoneOffsetMatchesModelSpec : ChangeSpec := { name := "fnZoneOffsetMatchesModel", fn := fun _ => fun
  | [d] => { results := [.lit (.bool true)], args := [d] }
  | _ => none }
def fnZoneOffsetMatchesModelRow : OpenClaim := { program := "qxb6603772a", sum := "8a99f5edab95a5cbd417f7fb11231dfe8dc763c66b3c21fc3c0c574f385bdbed", func := "example.com/jetway/jetway/zzlaws_internal_textcast_b1.FnZoneOffsetMatchesModel", spec := "fnZoneOffsetMatchesModel", apart := false }
def FnZoneOffsetMatchesModelSaid : Prop := fnZoneOffsetMatchesModelRow.holds Try.pinned (OpenSpec.ofChange fnZoneOffsetMatchesModelSpec)

/-- ITS FALSE NEIGHBOUR: 'it returns false'. Refute it at one input. -/
def fnZoneOffsetMatchesModelWrong : ChangeSpec := { name := "fnZoneOffsetMatchesModel", fn := fun _ => fun
  | [d] => { results := [.lit (.bool false)], args := [d] }
  | _ => none }
def FnZoneOffsetMatchesModelWrongFalsely : Prop := fnZoneOffsetMatchesModelRow.holds Try.pinned (OpenSpec.ofChange fnZoneOffsetMatchesModelWrong)

/-- 'zzlaws_internal_textcast_b1.FnZoneOffsetReadsWhatIsWritten': WHATEVER THE INPUT: true; the input reads as it did. -/
def fnZoneOffsetReadsWhatIsWrittenSpec : ChangeSpec := { name := "fnZoneOffsetReadsWhatIsWritten", fn := fun _ => fun
  | [d] => { results := [.lit (.bool true)], args := [d] }
  | _ => none }
def fnZoneOffsetReadsWhatIsWrittenRow : OpenClaim := { program := "qxb6603772a", sum := "8a99f5edab95a5cbd417f7fb11231dfe8dc763c66b3c21fc3c0c574f385bdbed", func := "example.com/jetway/jetway/zzlaws_internal_textcast_b1.FnZoneOffsetReadsWhatIsWritten", spec := "fnZoneOffsetReadsWhatIsWritten", apart := false }
def FnZoneOffsetReadsWhatIsWrittenSaid : Prop := fnZoneOffsetReadsWhatIsWrittenRow.holds Try.pinned (OpenSpec.ofChange fnZoneOffsetReadsWhatIsWrittenSpec)

/-- ITS FALSE NEIGHBOUR: 'it returns false'. Refute it at one input. -/
def fnZoneOffsetReadsWhatIsWrittenWrong : ChangeSpec := { name := "fnZoneOffsetReadsWhatIsWritten", fn := fun _ => fun
  | [d] => { results := [.lit (.bool false)], args := [d] }
  | _ => none }
def FnZoneOffsetReadsWhatIsWrittenWrongFalsely : Prop := fnZoneOffsetReadsWhatIsWrittenRow.holds Try.pinned (OpenSpec.ofChange fnZoneOffsetReadsWhatIsWrittenWrong)

/-- 'zzlaws_internal_textcast_b1.FnScanClockReadsWhatIsWritten': WHATEVER THE INPUT: true; the input reads as it did. -/
def fnScanClockReadsWhatIsWrittenSpec : ChangeSpec := { name := "fnScanClockReadsWhatIsWritten", fn := fun _ => fun
  | [d1, d2, d3, d4, d5] => { results := [.lit (.bool true)], args := [d1, d2, d3, d4, d5] }
  | _ => none }
def fnScanClockReadsWhatIsWrittenRow : OpenClaim := { program := "qxb6603772a", sum := "8a99f5edab95a5cbd417f7fb11231dfe8dc763c66b3c21fc3c0c574f385bdbed", func := "example.com/jetway/jetway/zzlaws_internal_textcast_b1.FnScanClockReadsWhatIsWritten", spec := "fnScanClockReadsWhatIsWritten", apart := false }
def FnScanClockReadsWhatIsWrittenSaid : Prop := fnScanClockReadsWhatIsWrittenRow.holds Try.pinned (OpenSpec.ofChange fnScanClockReadsWhatIsWrittenSpec)

/-- ITS FALSE NEIGHBOUR: 'it returns false'. Refute it at one input. -/
def fnScanClockReadsWhatIsWrittenWrong : ChangeSpec := { name := "fnScanClockReadsWhatIsWritten", fn := fun _ => fun
  | [d1, d2, d3, d4, d5] => { results := [.lit (.bool false)], args := [d1, d2, d3, d4, d5] }
  | _ => none }
def FnScanClockReadsWhatIsWrittenWrongFalsely : Prop := fnScanClockReadsWhatIsWrittenRow.holds Try.pinned (OpenSpec.ofChange fnScanClockReadsWhatIsWrittenWrong)

/-- 'zzlaws_internal_textcast_b1.FnRadixMatchesModel': WHATEVER THE INPUT: true; the input reads as it did. -/
def fnRadixMatchesModelSpec : ChangeSpec := { name := "fnRadixMatchesModel", fn := fun _ => fun
  | [d] => { results := [.lit (.bool true)], args := [d] }
  | _ => none }
def fnRadixMatchesModelRow : OpenClaim := { program := "qxb6603772a", sum := "8a99f5edab95a5cbd417f7fb11231dfe8dc763c66b3c21fc3c0c574f385bdbed", func := "example.com/jetway/jetway/zzlaws_internal_textcast_b1.FnRadixMatchesModel", spec := "fnRadixMatchesModel", apart := false }
def FnRadixMatchesModelSaid : Prop := fnRadixMatchesModelRow.holds Try.pinned (OpenSpec.ofChange fnRadixMatchesModelSpec)

/-- ITS FALSE NEIGHBOUR: 'it returns false'. Refute it at one input. -/
def fnRadixMatchesModelWrong : ChangeSpec := { name := "fnRadixMatchesModel", fn := fun _ => fun
  | [d] => { results := [.lit (.bool false)], args := [d] }
  | _ => none }
def FnRadixMatchesModelWrongFalsely : Prop := fnRadixMatchesModelRow.holds Try.pinned (OpenSpec.ofChange fnRadixMatchesModelWrong)

/-- 'zzlaws_internal_textcast_b1.FnRadixReadsWhatIsWritten': WHATEVER THE INPUT: true; the input reads as it did. -/
def fnRadixReadsWhatIsWrittenSpec : ChangeSpec := { name := "fnRadixReadsWhatIsWritten", fn := fun _ => fun
  | [d1, d2, d3, d4, d5] => { results := [.lit (.bool true)], args := [d1, d2, d3, d4, d5] }
  | _ => none }
def fnRadixReadsWhatIsWrittenRow : OpenClaim := { program := "qxb6603772a", sum := "8a99f5edab95a5cbd417f7fb11231dfe8dc763c66b3c21fc3c0c574f385bdbed", func := "example.com/jetway/jetway/zzlaws_internal_textcast_b1.FnRadixReadsWhatIsWritten", spec := "fnRadixReadsWhatIsWritten", apart := false }
def FnRadixReadsWhatIsWrittenSaid : Prop := fnRadixReadsWhatIsWrittenRow.holds Try.pinned (OpenSpec.ofChange fnRadixReadsWhatIsWrittenSpec)

/-- ITS FALSE NEIGHBOUR: 'it returns false'. Refute it at one input. -/
def fnRadixReadsWhatIsWrittenWrong : ChangeSpec := { name := "fnRadixReadsWhatIsWritten", fn := fun _ => fun
  | [d1, d2, d3, d4, d5] => { results := [.lit (.bool false)], args := [d1, d2, d3, d4, d5] }
  | _ => none }
def FnRadixReadsWhatIsWrittenWrongFalsely : Prop := fnRadixReadsWhatIsWrittenRow.holds Try.pinned (OpenSpec.ofChange fnRadixReadsWhatIsWrittenWrong)

/-- 'zzlaws_internal_textcast_b1.FnRadixAcceptsExactlyWhatFits': WHATEVER THE INPUT: true; the input reads as it did. -/
def fnRadixAcceptsExactlyWhatFitsSpec : ChangeSpec := { name := "fnRadixAcceptsExactlyWhatFits", fn := fun _ => fun
  | [d1, d2, d3, d4] => { results := [.lit (.bool true)], args := [d1, d2, d3, d4] }
  | _ => none }
def fnRadixAcceptsExactlyWhatFitsRow : OpenClaim := { program := "qxb6603772a", sum := "8a99f5edab95a5cbd417f7fb11231dfe8dc763c66b3c21fc3c0c574f385bdbed", func := "example.com/jetway/jetway/zzlaws_internal_textcast_b1.FnRadixAcceptsExactlyWhatFits", spec := "fnRadixAcceptsExactlyWhatFits", apart := false }
def FnRadixAcceptsExactlyWhatFitsSaid : Prop := fnRadixAcceptsExactlyWhatFitsRow.holds Try.pinned (OpenSpec.ofChange fnRadixAcceptsExactlyWhatFitsSpec)

/-- ITS FALSE NEIGHBOUR: 'it returns false'. Refute it at one input. -/
def fnRadixAcceptsExactlyWhatFitsWrong : ChangeSpec := { name := "fnRadixAcceptsExactlyWhatFits", fn := fun _ => fun
  | [d1, d2, d3, d4] => { results := [.lit (.bool false)], args := [d1, d2, d3, d4] }
  | _ => none }
def FnRadixAcceptsExactlyWhatFitsWrongFalsely : Prop := fnRadixAcceptsExactlyWhatFitsRow.holds Try.pinned (OpenSpec.ofChange fnRadixAcceptsExactlyWhatFitsWrong)

end Rows
end Go.Proofs.Qxb6603772a
