/-
  No cell of these rows narrows 'for every input' (looked for: loops, veiled, ifaces, maps, wideKeys, modest, calm, conditions, laid).
  DERIVED. THE GIVEN ROWS OF THIS SEAT. 5 by the template 'for every input the law returns true; each argument reads behind the call as it read before'; 0 by the template 'total and deterministic' (their statements: Qxb6600841aTotals.lean).
  GIVEN WITH THE SEED: the statements are not yours to turn. If you find one false, say at which input.
  Laid BY PROGRAM, IN A SANDBOX (cutbox-rows.mjs): the forced cells as the released guide's own fill.sh prints them over the translation 4f439b2dcb5875f0… (all of the seat's roots in one cut). By AI agents, Wed Nov 11 2026. No macro, syntax, notation, axiom, sorry.
-/
import Derived.Test.Qxb6600841aChecked
import GoSem.Claim
import GoSem.ClaimJoined
import GoSem.ClaimMapViews
import Derived.JoinedTies
import Derived.KernelRfl
namespace Go.Proofs.Qxb6600841a
/- THE CELL 'sum', in the pinned program and in every row, IS THE sha256 OF THE DUMP (.gsa) THAT Qxb6600841aProg.lean LOADS. Nothing in Lean hashes anything: it is a label: what it is worth is what the hold of that sum in a sandbox is worth. -/
noncomputable def Try.pinned : Pinned := { name := "qxb6600841a", sum := "4f439b2dcb5875f01297ca4c430e77e8d41a4b77f633006773755086c7a7ff74", checked := Try.checked }
namespace Rows
def none {H : Type} : Left H := { results := [], args := [] }

/-- 'zzlaws_internal_ledger_b1.FnScanNumberMatchesJSONAutomaton': WHATEVER THE INPUT: true; the input reads as it did. -/
def fnScanNumberMatchesJSONAutomatonSpec : ChangeSpec := { name := "fnScanNumberMatchesJSONAutomaton", fn := fun _ => fun
  | [d1, d2] => { results := [.lit (.bool true)], args := [d1, d2] }
  | _ => none }
def fnScanNumberMatchesJSONAutomatonRow : OpenClaim := { program := "qxb6600841a", sum := "4f439b2dcb5875f01297ca4c430e77e8d41a4b77f633006773755086c7a7ff74", func := "example.com/ledgerworth/ledgerworth/zzlaws_internal_ledger_b1.FnScanNumberMatchesJSONAutomaton", spec := "fnScanNumberMatchesJSONAutomaton", apart := false }
def FnScanNumberMatchesJSONAutomatonSaid : Prop := fnScanNumberMatchesJSONAutomatonRow.holds Try.pinned (OpenSpec.ofChange fnScanNumberMatchesJSONAutomatonSpec)

/-- ITS FALSE NEIGHBOUR: 'it returns false'. Refute it at one input. -/
def fnScanNumberMatchesJSONAutomatonWrong : ChangeSpec := { name := "fnScanNumberMatchesJSONAutomaton", fn := fun _ => fun
  | [d1, d2] => { results := [.lit (.bool false)], args := [d1, d2] }
  | _ => none }
def FnScanNumberMatchesJSONAutomatonWrongFalsely : Prop := fnScanNumberMatchesJSONAutomatonRow.holds Try.pinned (OpenSpec.ofChange fnScanNumberMatchesJSONAutomatonWrong)

/-- 'zzlaws_internal_ledger_b1.FnScanNumberStandsAloneAndAnywhere': WHATEVER THE INPUT: true; the input reads as it did. -/
def fnScanNumberStandsAloneAndAnywhereSpec : ChangeSpec := { name := "fnScanNumberStandsAloneAndAnywhere", fn := fun _ => fun
  | [d1, d2] => { results := [.lit (.bool true)], args := [d1, d2] }
  | _ => none }
def fnScanNumberStandsAloneAndAnywhereRow : OpenClaim := { program := "qxb6600841a", sum := "4f439b2dcb5875f01297ca4c430e77e8d41a4b77f633006773755086c7a7ff74", func := "example.com/ledgerworth/ledgerworth/zzlaws_internal_ledger_b1.FnScanNumberStandsAloneAndAnywhere", spec := "fnScanNumberStandsAloneAndAnywhere", apart := false }
def FnScanNumberStandsAloneAndAnywhereSaid : Prop := fnScanNumberStandsAloneAndAnywhereRow.holds Try.pinned (OpenSpec.ofChange fnScanNumberStandsAloneAndAnywhereSpec)

/-- ITS FALSE NEIGHBOUR: 'it returns false'. Refute it at one input. -/
def fnScanNumberStandsAloneAndAnywhereWrong : ChangeSpec := { name := "fnScanNumberStandsAloneAndAnywhere", fn := fun _ => fun
  | [d1, d2] => { results := [.lit (.bool false)], args := [d1, d2] }
  | _ => none }
def FnScanNumberStandsAloneAndAnywhereWrongFalsely : Prop := fnScanNumberStandsAloneAndAnywhereRow.holds Try.pinned (OpenSpec.ofChange fnScanNumberStandsAloneAndAnywhereWrong)

/-- 'zzlaws_internal_ledger_b1.FnFieldDistinctNamesDistinctPlaces': WHATEVER THE INPUT: true; the input reads as it did. -/
def fnFieldDistinctNamesDistinctPlacesSpec : ChangeSpec := { name := "fnFieldDistinctNamesDistinctPlaces", fn := fun _ => fun
  | [d1, d2] => { results := [.lit (.bool true)], args := [d1, d2] }
  | _ => none }
def fnFieldDistinctNamesDistinctPlacesRow : OpenClaim := { program := "qxb6600841a", sum := "4f439b2dcb5875f01297ca4c430e77e8d41a4b77f633006773755086c7a7ff74", func := "example.com/ledgerworth/ledgerworth/zzlaws_internal_ledger_b1.FnFieldDistinctNamesDistinctPlaces", spec := "fnFieldDistinctNamesDistinctPlaces", apart := false }
def FnFieldDistinctNamesDistinctPlacesSaid : Prop := fnFieldDistinctNamesDistinctPlacesRow.holds Try.pinned (OpenSpec.ofChange fnFieldDistinctNamesDistinctPlacesSpec)

/-- ITS FALSE NEIGHBOUR: 'it returns false'. Refute it at one input. -/
def fnFieldDistinctNamesDistinctPlacesWrong : ChangeSpec := { name := "fnFieldDistinctNamesDistinctPlaces", fn := fun _ => fun
  | [d1, d2] => { results := [.lit (.bool false)], args := [d1, d2] }
  | _ => none }
def FnFieldDistinctNamesDistinctPlacesWrongFalsely : Prop := fnFieldDistinctNamesDistinctPlacesRow.holds Try.pinned (OpenSpec.ofChange fnFieldDistinctNamesDistinctPlacesWrong)

/-- 'zzlaws_internal_ledger_b1.FnPushPlacesAndLayout': WHATEVER THE INPUT: true; the input reads as it did. -/
def fnPushPlacesAndLayoutSpec : ChangeSpec := { name := "fnPushPlacesAndLayout", fn := fun _ => fun
  | [d1, d2] => { results := [.lit (.bool true)], args := [d1, d2] }
  | _ => none }
def fnPushPlacesAndLayoutRow : OpenClaim := { program := "qxb6600841a", sum := "4f439b2dcb5875f01297ca4c430e77e8d41a4b77f633006773755086c7a7ff74", func := "example.com/ledgerworth/ledgerworth/zzlaws_internal_ledger_b1.FnPushPlacesAndLayout", spec := "fnPushPlacesAndLayout", apart := false }
def FnPushPlacesAndLayoutSaid : Prop := fnPushPlacesAndLayoutRow.holds Try.pinned (OpenSpec.ofChange fnPushPlacesAndLayoutSpec)

/-- ITS FALSE NEIGHBOUR: 'it returns false'. Refute it at one input. -/
def fnPushPlacesAndLayoutWrong : ChangeSpec := { name := "fnPushPlacesAndLayout", fn := fun _ => fun
  | [d1, d2] => { results := [.lit (.bool false)], args := [d1, d2] }
  | _ => none }
def FnPushPlacesAndLayoutWrongFalsely : Prop := fnPushPlacesAndLayoutRow.holds Try.pinned (OpenSpec.ofChange fnPushPlacesAndLayoutWrong)

/-- 'zzlaws_internal_ledger_b1.FnPushKeepsChunkInvariant': WHATEVER THE INPUT: true; the input reads as it did. -/
def fnPushKeepsChunkInvariantSpec : ChangeSpec := { name := "fnPushKeepsChunkInvariant", fn := fun _ => fun
  | [d1, d2] => { results := [.lit (.bool true)], args := [d1, d2] }
  | _ => none }
def fnPushKeepsChunkInvariantRow : OpenClaim := { program := "qxb6600841a", sum := "4f439b2dcb5875f01297ca4c430e77e8d41a4b77f633006773755086c7a7ff74", func := "example.com/ledgerworth/ledgerworth/zzlaws_internal_ledger_b1.FnPushKeepsChunkInvariant", spec := "fnPushKeepsChunkInvariant", apart := false }
def FnPushKeepsChunkInvariantSaid : Prop := fnPushKeepsChunkInvariantRow.holds Try.pinned (OpenSpec.ofChange fnPushKeepsChunkInvariantSpec)

/-- ITS FALSE NEIGHBOUR: 'it returns false'. Refute it at one input. -/
def fnPushKeepsChunkInvariantWrong : ChangeSpec := { name := "fnPushKeepsChunkInvariant", fn := fun _ => fun
  | [d1, d2] => { results := [.lit (.bool false)], args := [d1, d2] }
  | _ => none }
def FnPushKeepsChunkInvariantWrongFalsely : Prop := fnPushKeepsChunkInvariantRow.holds Try.pinned (OpenSpec.ofChange fnPushKeepsChunkInvariantWrong)

end Rows
end Go.Proofs.Qxb6600841a
