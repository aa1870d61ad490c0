/-
  No cell of these rows narrows 'for every input' (looked for: loops, veiled, ifaces, maps, wideKeys, modest, calm, conditions, laid).
  DERIVED. THE GIVEN ROWS OF THIS SEAT. 4 by the template 'for every input the law returns true; each argument reads behind the call as it read before'; 0 by the template 'total and deterministic' (their statements: Qxb6600538aTotals.lean).
  GIVEN WITH THE SEED: the statements are not yours to turn. If you find one false, say at which input.
  Laid BY PROGRAM, IN A SANDBOX (cutbox-rows.mjs): the forced cells as the released guide's own fill.sh prints them over the translation cc7b75628d789f7f… (all of the seat's roots in one cut). By AI agents, Wed Nov 11 2026. No macro, syntax, notation, axiom, sorry.
-/
import Derived.Test.Qxb6600538aChecked
import GoSem.Claim
import GoSem.ClaimJoined
import GoSem.ClaimMapViews
import Derived.JoinedTies
import Derived.KernelRfl
namespace Go.Proofs.Qxb6600538a
/- THE CELL 'sum', in the pinned program and in every row, IS THE sha256 OF THE DUMP (.gsa) THAT Qxb6600538aProg.lean LOADS. Nothing in Lean hashes anything: it is a label: what it is worth is what the hold of that sum in a sandbox is worth. -/
noncomputable def Try.pinned : Pinned := { name := "qxb6600538a", sum := "cc7b75628d789f7f567e8d8db6c237c63709ec4cc4a205fb59852f7ab3633bed", checked := Try.checked }
namespace Rows
def none {H : Type} : Left H := { results := [], args := [] }

/-- 'zzlaws_registry_b1.FnUnquoteMatchesBackslashParity': WHATEVER THE INPUT: true; the input reads as it did. -/
def fnUnquoteMatchesBackslashParitySpec : ChangeSpec := { name := "fnUnquoteMatchesBackslashParity", fn := fun _ => fun
  | [d] => { results := [.lit (.bool true)], args := [d] }
  | _ => none }
def fnUnquoteMatchesBackslashParityRow : OpenClaim := { program := "qxb6600538a", sum := "cc7b75628d789f7f567e8d8db6c237c63709ec4cc4a205fb59852f7ab3633bed", func := "example.com/coxswain/coxswain/zzlaws_registry_b1.FnUnquoteMatchesBackslashParity", spec := "fnUnquoteMatchesBackslashParity", inPlace := ["internal/abi.NoEscape"], apart := false }
def FnUnquoteMatchesBackslashParitySaid : Prop := fnUnquoteMatchesBackslashParityRow.holds Try.pinned (OpenSpec.ofChange fnUnquoteMatchesBackslashParitySpec)

/-- ITS FALSE NEIGHBOUR: 'it returns false'. Refute it at one input. -/
def fnUnquoteMatchesBackslashParityWrong : ChangeSpec := { name := "fnUnquoteMatchesBackslashParity", fn := fun _ => fun
  | [d] => { results := [.lit (.bool false)], args := [d] }
  | _ => none }
def FnUnquoteMatchesBackslashParityWrongFalsely : Prop := fnUnquoteMatchesBackslashParityRow.holds Try.pinned (OpenSpec.ofChange fnUnquoteMatchesBackslashParityWrong)

/-- 'zzlaws_registry_b1.FnUnquoteInvertsQuoting': WHATEVER THE INPUT: true; the input reads as it did. -/
def fnUnquoteInvertsQuotingSpec : ChangeSpec := { name := "fnUnquoteInvertsQuoting", fn := fun _ => fun
  | [d1, d2] => { results := [.lit (.bool true)], args := [d1, d2] }
  | _ => none }
def fnUnquoteInvertsQuotingRow : OpenClaim := { program := "qxb6600538a", sum := "cc7b75628d789f7f567e8d8db6c237c63709ec4cc4a205fb59852f7ab3633bed", func := "example.com/coxswain/coxswain/zzlaws_registry_b1.FnUnquoteInvertsQuoting", spec := "fnUnquoteInvertsQuoting", inPlace := ["internal/abi.NoEscape"], apart := false }
def FnUnquoteInvertsQuotingSaid : Prop := fnUnquoteInvertsQuotingRow.holds Try.pinned (OpenSpec.ofChange fnUnquoteInvertsQuotingSpec)

/-- ITS FALSE NEIGHBOUR: 'it returns false'. Refute it at one input. -/
def fnUnquoteInvertsQuotingWrong : ChangeSpec := { name := "fnUnquoteInvertsQuoting", fn := fun _ => fun
  | [d1, d2] => { results := [.lit (.bool false)], args := [d1, d2] }
  | _ => none }
def FnUnquoteInvertsQuotingWrongFalsely : Prop := fnUnquoteInvertsQuotingRow.holds Try.pinned (OpenSpec.ofChange fnUnquoteInvertsQuotingWrong)

/-- 'zzlaws_registry_b1.FnRepositoryOfMatchesSegmentModel': WHATEVER THE INPUT: true; the input reads as it did. -/
def fnRepositoryOfMatchesSegmentModelSpec : ChangeSpec := { name := "fnRepositoryOfMatchesSegmentModel", fn := fun _ => fun
  | [d] => { results := [.lit (.bool true)], args := [d] }
  | _ => none }
def fnRepositoryOfMatchesSegmentModelRow : OpenClaim := { program := "qxb6600538a", sum := "cc7b75628d789f7f567e8d8db6c237c63709ec4cc4a205fb59852f7ab3633bed", func := "example.com/coxswain/coxswain/zzlaws_registry_b1.FnRepositoryOfMatchesSegmentModel", spec := "fnRepositoryOfMatchesSegmentModel", apart := false }
def FnRepositoryOfMatchesSegmentModelSaid : Prop := fnRepositoryOfMatchesSegmentModelRow.holds Try.pinned (OpenSpec.ofChange fnRepositoryOfMatchesSegmentModelSpec)

/-- ITS FALSE NEIGHBOUR: 'it returns false'. Refute it at one input. -/
def fnRepositoryOfMatchesSegmentModelWrong : ChangeSpec := { name := "fnRepositoryOfMatchesSegmentModel", fn := fun _ => fun
  | [d] => { results := [.lit (.bool false)], args := [d] }
  | _ => none }
def FnRepositoryOfMatchesSegmentModelWrongFalsely : Prop := fnRepositoryOfMatchesSegmentModelRow.holds Try.pinned (OpenSpec.ofChange fnRepositoryOfMatchesSegmentModelWrong)

/-- 'zzlaws_registry_b1.FnRepositoryOfRecoversName': WHATEVER THE INPUT: true; the input reads as it did. -/
def fnRepositoryOfRecoversNameSpec : ChangeSpec := { name := "fnRepositoryOfRecoversName", fn := fun _ => fun
  | [d1, d2] => { results := [.lit (.bool true)], args := [d1, d2] }
  | _ => none }
def fnRepositoryOfRecoversNameRow : OpenClaim := { program := "qxb6600538a", sum := "cc7b75628d789f7f567e8d8db6c237c63709ec4cc4a205fb59852f7ab3633bed", func := "example.com/coxswain/coxswain/zzlaws_registry_b1.FnRepositoryOfRecoversName", spec := "fnRepositoryOfRecoversName", apart := false }
def FnRepositoryOfRecoversNameSaid : Prop := fnRepositoryOfRecoversNameRow.holds Try.pinned (OpenSpec.ofChange fnRepositoryOfRecoversNameSpec)

/-- ITS FALSE NEIGHBOUR: 'it returns false'. Refute it at one input. -/
def fnRepositoryOfRecoversNameWrong : ChangeSpec := { name := "fnRepositoryOfRecoversName", fn := fun _ => fun
  | [d1, d2] => { results := [.lit (.bool false)], args := [d1, d2] }
  | _ => none }
def FnRepositoryOfRecoversNameWrongFalsely : Prop := fnRepositoryOfRecoversNameRow.holds Try.pinned (OpenSpec.ofChange fnRepositoryOfRecoversNameWrong)

end Rows
end Go.Proofs.Qxb6600538a
