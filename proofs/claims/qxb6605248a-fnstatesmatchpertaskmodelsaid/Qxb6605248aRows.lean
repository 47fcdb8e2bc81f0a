/-
  No cell of these rows narrows 'for every input' (looked for: loops, veiled, ifaces, maps, wideKeys, modest, calm, conditions, laid).
  DERIVED. THE GIVEN ROWS OF THIS SEAT. 5 by the template 'for every input the law returns true; each argument reads behind the call as it read before'; 0 by the template 'total and deterministic' (their statements: Qxb6605248aTotals.lean).
  GIVEN WITH THE SEED: the statements are not yours to turn. If you find one false, say at which input.
  Laid BY PROGRAM, IN A SANDBOX (cutbox-rows.mjs): the forced cells as the released guide's own fill.sh prints them over the translation c244f5b7a6b01806… (all of the seat's roots in one cut). By AI agents, Wed Nov 11 2026. No macro, syntax, notation, axiom, sorry.
-/
import Derived.Test.Qxb6605248aChecked
import GoSem.Claim
import GoSem.ClaimJoined
import GoSem.ClaimMapViews
import Derived.JoinedTies
import Derived.KernelRfl
namespace Go.Proofs.Qxb6605248a
/- THE CELL 'sum', in the pinned program and in every row, IS THE sha256 OF THE DUMP (.gsa) THAT Qxb6605248aProg.lean LOADS. Nothing in Lean hashes anything: it is a label: what it is worth is what the hold of that sum in a sandbox is worth. -/
noncomputable def Try.pinned : Pinned := { name := "qxb6605248a", sum := "c244f5b7a6b0180619a19a21a36599f0e1b58757d0739001f8ba7aa9db79d2f4", checked := Try.checked }
namespace Rows
def none {H : Type} : Left H := { results := [], args := [] }

/-- 'zzlaws_pkg_journal_b1.FnStatesMatchPerTaskModel': WHATEVER THE INPUT: true; the input reads as it did. -/
def fnStatesMatchPerTaskModelSpec : ChangeSpec := { name := "fnStatesMatchPerTaskModel", fn := fun _ => fun
  | [d1, d2, d3, d4, d5, d6, d7, d8, d9, d10, d11] => { results := [.lit (.bool true)], args := [d1, d2, d3, d4, d5, d6, d7, d8, d9, d10, d11] }
  | _ => none }
def fnStatesMatchPerTaskModelRow : OpenClaim := { program := "qxb6605248a", sum := "c244f5b7a6b0180619a19a21a36599f0e1b58757d0739001f8ba7aa9db79d2f4", func := "example.com/towline/towline/zzlaws_pkg_journal_b1.FnStatesMatchPerTaskModel", spec := "fnStatesMatchPerTaskModel", apart := false }
def FnStatesMatchPerTaskModelSaid : Prop := fnStatesMatchPerTaskModelRow.holds Try.pinned (OpenSpec.ofChange fnStatesMatchPerTaskModelSpec)

/-- ITS FALSE NEIGHBOUR: 'it returns false'. Refute it at one input. -/
def fnStatesMatchPerTaskModelWrong : ChangeSpec := { name := "fnStatesMatchPerTaskModel", fn := fun _ => fun
  | [d1, d2, d3, d4, d5, d6, d7, d8, d9, d10, d11] => { results := [.lit (.bool false)], args := [d1, d2, d3, d4, d5, d6, d7, d8, d9, d10, d11] }
  | _ => none }
def FnStatesMatchPerTaskModelWrongFalsely : Prop := fnStatesMatchPerTaskModelRow.holds Try.pinned (OpenSpec.ofChange fnStatesMatchPerTaskModelWrong)

/-- 'zzlaws_pkg_journal_b1.FnStatesTaskHangsOnItsOwnRecords': WHATEVER THE INPUT: true; the input reads as it did. -/
def fnStatesTaskHangsOnItsOwnRecordsSpec : ChangeSpec := { name := "fnStatesTaskHangsOnItsOwnRecords", fn := fun _ => fun
  | [d1, d2, d3, d4, d5, d6, d7, d8, d9, d10, d11] => { results := [.lit (.bool true)], args := [d1, d2, d3, d4, d5, d6, d7, d8, d9, d10, d11] }
  | _ => none }
def fnStatesTaskHangsOnItsOwnRecordsRow : OpenClaim := { program := "qxb6605248a", sum := "c244f5b7a6b0180619a19a21a36599f0e1b58757d0739001f8ba7aa9db79d2f4", func := "example.com/towline/towline/zzlaws_pkg_journal_b1.FnStatesTaskHangsOnItsOwnRecords", spec := "fnStatesTaskHangsOnItsOwnRecords", apart := false }
def FnStatesTaskHangsOnItsOwnRecordsSaid : Prop := fnStatesTaskHangsOnItsOwnRecordsRow.holds Try.pinned (OpenSpec.ofChange fnStatesTaskHangsOnItsOwnRecordsSpec)

/-- ITS FALSE NEIGHBOUR: 'it returns false'. Refute it at one input. -/
def fnStatesTaskHangsOnItsOwnRecordsWrong : ChangeSpec := { name := "fnStatesTaskHangsOnItsOwnRecords", fn := fun _ => fun
  | [d1, d2, d3, d4, d5, d6, d7, d8, d9, d10, d11] => { results := [.lit (.bool false)], args := [d1, d2, d3, d4, d5, d6, d7, d8, d9, d10, d11] }
  | _ => none }
def FnStatesTaskHangsOnItsOwnRecordsWrongFalsely : Prop := fnStatesTaskHangsOnItsOwnRecordsRow.holds Try.pinned (OpenSpec.ofChange fnStatesTaskHangsOnItsOwnRecordsWrong)

/-- 'zzlaws_pkg_journal_b1.FnOwedMatchesLatestRecordPerPhase': WHATEVER THE INPUT: true; the input reads as it did. -/
def fnOwedMatchesLatestRecordPerPhaseSpec : ChangeSpec := { name := "fnOwedMatchesLatestRecordPerPhase", fn := fun _ => fun
  | [d1, d2, d3, d4, d5] => { results := [.lit (.bool true)], args := [d1, d2, d3, d4, d5] }
  | _ => none }
def fnOwedMatchesLatestRecordPerPhaseRow : OpenClaim := { program := "qxb6605248a", sum := "c244f5b7a6b0180619a19a21a36599f0e1b58757d0739001f8ba7aa9db79d2f4", func := "example.com/towline/towline/zzlaws_pkg_journal_b1.FnOwedMatchesLatestRecordPerPhase", spec := "fnOwedMatchesLatestRecordPerPhase", apart := false }
def FnOwedMatchesLatestRecordPerPhaseSaid : Prop := fnOwedMatchesLatestRecordPerPhaseRow.holds Try.pinned (OpenSpec.ofChange fnOwedMatchesLatestRecordPerPhaseSpec)

/-- ITS FALSE NEIGHBOUR: 'it returns false'. Refute it at one input. -/
def fnOwedMatchesLatestRecordPerPhaseWrong : ChangeSpec := { name := "fnOwedMatchesLatestRecordPerPhase", fn := fun _ => fun
  | [d1, d2, d3, d4, d5] => { results := [.lit (.bool false)], args := [d1, d2, d3, d4, d5] }
  | _ => none }
def FnOwedMatchesLatestRecordPerPhaseWrongFalsely : Prop := fnOwedMatchesLatestRecordPerPhaseRow.holds Try.pinned (OpenSpec.ofChange fnOwedMatchesLatestRecordPerPhaseWrong)

/-- 'zzlaws_pkg_journal_b1.FnOwedDueThenPass': WHATEVER THE INPUT: true; the input reads as it did. -/
def fnOwedDueThenPassSpec : ChangeSpec := { name := "fnOwedDueThenPass", fn := fun _ => fun
  | [d1, d2, d3, d4, d5, d6] => { results := [.lit (.bool true)], args := [d1, d2, d3, d4, d5, d6] }
  | _ => none }
def fnOwedDueThenPassRow : OpenClaim := { program := "qxb6605248a", sum := "c244f5b7a6b0180619a19a21a36599f0e1b58757d0739001f8ba7aa9db79d2f4", func := "example.com/towline/towline/zzlaws_pkg_journal_b1.FnOwedDueThenPass", spec := "fnOwedDueThenPass", apart := false }
def FnOwedDueThenPassSaid : Prop := fnOwedDueThenPassRow.holds Try.pinned (OpenSpec.ofChange fnOwedDueThenPassSpec)

/-- ITS FALSE NEIGHBOUR: 'it returns false'. Refute it at one input. -/
def fnOwedDueThenPassWrong : ChangeSpec := { name := "fnOwedDueThenPass", fn := fun _ => fun
  | [d1, d2, d3, d4, d5, d6] => { results := [.lit (.bool false)], args := [d1, d2, d3, d4, d5, d6] }
  | _ => none }
def FnOwedDueThenPassWrongFalsely : Prop := fnOwedDueThenPassRow.holds Try.pinned (OpenSpec.ofChange fnOwedDueThenPassWrong)

/-- 'zzlaws_pkg_journal_b1.FnValidMatchesSubjectTable': WHATEVER THE INPUT: true; the input reads as it did. -/
def fnValidMatchesSubjectTableSpec : ChangeSpec := { name := "fnValidMatchesSubjectTable", fn := fun _ => fun
  | [d1, d2, d3, d4, d5, d6, d7, d8, d9, d10, d11] => { results := [.lit (.bool true)], args := [d1, d2, d3, d4, d5, d6, d7, d8, d9, d10, d11] }
  | _ => none }
def fnValidMatchesSubjectTableRow : OpenClaim := { program := "qxb6605248a", sum := "c244f5b7a6b0180619a19a21a36599f0e1b58757d0739001f8ba7aa9db79d2f4", func := "example.com/towline/towline/zzlaws_pkg_journal_b1.FnValidMatchesSubjectTable", spec := "fnValidMatchesSubjectTable", apart := false }
def FnValidMatchesSubjectTableSaid : Prop := fnValidMatchesSubjectTableRow.holds Try.pinned (OpenSpec.ofChange fnValidMatchesSubjectTableSpec)

/-- ITS FALSE NEIGHBOUR: 'it returns false'. Refute it at one input. -/
def fnValidMatchesSubjectTableWrong : ChangeSpec := { name := "fnValidMatchesSubjectTable", fn := fun _ => fun
  | [d1, d2, d3, d4, d5, d6, d7, d8, d9, d10, d11] => { results := [.lit (.bool false)], args := [d1, d2, d3, d4, d5, d6, d7, d8, d9, d10, d11] }
  | _ => none }
def FnValidMatchesSubjectTableWrongFalsely : Prop := fnValidMatchesSubjectTableRow.holds Try.pinned (OpenSpec.ofChange fnValidMatchesSubjectTableWrong)

end Rows
end Go.Proofs.Qxb6605248a
