/-
  No cell of these rows narrows 'for every input' (looked for: loops, veiled, ifaces, maps, wideKeys, modest, calm, conditions, laid).
  DERIVED. THE GIVEN ROWS OF THIS SEAT. 4 by the template 'for every input the law returns true; each argument reads behind the call as it read before'; 0 by the template 'total and deterministic' (their statements: Qxb6605212aTotals.lean).
  GIVEN WITH THE SEED: the statements are not yours to turn. If you find one false, say at which input.
  Laid BY PROGRAM, IN A SANDBOX (cutbox-rows.mjs): the forced cells as the released guide's own fill.sh prints them over the translation ad45c0254b37f05c… (all of the seat's roots in one cut). By AI agents, Wed Nov 11 2026. No macro, syntax, notation, axiom, sorry.
-/
import Derived.Test.Qxb6605212aChecked
import GoSem.Claim
import GoSem.ClaimJoined
import GoSem.ClaimMapViews
import Derived.JoinedTies
import Derived.KernelRfl
namespace Go.Proofs.Qxb6605212a
/- THE CELL 'sum', in the pinned program and in every row, IS THE sha256 OF THE DUMP (.gsa) THAT Qxb6605212aProg.lean LOADS. Nothing in Lean hashes anything: it is a label: what it is worth is what the hold of that sum in a sandbox is worth. -/
noncomputable def Try.pinned : Pinned := { name := "qxb6605212a", sum := "ad45c0254b37f05c879d40eda7b0fad86132e4e05d872a423896deb4759da5de", checked := Try.checked }
namespace Rows
def none {H : Type} : Left H := { results := [], args := [] }

/-- 'zzlaws_internal_engine_b1.FnChangesAtIsCountOfLastChangePeriodAgo': WHATEVER THE INPUT: true; the input reads as it did. -/
def fnChangesAtIsCountOfLastChangePeriodAgoSpec : ChangeSpec := { name := "fnChangesAtIsCountOfLastChangePeriodAgo", fn := fun _ => fun
  | [d1, d2, d3, d4, d5] => { results := [.lit (.bool true)], args := [d1, d2, d3, d4, d5] }
  | _ => none }
def fnChangesAtIsCountOfLastChangePeriodAgoRow : OpenClaim := { program := "qxb6605212a", sum := "ad45c0254b37f05c879d40eda7b0fad86132e4e05d872a423896deb4759da5de", func := "example.com/backlogic/backlogic/zzlaws_internal_engine_b1.FnChangesAtIsCountOfLastChangePeriodAgo", spec := "fnChangesAtIsCountOfLastChangePeriodAgo", unfollowed := true, recurses := true, apart := false }
def FnChangesAtIsCountOfLastChangePeriodAgoSaid : Prop := fnChangesAtIsCountOfLastChangePeriodAgoRow.holds Try.pinned (OpenSpec.ofChange fnChangesAtIsCountOfLastChangePeriodAgoSpec)

/-- ITS FALSE NEIGHBOUR: 'it returns false'. Refute it at one input. -/
def fnChangesAtIsCountOfLastChangePeriodAgoWrong : ChangeSpec := { name := "fnChangesAtIsCountOfLastChangePeriodAgo", fn := fun _ => fun
  | [d1, d2, d3, d4, d5] => { results := [.lit (.bool false)], args := [d1, d2, d3, d4, d5] }
  | _ => none }
def FnChangesAtIsCountOfLastChangePeriodAgoWrongFalsely : Prop := fnChangesAtIsCountOfLastChangePeriodAgoRow.holds Try.pinned (OpenSpec.ofChange fnChangesAtIsCountOfLastChangePeriodAgoWrong)

/-- 'zzlaws_internal_engine_b1.FnShiftComposesAndMovesRunLasts': WHATEVER THE INPUT: true; the input reads as it did. -/
def fnShiftComposesAndMovesRunLastsSpec : ChangeSpec := { name := "fnShiftComposesAndMovesRunLasts", fn := fun _ => fun
  | [d1, d2, d3] => { results := [.lit (.bool true)], args := [d1, d2, d3] }
  | _ => none }
def fnShiftComposesAndMovesRunLastsRow : OpenClaim := { program := "qxb6605212a", sum := "ad45c0254b37f05c879d40eda7b0fad86132e4e05d872a423896deb4759da5de", func := "example.com/backlogic/backlogic/zzlaws_internal_engine_b1.FnShiftComposesAndMovesRunLasts", spec := "fnShiftComposesAndMovesRunLasts", apart := false }
def FnShiftComposesAndMovesRunLastsSaid : Prop := fnShiftComposesAndMovesRunLastsRow.holds Try.pinned (OpenSpec.ofChange fnShiftComposesAndMovesRunLastsSpec)

/-- ITS FALSE NEIGHBOUR: 'it returns false'. Refute it at one input. -/
def fnShiftComposesAndMovesRunLastsWrong : ChangeSpec := { name := "fnShiftComposesAndMovesRunLasts", fn := fun _ => fun
  | [d1, d2, d3] => { results := [.lit (.bool false)], args := [d1, d2, d3] }
  | _ => none }
def FnShiftComposesAndMovesRunLastsWrongFalsely : Prop := fnShiftComposesAndMovesRunLastsRow.holds Try.pinned (OpenSpec.ofChange fnShiftComposesAndMovesRunLastsWrong)

/-- 'zzlaws_internal_engine_b1.FnShiftKeepsWhatRateLimitsRead': WHATEVER THE INPUT: true; the input reads as it did. -/
def fnShiftKeepsWhatRateLimitsReadSpec : ChangeSpec := { name := "fnShiftKeepsWhatRateLimitsRead", fn := fun _ => fun
  | [d1, d2, d3, d4] => { results := [.lit (.bool true)], args := [d1, d2, d3, d4] }
  | _ => none }
def fnShiftKeepsWhatRateLimitsReadRow : OpenClaim := { program := "qxb6605212a", sum := "ad45c0254b37f05c879d40eda7b0fad86132e4e05d872a423896deb4759da5de", func := "example.com/backlogic/backlogic/zzlaws_internal_engine_b1.FnShiftKeepsWhatRateLimitsRead", spec := "fnShiftKeepsWhatRateLimitsRead", unfollowed := true, recurses := true, apart := false }
def FnShiftKeepsWhatRateLimitsReadSaid : Prop := fnShiftKeepsWhatRateLimitsReadRow.holds Try.pinned (OpenSpec.ofChange fnShiftKeepsWhatRateLimitsReadSpec)

/-- ITS FALSE NEIGHBOUR: 'it returns false'. Refute it at one input. -/
def fnShiftKeepsWhatRateLimitsReadWrong : ChangeSpec := { name := "fnShiftKeepsWhatRateLimitsRead", fn := fun _ => fun
  | [d1, d2, d3, d4] => { results := [.lit (.bool false)], args := [d1, d2, d3, d4] }
  | _ => none }
def FnShiftKeepsWhatRateLimitsReadWrongFalsely : Prop := fnShiftKeepsWhatRateLimitsReadRow.holds Try.pinned (OpenSpec.ofChange fnShiftKeepsWhatRateLimitsReadWrong)

/-- 'zzlaws_internal_engine_b1.FnReversalsScriptMatchesBackwardChain': WHATEVER THE INPUT: true; the input reads as it did. -/
def fnReversalsScriptMatchesBackwardChainSpec : ChangeSpec := { name := "fnReversalsScriptMatchesBackwardChain", fn := fun _ => fun
  | [d1, d2, d3, d4, d5] => { results := [.lit (.bool true)], args := [d1, d2, d3, d4, d5] }
  | _ => none }
def fnReversalsScriptMatchesBackwardChainRow : OpenClaim := { program := "qxb6605212a", sum := "ad45c0254b37f05c879d40eda7b0fad86132e4e05d872a423896deb4759da5de", func := "example.com/backlogic/backlogic/zzlaws_internal_engine_b1.FnReversalsScriptMatchesBackwardChain", spec := "fnReversalsScriptMatchesBackwardChain", apart := false }
def FnReversalsScriptMatchesBackwardChainSaid : Prop := fnReversalsScriptMatchesBackwardChainRow.holds Try.pinned (OpenSpec.ofChange fnReversalsScriptMatchesBackwardChainSpec)

/-- ITS FALSE NEIGHBOUR: 'it returns false'. Refute it at one input. -/
def fnReversalsScriptMatchesBackwardChainWrong : ChangeSpec := { name := "fnReversalsScriptMatchesBackwardChain", fn := fun _ => fun
  | [d1, d2, d3, d4, d5] => { results := [.lit (.bool false)], args := [d1, d2, d3, d4, d5] }
  | _ => none }
def FnReversalsScriptMatchesBackwardChainWrongFalsely : Prop := fnReversalsScriptMatchesBackwardChainRow.holds Try.pinned (OpenSpec.ofChange fnReversalsScriptMatchesBackwardChainWrong)

end Rows
end Go.Proofs.Qxb6605212a
