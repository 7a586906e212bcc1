/-
  No cell of these rows narrows 'for every input' (looked for: loops, veiled, ifaces, maps, wideKeys, modest, calm, conditions, laid).
  DERIVED. THE GIVEN ROWS OF THIS SEAT. 4 by the template 'for every input the law returns true; each argument reads behind the call as it read before'; 0 by the template 'total and deterministic' (their statements: Qxb6601949aTotals.lean).
  GIVEN WITH THE SEED: the statements are not yours to turn. If you find one false, say at which input.
  Laid BY PROGRAM, IN A SANDBOX (cutbox-rows.mjs): the forced cells as the released guide's own fill.sh prints them over the translation 47dda25d866fbbd6… (all of the seat's roots in one cut). By AI agents, Wed Nov 11 2026. No macro, syntax, notation, axiom, sorry.
-/
import Derived.Test.Qxb6601949aChecked
import GoSem.Claim
import GoSem.ClaimJoined
import GoSem.ClaimMapViews
import Derived.JoinedTies
import Derived.KernelRfl
namespace Go.Proofs.Qxb6601949a
/- THE CELL 'sum', in the pinned program and in every row, IS THE sha256 OF THE DUMP (.gsa) THAT Qxb6601949aProg.lean LOADS. Nothing in Lean hashes anything: it is a label: what it is worth is what the hold of that sum in a sandbox is worth. -/
noncomputable def Try.pinned : Pinned := { name := "qxb6601949a", sum := "47dda25d866fbbd61d4a3ee92b7a65025532b456b81a82daa937d4f6eb9b8fb3", checked := Try.checked }
namespace Rows
def none {H : Type} : Left H := { results := [], args := [] }

/-- 'zzlaws_internal_check_b1.FnFindCycleIsACycleExactlyWhenCyclic': WHATEVER THE INPUT: true; the input reads as it did. -/
def fnFindCycleIsACycleExactlyWhenCyclicSpec : ChangeSpec := { name := "fnFindCycleIsACycleExactlyWhenCyclic", fn := fun _ => fun
  | [d] => { results := [.lit (.bool true)], args := [d] }
  | _ => none }
def fnFindCycleIsACycleExactlyWhenCyclicRow : OpenClaim := { program := "qxb6601949a", sum := "47dda25d866fbbd61d4a3ee92b7a65025532b456b81a82daa937d4f6eb9b8fb3", func := "example.com/dovetail/dovetail/zzlaws_internal_check_b1.FnFindCycleIsACycleExactlyWhenCyclic", spec := "fnFindCycleIsACycleExactlyWhenCyclic", unfollowed := true, recurses := true, apart := false }
def FnFindCycleIsACycleExactlyWhenCyclicSaid : Prop := fnFindCycleIsACycleExactlyWhenCyclicRow.holds Try.pinned (OpenSpec.ofChange fnFindCycleIsACycleExactlyWhenCyclicSpec)

/-- ITS FALSE NEIGHBOUR: 'it returns false'. Refute it at one input. -/
def fnFindCycleIsACycleExactlyWhenCyclicWrong : ChangeSpec := { name := "fnFindCycleIsACycleExactlyWhenCyclic", fn := fun _ => fun
  | [d] => { results := [.lit (.bool false)], args := [d] }
  | _ => none }
def FnFindCycleIsACycleExactlyWhenCyclicWrongFalsely : Prop := fnFindCycleIsACycleExactlyWhenCyclicRow.holds Try.pinned (OpenSpec.ofChange fnFindCycleIsACycleExactlyWhenCyclicWrong)

/-- 'zzlaws_internal_check_b1.FnFindCycleAgreesWithReversedGraph': WHATEVER THE INPUT: true; the input reads as it did. -/
def fnFindCycleAgreesWithReversedGraphSpec : ChangeSpec := { name := "fnFindCycleAgreesWithReversedGraph", fn := fun _ => fun
  | [d] => { results := [.lit (.bool true)], args := [d] }
  | _ => none }
def fnFindCycleAgreesWithReversedGraphRow : OpenClaim := { program := "qxb6601949a", sum := "47dda25d866fbbd61d4a3ee92b7a65025532b456b81a82daa937d4f6eb9b8fb3", func := "example.com/dovetail/dovetail/zzlaws_internal_check_b1.FnFindCycleAgreesWithReversedGraph", spec := "fnFindCycleAgreesWithReversedGraph", unfollowed := true, recurses := true, apart := false }
def FnFindCycleAgreesWithReversedGraphSaid : Prop := fnFindCycleAgreesWithReversedGraphRow.holds Try.pinned (OpenSpec.ofChange fnFindCycleAgreesWithReversedGraphSpec)

/-- ITS FALSE NEIGHBOUR: 'it returns false'. Refute it at one input. -/
def fnFindCycleAgreesWithReversedGraphWrong : ChangeSpec := { name := "fnFindCycleAgreesWithReversedGraph", fn := fun _ => fun
  | [d] => { results := [.lit (.bool false)], args := [d] }
  | _ => none }
def FnFindCycleAgreesWithReversedGraphWrongFalsely : Prop := fnFindCycleAgreesWithReversedGraphRow.holds Try.pinned (OpenSpec.ofChange fnFindCycleAgreesWithReversedGraphWrong)

/-- 'zzlaws_internal_check_b1.FnDeliverScriptMatchesHistoryModel': WHATEVER THE INPUT: true; the input reads as it did. -/
def fnDeliverScriptMatchesHistoryModelSpec : ChangeSpec := { name := "fnDeliverScriptMatchesHistoryModel", fn := fun _ => fun
  | [d1, d2] => { results := [.lit (.bool true)], args := [d1, d2] }
  | _ => none }
def fnDeliverScriptMatchesHistoryModelRow : OpenClaim := { program := "qxb6601949a", sum := "47dda25d866fbbd61d4a3ee92b7a65025532b456b81a82daa937d4f6eb9b8fb3", func := "example.com/dovetail/dovetail/zzlaws_internal_check_b1.FnDeliverScriptMatchesHistoryModel", spec := "fnDeliverScriptMatchesHistoryModel", apart := false }
def FnDeliverScriptMatchesHistoryModelSaid : Prop := fnDeliverScriptMatchesHistoryModelRow.holds Try.pinned (OpenSpec.ofChange fnDeliverScriptMatchesHistoryModelSpec)

/-- ITS FALSE NEIGHBOUR: 'it returns false'. Refute it at one input. -/
def fnDeliverScriptMatchesHistoryModelWrong : ChangeSpec := { name := "fnDeliverScriptMatchesHistoryModel", fn := fun _ => fun
  | [d1, d2] => { results := [.lit (.bool false)], args := [d1, d2] }
  | _ => none }
def FnDeliverScriptMatchesHistoryModelWrongFalsely : Prop := fnDeliverScriptMatchesHistoryModelRow.holds Try.pinned (OpenSpec.ofChange fnDeliverScriptMatchesHistoryModelWrong)

/-- 'zzlaws_internal_check_b1.FnCheckMissingMatchesModel': WHATEVER THE INPUT: true; the input reads as it did. -/
def fnCheckMissingMatchesModelSpec : ChangeSpec := { name := "fnCheckMissingMatchesModel", fn := fun _ => fun
  | [d1, d2, d3, d4] => { results := [.lit (.bool true)], args := [d1, d2, d3, d4] }
  | _ => none }
def fnCheckMissingMatchesModelRow : OpenClaim := { program := "qxb6601949a", sum := "47dda25d866fbbd61d4a3ee92b7a65025532b456b81a82daa937d4f6eb9b8fb3", func := "example.com/dovetail/dovetail/zzlaws_internal_check_b1.FnCheckMissingMatchesModel", spec := "fnCheckMissingMatchesModel", apart := false }
def FnCheckMissingMatchesModelSaid : Prop := fnCheckMissingMatchesModelRow.holds Try.pinned (OpenSpec.ofChange fnCheckMissingMatchesModelSpec)

/-- ITS FALSE NEIGHBOUR: 'it returns false'. Refute it at one input. -/
def fnCheckMissingMatchesModelWrong : ChangeSpec := { name := "fnCheckMissingMatchesModel", fn := fun _ => fun
  | [d1, d2, d3, d4] => { results := [.lit (.bool false)], args := [d1, d2, d3, d4] }
  | _ => none }
def FnCheckMissingMatchesModelWrongFalsely : Prop := fnCheckMissingMatchesModelRow.holds Try.pinned (OpenSpec.ofChange fnCheckMissingMatchesModelWrong)

end Rows
end Go.Proofs.Qxb6601949a
