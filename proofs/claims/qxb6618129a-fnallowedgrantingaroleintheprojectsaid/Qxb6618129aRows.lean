/-
  No cell of these rows narrows 'for every input' (looked for: loops, veiled, ifaces, maps, wideKeys, modest, calm, conditions, laid).
  DERIVED. THE GIVEN ROWS OF THIS SEAT. 5 by the template 'for every input the law returns true; each argument reads behind the call as it read before'; 0 by the template 'total and deterministic' (their statements: Qxb6618129aTotals.lean).
  GIVEN WITH THE SEED: the statements are not yours to turn. If you find one false, say at which input.
  Laid BY PROGRAM, IN A SANDBOX (cutbox-rows.mjs): the forced cells as the released guide's own fill.sh prints them over the translation 51c79deaff4ec9fc… (all of the seat's roots in one cut). By AI agents, Wed Nov 11 2026. No macro, syntax, notation, axiom, sorry.
-/
import Derived.Test.Qxb6618129aChecked
import GoSem.Claim
import GoSem.ClaimJoined
import GoSem.ClaimMapViews
import Derived.JoinedTies
import Derived.KernelRfl
namespace Go.Proofs.Qxb6618129a
/- THE CELL 'sum', in the pinned program and in every row, IS THE sha256 OF THE DUMP (.gsa) THAT Qxb6618129aProg.lean LOADS. Nothing in Lean hashes anything: it is a label: what it is worth is what the hold of that sum in a sandbox is worth. -/
noncomputable def Try.pinned : Pinned := { name := "qxb6618129a", sum := "51c79deaff4ec9fc6364cccdbba0989b5a144b7e0c7af0009bf1ee785af5f7fe", checked := Try.checked }
namespace Rows
def none {H : Type} : Left H := { results := [], args := [] }

/-- 'zzlaws_internal_access_b1.FnIsAdminOneAssignmentAnyPlaceAnyCut': WHATEVER THE INPUT: true; the input reads as it did. -/
def fnIsAdminOneAssignmentAnyPlaceAnyCutSpec : ChangeSpec := { name := "fnIsAdminOneAssignmentAnyPlaceAnyCut", fn := fun _ => fun
  | [d1, d2, d3, d4] => { results := [.lit (.bool true)], args := [d1, d2, d3, d4] }
  | _ => none }
def fnIsAdminOneAssignmentAnyPlaceAnyCutRow : OpenClaim := { program := "qxb6618129a", sum := "51c79deaff4ec9fc6364cccdbba0989b5a144b7e0c7af0009bf1ee785af5f7fe", func := "example.com/endow/endow/zzlaws_internal_access_b1.FnIsAdminOneAssignmentAnyPlaceAnyCut", spec := "fnIsAdminOneAssignmentAnyPlaceAnyCut", apart := false }
def FnIsAdminOneAssignmentAnyPlaceAnyCutSaid : Prop := fnIsAdminOneAssignmentAnyPlaceAnyCutRow.holds Try.pinned (OpenSpec.ofChange fnIsAdminOneAssignmentAnyPlaceAnyCutSpec)

/-- ITS FALSE NEIGHBOUR: 'it returns false'. Refute it at one input. -/
def fnIsAdminOneAssignmentAnyPlaceAnyCutWrong : ChangeSpec := { name := "fnIsAdminOneAssignmentAnyPlaceAnyCut", fn := fun _ => fun
  | [d1, d2, d3, d4] => { results := [.lit (.bool false)], args := [d1, d2, d3, d4] }
  | _ => none }
def FnIsAdminOneAssignmentAnyPlaceAnyCutWrongFalsely : Prop := fnIsAdminOneAssignmentAnyPlaceAnyCutRow.holds Try.pinned (OpenSpec.ofChange fnIsAdminOneAssignmentAnyPlaceAnyCutWrong)

/-- 'zzlaws_internal_access_b1.FnHoldsInOneAssignmentAnyPlaceAnyCut': WHATEVER THE INPUT: true; the input reads as it did. -/
def fnHoldsInOneAssignmentAnyPlaceAnyCutSpec : ChangeSpec := { name := "fnHoldsInOneAssignmentAnyPlaceAnyCut", fn := fun _ => fun
  | [d1, d2, d3, d4, d5, d6] => { results := [.lit (.bool true)], args := [d1, d2, d3, d4, d5, d6] }
  | _ => none }
def fnHoldsInOneAssignmentAnyPlaceAnyCutRow : OpenClaim := { program := "qxb6618129a", sum := "51c79deaff4ec9fc6364cccdbba0989b5a144b7e0c7af0009bf1ee785af5f7fe", func := "example.com/endow/endow/zzlaws_internal_access_b1.FnHoldsInOneAssignmentAnyPlaceAnyCut", spec := "fnHoldsInOneAssignmentAnyPlaceAnyCut", apart := false }
def FnHoldsInOneAssignmentAnyPlaceAnyCutSaid : Prop := fnHoldsInOneAssignmentAnyPlaceAnyCutRow.holds Try.pinned (OpenSpec.ofChange fnHoldsInOneAssignmentAnyPlaceAnyCutSpec)

/-- ITS FALSE NEIGHBOUR: 'it returns false'. Refute it at one input. -/
def fnHoldsInOneAssignmentAnyPlaceAnyCutWrong : ChangeSpec := { name := "fnHoldsInOneAssignmentAnyPlaceAnyCut", fn := fun _ => fun
  | [d1, d2, d3, d4, d5, d6] => { results := [.lit (.bool false)], args := [d1, d2, d3, d4, d5, d6] }
  | _ => none }
def FnHoldsInOneAssignmentAnyPlaceAnyCutWrongFalsely : Prop := fnHoldsInOneAssignmentAnyPlaceAnyCutRow.holds Try.pinned (OpenSpec.ofChange fnHoldsInOneAssignmentAnyPlaceAnyCutWrong)

/-- 'zzlaws_internal_access_b1.FnHoldsInGrantingARole': WHATEVER THE INPUT: true; the input reads as it did. -/
def fnHoldsInGrantingARoleSpec : ChangeSpec := { name := "fnHoldsInGrantingARole", fn := fun _ => fun
  | [d1, d2, d3, d4, d5, d6, d7, d8] => { results := [.lit (.bool true)], args := [d1, d2, d3, d4, d5, d6, d7, d8] }
  | _ => none }
def fnHoldsInGrantingARoleRow : OpenClaim := { program := "qxb6618129a", sum := "51c79deaff4ec9fc6364cccdbba0989b5a144b7e0c7af0009bf1ee785af5f7fe", func := "example.com/endow/endow/zzlaws_internal_access_b1.FnHoldsInGrantingARole", spec := "fnHoldsInGrantingARole", apart := false }
def FnHoldsInGrantingARoleSaid : Prop := fnHoldsInGrantingARoleRow.holds Try.pinned (OpenSpec.ofChange fnHoldsInGrantingARoleSpec)

/-- ITS FALSE NEIGHBOUR: 'it returns false'. Refute it at one input. -/
def fnHoldsInGrantingARoleWrong : ChangeSpec := { name := "fnHoldsInGrantingARole", fn := fun _ => fun
  | [d1, d2, d3, d4, d5, d6, d7, d8] => { results := [.lit (.bool false)], args := [d1, d2, d3, d4, d5, d6, d7, d8] }
  | _ => none }
def FnHoldsInGrantingARoleWrongFalsely : Prop := fnHoldsInGrantingARoleRow.holds Try.pinned (OpenSpec.ofChange fnHoldsInGrantingARoleWrong)

/-- 'zzlaws_internal_access_b1.FnAllowedOpensExactlyAtTheGate': WHATEVER THE INPUT: true; the input reads as it did. -/
def fnAllowedOpensExactlyAtTheGateSpec : ChangeSpec := { name := "fnAllowedOpensExactlyAtTheGate", fn := fun _ => fun
  | [d1, d2, d3, d4, d5, d6, d7, d8] => { results := [.lit (.bool true)], args := [d1, d2, d3, d4, d5, d6, d7, d8] }
  | _ => none }
def fnAllowedOpensExactlyAtTheGateRow : OpenClaim := { program := "qxb6618129a", sum := "51c79deaff4ec9fc6364cccdbba0989b5a144b7e0c7af0009bf1ee785af5f7fe", func := "example.com/endow/endow/zzlaws_internal_access_b1.FnAllowedOpensExactlyAtTheGate", spec := "fnAllowedOpensExactlyAtTheGate", apart := false }
def FnAllowedOpensExactlyAtTheGateSaid : Prop := fnAllowedOpensExactlyAtTheGateRow.holds Try.pinned (OpenSpec.ofChange fnAllowedOpensExactlyAtTheGateSpec)

/-- ITS FALSE NEIGHBOUR: 'it returns false'. Refute it at one input. -/
def fnAllowedOpensExactlyAtTheGateWrong : ChangeSpec := { name := "fnAllowedOpensExactlyAtTheGate", fn := fun _ => fun
  | [d1, d2, d3, d4, d5, d6, d7, d8] => { results := [.lit (.bool false)], args := [d1, d2, d3, d4, d5, d6, d7, d8] }
  | _ => none }
def FnAllowedOpensExactlyAtTheGateWrongFalsely : Prop := fnAllowedOpensExactlyAtTheGateRow.holds Try.pinned (OpenSpec.ofChange fnAllowedOpensExactlyAtTheGateWrong)

/-- 'zzlaws_internal_access_b1.FnAllowedGrantingARoleInTheProject': WHATEVER THE INPUT: true; the input reads as it did. -/
def fnAllowedGrantingARoleInTheProjectSpec : ChangeSpec := { name := "fnAllowedGrantingARoleInTheProject", fn := fun _ => fun
  | [d1, d2, d3, d4, d5, d6, d7, d8, d9, d10] => { results := [.lit (.bool true)], args := [d1, d2, d3, d4, d5, d6, d7, d8, d9, d10] }
  | _ => none }
def fnAllowedGrantingARoleInTheProjectRow : OpenClaim := { program := "qxb6618129a", sum := "51c79deaff4ec9fc6364cccdbba0989b5a144b7e0c7af0009bf1ee785af5f7fe", func := "example.com/endow/endow/zzlaws_internal_access_b1.FnAllowedGrantingARoleInTheProject", spec := "fnAllowedGrantingARoleInTheProject", apart := false }
def FnAllowedGrantingARoleInTheProjectSaid : Prop := fnAllowedGrantingARoleInTheProjectRow.holds Try.pinned (OpenSpec.ofChange fnAllowedGrantingARoleInTheProjectSpec)

/-- ITS FALSE NEIGHBOUR: 'it returns false'. Refute it at one input. -/
def fnAllowedGrantingARoleInTheProjectWrong : ChangeSpec := { name := "fnAllowedGrantingARoleInTheProject", fn := fun _ => fun
  | [d1, d2, d3, d4, d5, d6, d7, d8, d9, d10] => { results := [.lit (.bool false)], args := [d1, d2, d3, d4, d5, d6, d7, d8, d9, d10] }
  | _ => none }
def FnAllowedGrantingARoleInTheProjectWrongFalsely : Prop := fnAllowedGrantingARoleInTheProjectRow.holds Try.pinned (OpenSpec.ofChange fnAllowedGrantingARoleInTheProjectWrong)

end Rows
end Go.Proofs.Qxb6618129a
