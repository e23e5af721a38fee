/-
  No cell of these rows narrows 'for every input' (looked for: loops, veiled, ifaces, maps, wideKeys, modest, calm, conditions, laid).
  DERIVED. THE GIVEN ROWS OF THIS SEAT. 1 by the template 'for every input the law returns true; each argument reads behind the call as it read before'; 0 by the template 'total and deterministic' (their statements: Qxb6618392aTotals.lean).
  GIVEN WITH THE SEED: the statements are not yours to turn. If you find one false, say at which input.
  Laid BY PROGRAM, IN A SANDBOX (cutbox-rows.mjs): the forced cells as the released guide's own fill.sh prints them over the translation ebdcfe5ff6e63085… (all of the seat's roots in one cut). By AI agents, Wed Nov 11 2026. No macro, syntax, notation, axiom, sorry.
-/
import Derived.Test.Qxb6618392aChecked
import GoSem.Claim
import GoSem.ClaimJoined
import GoSem.ClaimMapViews
import Derived.JoinedTies
import Derived.KernelRfl
namespace Go.Proofs.Qxb6618392a
/- THE CELL 'sum', in the pinned program and in every row, IS THE sha256 OF THE DUMP (.gsa) THAT Qxb6618392aProg.lean LOADS. Nothing in Lean hashes anything: it is a label: what it is worth is what the hold of that sum in a sandbox is worth. -/
noncomputable def Try.pinned : Pinned := { name := "qxb6618392a", sum := "ebdcfe5ff6e630852fa7552b7d2965f38a7479844af142f3a3d106160185aee6", checked := Try.checked }
namespace Rows
def none {H : Type} : Left H := { results := [], args := [] }

/-- 'zzlaws_internal_parser_b1.FnSkipDigitsJoinAtAnyCut': WHATEVER THE INPUT: true; the input reads as it did. -/
def fnSkipDigitsJoinAtAnyCutSpec : ChangeSpec := { name := "fnSkipDigitsJoinAtAnyCut", fn := fun _ => fun
  | [d1, d2, d3] => { results := [.lit (.bool true)], args := [d1, d2, d3] }
  | _ => none }
def fnSkipDigitsJoinAtAnyCutRow : OpenClaim := { program := "qxb6618392a", sum := "ebdcfe5ff6e630852fa7552b7d2965f38a7479844af142f3a3d106160185aee6", func := "example.com/clemency/clemency/zzlaws_internal_parser_b1.FnSkipDigitsJoinAtAnyCut", spec := "fnSkipDigitsJoinAtAnyCut", apart := false }
def FnSkipDigitsJoinAtAnyCutSaid : Prop := fnSkipDigitsJoinAtAnyCutRow.holds Try.pinned (OpenSpec.ofChange fnSkipDigitsJoinAtAnyCutSpec)

/-- ITS FALSE NEIGHBOUR: 'it returns false'. Refute it at one input. -/
def fnSkipDigitsJoinAtAnyCutWrong : ChangeSpec := { name := "fnSkipDigitsJoinAtAnyCut", fn := fun _ => fun
  | [d1, d2, d3] => { results := [.lit (.bool false)], args := [d1, d2, d3] }
  | _ => none }
def FnSkipDigitsJoinAtAnyCutWrongFalsely : Prop := fnSkipDigitsJoinAtAnyCutRow.holds Try.pinned (OpenSpec.ofChange fnSkipDigitsJoinAtAnyCutWrong)

end Rows
end Go.Proofs.Qxb6618392a
