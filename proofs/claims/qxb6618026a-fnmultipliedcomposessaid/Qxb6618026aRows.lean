/-
  No cell of these rows narrows 'for every input' (looked for: loops, veiled, ifaces, maps, wideKeys, modest, calm, conditions, laid).
  DERIVED. THE GIVEN ROWS OF THIS SEAT. 4 by the template 'for every input the law returns true; each argument reads behind the call as it read before'; 0 by the template 'total and deterministic' (their statements: Qxb6618026aTotals.lean).
  GIVEN WITH THE SEED: the statements are not yours to turn. If you find one false, say at which input.
  Laid BY PROGRAM, IN A SANDBOX (cutbox-rows.mjs): the forced cells as the released guide's own fill.sh prints them over the translation 6a4e296607615ac2… (all of the seat's roots in one cut). By AI agents, Wed Nov 11 2026. No macro, syntax, notation, axiom, sorry.
-/
import Derived.Test.Qxb6618026aChecked
import GoSem.Claim
import GoSem.ClaimJoined
import GoSem.ClaimMapViews
import Derived.JoinedTies
import Derived.KernelRfl
namespace Go.Proofs.Qxb6618026a
/- THE CELL 'sum', in the pinned program and in every row, IS THE sha256 OF THE DUMP (.gsa) THAT Qxb6618026aProg.lean LOADS. Nothing in Lean hashes anything: it is a label: what it is worth is what the hold of that sum in a sandbox is worth. -/
noncomputable def Try.pinned : Pinned := { name := "qxb6618026a", sum := "6a4e296607615ac28bbcab2c9056f19630fba2a9dbb18bf0a67ec502a658182e", checked := Try.checked }
namespace Rows
def none {H : Type} : Left H := { results := [], args := [] }

/-- 'zzlaws_sim_b1.FnUtf16UnitReadsFourHexDigits': WHATEVER THE INPUT: true; the input reads as it did. -/
def fnUtf16UnitReadsFourHexDigitsSpec : ChangeSpec := { name := "fnUtf16UnitReadsFourHexDigits", fn := fun _ => fun
  | [d] => { results := [.lit (.bool true)], args := [d] }
  | _ => none }
def fnUtf16UnitReadsFourHexDigitsRow : OpenClaim := { program := "qxb6618026a", sum := "6a4e296607615ac28bbcab2c9056f19630fba2a9dbb18bf0a67ec502a658182e", func := "example.com/tidewatch/tidewatch/zzlaws_sim_b1.FnUtf16UnitReadsFourHexDigits", spec := "fnUtf16UnitReadsFourHexDigits", apart := false }
def FnUtf16UnitReadsFourHexDigitsSaid : Prop := fnUtf16UnitReadsFourHexDigitsRow.holds Try.pinned (OpenSpec.ofChange fnUtf16UnitReadsFourHexDigitsSpec)

/-- ITS FALSE NEIGHBOUR: 'it returns false'. Refute it at one input. -/
def fnUtf16UnitReadsFourHexDigitsWrong : ChangeSpec := { name := "fnUtf16UnitReadsFourHexDigits", fn := fun _ => fun
  | [d] => { results := [.lit (.bool false)], args := [d] }
  | _ => none }
def FnUtf16UnitReadsFourHexDigitsWrongFalsely : Prop := fnUtf16UnitReadsFourHexDigitsRow.holds Try.pinned (OpenSpec.ofChange fnUtf16UnitReadsFourHexDigitsWrong)

/-- 'zzlaws_sim_b1.FnUtf16UnitIgnoresWhatFollows': WHATEVER THE INPUT: true; the input reads as it did. -/
def fnUtf16UnitIgnoresWhatFollowsSpec : ChangeSpec := { name := "fnUtf16UnitIgnoresWhatFollows", fn := fun _ => fun
  | [d1, d2] => { results := [.lit (.bool true)], args := [d1, d2] }
  | _ => none }
def fnUtf16UnitIgnoresWhatFollowsRow : OpenClaim := { program := "qxb6618026a", sum := "6a4e296607615ac28bbcab2c9056f19630fba2a9dbb18bf0a67ec502a658182e", func := "example.com/tidewatch/tidewatch/zzlaws_sim_b1.FnUtf16UnitIgnoresWhatFollows", spec := "fnUtf16UnitIgnoresWhatFollows", apart := false }
def FnUtf16UnitIgnoresWhatFollowsSaid : Prop := fnUtf16UnitIgnoresWhatFollowsRow.holds Try.pinned (OpenSpec.ofChange fnUtf16UnitIgnoresWhatFollowsSpec)

/-- ITS FALSE NEIGHBOUR: 'it returns false'. Refute it at one input. -/
def fnUtf16UnitIgnoresWhatFollowsWrong : ChangeSpec := { name := "fnUtf16UnitIgnoresWhatFollows", fn := fun _ => fun
  | [d1, d2] => { results := [.lit (.bool false)], args := [d1, d2] }
  | _ => none }
def FnUtf16UnitIgnoresWhatFollowsWrongFalsely : Prop := fnUtf16UnitIgnoresWhatFollowsRow.holds Try.pinned (OpenSpec.ofChange fnUtf16UnitIgnoresWhatFollowsWrong)

/-- 'zzlaws_sim_b1.FnMultipliedUndoneByDividing': WHATEVER THE INPUT: true; the input reads as it did. -/
def fnMultipliedUndoneByDividingSpec : ChangeSpec := { name := "fnMultipliedUndoneByDividing", fn := fun _ => fun
  | [d1, d2] => { results := [.lit (.bool true)], args := [d1, d2] }
  | _ => none }
def fnMultipliedUndoneByDividingRow : OpenClaim := { program := "qxb6618026a", sum := "6a4e296607615ac28bbcab2c9056f19630fba2a9dbb18bf0a67ec502a658182e", func := "example.com/tidewatch/tidewatch/zzlaws_sim_b1.FnMultipliedUndoneByDividing", spec := "fnMultipliedUndoneByDividing", apart := false }
def FnMultipliedUndoneByDividingSaid : Prop := fnMultipliedUndoneByDividingRow.holds Try.pinned (OpenSpec.ofChange fnMultipliedUndoneByDividingSpec)

/-- ITS FALSE NEIGHBOUR: 'it returns false'. Refute it at one input. -/
def fnMultipliedUndoneByDividingWrong : ChangeSpec := { name := "fnMultipliedUndoneByDividing", fn := fun _ => fun
  | [d1, d2] => { results := [.lit (.bool false)], args := [d1, d2] }
  | _ => none }
def FnMultipliedUndoneByDividingWrongFalsely : Prop := fnMultipliedUndoneByDividingRow.holds Try.pinned (OpenSpec.ofChange fnMultipliedUndoneByDividingWrong)

/-- 'zzlaws_sim_b1.FnMultipliedComposes': WHATEVER THE INPUT: true; the input reads as it did. -/
def fnMultipliedComposesSpec : ChangeSpec := { name := "fnMultipliedComposes", fn := fun _ => fun
  | [d1, d2, d3] => { results := [.lit (.bool true)], args := [d1, d2, d3] }
  | _ => none }
def fnMultipliedComposesRow : OpenClaim := { program := "qxb6618026a", sum := "6a4e296607615ac28bbcab2c9056f19630fba2a9dbb18bf0a67ec502a658182e", func := "example.com/tidewatch/tidewatch/zzlaws_sim_b1.FnMultipliedComposes", spec := "fnMultipliedComposes", apart := false }
def FnMultipliedComposesSaid : Prop := fnMultipliedComposesRow.holds Try.pinned (OpenSpec.ofChange fnMultipliedComposesSpec)

/-- ITS FALSE NEIGHBOUR: 'it returns false'. Refute it at one input. -/
def fnMultipliedComposesWrong : ChangeSpec := { name := "fnMultipliedComposes", fn := fun _ => fun
  | [d1, d2, d3] => { results := [.lit (.bool false)], args := [d1, d2, d3] }
  | _ => none }
def FnMultipliedComposesWrongFalsely : Prop := fnMultipliedComposesRow.holds Try.pinned (OpenSpec.ofChange fnMultipliedComposesWrong)

end Rows
end Go.Proofs.Qxb6618026a
