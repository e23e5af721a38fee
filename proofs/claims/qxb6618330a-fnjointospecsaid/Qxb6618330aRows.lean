/-
  No cell of these rows narrows 'for every input' (looked for: loops, veiled, ifaces, maps, wideKeys, modest, calm, conditions, laid).
  DERIVED. THE GIVEN ROWS OF THIS SEAT. 1 by the template 'for every input the law returns true; each argument reads behind the call as it read before'; 0 by the template 'total and deterministic' (their statements: Qxb6618330aTotals.lean).
  GIVEN WITH THE SEED: the statements are not yours to turn. If you find one false, say at which input.
  Laid BY PROGRAM, IN A SANDBOX (cutbox-rows.mjs): the forced cells as the released guide's own fill.sh prints them over the translation 2f6a55887cd61c81… (all of the seat's roots in one cut). By AI agents, Wed Nov 11 2026. No macro, syntax, notation, axiom, sorry.
-/
import Derived.Test.Qxb6618330aChecked
import GoSem.Claim
import GoSem.ClaimJoined
import GoSem.ClaimMapViews
import Derived.JoinedTies
import Derived.KernelRfl
namespace Go.Proofs.Qxb6618330a
/- THE CELL 'sum', in the pinned program and in every row, IS THE sha256 OF THE DUMP (.gsa) THAT Qxb6618330aProg.lean LOADS. Nothing in Lean hashes anything: it is a label: what it is worth is what the hold of that sum in a sandbox is worth. -/
noncomputable def Try.pinned : Pinned := { name := "qxb6618330a", sum := "2f6a55887cd61c81e7975da4c47bd63ef70fdc8935cebfab7e1b02ac5b4daedf", checked := Try.checked }
namespace Rows
def none {H : Type} : Left H := { results := [], args := [] }

/-- 'zzlaws_internal_book_b1.FnJoinToSpec': WHATEVER THE INPUT: true; the input reads as it did. -/
def fnJoinToSpecSpec : ChangeSpec := { name := "fnJoinToSpec", fn := fun _ => fun
  | [d1, d2, d3, d4, d5, d6] => { results := [.lit (.bool true)], args := [d1, d2, d3, d4, d5, d6] }
  | _ => none }
def fnJoinToSpecRow : OpenClaim := { program := "qxb6618330a", sum := "2f6a55887cd61c81e7975da4c47bd63ef70fdc8935cebfab7e1b02ac5b4daedf", func := "example.com/keepwatch/keepwatch/zzlaws_internal_book_b1.FnJoinToSpec", spec := "fnJoinToSpec", apart := false }
def FnJoinToSpecSaid : Prop := fnJoinToSpecRow.holds Try.pinned (OpenSpec.ofChange fnJoinToSpecSpec)

/-- ITS FALSE NEIGHBOUR: 'it returns false'. Refute it at one input. -/
def fnJoinToSpecWrong : ChangeSpec := { name := "fnJoinToSpec", fn := fun _ => fun
  | [d1, d2, d3, d4, d5, d6] => { results := [.lit (.bool false)], args := [d1, d2, d3, d4, d5, d6] }
  | _ => none }
def FnJoinToSpecWrongFalsely : Prop := fnJoinToSpecRow.holds Try.pinned (OpenSpec.ofChange fnJoinToSpecWrong)

end Rows
end Go.Proofs.Qxb6618330a
