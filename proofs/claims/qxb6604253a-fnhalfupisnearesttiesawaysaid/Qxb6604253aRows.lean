/-
  No cell of these rows narrows 'for every input' (looked for: loops, veiled, ifaces, maps, wideKeys, modest, calm, conditions, laid).
  DERIVED. THE GIVEN ROWS OF THIS SEAT. 1 by the template 'for every input the law returns true; each argument reads behind the call as it read before'; 0 by the template 'total and deterministic' (their statements: Qxb6604253aTotals.lean).
  GIVEN WITH THE SEED: the statements are not yours to turn. If you find one false, say at which input.
  Laid BY PROGRAM, IN A SANDBOX (cutbox-rows.mjs): the forced cells as the released guide's own fill.sh prints them over the translation eb2da8f658245559… (all of the seat's roots in one cut). By AI agents, Wed Nov 11 2026. No macro, syntax, notation, axiom, sorry.
-/
import Derived.Test.Qxb6604253aChecked
import GoSem.Claim
import GoSem.ClaimJoined
import GoSem.ClaimMapViews
import Derived.JoinedTies
import Derived.KernelRfl
namespace Go.Proofs.Qxb6604253a
/- THE CELL 'sum', in the pinned program and in every row, IS THE sha256 OF THE DUMP (.gsa) THAT Qxb6604253aProg.lean LOADS. Nothing in Lean hashes anything: it is a label: what it is worth is what the hold of that sum in a sandbox is worth. -/
noncomputable def Try.pinned : Pinned := { name := "qxb6604253a", sum := "eb2da8f658245559139aee51b47d1bd5b9502eb06ca49380b85aad50ab1a6e6d", checked := Try.checked }
namespace Rows
def none {H : Type} : Left H := { results := [], args := [] }

/-- 'zzlaws_pkg_ratio_b1.FnHalfUpIsNearestTiesAway': WHATEVER THE INPUT: true; the input reads as it did. -/
def fnHalfUpIsNearestTiesAwaySpec : ChangeSpec := { name := "fnHalfUpIsNearestTiesAway", fn := fun _ => fun
  | [d1, d2, d3] => { results := [.lit (.bool true)], args := [d1, d2, d3] }
  | _ => none }
def fnHalfUpIsNearestTiesAwayRow : OpenClaim := { program := "qxb6604253a", sum := "eb2da8f658245559139aee51b47d1bd5b9502eb06ca49380b85aad50ab1a6e6d", func := "example.com/vestline/vestline/zzlaws_pkg_ratio_b1.FnHalfUpIsNearestTiesAway", spec := "fnHalfUpIsNearestTiesAway", apart := false }
def FnHalfUpIsNearestTiesAwaySaid : Prop := fnHalfUpIsNearestTiesAwayRow.holds Try.pinned (OpenSpec.ofChange fnHalfUpIsNearestTiesAwaySpec)

/-- ITS FALSE NEIGHBOUR: 'it returns false'. Refute it at one input. -/
def fnHalfUpIsNearestTiesAwayWrong : ChangeSpec := { name := "fnHalfUpIsNearestTiesAway", fn := fun _ => fun
  | [d1, d2, d3] => { results := [.lit (.bool false)], args := [d1, d2, d3] }
  | _ => none }
def FnHalfUpIsNearestTiesAwayWrongFalsely : Prop := fnHalfUpIsNearestTiesAwayRow.holds Try.pinned (OpenSpec.ofChange fnHalfUpIsNearestTiesAwayWrong)

end Rows
end Go.Proofs.Qxb6604253a
