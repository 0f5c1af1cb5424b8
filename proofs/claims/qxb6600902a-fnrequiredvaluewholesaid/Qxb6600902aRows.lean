/-
  No cell of these rows narrows 'for every input' (looked for: loops, veiled, ifaces, maps, wideKeys, modest, calm, conditions, laid).
  DERIVED. THE GIVEN ROWS OF THIS SEAT. 3 by the template 'for every input the law returns true; each argument reads behind the call as it read before'; 0 by the template 'total and deterministic' (their statements: Qxb6600902aTotals.lean).
  GIVEN WITH THE SEED: the statements are not yours to turn. If you find one false, say at which input.
  Laid BY PROGRAM, IN A SANDBOX (cutbox-rows.mjs): the forced cells as the released guide's own fill.sh prints them over the translation 33532fd8c824879f… (all of the seat's roots in one cut). By AI agents, Wed Nov 11 2026. No macro, syntax, notation, axiom, sorry.
-/
import Derived.Test.Qxb6600902aChecked
import GoSem.Claim
import GoSem.ClaimJoined
import GoSem.ClaimMapViews
import Derived.JoinedTies
import Derived.KernelRfl
namespace Go.Proofs.Qxb6600902a
/- THE CELL 'sum', in the pinned program and in every row, IS THE sha256 OF THE DUMP (.gsa) THAT Qxb6600902aProg.lean LOADS. Nothing in Lean hashes anything: it is a label: what it is worth is what the hold of that sum in a sandbox is worth. -/
noncomputable def Try.pinned : Pinned := { name := "qxb6600902a", sum := "33532fd8c824879f997149c34b6382c64bb9697d1cb912a53ae213a38c843022", checked := Try.checked }
namespace Rows
def none {H : Type} : Left H := { results := [], args := [] }

/-- 'zzlaws_root_b1.FnRequiredValueWhole': WHATEVER THE INPUT: true; the input reads as it did. -/
def fnRequiredValueWholeSpec : ChangeSpec := { name := "fnRequiredValueWhole", fn := fun _ => fun
  | [d1, d2, d3] => { results := [.lit (.bool true)], args := [d1, d2, d3] }
  | _ => none }
def fnRequiredValueWholeRow : OpenClaim := { program := "qxb6600902a", sum := "33532fd8c824879f997149c34b6382c64bb9697d1cb912a53ae213a38c843022", func := "example.com/upseal/upseal/zzlaws_root_b1.FnRequiredValueWhole", spec := "fnRequiredValueWhole", apart := false }
def FnRequiredValueWholeSaid : Prop := fnRequiredValueWholeRow.holds Try.pinned (OpenSpec.ofChange fnRequiredValueWholeSpec)

/-- ITS FALSE NEIGHBOUR: 'it returns false'. Refute it at one input. -/
def fnRequiredValueWholeWrong : ChangeSpec := { name := "fnRequiredValueWhole", fn := fun _ => fun
  | [d1, d2, d3] => { results := [.lit (.bool false)], args := [d1, d2, d3] }
  | _ => none }
def FnRequiredValueWholeWrongFalsely : Prop := fnRequiredValueWholeRow.holds Try.pinned (OpenSpec.ofChange fnRequiredValueWholeWrong)

/-- 'zzlaws_root_b1.FnRequiredValueOrderFree': WHATEVER THE INPUT: true; the input reads as it did. -/
def fnRequiredValueOrderFreeSpec : ChangeSpec := { name := "fnRequiredValueOrderFree", fn := fun _ => fun
  | [d1, d2, d3] => { results := [.lit (.bool true)], args := [d1, d2, d3] }
  | _ => none }
def fnRequiredValueOrderFreeRow : OpenClaim := { program := "qxb6600902a", sum := "33532fd8c824879f997149c34b6382c64bb9697d1cb912a53ae213a38c843022", func := "example.com/upseal/upseal/zzlaws_root_b1.FnRequiredValueOrderFree", spec := "fnRequiredValueOrderFree", apart := false }
def FnRequiredValueOrderFreeSaid : Prop := fnRequiredValueOrderFreeRow.holds Try.pinned (OpenSpec.ofChange fnRequiredValueOrderFreeSpec)

/-- ITS FALSE NEIGHBOUR: 'it returns false'. Refute it at one input. -/
def fnRequiredValueOrderFreeWrong : ChangeSpec := { name := "fnRequiredValueOrderFree", fn := fun _ => fun
  | [d1, d2, d3] => { results := [.lit (.bool false)], args := [d1, d2, d3] }
  | _ => none }
def FnRequiredValueOrderFreeWrongFalsely : Prop := fnRequiredValueOrderFreeRow.holds Try.pinned (OpenSpec.ofChange fnRequiredValueOrderFreeWrong)

/-- 'zzlaws_root_b1.FnRequiredValueIgnoresOtherNames': WHATEVER THE INPUT: true; the input reads as it did. -/
def fnRequiredValueIgnoresOtherNamesSpec : ChangeSpec := { name := "fnRequiredValueIgnoresOtherNames", fn := fun _ => fun
  | [d1, d2, d3, d4, d5] => { results := [.lit (.bool true)], args := [d1, d2, d3, d4, d5] }
  | _ => none }
def fnRequiredValueIgnoresOtherNamesRow : OpenClaim := { program := "qxb6600902a", sum := "33532fd8c824879f997149c34b6382c64bb9697d1cb912a53ae213a38c843022", func := "example.com/upseal/upseal/zzlaws_root_b1.FnRequiredValueIgnoresOtherNames", spec := "fnRequiredValueIgnoresOtherNames", apart := false }
def FnRequiredValueIgnoresOtherNamesSaid : Prop := fnRequiredValueIgnoresOtherNamesRow.holds Try.pinned (OpenSpec.ofChange fnRequiredValueIgnoresOtherNamesSpec)

/-- ITS FALSE NEIGHBOUR: 'it returns false'. Refute it at one input. -/
def fnRequiredValueIgnoresOtherNamesWrong : ChangeSpec := { name := "fnRequiredValueIgnoresOtherNames", fn := fun _ => fun
  | [d1, d2, d3, d4, d5] => { results := [.lit (.bool false)], args := [d1, d2, d3, d4, d5] }
  | _ => none }
def FnRequiredValueIgnoresOtherNamesWrongFalsely : Prop := fnRequiredValueIgnoresOtherNamesRow.holds Try.pinned (OpenSpec.ofChange fnRequiredValueIgnoresOtherNamesWrong)

end Rows
end Go.Proofs.Qxb6600902a
