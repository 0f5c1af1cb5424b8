/-
  FROM THE ROW's CONDITION 'laid' TO WHAT THE WALKS ASK: the two variables hold interface values; and the start that meets the condition: the heap that the variables' door leaves.
-/
import Derived.Test.Qxb6600902aDoorRows
import Derived.Test.Qxb6600902aDoorWalksB
import Derived.ProofKit
import Derived.LaidMore
import Derived.LaidLaws
import Derived.Stop.LaidErr
import Derived.Stop.Joined
namespace Go.Proofs.Qxb6600902aDoor
open Go.ChangeShapes Go.WideShapes Go.ChangeAt Go.RowKit

theorem own : ownKnob Tryd.prog.godebug = none := by kernel_rfl
theorem laidOut : laidOutB Tryd.prog = true := by kernel_rfl
theorem gErrS : Tryd.prog.globalNamed "strconv.ErrSyntax" = some 3 := by kernel_rfl
theorem gErrR : Tryd.prog.globalNamed "strconv.ErrRange" = some 4 := by kernel_rfl
theorem tErrS : (Tryd.prog.globals[3]?).map (·.type) = some 57 := by kernel_rfl
theorem tErrR : (Tryd.prog.globals[4]?).map (·.type) = some 57 := by kernel_rfl

/-- The head of the list, where it is an interface value. -/
theorem iface_of_laid {n nm : String} {d : DataW Unit} {r : List (String × DataW Unit)} {W : World} {g : Nat} {ti : TypeId} {ms : Array (String × TypeId)}
    (h : laidMet Tryd.prog ((n, .iface nm d) :: r) W) (hg : Tryd.prog.globalNamed n = some g) (ht : (Tryd.prog.globals[g]?).map (·.type) = some ti) (hi : Tryd.prog.underlying ti = some (.interface ms)) :
    ∃ tp p, W.var? Tryd.prog n = some #[.iface tp p] := by
  obtain ⟨ps, ⟨g0, t0, cs0, f0, p0, q0, hg0, ht0, hv0, hd0, _, e0⟩, _, hrows⟩ := h
  obtain rfl := Option.some.inj (hg.symm.trans hg0)
  obtain rfl := Option.some.inj (ht.symm.trans ht0)
  obtain ⟨f1, u, v, hcs, _, _⟩ := iface_of_trod hi hd0
  obtain ⟨l0⟩ := cs0
  have hcs' : l0 = [.iface u v] := hcs
  subst hcs'
  exact ⟨u, v, hv0⟩

/-- The rows' list. -/
def laidFive : List (String × DataW Unit) := Rows.fnRequiredNumberReadsItsDecimalRow.laid

theorem errs_of_laid {W : World} (h : laidMetH Tryd.prog laidFive W) : Errs W := by
  rw [MakeChecks.laidMetH_plain _ _ _ (by kernel_rfl)] at h
  have h3 := h.tail.tail.tail
  exact ⟨iface_of_laid h3.tail gErrS tErrS Tryd.underlying57, iface_of_laid h3 gErrR tErrR Tryd.underlying57⟩

/-- The door's own heap meets the condition: closed facts. -/
theorem door_met (os : Os) (args : Array Value) : laidMetH Tryd.prog laidFive ((World.doorLaid Tryd.prog 72 os).forCall (fun _ _ => 0) ⟨#[], args, []⟩).memory :=
  laidMetH_of_parts3 (fuel := 8) (laidMet_of_run' 8 (by kernel_rfl) (by kernel_rfl)) (by kernel_rfl) (by kernel_rfl)

end Go.Proofs.Qxb6600902aDoor
