/-
  DERIVED. GIVEN WITH THE SEED: THE CARDS: each row of Qxb6600902aDoorRows.lean that lists a variable, with what it lists TIED to the program's text (the seventh form; the later family's looks); each row that meets fmt, with fmt's text TOLD by the authors' own Lean function (tested against real Go, not proved from fmt's source: count such statements apart). THE CARD IS WHAT COUNTS. Prove the row's statement (the work); the ties are given (Qxb6600902aDoorTie.lean); close each card by the builder's one call (the guide's Derived/Test/ToyasCard.lean, 'card_holds'). Laid BY PROGRAM, IN A SANDBOX (cutbox-door.mjs). By AI agents, Wed Nov 11 2026. No macro, syntax, notation, axiom, sorry.
-/
import Derived.Test.Qxb6600902aDoorRows
import GoSem.ClaimSeven
namespace Go.Proofs.Qxb6600902aDoor
namespace Rows

/-- THE TIED CARD OF 'zzlaws_root_b1.FnUploadPairsWhole'. -/
def fnUploadPairsWholeCard : Claim7 := { stood := { row := fnUploadPairsWholeRow, standIns := [], harness := (true, "4ac6fa37908e686ab745c1b5d238a855358ca84174d3e385a93982dafbf1c389"), looks := true }, kinds := [], alts := [], laidByText := true, laidKinds := [.data, .pinned], laidTests := true, laidLooks := .later }
def FnUploadPairsWholeCardSaid : Prop := Claim7.holds Tryd.pinned (.plain (OpenSpec.ofChange fnUploadPairsWholeSpec)) fnUploadPairsWholeCard

/-- THE TIED CARD OF 'zzlaws_root_b1.FnUploadPairsConcat'. -/
def fnUploadPairsConcatCard : Claim7 := { stood := { row := fnUploadPairsConcatRow, standIns := [], harness := (true, "4ac6fa37908e686ab745c1b5d238a855358ca84174d3e385a93982dafbf1c389"), looks := true }, kinds := [], alts := [], laidByText := true, laidKinds := [.data, .pinned], laidTests := true, laidLooks := .later }
def FnUploadPairsConcatCardSaid : Prop := Claim7.holds Tryd.pinned (.plain (OpenSpec.ofChange fnUploadPairsConcatSpec)) fnUploadPairsConcatCard

/-- THE TIED CARD OF 'zzlaws_root_b1.FnRequiredNumberWhole'. -/
def fnRequiredNumberWholeCard : Claim7 := { stood := { row := fnRequiredNumberWholeRow, standIns := [], harness := (true, "4ac6fa37908e686ab745c1b5d238a855358ca84174d3e385a93982dafbf1c389"), looks := true }, kinds := [], alts := [], laidByText := true, laidKinds := [.data, .data, .data, .sentinel, .sentinel], laidTests := true, laidLooks := .later }
def FnRequiredNumberWholeCardSaid : Prop := Claim7.holds Tryd.pinned (.plain (OpenSpec.ofChange fnRequiredNumberWholeSpec)) fnRequiredNumberWholeCard

/-- THE TIED CARD OF 'zzlaws_root_b1.FnRequiredNumberLimitThreshold'. -/
def fnRequiredNumberLimitThresholdCard : Claim7 := { stood := { row := fnRequiredNumberLimitThresholdRow, standIns := [], harness := (true, "4ac6fa37908e686ab745c1b5d238a855358ca84174d3e385a93982dafbf1c389"), looks := true }, kinds := [], alts := [], laidByText := true, laidKinds := [.data, .data, .data, .sentinel, .sentinel], laidTests := true, laidLooks := .later }
def FnRequiredNumberLimitThresholdCardSaid : Prop := Claim7.holds Tryd.pinned (.plain (OpenSpec.ofChange fnRequiredNumberLimitThresholdSpec)) fnRequiredNumberLimitThresholdCard

/-- THE TIED CARD OF 'zzlaws_root_b1.FnRequiredNumberReadsItsDecimal'. -/
def fnRequiredNumberReadsItsDecimalCard : Claim7 := { stood := { row := fnRequiredNumberReadsItsDecimalRow, standIns := [], harness := (true, "4ac6fa37908e686ab745c1b5d238a855358ca84174d3e385a93982dafbf1c389"), looks := true }, kinds := [], alts := [], laidByText := true, laidKinds := [.data, .data, .data, .sentinel, .sentinel], laidTests := true, laidLooks := .later }
def FnRequiredNumberReadsItsDecimalCardSaid : Prop := Claim7.holds Tryd.pinned (.plain (OpenSpec.ofChange fnRequiredNumberReadsItsDecimalSpec)) fnRequiredNumberReadsItsDecimalCard
end Rows
end Go.Proofs.Qxb6600902aDoor
