/-
  DERIVED. GIVEN WITH THE SEED: THE CARDS: each row of Qxb6616481aDoorRows.lean that lists a variable, with what it lists TIED to the program's text (the seventh form; the later family's looks); each row that meets fmt, with fmt's text TOLD by the authors' own Lean function (tested against real Go, not proved from fmt's source: count such statements apart). THE CARD IS WHAT COUNTS. Prove the row's statement (the work); the ties are given (Qxb6616481aDoorTie.lean); close each card by the builder's one call (the guide's Derived/Test/ToyasCard.lean, 'card_holds'). Laid BY PROGRAM, IN A SANDBOX (cutbox-door.mjs). By AI agents, Wed Nov 11 2026. No macro, syntax, notation, axiom, sorry.
-/
import Derived.Test.Qxb6616481aDoorRows
import GoSem.ClaimSeven
namespace Go.Proofs.Qxb6616481aDoor
namespace Rows

/-- THE TIED CARD OF 'zzlaws_pkg_wire_b1.FnReaderBytesSplitReadAgreesWithWholeRead'. -/
def fnReaderBytesSplitReadAgreesWithWholeReadCard : Claim7 := { stood := { row := fnReaderBytesSplitReadAgreesWithWholeReadRow, standIns := [], harness := (true, "73b174ed2f6e907e321441ca135be6e217f067dd17fa463aba37dae0dab9714f"), looks := true }, kinds := [], alts := [], laidByText := true, laidKinds := [.sentinel], laidTests := true, laidLooks := .later }
def FnReaderBytesSplitReadAgreesWithWholeReadCardSaid : Prop := Claim7.holds Tryd.pinned (.plain (OpenSpec.ofChange fnReaderBytesSplitReadAgreesWithWholeReadSpec)) fnReaderBytesSplitReadAgreesWithWholeReadCard

/-- THE TIED CARD OF 'zzlaws_pkg_wire_b1.FnReadProofReadsConsecutiveBlocksThenFails'. -/
def fnReadProofReadsConsecutiveBlocksThenFailsCard : Claim7 := { stood := { row := fnReadProofReadsConsecutiveBlocksThenFailsRow, standIns := [], harness := (true, "73b174ed2f6e907e321441ca135be6e217f067dd17fa463aba37dae0dab9714f"), looks := true }, kinds := [], alts := [], laidByText := true, laidKinds := [.sentinel, .sentinel, .sentinel], laidTests := true, laidLooks := .later }
def FnReadProofReadsConsecutiveBlocksThenFailsCardSaid : Prop := Claim7.holds Tryd.pinned (.plain (OpenSpec.ofChange fnReadProofReadsConsecutiveBlocksThenFailsSpec)) fnReadProofReadsConsecutiveBlocksThenFailsCard

/-- THE TIED CARD OF 'zzlaws_pkg_wire_b1.FnReadProofIsTheCallersOwn'. -/
def fnReadProofIsTheCallersOwnCard : Claim7 := { stood := { row := fnReadProofIsTheCallersOwnRow, standIns := [], harness := (true, "73b174ed2f6e907e321441ca135be6e217f067dd17fa463aba37dae0dab9714f"), looks := true }, kinds := [], alts := [], laidByText := true, laidKinds := [.sentinel, .sentinel, .sentinel], laidTests := true, laidLooks := .later }
def FnReadProofIsTheCallersOwnCardSaid : Prop := Claim7.holds Tryd.pinned (.plain (OpenSpec.ofChange fnReadProofIsTheCallersOwnSpec)) fnReadProofIsTheCallersOwnCard
end Rows
end Go.Proofs.Qxb6616481aDoor
