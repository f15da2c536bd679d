/-
  DERIVED. GIVEN WITH THE SEED: THE CARDS: each row of YtkhicabfmkldpaaDoorRows.lean that lists a variable, with what it lists TIED to the program's text (the seventh form; the later family's looks); each row that meets fmt, with fmt's text TOLD by the authors' own Lean function (tested against real Go, not proved from fmt's source: count such statements apart). THE CARD IS WHAT COUNTS. Prove the row's statement (the work); the ties are given (YtkhicabfmkldpaaDoorTie.lean); close each card by the builder's one call (the guide's Derived/Test/ToyasCard.lean, 'card_holds'). Laid BY PROGRAM, IN A SANDBOX (cutbox-door.mjs). By AI agents, Wed Nov 11 2026. No macro, syntax, notation, axiom, sorry.
-/
import Derived.Test.YtkhicabfmkldpaaDoorRows
import GoSem.ClaimSeven
namespace Go.Proofs.YtkhicabfmkldpaaDoor
namespace Rows

/-- THE TIED CARD OF 'laws.FnVMLoops'. -/
def fnVMLoopsCard : Claim7 := { stood := { row := fnVMLoopsRow, standIns := [], harness := (true, "2a827e8b796c4150bef598aa5f8718615a8690889b34e724c66e0a890636664c"), looks := true }, kinds := [], alts := [], laidByText := true, laidKinds := [.sentinel, .sentinel, .sentinel], laidTests := true, laidLooks := .later }
def FnVMLoopsCardSaid : Prop := Claim7.holds Tryd.pinned (.plain (OpenSpec.ofChange fnVMLoopsSpec)) fnVMLoopsCard

/-- THE SECOND FORM's CARD OF 'laws.FnVMLoops'. -/
def fnVMLoopsUptoCard : Claim7 := { stood := { row := fnVMLoopsUptoRow, standIns := [], harness := (true, "2a827e8b796c4150bef598aa5f8718615a8690889b34e724c66e0a890636664c"), looks := true }, kinds := [], alts := [], laidByText := true, laidKinds := [.sentinel, .sentinel, .sentinel], laidTests := true, laidLooks := .later }
def FnVMLoopsUptoCardSaid : Prop := Claim7.holds Tryd.pinned (.plain (OpenSpec.upto fnVMLoopsSpec)) fnVMLoopsUptoCard
end Rows
end Go.Proofs.YtkhicabfmkldpaaDoor
