/-
  DERIVED. GIVEN WITH THE SEED: THE CARDS: each row of YtkmdjpinpjcndaaDoorRows.lean that lists a variable, with what it lists TIED to the program's text (the seventh form; the later family's looks); each row that meets fmt, with fmt's text TOLD by the authors' own Lean function (tested against real Go, not proved from fmt's source: count such statements apart). THE CARD IS WHAT COUNTS. Prove the row's statement (the work); the ties are given (YtkmdjpinpjcndaaDoorTie.lean); close each card by the builder's one call (the guide's Derived/Test/ToyasCard.lean, 'card_holds'). Laid BY PROGRAM, IN A SANDBOX (cutbox-door.mjs). By AI agents, Wed Nov 11 2026. No macro, syntax, notation, axiom, sorry.
-/
import Derived.Test.YtkmdjpinpjcndaaDoorRows
import GoSem.ClaimSeven
namespace Go.Proofs.YtkmdjpinpjcndaaDoor
namespace Rows

/-- THE TIED CARD OF 'laws.FnAuLine'. -/
def fnAuLineCard : Claim7 := { stood := { row := fnAuLineRow, standIns := [], harness := (true, "28fc16ee44f81bd890d5f34670201ddf324d68bb35d2276676f73b9b6594ba0b"), looks := false }, kinds := [], alts := [], laidByText := true, laidKinds := [.sentinel], laidTests := true, laidLooks := .later }
def FnAuLineCardSaid : Prop := Claim7.holds Tryd.pinned (.plain (OpenSpec.ofChange fnAuLineSpec)) fnAuLineCard

/-- THE SECOND FORM's CARD OF 'laws.FnAuLine'. -/
def fnAuLineUptoCard : Claim7 := { stood := { row := fnAuLineUptoRow, standIns := [], harness := (true, "28fc16ee44f81bd890d5f34670201ddf324d68bb35d2276676f73b9b6594ba0b"), looks := false }, kinds := [], alts := [], laidByText := true, laidKinds := [.sentinel], laidTests := true, laidLooks := .later }
def FnAuLineUptoCardSaid : Prop := Claim7.holds Tryd.pinned (.plain (OpenSpec.upto fnAuLineSpec)) fnAuLineUptoCard
end Rows
end Go.Proofs.YtkmdjpinpjcndaaDoor
