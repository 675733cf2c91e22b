/-
  DERIVED. GIVEN WITH THE SEED: THE CARDS: each row of YtkmdjpinpjcndaaGreatDoorRows.lean that lists a variable, with what it lists TIED to the program's text (the seventh form; the later family's looks); each row that meets fmt, with fmt's text TOLD by the authors' own Lean function (tested against real Go, not proved from fmt's source: count such statements apart). THE CARD IS WHAT COUNTS. Prove the row's statement (the work); the ties are given (YtkmdjpinpjcndaaGreatDoorTie.lean); close each card by the builder's one call (the guide's Derived/Test/ToyasCard.lean, 'card_holds'). Laid BY PROGRAM, IN A SANDBOX (cutbox-door.mjs). By AI agents, Wed Nov 11 2026. No macro, syntax, notation, axiom, sorry.
-/
import Derived.Test.YtkmdjpinpjcndaaGreatDoorRows
import GoSem.ClaimSeven
namespace Go.Proofs.YtkmdjpinpjcndaaGreatDoor
namespace Rows

/-- THE TIED CARD OF 'laws.FnAuOffer'. -/
def fnAuOfferCard : Claim7 := { stood := { row := fnAuOfferRow, standIns := [], harness := (true, "063937732cbfb16630cb7cd0b030bc7236b8f96144b242d63ca12c190ad4ccc9"), looks := true }, kinds := [], alts := [], laidByText := true, laidKinds := [.sentinel, .sentinel], laidTests := true, laidLooks := .later }
def FnAuOfferCardSaid : Prop := Claim7.holds Tryz.pinned (.plain (OpenSpec.ofChange fnAuOfferSpec)) fnAuOfferCard

/-- THE TIED CARD OF 'laws.FnAuPieces'. -/
def fnAuPiecesCard : Claim7 := { stood := { row := fnAuPiecesRow, standIns := [], harness := (true, "063937732cbfb16630cb7cd0b030bc7236b8f96144b242d63ca12c190ad4ccc9"), looks := true }, kinds := [], alts := [], laidByText := true, laidKinds := [.sentinel, .sentinel], laidTests := true, laidLooks := .later }
def FnAuPiecesCardSaid : Prop := Claim7.holds Tryz.pinned (.plain (OpenSpec.ofChange fnAuPiecesSpec)) fnAuPiecesCard

/-- THE TIED CARD OF 'laws.FnAuRun'. -/
def fnAuRunCard : Claim7 := { stood := { row := fnAuRunRow, standIns := [], harness := (true, "063937732cbfb16630cb7cd0b030bc7236b8f96144b242d63ca12c190ad4ccc9"), looks := true }, kinds := [], alts := [], laidByText := true, laidKinds := [.sentinel, .sentinel], laidTests := true, laidLooks := .later }
def FnAuRunCardSaid : Prop := Claim7.holds Tryz.pinned (.plain (OpenSpec.ofChange fnAuRunSpec)) fnAuRunCard

/-- THE TIED CARD OF 'laws.FnAuSafe'. -/
def fnAuSafeCard : Claim7 := { stood := { row := fnAuSafeRow, standIns := [], harness := (true, "063937732cbfb16630cb7cd0b030bc7236b8f96144b242d63ca12c190ad4ccc9"), looks := true }, kinds := [], alts := [], laidByText := true, laidKinds := [.sentinel, .sentinel], laidTests := true, laidLooks := .later }
def FnAuSafeCardSaid : Prop := Claim7.holds Tryz.pinned (.plain (OpenSpec.ofChange fnAuSafeSpec)) fnAuSafeCard

/-- THE SECOND FORM's CARD OF 'laws.FnAuOffer'. -/
def fnAuOfferUptoCard : Claim7 := { stood := { row := fnAuOfferUptoRow, standIns := [], harness := (true, "063937732cbfb16630cb7cd0b030bc7236b8f96144b242d63ca12c190ad4ccc9"), looks := true }, kinds := [], alts := [], laidByText := true, laidKinds := [.sentinel, .sentinel], laidTests := true, laidLooks := .later }
def FnAuOfferUptoCardSaid : Prop := Claim7.holds Tryz.pinned (.plain (OpenSpec.upto fnAuOfferSpec)) fnAuOfferUptoCard

/-- THE SECOND FORM's CARD OF 'laws.FnAuPieces'. -/
def fnAuPiecesUptoCard : Claim7 := { stood := { row := fnAuPiecesUptoRow, standIns := [], harness := (true, "063937732cbfb16630cb7cd0b030bc7236b8f96144b242d63ca12c190ad4ccc9"), looks := true }, kinds := [], alts := [], laidByText := true, laidKinds := [.sentinel, .sentinel], laidTests := true, laidLooks := .later }
def FnAuPiecesUptoCardSaid : Prop := Claim7.holds Tryz.pinned (.plain (OpenSpec.upto fnAuPiecesSpec)) fnAuPiecesUptoCard

/-- THE SECOND FORM's CARD OF 'laws.FnAuRun'. -/
def fnAuRunUptoCard : Claim7 := { stood := { row := fnAuRunUptoRow, standIns := [], harness := (true, "063937732cbfb16630cb7cd0b030bc7236b8f96144b242d63ca12c190ad4ccc9"), looks := true }, kinds := [], alts := [], laidByText := true, laidKinds := [.sentinel, .sentinel], laidTests := true, laidLooks := .later }
def FnAuRunUptoCardSaid : Prop := Claim7.holds Tryz.pinned (.plain (OpenSpec.upto fnAuRunSpec)) fnAuRunUptoCard

/-- THE SECOND FORM's CARD OF 'laws.FnAuSafe'. -/
def fnAuSafeUptoCard : Claim7 := { stood := { row := fnAuSafeUptoRow, standIns := [], harness := (true, "063937732cbfb16630cb7cd0b030bc7236b8f96144b242d63ca12c190ad4ccc9"), looks := true }, kinds := [], alts := [], laidByText := true, laidKinds := [.sentinel, .sentinel], laidTests := true, laidLooks := .later }
def FnAuSafeUptoCardSaid : Prop := Claim7.holds Tryz.pinned (.plain (OpenSpec.upto fnAuSafeSpec)) fnAuSafeUptoCard
end Rows
end Go.Proofs.YtkmdjpinpjcndaaGreatDoor
