/-
  NARROWER THAN 'FOR EVERY INPUT', by the rows' own cells (each row's printed sentence says how): FnAuOffer: laid · FnAuPieces: laid · FnAuRun: laid · FnAuSafe: laid.
  DERIVED. THE GIVEN ROWS OF THIS SEAT. 4 by the template 'for every input the law returns true; each argument reads behind the call as it read before'; 0 by the template 'total and deterministic' (their statements: YtkmdjpinpjcndaaGreatDoorTotals.lean).
  GIVEN WITH THE SEED: the statements are not yours to turn. If you find one false, say at which input.
  Laid BY PROGRAM, IN A SANDBOX (cutbox-rows.mjs): the forced cells as the released guide's own fill.sh prints them over the translation 57b78e9ee1f58e78… (all of the seat's roots in one cut). By AI agents, Wed Nov 11 2026. No macro, syntax, notation, axiom, sorry.
-/
import Derived.Test.YtkmdjpinpjcndaaGreatDoorChecked
import GoSem.Claim
import GoSem.ClaimJoined
import GoSem.ClaimMapViews
import Derived.JoinedTies
import Derived.KernelRfl
namespace Go.Proofs.YtkmdjpinpjcndaaGreatDoor
/- THE CELL 'sum', in the pinned program and in every row, IS THE sha256 OF THE DUMP (.gsa) THAT YtkmdjpinpjcndaaGreatDoorProg.lean LOADS. Nothing in Lean hashes anything: it is a label: what it is worth is what the hold of that sum in a sandbox is worth. -/
noncomputable def Tryz.pinned : Pinned := { name := "ytkmdjpinpjcndaagreatdoor", sum := "57b78e9ee1f58e78b5f8d202ca510d97a57d664567c3abb6630146612089d28e", checked := Tryz.checked }
namespace Rows
def none {H : Type} : Left H := { results := [], args := [] }

/- WHAT THE LISTED PACKAGE-LEVEL VARIABLES READ AS WHEN THE CALL BEGINS. Each datum BY PROGRAM (the guide's laid-datum.mjs) off the statement by which the dump's own 'gosem.cut.vars' lays the variable. In a bare row this is a premise. The card (YtkmdjpinpjcndaaGreatDoorCards.lean) ties it to the program's text. -/
def laid_io_ErrUnexpectedEOF {H : Type} : DataW H := .iface "*errors.errorString" (.ptr (.agg [.lit (.string [117, 110, 101, 120, 112, 101, 99, 116, 101, 100, 32, 69, 79, 70])]))
def laid_pub_curricle_pub_dbus_ErrClosed {H : Type} : DataW H := .iface "*errors.errorString" (.ptr (.agg [.lit (.string [100, 98, 117, 115, 58, 32, 99, 111, 110, 110, 101, 99, 116, 105, 111, 110, 32, 99, 108, 111, 115, 101, 100, 32, 98, 121, 32, 117, 115, 101, 114])]))

/-- 'laws.FnAuOffer': WHATEVER THE INPUT: true; the input reads as it did. -/
def fnAuOfferSpec : ChangeSpec := { name := "fnAuOffer", fn := fun _ => fun
  | [d1, d2, d3] => { results := [.lit (.bool true)], args := [d1, d2, d3] }
  | _ => none }
def fnAuOfferRow : OpenClaim := { program := "ytkmdjpinpjcndaagreatdoor", sum := "57b78e9ee1f58e78b5f8d202ca510d97a57d664567c3abb6630146612089d28e", func := "pub-curricle/laws.FnAuOffer", spec := "fnAuOffer", inPlace := ["internal/bytealg.IndexByte"], unfollowed := true, recurses := true, named := ["pub-curricle/pub/dbus.ErrClosed", "io.ErrUnexpectedEOF"], apart := false, laid := [("io.ErrUnexpectedEOF", laid_io_ErrUnexpectedEOF), ("pub-curricle/pub/dbus.ErrClosed", laid_pub_curricle_pub_dbus_ErrClosed)] }
def FnAuOfferSaid : Prop := fnAuOfferRow.holds Tryz.pinned (OpenSpec.ofChange fnAuOfferSpec)

/-- ITS FALSE NEIGHBOUR: 'it returns false'. Refute it at one input. -/
def fnAuOfferWrong : ChangeSpec := { name := "fnAuOffer", fn := fun _ => fun
  | [d1, d2, d3] => { results := [.lit (.bool false)], args := [d1, d2, d3] }
  | _ => none }
def FnAuOfferWrongFalsely : Prop := fnAuOfferRow.holds Tryz.pinned (OpenSpec.ofChange fnAuOfferWrong)

/-- 'laws.FnAuPieces': WHATEVER THE INPUT: true; the input reads as it did. -/
def fnAuPiecesSpec : ChangeSpec := { name := "fnAuPieces", fn := fun _ => fun
  | [d1, d2, d3, d4] => { results := [.lit (.bool true)], args := [d1, d2, d3, d4] }
  | _ => none }
def fnAuPiecesRow : OpenClaim := { program := "ytkmdjpinpjcndaagreatdoor", sum := "57b78e9ee1f58e78b5f8d202ca510d97a57d664567c3abb6630146612089d28e", func := "pub-curricle/laws.FnAuPieces", spec := "fnAuPieces", inPlace := ["internal/bytealg.IndexByte"], unfollowed := true, recurses := true, named := ["pub-curricle/pub/dbus.ErrClosed", "io.ErrUnexpectedEOF"], apart := false, laid := [("io.ErrUnexpectedEOF", laid_io_ErrUnexpectedEOF), ("pub-curricle/pub/dbus.ErrClosed", laid_pub_curricle_pub_dbus_ErrClosed)] }
def FnAuPiecesSaid : Prop := fnAuPiecesRow.holds Tryz.pinned (OpenSpec.ofChange fnAuPiecesSpec)

/-- ITS FALSE NEIGHBOUR: 'it returns false'. Refute it at one input. -/
def fnAuPiecesWrong : ChangeSpec := { name := "fnAuPieces", fn := fun _ => fun
  | [d1, d2, d3, d4] => { results := [.lit (.bool false)], args := [d1, d2, d3, d4] }
  | _ => none }
def FnAuPiecesWrongFalsely : Prop := fnAuPiecesRow.holds Tryz.pinned (OpenSpec.ofChange fnAuPiecesWrong)

/-- 'laws.FnAuRun': WHATEVER THE INPUT: true; the input reads as it did. -/
def fnAuRunSpec : ChangeSpec := { name := "fnAuRun", fn := fun _ => fun
  | [d1, d2, d3] => { results := [.lit (.bool true)], args := [d1, d2, d3] }
  | _ => none }
def fnAuRunRow : OpenClaim := { program := "ytkmdjpinpjcndaagreatdoor", sum := "57b78e9ee1f58e78b5f8d202ca510d97a57d664567c3abb6630146612089d28e", func := "pub-curricle/laws.FnAuRun", spec := "fnAuRun", inPlace := ["internal/bytealg.IndexByte"], unfollowed := true, recurses := true, named := ["pub-curricle/pub/dbus.ErrClosed", "io.ErrUnexpectedEOF"], apart := false, laid := [("io.ErrUnexpectedEOF", laid_io_ErrUnexpectedEOF), ("pub-curricle/pub/dbus.ErrClosed", laid_pub_curricle_pub_dbus_ErrClosed)] }
def FnAuRunSaid : Prop := fnAuRunRow.holds Tryz.pinned (OpenSpec.ofChange fnAuRunSpec)

/-- ITS FALSE NEIGHBOUR: 'it returns false'. Refute it at one input. -/
def fnAuRunWrong : ChangeSpec := { name := "fnAuRun", fn := fun _ => fun
  | [d1, d2, d3] => { results := [.lit (.bool false)], args := [d1, d2, d3] }
  | _ => none }
def FnAuRunWrongFalsely : Prop := fnAuRunRow.holds Tryz.pinned (OpenSpec.ofChange fnAuRunWrong)

/-- 'laws.FnAuSafe': WHATEVER THE INPUT: true; the input reads as it did. -/
def fnAuSafeSpec : ChangeSpec := { name := "fnAuSafe", fn := fun _ => fun
  | [d1, d2, d3] => { results := [.lit (.bool true)], args := [d1, d2, d3] }
  | _ => none }
def fnAuSafeRow : OpenClaim := { program := "ytkmdjpinpjcndaagreatdoor", sum := "57b78e9ee1f58e78b5f8d202ca510d97a57d664567c3abb6630146612089d28e", func := "pub-curricle/laws.FnAuSafe", spec := "fnAuSafe", inPlace := ["internal/bytealg.IndexByte"], unfollowed := true, recurses := true, named := ["pub-curricle/pub/dbus.ErrClosed", "io.ErrUnexpectedEOF"], apart := false, laid := [("io.ErrUnexpectedEOF", laid_io_ErrUnexpectedEOF), ("pub-curricle/pub/dbus.ErrClosed", laid_pub_curricle_pub_dbus_ErrClosed)] }
def FnAuSafeSaid : Prop := fnAuSafeRow.holds Tryz.pinned (OpenSpec.ofChange fnAuSafeSpec)

/-- ITS FALSE NEIGHBOUR: 'it returns false'. Refute it at one input. -/
def fnAuSafeWrong : ChangeSpec := { name := "fnAuSafe", fn := fun _ => fun
  | [d1, d2, d3] => { results := [.lit (.bool false)], args := [d1, d2, d3] }
  | _ => none }
def FnAuSafeWrongFalsely : Prop := fnAuSafeRow.holds Tryz.pinned (OpenSpec.ofChange fnAuSafeWrong)

/- THE SECOND FORM. 'bulk': how many values and letters a reading holds, each counted each time it is reached (what is shared counts as often as it is met; a slice's spare places count too). A statement '..UptoSaid' is the law's where the arguments, and the package variables that the reading takes, are together of bulk at most 1048576: NARROWER than '..Said'. Prove '..Said' where nothing that the law and all that it calls make is longer than what came in: it says more and counts as full. Else prove '..UptoSaid'. A law counts once. -/
mutual
def uptoBulk {H : Type} : DataW H → Nat
  | .lit (.string bytes) => bytes.length + 1
  | .lit _ => 1
  | .nil => 1
  | .ptr d => uptoBulk d + 1
  | .slice elems spare => uptoBulkAll elems + uptoBulkAll spare + 1
  | .agg parts => uptoBulkAll parts + 1
  | .iface _ d => uptoBulk d + 1
  | .map entries => uptoBulkEntries entries + 1
  | .held _ => 1
def uptoBulkAll {H : Type} : List (DataW H) → Nat
  | [] => 0
  | d :: r => uptoBulk d + uptoBulkAll r
def uptoBulkEntries {H : Type} : List (Lit × DataW H) → Nat
  | [] => 0
  | x :: r => uptoBulkEntry x + uptoBulkEntries r
def uptoBulkEntry {H : Type} : Lit × DataW H → Nat
  | (.string bytes, d) => bytes.length + uptoBulk d + 1
  | (_, d) => uptoBulk d + 1
 end
def uptoSmall : (H : Type) → List (DataW H) → Bool := fun _ ds => decide (uptoBulkAll ds ≤ 1048576)
def OpenSpec.upto (s : _root_.Go.ChangeSpec) : _root_.Go.OpenSpec := { _root_.Go.OpenSpec.ofChange s with cond := some uptoSmall }

/-- 'laws.FnAuOffer', WHERE WHAT IT READS IS OF BULK AT MOST 1048576: true; the input reads as it did. -/
def fnAuOfferUptoRow : OpenClaim := { program := "ytkmdjpinpjcndaagreatdoor", sum := "57b78e9ee1f58e78b5f8d202ca510d97a57d664567c3abb6630146612089d28e", func := "pub-curricle/laws.FnAuOffer", spec := "fnAuOffer", inPlace := ["internal/bytealg.IndexByte"], unfollowed := true, recurses := true, named := ["pub-curricle/pub/dbus.ErrClosed", "io.ErrUnexpectedEOF"], apart := false, laid := [("io.ErrUnexpectedEOF", laid_io_ErrUnexpectedEOF), ("pub-curricle/pub/dbus.ErrClosed", laid_pub_curricle_pub_dbus_ErrClosed)], narrowed := true }
def FnAuOfferUptoSaid : Prop := fnAuOfferUptoRow.holds Tryz.pinned (OpenSpec.upto fnAuOfferSpec)

/-- 'laws.FnAuPieces', WHERE WHAT IT READS IS OF BULK AT MOST 1048576: true; the input reads as it did. -/
def fnAuPiecesUptoRow : OpenClaim := { program := "ytkmdjpinpjcndaagreatdoor", sum := "57b78e9ee1f58e78b5f8d202ca510d97a57d664567c3abb6630146612089d28e", func := "pub-curricle/laws.FnAuPieces", spec := "fnAuPieces", inPlace := ["internal/bytealg.IndexByte"], unfollowed := true, recurses := true, named := ["pub-curricle/pub/dbus.ErrClosed", "io.ErrUnexpectedEOF"], apart := false, laid := [("io.ErrUnexpectedEOF", laid_io_ErrUnexpectedEOF), ("pub-curricle/pub/dbus.ErrClosed", laid_pub_curricle_pub_dbus_ErrClosed)], narrowed := true }
def FnAuPiecesUptoSaid : Prop := fnAuPiecesUptoRow.holds Tryz.pinned (OpenSpec.upto fnAuPiecesSpec)

/-- 'laws.FnAuRun', WHERE WHAT IT READS IS OF BULK AT MOST 1048576: true; the input reads as it did. -/
def fnAuRunUptoRow : OpenClaim := { program := "ytkmdjpinpjcndaagreatdoor", sum := "57b78e9ee1f58e78b5f8d202ca510d97a57d664567c3abb6630146612089d28e", func := "pub-curricle/laws.FnAuRun", spec := "fnAuRun", inPlace := ["internal/bytealg.IndexByte"], unfollowed := true, recurses := true, named := ["pub-curricle/pub/dbus.ErrClosed", "io.ErrUnexpectedEOF"], apart := false, laid := [("io.ErrUnexpectedEOF", laid_io_ErrUnexpectedEOF), ("pub-curricle/pub/dbus.ErrClosed", laid_pub_curricle_pub_dbus_ErrClosed)], narrowed := true }
def FnAuRunUptoSaid : Prop := fnAuRunUptoRow.holds Tryz.pinned (OpenSpec.upto fnAuRunSpec)

/-- 'laws.FnAuSafe', WHERE WHAT IT READS IS OF BULK AT MOST 1048576: true; the input reads as it did. -/
def fnAuSafeUptoRow : OpenClaim := { program := "ytkmdjpinpjcndaagreatdoor", sum := "57b78e9ee1f58e78b5f8d202ca510d97a57d664567c3abb6630146612089d28e", func := "pub-curricle/laws.FnAuSafe", spec := "fnAuSafe", inPlace := ["internal/bytealg.IndexByte"], unfollowed := true, recurses := true, named := ["pub-curricle/pub/dbus.ErrClosed", "io.ErrUnexpectedEOF"], apart := false, laid := [("io.ErrUnexpectedEOF", laid_io_ErrUnexpectedEOF), ("pub-curricle/pub/dbus.ErrClosed", laid_pub_curricle_pub_dbus_ErrClosed)], narrowed := true }
def FnAuSafeUptoSaid : Prop := fnAuSafeUptoRow.holds Tryz.pinned (OpenSpec.upto fnAuSafeSpec)

end Rows
end Go.Proofs.YtkmdjpinpjcndaaGreatDoor
