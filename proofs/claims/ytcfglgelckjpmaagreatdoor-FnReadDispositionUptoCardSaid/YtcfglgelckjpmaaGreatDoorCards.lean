/-
  DERIVED. GIVEN WITH THE SEED: THE CARDS: each row of YtcfglgelckjpmaaGreatDoorRows.lean that lists a variable, with what it lists TIED to the program's text (the seventh form; the later family's looks); each row that meets fmt, with fmt's text TOLD by the authors' own Lean function (tested against real Go, not proved from fmt's source: count such statements apart). THE CARD IS WHAT COUNTS. Prove the row's statement (the work); the ties are given (YtcfglgelckjpmaaGreatDoorTie.lean); close each card by the builder's one call (the guide's Derived/Test/ToyasCard.lean, 'card_holds'). Laid BY PROGRAM, IN A SANDBOX (cutbox-door.mjs). By AI agents, Wed Nov 11 2026. No macro, syntax, notation, axiom, sorry.
-/
import Derived.Test.YtcfglgelckjpmaaGreatDoorRows
import GoSem.ClaimSeven
namespace Go.Proofs.YtcfglgelckjpmaaGreatDoor
namespace Rows

/-- THE TIED CARD OF 'laws.FnReadClose'. -/
def fnReadCloseCard : Claim7 := { stood := { row := fnReadCloseRow, standIns := [], harness := (true, "eeedd05e35f24a4baf8f36bc5e1891bd5406232b2ee3e34e152befdc09ac0a58"), looks := true }, kinds := [], alts := [], laidByText := true, laidKinds := [.data, .sentinel, .pinned], laidTests := true, laidLooks := .later }
def FnReadCloseCardSaid : Prop := Claim7.holds Tryz.pinned (.plain (OpenSpec.ofChange fnReadCloseSpec)) fnReadCloseCard

/-- THE TIED CARD OF 'laws.FnReadOpen'. -/
def fnReadOpenCard : Claim7 := { stood := { row := fnReadOpenRow, standIns := [], harness := (true, "eeedd05e35f24a4baf8f36bc5e1891bd5406232b2ee3e34e152befdc09ac0a58"), looks := true }, kinds := [], alts := [], laidByText := true, laidKinds := [.data, .sentinel, .pinned], laidTests := true, laidLooks := .later }
def FnReadOpenCardSaid : Prop := Claim7.holds Tryz.pinned (.plain (OpenSpec.ofChange fnReadOpenSpec)) fnReadOpenCard

/-- THE TIED CARD OF 'laws.FnReadDisposition'. -/
def fnReadDispositionCard : Claim7 := { stood := { row := fnReadDispositionRow, standIns := [], harness := (true, "eeedd05e35f24a4baf8f36bc5e1891bd5406232b2ee3e34e152befdc09ac0a58"), looks := true }, kinds := [], alts := [], laidByText := true, laidKinds := [.data, .sentinel, .pinned], laidTests := true, laidLooks := .later }
def FnReadDispositionCardSaid : Prop := Claim7.holds Tryz.pinned (.plain (OpenSpec.ofChange fnReadDispositionSpec)) fnReadDispositionCard

/-- THE SECOND FORM's CARD OF 'laws.FnReadClose'. -/
def fnReadCloseUptoCard : Claim7 := { stood := { row := fnReadCloseUptoRow, standIns := [], harness := (true, "eeedd05e35f24a4baf8f36bc5e1891bd5406232b2ee3e34e152befdc09ac0a58"), looks := true }, kinds := [], alts := [], laidByText := true, laidKinds := [.data, .sentinel, .pinned], laidTests := true, laidLooks := .later }
def FnReadCloseUptoCardSaid : Prop := Claim7.holds Tryz.pinned (.plain (OpenSpec.upto fnReadCloseSpec)) fnReadCloseUptoCard

/-- THE SECOND FORM's CARD OF 'laws.FnReadOpen'. -/
def fnReadOpenUptoCard : Claim7 := { stood := { row := fnReadOpenUptoRow, standIns := [], harness := (true, "eeedd05e35f24a4baf8f36bc5e1891bd5406232b2ee3e34e152befdc09ac0a58"), looks := true }, kinds := [], alts := [], laidByText := true, laidKinds := [.data, .sentinel, .pinned], laidTests := true, laidLooks := .later }
def FnReadOpenUptoCardSaid : Prop := Claim7.holds Tryz.pinned (.plain (OpenSpec.upto fnReadOpenSpec)) fnReadOpenUptoCard

/-- THE SECOND FORM's CARD OF 'laws.FnReadDisposition'. -/
def fnReadDispositionUptoCard : Claim7 := { stood := { row := fnReadDispositionUptoRow, standIns := [], harness := (true, "eeedd05e35f24a4baf8f36bc5e1891bd5406232b2ee3e34e152befdc09ac0a58"), looks := true }, kinds := [], alts := [], laidByText := true, laidKinds := [.data, .sentinel, .pinned], laidTests := true, laidLooks := .later }
def FnReadDispositionUptoCardSaid : Prop := Claim7.holds Tryz.pinned (.plain (OpenSpec.upto fnReadDispositionSpec)) fnReadDispositionUptoCard
end Rows
end Go.Proofs.YtcfglgelckjpmaaGreatDoor
