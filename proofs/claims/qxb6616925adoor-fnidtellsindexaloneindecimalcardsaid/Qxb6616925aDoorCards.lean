/-
  DERIVED. GIVEN WITH THE SEED: THE CARDS: each row of Qxb6616925aDoorRows.lean that lists a variable, with what it lists TIED to the program's text (the seventh form; the later family's looks); each row that meets fmt, with fmt's text TOLD by the authors' own Lean function (tested against real Go, not proved from fmt's source: count such statements apart). THE CARD IS WHAT COUNTS. Prove the row's statement (the work); the ties are given (Qxb6616925aDoorTie.lean); close each card by the builder's one call (the guide's Derived/Test/ToyasCard.lean, 'card_holds'). Laid BY PROGRAM, IN A SANDBOX (cutbox-door.mjs). By AI agents, Wed Nov 11 2026. No macro, syntax, notation, axiom, sorry.
-/
import Derived.Test.Qxb6616925aDoorRows
import GoSem.ClaimSeven
namespace Go.Proofs.Qxb6616925aDoor
namespace Rows

/-- THE TIED CARD OF 'zzlaws_playbook_b1.FnIDTellsIndexAloneInDecimal'. -/
def fnIDTellsIndexAloneInDecimalCard : Claim7 := { stood := { row := fnIDTellsIndexAloneInDecimalRow, standIns := [], harness := (true, "8acfb314f7c48e23230a1a341fbc7e0249851a05c094c541358f62dfb0a6420a"), looks := false }, kinds := [], alts := [], laidByText := true, laidKinds := [.data, .data, .data], laidTests := true, laidLooks := .later }
def FnIDTellsIndexAloneInDecimalCardSaid : Prop := Claim7.holds Tryd.pinned (.plain (OpenSpec.ofChange fnIDTellsIndexAloneInDecimalSpec)) fnIDTellsIndexAloneInDecimalCard

/-- THE TIED CARD OF 'zzlaws_playbook_b1.FnIDShortlexOrderFollowsIndex'. -/
def fnIDShortlexOrderFollowsIndexCard : Claim7 := { stood := { row := fnIDShortlexOrderFollowsIndexRow, standIns := [], harness := (true, "8acfb314f7c48e23230a1a341fbc7e0249851a05c094c541358f62dfb0a6420a"), looks := false }, kinds := [], alts := [], laidByText := true, laidKinds := [.data, .data, .data], laidTests := true, laidLooks := .later }
def FnIDShortlexOrderFollowsIndexCardSaid : Prop := Claim7.holds Tryd.pinned (.plain (OpenSpec.ofChange fnIDShortlexOrderFollowsIndexSpec)) fnIDShortlexOrderFollowsIndexCard
end Rows
end Go.Proofs.Qxb6616925aDoor
