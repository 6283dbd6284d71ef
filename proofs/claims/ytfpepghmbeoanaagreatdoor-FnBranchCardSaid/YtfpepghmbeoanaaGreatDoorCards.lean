/-
  DERIVED. GIVEN WITH THE SEED: THE CARDS: each row of YtfpepghmbeoanaaGreatDoorRows.lean that lists a variable, with what it lists TIED to the program's text (the seventh form; the later family's looks); each row that meets fmt, with fmt's text TOLD by the authors' own Lean function (tested against real Go, not proved from fmt's source: count such statements apart). THE CARD IS WHAT COUNTS. Prove the row's statement (the work); the ties are given (YtfpepghmbeoanaaGreatDoorTie.lean); close each card by the builder's one call (the guide's Derived/Test/ToyasCard.lean, 'card_holds'). Laid BY PROGRAM, IN A SANDBOX (cutbox-door.mjs). By AI agents, Wed Nov 11 2026. No macro, syntax, notation, axiom, sorry.
-/
import Derived.Test.YtfpepghmbeoanaaGreatDoorRows
import GoSem.ClaimSeven
namespace Go.Proofs.YtfpepghmbeoanaaGreatDoor
namespace Rows

/-- THE TIED CARD OF 'laws.FnLzma'. -/
def fnLzmaCard : Claim7 := { stood := { row := fnLzmaRow, standIns := [], harness := (true, "676a4a4195a3e117174874cc6c84ea2e4bd974075cecc811ca7e0750561db798"), looks := true }, kinds := [], alts := [], laidByText := true, laidKinds := [.data, .data, .data, .sentinel, .sentinel, .sentinel, .sentinel, .sentinel, .sentinel, .sentinel, .sentinel, .sentinel, .sentinel, .sentinel, .sentinel, .sentinel, .sentinel, .sentinel, .sentinel, .sentinel], laidTests := true, laidLooks := .later }
def FnLzmaCardSaid : Prop := Claim7.holds Tryz.pinned (.plain (OpenSpec.ofChange fnLzmaSpec)) fnLzmaCard

/-- THE TIED CARD OF 'laws.FnLzma2'. -/
def fnLzma2Card : Claim7 := { stood := { row := fnLzma2Row, standIns := [], harness := (true, "676a4a4195a3e117174874cc6c84ea2e4bd974075cecc811ca7e0750561db798"), looks := true }, kinds := [], alts := [], laidByText := true, laidKinds := [.data, .data, .data, .sentinel, .sentinel, .sentinel, .sentinel, .sentinel, .sentinel, .sentinel, .sentinel, .sentinel, .sentinel, .sentinel, .sentinel, .sentinel, .sentinel, .sentinel, .sentinel, .sentinel], laidTests := true, laidLooks := .later }
def FnLzma2CardSaid : Prop := Claim7.holds Tryz.pinned (.plain (OpenSpec.ofChange fnLzma2Spec)) fnLzma2Card

/-- THE TIED CARD OF 'laws.FnBranch'. -/
def fnBranchCard : Claim7 := { stood := { row := fnBranchRow, standIns := [], harness := (true, "676a4a4195a3e117174874cc6c84ea2e4bd974075cecc811ca7e0750561db798"), looks := true }, kinds := [], alts := [], laidByText := true, laidKinds := [.data, .data, .data, .sentinel, .sentinel, .sentinel, .sentinel, .sentinel, .sentinel, .sentinel, .sentinel, .sentinel, .sentinel, .sentinel, .sentinel, .sentinel, .sentinel, .sentinel, .sentinel, .sentinel], laidTests := true, laidLooks := .later }
def FnBranchCardSaid : Prop := Claim7.holds Tryz.pinned (.plain (OpenSpec.ofChange fnBranchSpec)) fnBranchCard

/-- THE SECOND FORM's CARD OF 'laws.FnLzma'. -/
def fnLzmaUptoCard : Claim7 := { stood := { row := fnLzmaUptoRow, standIns := [], harness := (true, "676a4a4195a3e117174874cc6c84ea2e4bd974075cecc811ca7e0750561db798"), looks := true }, kinds := [], alts := [], laidByText := true, laidKinds := [.data, .data, .data, .sentinel, .sentinel, .sentinel, .sentinel, .sentinel, .sentinel, .sentinel, .sentinel, .sentinel, .sentinel, .sentinel, .sentinel, .sentinel, .sentinel, .sentinel, .sentinel, .sentinel], laidTests := true, laidLooks := .later }
def FnLzmaUptoCardSaid : Prop := Claim7.holds Tryz.pinned (.plain (OpenSpec.upto fnLzmaSpec)) fnLzmaUptoCard

/-- THE SECOND FORM's CARD OF 'laws.FnLzma2'. -/
def fnLzma2UptoCard : Claim7 := { stood := { row := fnLzma2UptoRow, standIns := [], harness := (true, "676a4a4195a3e117174874cc6c84ea2e4bd974075cecc811ca7e0750561db798"), looks := true }, kinds := [], alts := [], laidByText := true, laidKinds := [.data, .data, .data, .sentinel, .sentinel, .sentinel, .sentinel, .sentinel, .sentinel, .sentinel, .sentinel, .sentinel, .sentinel, .sentinel, .sentinel, .sentinel, .sentinel, .sentinel, .sentinel, .sentinel], laidTests := true, laidLooks := .later }
def FnLzma2UptoCardSaid : Prop := Claim7.holds Tryz.pinned (.plain (OpenSpec.upto fnLzma2Spec)) fnLzma2UptoCard

/-- THE SECOND FORM's CARD OF 'laws.FnBranch'. -/
def fnBranchUptoCard : Claim7 := { stood := { row := fnBranchUptoRow, standIns := [], harness := (true, "676a4a4195a3e117174874cc6c84ea2e4bd974075cecc811ca7e0750561db798"), looks := true }, kinds := [], alts := [], laidByText := true, laidKinds := [.data, .data, .data, .sentinel, .sentinel, .sentinel, .sentinel, .sentinel, .sentinel, .sentinel, .sentinel, .sentinel, .sentinel, .sentinel, .sentinel, .sentinel, .sentinel, .sentinel, .sentinel, .sentinel], laidTests := true, laidLooks := .later }
def FnBranchUptoCardSaid : Prop := Claim7.holds Tryz.pinned (.plain (OpenSpec.upto fnBranchSpec)) fnBranchUptoCard
end Rows
end Go.Proofs.YtfpepghmbeoanaaGreatDoor
