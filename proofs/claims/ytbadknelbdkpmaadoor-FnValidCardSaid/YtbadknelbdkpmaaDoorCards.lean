/-
  DERIVED. GIVEN WITH THE SEED: THE CARDS: each row of YtbadknelbdkpmaaDoorRows.lean that lists a variable, with what it lists TIED to the program's text (the seventh form; the later family's looks); each row that meets fmt, with fmt's text TOLD by the authors' own Lean function (tested against real Go, not proved from fmt's source: count such statements apart). THE CARD IS WHAT COUNTS. Prove the row's statement (the work); the ties are given (YtbadknelbdkpmaaDoorTie.lean); close each card by the builder's one call (the guide's Derived/Test/ToyasCard.lean, 'card_holds'). Laid BY PROGRAM, IN A SANDBOX (cutbox-door.mjs). By AI agents, Wed Nov 11 2026. No macro, syntax, notation, axiom, sorry.
-/
import Derived.Test.YtbadknelbdkpmaaDoorRows
import GoSem.ClaimSeven
namespace Go.Proofs.YtbadknelbdkpmaaDoor
namespace Rows

/-- THE TIED CARD OF 'laws.FnValid'. -/
def fnValidCard : Claim7 := { stood := { row := fnValidRow, standIns := [], harness := (true, "3675a03e54e13e4ab6c924fcd9e7b046ec9758bb7f480ab249546f7f1baa5c13"), looks := true }, kinds := [], alts := [], laidByText := true, laidKinds := [.sentinel, .sentinel, .sentinel], laidTests := true, laidLooks := .later }
def FnValidCardSaid : Prop := Claim7.holds Tryd.pinned (.plain (OpenSpec.ofChange fnValidSpec)) fnValidCard

/-- THE SECOND FORM's CARD OF 'laws.FnValid'. -/
def fnValidUptoCard : Claim7 := { stood := { row := fnValidUptoRow, standIns := [], harness := (true, "3675a03e54e13e4ab6c924fcd9e7b046ec9758bb7f480ab249546f7f1baa5c13"), looks := true }, kinds := [], alts := [], laidByText := true, laidKinds := [.sentinel, .sentinel, .sentinel], laidTests := true, laidLooks := .later }
def FnValidUptoCardSaid : Prop := Claim7.holds Tryd.pinned (.plain (OpenSpec.upto fnValidSpec)) fnValidUptoCard
end Rows
end Go.Proofs.YtbadknelbdkpmaaDoor
