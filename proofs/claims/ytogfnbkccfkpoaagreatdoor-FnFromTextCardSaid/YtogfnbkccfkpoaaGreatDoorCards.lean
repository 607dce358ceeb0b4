/-
  DERIVED. GIVEN WITH THE SEED: THE CARDS: each row of YtogfnbkccfkpoaaGreatDoorRows.lean that lists a variable, with what it lists TIED to the program's text (the seventh form; the later family's looks); each row that meets fmt, with fmt's text TOLD by the authors' own Lean function (tested against real Go, not proved from fmt's source: count such statements apart). THE CARD IS WHAT COUNTS. Prove the row's statement (the work); the ties are given (YtogfnbkccfkpoaaGreatDoorTie.lean); close each card by the builder's one call (the guide's Derived/Test/ToyasCard.lean, 'card_holds'). Laid BY PROGRAM, IN A SANDBOX (cutbox-door.mjs). By AI agents, Wed Nov 11 2026. No macro, syntax, notation, axiom, sorry.
-/
import Derived.Test.YtogfnbkccfkpoaaGreatDoorRows
import GoSem.ClaimSeven
namespace Go.Proofs.YtogfnbkccfkpoaaGreatDoor
namespace Rows

/-- THE TIED CARD OF 'laws.FnFromText'. -/
def fnFromTextCard : Claim7 := { stood := { row := fnFromTextRow, standIns := [], harness := (true, "54a9b2a0a61d03053413e873ed51b85d1d7935363cf92bbfc6bfeb8ac8a4c45f"), looks := true }, kinds := [], alts := [], laidByText := true, laidKinds := [.data, .data, .data, .sentinel, .sentinel, .sentinel, .sentinel, .sentinel], laidTests := true, laidLooks := .later }
def FnFromTextCardSaid : Prop := Claim7.holds Tryz.pinned (.plain (OpenSpec.ofChange fnFromTextSpec)) fnFromTextCard

/-- THE SECOND FORM's CARD OF 'laws.FnFromText'. -/
def fnFromTextUptoCard : Claim7 := { stood := { row := fnFromTextUptoRow, standIns := [], harness := (true, "54a9b2a0a61d03053413e873ed51b85d1d7935363cf92bbfc6bfeb8ac8a4c45f"), looks := true }, kinds := [], alts := [], laidByText := true, laidKinds := [.data, .data, .data, .sentinel, .sentinel, .sentinel, .sentinel, .sentinel], laidTests := true, laidLooks := .later }
def FnFromTextUptoCardSaid : Prop := Claim7.holds Tryz.pinned (.plain (OpenSpec.upto fnFromTextSpec)) fnFromTextUptoCard
end Rows
end Go.Proofs.YtogfnbkccfkpoaaGreatDoor
