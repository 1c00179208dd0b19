/-
  DERIVED. GIVEN WITH THE SEED: THE CARDS: each row of YthkgjhnckakliaaGreatDoorRRows.lean that lists a variable, with what it lists TIED to the program's text (the seventh form; the later family's looks); each row that meets fmt, with fmt's text TOLD by the authors' own Lean function (tested against real Go, not proved from fmt's source: count such statements apart). THE CARD IS WHAT COUNTS. Prove the row's statement (the work); the ties are given (YthkgjhnckakliaaGreatDoorRTie.lean); close each card by the builder's one call (the guide's Derived/Test/ToyasCard.lean, 'card_holds'). Laid BY PROGRAM, IN A SANDBOX (cutbox-door.mjs). By AI agents, Wed Nov 11 2026. No macro, syntax, notation, axiom, sorry.
-/
import Derived.Test.YthkgjhnckakliaaGreatDoorRRows
import GoSem.ClaimSeven
namespace Go.Proofs.YthkgjhnckakliaaGreatDoorR
namespace Rows

/-- THE TIED CARD OF 'laws.FnTextMade'. -/
def fnTextMadeCard : Claim7 := { stood := { row := fnTextMadeRow, standIns := [], harness := (true, "2c3f0f2b966d780a3ab59b9411f66a467157c32586d782a3fbc8b31d4c565a6c"), looks := true }, kinds := [], alts := [], laidByText := true, laidKinds := [.data, .data, .data, .data, .data, .data, .sentinel, .sentinel, .listed, .data, .data, .data, .data, .data, .data, .data, .data, .pinned, .pinned], laidTests := true, laidLooks := .later }
def FnTextMadeCardSaid : Prop := Claim7.holds Tryz.pinned (.plain (OpenSpec.ofChange fnTextMadeSpec)) fnTextMadeCard

/-- THE SECOND FORM's CARD OF 'laws.FnTextMade'. -/
def fnTextMadeUptoCard : Claim7 := { stood := { row := fnTextMadeUptoRow, standIns := [], harness := (true, "2c3f0f2b966d780a3ab59b9411f66a467157c32586d782a3fbc8b31d4c565a6c"), looks := true }, kinds := [], alts := [], laidByText := true, laidKinds := [.data, .data, .data, .data, .data, .data, .sentinel, .sentinel, .listed, .data, .data, .data, .data, .data, .data, .data, .data, .pinned, .pinned], laidTests := true, laidLooks := .later }
def FnTextMadeUptoCardSaid : Prop := Claim7.holds Tryz.pinned (.plain (OpenSpec.upto fnTextMadeSpec)) fnTextMadeUptoCard
end Rows
end Go.Proofs.YthkgjhnckakliaaGreatDoorR
