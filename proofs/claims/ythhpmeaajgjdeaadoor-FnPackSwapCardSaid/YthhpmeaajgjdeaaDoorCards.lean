/-
  DERIVED. GIVEN WITH THE SEED: THE CARDS: each row of YthhpmeaajgjdeaaDoorRows.lean that lists a variable, with what it lists TIED to the program's text (the seventh form; the later family's looks); each row that meets fmt, with fmt's text TOLD by the authors' own Lean function (tested against real Go, not proved from fmt's source: count such statements apart). THE CARD IS WHAT COUNTS. Prove the row's statement (the work); the ties are given (YthhpmeaajgjdeaaDoorTie.lean); close each card by the builder's one call (the guide's Derived/Test/ToyasCard.lean, 'card_holds'). Laid BY PROGRAM, IN A SANDBOX (cutbox-door.mjs). By AI agents, Wed Nov 11 2026. No macro, syntax, notation, axiom, sorry.
-/
import Derived.Test.YthhpmeaajgjdeaaDoorRows
import GoSem.ClaimSeven
namespace Go.Proofs.YthhpmeaajgjdeaaDoor
namespace Rows

/-- THE TIED CARD OF 'laws.FnPackSwap'. -/
def fnPackSwapCard : Claim7 := { stood := { row := fnPackSwapRow, standIns := [], harness := (true, "922e5d04d6d529a2e3f9e29bffb43eb41a2338b523c9fe5c84e7d39ffb427e68"), looks := true }, kinds := [], alts := [], laidByText := true, laidKinds := [.sentinel, .sentinel, .sentinel, .sentinel, .data, .data], laidTests := true, laidLooks := .later }
def FnPackSwapCardSaid : Prop := Claim7.holds Tryd.pinned (.plain (OpenSpec.ofChange fnPackSwapSpec)) fnPackSwapCard

/-- THE SECOND FORM's CARD OF 'laws.FnPackSwap'. -/
def fnPackSwapUptoCard : Claim7 := { stood := { row := fnPackSwapUptoRow, standIns := [], harness := (true, "922e5d04d6d529a2e3f9e29bffb43eb41a2338b523c9fe5c84e7d39ffb427e68"), looks := true }, kinds := [], alts := [], laidByText := true, laidKinds := [.sentinel, .sentinel, .sentinel, .sentinel, .data, .data], laidTests := true, laidLooks := .later }
def FnPackSwapUptoCardSaid : Prop := Claim7.holds Tryd.pinned (.plain (OpenSpec.upto fnPackSwapSpec)) fnPackSwapUptoCard
end Rows
end Go.Proofs.YthhpmeaajgjdeaaDoor
