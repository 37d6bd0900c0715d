/-
  DERIVED. GIVEN WITH THE SEED: THE CARDS: each row of YtgjbafongiocbaaDoorRows.lean that lists a variable, with what it lists TIED to the program's text (the seventh form; the later family's looks); each row that meets fmt, with fmt's text TOLD by the authors' own Lean function (tested against real Go, not proved from fmt's source: count such statements apart). THE CARD IS WHAT COUNTS. Prove the row's statement (the work); the ties are given (YtgjbafongiocbaaDoorTie.lean); close each card by the builder's one call (the guide's Derived/Test/ToyasCard.lean, 'card_holds'). Laid BY PROGRAM, IN A SANDBOX (cutbox-door.mjs). By AI agents, Wed Nov 11 2026. No macro, syntax, notation, axiom, sorry.
-/
import Derived.Test.YtgjbafongiocbaaDoorRows
import GoSem.ClaimSeven
namespace Go.Proofs.YtgjbafongiocbaaDoor
namespace Rows

/-- THE TIED CARD OF 'laws.FnBuffer'. -/
def fnBufferCard : Claim7 := { stood := { row := fnBufferRow, standIns := [], harness := (true, "a081756c5f71d08fee7079443d8d81175e29466d3627c9761f7fce08ff5907e9"), looks := true }, kinds := [], alts := [], laidByText := true, laidKinds := [.sentinel], laidTests := true, laidLooks := .later }
def FnBufferCardSaid : Prop := Claim7.holds Tryd.pinned (.plain (OpenSpec.ofChange fnBufferSpec)) fnBufferCard

/-- THE SECOND FORM's CARD OF 'laws.FnBuffer'. -/
def fnBufferUptoCard : Claim7 := { stood := { row := fnBufferUptoRow, standIns := [], harness := (true, "a081756c5f71d08fee7079443d8d81175e29466d3627c9761f7fce08ff5907e9"), looks := true }, kinds := [], alts := [], laidByText := true, laidKinds := [.sentinel], laidTests := true, laidLooks := .later }
def FnBufferUptoCardSaid : Prop := Claim7.holds Tryd.pinned (.plain (OpenSpec.upto fnBufferSpec)) fnBufferUptoCard
end Rows
end Go.Proofs.YtgjbafongiocbaaDoor
