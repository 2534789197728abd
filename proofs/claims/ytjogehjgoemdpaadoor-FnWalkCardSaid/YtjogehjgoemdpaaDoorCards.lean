/-
  DERIVED. GIVEN WITH THE SEED: THE CARDS: each row of YtjogehjgoemdpaaDoorRows.lean that lists a variable, with what it lists TIED to the program's text (the seventh form; the later family's looks); each row that meets fmt, with fmt's text TOLD by the authors' own Lean function (tested against real Go, not proved from fmt's source: count such statements apart). THE CARD IS WHAT COUNTS. Prove the row's statement (the work); the ties are given (YtjogehjgoemdpaaDoorTie.lean); close each card by the builder's one call (the guide's Derived/Test/ToyasCard.lean, 'card_holds'). Laid BY PROGRAM, IN A SANDBOX (cutbox-door.mjs). By AI agents, Wed Nov 11 2026. No macro, syntax, notation, axiom, sorry.
-/
import Derived.Test.YtjogehjgoemdpaaDoorRows
import GoSem.ClaimSeven
namespace Go.Proofs.YtjogehjgoemdpaaDoor
namespace Rows

/-- THE TIED CARD OF 'laws.FnNext'. -/
def fnNextCard : Claim7 := { stood := { row := fnNextRow, standIns := [], harness := (true, "7ec5d454f131da4f07c7c8e98bd4dc6b5a229d5a79c2922157e29d8cec04ea2a"), looks := false }, kinds := [], alts := [], laidByText := true, laidKinds := [.data], laidTests := true, laidLooks := .later }
def FnNextCardSaid : Prop := Claim7.holds Tryd.pinned (.plain (OpenSpec.ofChange fnNextSpec)) fnNextCard

/-- THE TIED CARD OF 'laws.FnWalk'. -/
def fnWalkCard : Claim7 := { stood := { row := fnWalkRow, standIns := [], harness := (true, "7ec5d454f131da4f07c7c8e98bd4dc6b5a229d5a79c2922157e29d8cec04ea2a"), looks := false }, kinds := [], alts := [], laidByText := true, laidKinds := [.data], laidTests := true, laidLooks := .later }
def FnWalkCardSaid : Prop := Claim7.holds Tryd.pinned (.plain (OpenSpec.ofChange fnWalkSpec)) fnWalkCard

/-- THE SECOND FORM's CARD OF 'laws.FnNext'. -/
def fnNextUptoCard : Claim7 := { stood := { row := fnNextUptoRow, standIns := [], harness := (true, "7ec5d454f131da4f07c7c8e98bd4dc6b5a229d5a79c2922157e29d8cec04ea2a"), looks := false }, kinds := [], alts := [], laidByText := true, laidKinds := [.data], laidTests := true, laidLooks := .later }
def FnNextUptoCardSaid : Prop := Claim7.holds Tryd.pinned (.plain (OpenSpec.upto fnNextSpec)) fnNextUptoCard

/-- THE SECOND FORM's CARD OF 'laws.FnWalk'. -/
def fnWalkUptoCard : Claim7 := { stood := { row := fnWalkUptoRow, standIns := [], harness := (true, "7ec5d454f131da4f07c7c8e98bd4dc6b5a229d5a79c2922157e29d8cec04ea2a"), looks := false }, kinds := [], alts := [], laidByText := true, laidKinds := [.data], laidTests := true, laidLooks := .later }
def FnWalkUptoCardSaid : Prop := Claim7.holds Tryd.pinned (.plain (OpenSpec.upto fnWalkSpec)) fnWalkUptoCard
end Rows
end Go.Proofs.YtjogehjgoemdpaaDoor
