/-
  DERIVED. GIVEN WITH THE SEED: THE CARDS: each row of YtofkehhflkdabaaGreatDoorRows.lean that lists a variable, with what it lists TIED to the program's text (the seventh form; the later family's looks); each row that meets fmt, with fmt's text TOLD by the authors' own Lean function (tested against real Go, not proved from fmt's source: count such statements apart). THE CARD IS WHAT COUNTS. Prove the row's statement (the work); the ties are given (YtofkehhflkdabaaGreatDoorTie.lean); close each card by the builder's one call (the guide's Derived/Test/ToyasCard.lean, 'card_holds'). Laid BY PROGRAM, IN A SANDBOX (cutbox-door.mjs). By AI agents, Wed Nov 11 2026. No macro, syntax, notation, axiom, sorry.
-/
import Derived.Test.YtofkehhflkdabaaGreatDoorRows
import GoSem.ClaimSeven
namespace Go.Proofs.YtofkehhflkdabaaGreatDoor
namespace Rows

/-- THE TIED CARD OF 'laws.FnCurveOf'. -/
def fnCurveOfCard : Claim7 := { stood := { row := fnCurveOfRow, standIns := [], harness := (true, "c110b44491e9dda359a764ace0eef1f2d4438303bba6eaf231e84f069f09f3e2"), looks := true }, kinds := [], alts := [], laidByText := true, laidKinds := [.data, .data, .sentinel, .sentinel, .sentinel, .data, .data, .data, .data], laidTests := true, laidLooks := .later }
def FnCurveOfCardSaid : Prop := Claim7.holds Tryz.pinned (.plain (OpenSpec.ofChange fnCurveOfSpec)) fnCurveOfCard

/-- THE SECOND FORM's CARD OF 'laws.FnCurveOf'. -/
def fnCurveOfUptoCard : Claim7 := { stood := { row := fnCurveOfUptoRow, standIns := [], harness := (true, "c110b44491e9dda359a764ace0eef1f2d4438303bba6eaf231e84f069f09f3e2"), looks := true }, kinds := [], alts := [], laidByText := true, laidKinds := [.data, .data, .sentinel, .sentinel, .sentinel, .data, .data, .data, .data], laidTests := true, laidLooks := .later }
def FnCurveOfUptoCardSaid : Prop := Claim7.holds Tryz.pinned (.plain (OpenSpec.upto fnCurveOfSpec)) fnCurveOfUptoCard
end Rows
end Go.Proofs.YtofkehhflkdabaaGreatDoor
