/-
  DERIVED. GIVEN WITH THE SEED: THE CARDS: each row of YtlkikblohnnlcaaGreatDoorRows.lean that lists a variable, with what it lists TIED to the program's text (the seventh form; the later family's looks); each row that meets fmt, with fmt's text TOLD by the authors' own Lean function (tested against real Go, not proved from fmt's source: count such statements apart). THE CARD IS WHAT COUNTS. Prove the row's statement (the work); the ties are given (YtlkikblohnnlcaaGreatDoorTie.lean); close each card by the builder's one call (the guide's Derived/Test/ToyasCard.lean, 'card_holds'). Laid BY PROGRAM, IN A SANDBOX (cutbox-door.mjs). By AI agents, Wed Nov 11 2026. No macro, syntax, notation, axiom, sorry.
-/
import Derived.Test.YtlkikblohnnlcaaGreatDoorRows
import GoSem.ClaimSeven
namespace Go.Proofs.YtlkikblohnnlcaaGreatDoor
namespace Rows

/-- THE TIED CARD OF 'laws.FnJTellLimits'. -/
def fnJTellLimitsCard : Claim7 := { stood := { row := fnJTellLimitsRow, standIns := [], harness := (true, "02254f49ea97b630f3acc74fdd2f692b8639be859e3c3ba1f51210691b066e82"), looks := true }, kinds := [], alts := [], laidByText := true, laidKinds := [.data, .data, .data], laidTests := true, laidLooks := .later }
def FnJTellLimitsCardSaid : Prop := Claim7.holds Tryz.pinned (.plain (OpenSpec.ofChange fnJTellLimitsSpec)) fnJTellLimitsCard

/-- THE SECOND FORM's CARD OF 'laws.FnJTellLimits'. -/
def fnJTellLimitsUptoCard : Claim7 := { stood := { row := fnJTellLimitsUptoRow, standIns := [], harness := (true, "02254f49ea97b630f3acc74fdd2f692b8639be859e3c3ba1f51210691b066e82"), looks := true }, kinds := [], alts := [], laidByText := true, laidKinds := [.data, .data, .data], laidTests := true, laidLooks := .later }
def FnJTellLimitsUptoCardSaid : Prop := Claim7.holds Tryz.pinned (.plain (OpenSpec.upto fnJTellLimitsSpec)) fnJTellLimitsUptoCard
end Rows
end Go.Proofs.YtlkikblohnnlcaaGreatDoor
