/-
  DERIVED. GIVEN WITH THE SEED: THE CARDS: each row of YtobiaaabikfglaaGreatDoorRows.lean that lists a variable, with what it lists TIED to the program's text (the seventh form; the later family's looks); each row that meets fmt, with fmt's text TOLD by the authors' own Lean function (tested against real Go, not proved from fmt's source: count such statements apart). THE CARD IS WHAT COUNTS. Prove the row's statement (the work); the ties are given (YtobiaaabikfglaaGreatDoorTie.lean); close each card by the builder's one call (the guide's Derived/Test/ToyasCard.lean, 'card_holds'). Laid BY PROGRAM, IN A SANDBOX (cutbox-door.mjs). By AI agents, Wed Nov 11 2026. No macro, syntax, notation, axiom, sorry.
-/
import Derived.Test.YtobiaaabikfglaaGreatDoorRows
import GoSem.ClaimSeven
namespace Go.Proofs.YtobiaaabikfglaaGreatDoor
namespace Rows

/-- THE TIED CARD OF 'laws.FnQueryDeep'. -/
def fnQueryDeepCard : Claim7 := { stood := { row := fnQueryDeepRow, standIns := [], harness := (true, "bb5b394b2f1c5cc8541954e7a14d04ebb4967ce10b00197345985fccffb91d6a"), looks := true }, kinds := [], alts := [], laidByText := true, laidKinds := [.data, .sentinel, .sentinel, .data, .sentinel, .pinned, .pinned, .pinned, .pinned, .pinned, .pinned, .pinned, .pinned], laidTests := true, laidLooks := .later }
def FnQueryDeepCardSaid : Prop := Claim7.holds Tryz.pinned (.plain (OpenSpec.ofChange fnQueryDeepSpec)) fnQueryDeepCard

/-- THE SECOND FORM's CARD OF 'laws.FnQueryDeep'. -/
def fnQueryDeepUptoCard : Claim7 := { stood := { row := fnQueryDeepUptoRow, standIns := [], harness := (true, "bb5b394b2f1c5cc8541954e7a14d04ebb4967ce10b00197345985fccffb91d6a"), looks := true }, kinds := [], alts := [], laidByText := true, laidKinds := [.data, .sentinel, .sentinel, .data, .sentinel, .pinned, .pinned, .pinned, .pinned, .pinned, .pinned, .pinned, .pinned], laidTests := true, laidLooks := .later }
def FnQueryDeepUptoCardSaid : Prop := Claim7.holds Tryz.pinned (.plain (OpenSpec.upto fnQueryDeepSpec)) fnQueryDeepUptoCard
end Rows
end Go.Proofs.YtobiaaabikfglaaGreatDoor
