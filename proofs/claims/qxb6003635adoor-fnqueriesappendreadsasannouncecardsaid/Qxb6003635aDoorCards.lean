/-
  DERIVED. GIVEN WITH THE SEED: THE CARDS: each row of Qxb6003635aDoorRows.lean that lists a variable, with what it lists TIED to the program's text (the seventh form; the later family's looks); each row that meets fmt, with fmt's text TOLD by the authors' own Lean function (tested against real Go, not proved from fmt's source: count such statements apart). THE CARD IS WHAT COUNTS. Prove the row's statement (the work); the ties are given (Qxb6003635aDoorTie.lean); close each card by the builder's one call (the guide's Derived/Test/ToyasCard.lean, 'card_holds'). Laid BY PROGRAM, IN A SANDBOX (cutbox-door.mjs). By AI agents, Wed Nov 11 2026. No macro, syntax, notation, axiom, sorry.
-/
import Derived.Test.Qxb6003635aDoorRows
import GoSem.ClaimSeven
namespace Go.Proofs.Qxb6003635aDoor
namespace Rows

/-- THE TIED CARD OF 'zzlaws_internal_load_b1.FnQueriesAppendReadsAsAnnounce'. -/
def fnQueriesAppendReadsAsAnnounceCard : Claim7 := { stood := { row := fnQueriesAppendReadsAsAnnounceRow, standIns := [], harness := (true, "95dd1c44e51eebaeb43cb68ee2142607437b78c0af46710b547c4fa2990c3768"), looks := false }, kinds := [], alts := [], laidByText := true, laidKinds := [.data, .data, .data], laidTests := true, laidLooks := .later }
def FnQueriesAppendReadsAsAnnounceCardSaid : Prop := Claim7.holds Tryd.pinned (.plain (OpenSpec.ofChange fnQueriesAppendReadsAsAnnounceSpec)) fnQueriesAppendReadsAsAnnounceCard

/-- THE TIED CARD OF 'zzlaws_internal_load_b1.FnQueriesAppendRepeatsEveryPeers'. -/
def fnQueriesAppendRepeatsEveryPeersCard : Claim7 := { stood := { row := fnQueriesAppendRepeatsEveryPeersRow, standIns := [], harness := (true, "95dd1c44e51eebaeb43cb68ee2142607437b78c0af46710b547c4fa2990c3768"), looks := false }, kinds := [], alts := [], laidByText := true, laidKinds := [.data, .data, .data], laidTests := true, laidLooks := .later }
def FnQueriesAppendRepeatsEveryPeersCardSaid : Prop := Claim7.holds Tryd.pinned (.plain (OpenSpec.ofChange fnQueriesAppendRepeatsEveryPeersSpec)) fnQueriesAppendRepeatsEveryPeersCard
end Rows
end Go.Proofs.Qxb6003635aDoor
