/-
  DERIVED. GIVEN WITH THE SEED: THE CARDS: each row of Qxb6617319aDoorRows.lean that lists a variable, with what it lists TIED to the program's text (the seventh form; the later family's looks); each row that meets fmt, with fmt's text TOLD by the authors' own Lean function (tested against real Go, not proved from fmt's source: count such statements apart). THE CARD IS WHAT COUNTS. Prove the row's statement (the work); the ties are given (Qxb6617319aDoorTie.lean); close each card by the builder's one call (the guide's Derived/Test/ToyasCard.lean, 'card_holds'). Laid BY PROGRAM, IN A SANDBOX (cutbox-door.mjs). By AI agents, Wed Nov 11 2026. No macro, syntax, notation, axiom, sorry.
-/
import Derived.Test.Qxb6617319aDoorRows
import GoSem.ClaimSeven
namespace Go.Proofs.Qxb6617319aDoor
namespace Rows

/-- THE TIED CARD OF 'zzlaws_internal_eventline_b1.FnIncarnationListReadsBackToTheIncarnations'. -/
def fnIncarnationListReadsBackToTheIncarnationsCard : Claim7 := { stood := { row := fnIncarnationListReadsBackToTheIncarnationsRow, standIns := [], harness := (true, "934d653bbaccaa313fbbc3c78be5184df627122925f92f48f089ba9e76911ac7"), looks := false }, kinds := [], alts := [], laidByText := true, laidKinds := [.data, .data, .data], laidTests := true, laidLooks := .later }
def FnIncarnationListReadsBackToTheIncarnationsCardSaid : Prop := Claim7.holds Tryd.pinned (.plain (OpenSpec.ofChange fnIncarnationListReadsBackToTheIncarnationsSpec)) fnIncarnationListReadsBackToTheIncarnationsCard

/-- THE TIED CARD OF 'zzlaws_internal_eventline_b1.FnIncarnationListJoinsAtAnyCut'. -/
def fnIncarnationListJoinsAtAnyCutCard : Claim7 := { stood := { row := fnIncarnationListJoinsAtAnyCutRow, standIns := [], harness := (true, "934d653bbaccaa313fbbc3c78be5184df627122925f92f48f089ba9e76911ac7"), looks := false }, kinds := [], alts := [], laidByText := true, laidKinds := [.data, .data, .data], laidTests := true, laidLooks := .later }
def FnIncarnationListJoinsAtAnyCutCardSaid : Prop := Claim7.holds Tryd.pinned (.plain (OpenSpec.ofChange fnIncarnationListJoinsAtAnyCutSpec)) fnIncarnationListJoinsAtAnyCutCard

/-- THE TIED CARD OF 'zzlaws_internal_eventline_b1.FnAppendStatsAppendsTheLineOfItsCounters'. -/
def fnAppendStatsAppendsTheLineOfItsCountersCard : Claim7 := { stood := { row := fnAppendStatsAppendsTheLineOfItsCountersRow, standIns := [], harness := (true, "934d653bbaccaa313fbbc3c78be5184df627122925f92f48f089ba9e76911ac7"), looks := false }, kinds := [], alts := [], laidByText := true, laidKinds := [.data, .data, .data], laidTests := true, laidLooks := .later }
def FnAppendStatsAppendsTheLineOfItsCountersCardSaid : Prop := Claim7.holds Tryd.pinned (.plain (OpenSpec.ofChange fnAppendStatsAppendsTheLineOfItsCountersSpec)) fnAppendStatsAppendsTheLineOfItsCountersCard

/-- THE TIED CARD OF 'zzlaws_internal_eventline_b1.FnAppendStatsChangesOnlyTheChangedCountersNumber'. -/
def fnAppendStatsChangesOnlyTheChangedCountersNumberCard : Claim7 := { stood := { row := fnAppendStatsChangesOnlyTheChangedCountersNumberRow, standIns := [], harness := (true, "934d653bbaccaa313fbbc3c78be5184df627122925f92f48f089ba9e76911ac7"), looks := false }, kinds := [], alts := [], laidByText := true, laidKinds := [.data, .data, .data], laidTests := true, laidLooks := .later }
def FnAppendStatsChangesOnlyTheChangedCountersNumberCardSaid : Prop := Claim7.holds Tryd.pinned (.plain (OpenSpec.ofChange fnAppendStatsChangesOnlyTheChangedCountersNumberSpec)) fnAppendStatsChangesOnlyTheChangedCountersNumberCard
end Rows
end Go.Proofs.Qxb6617319aDoor
