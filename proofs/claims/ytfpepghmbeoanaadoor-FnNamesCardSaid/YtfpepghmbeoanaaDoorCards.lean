/-
  DERIVED. GIVEN WITH THE SEED: THE CARDS: each row of YtfpepghmbeoanaaDoorRows.lean that lists a variable, with what it lists TIED to the program's text (the seventh form; the later family's looks); each row that meets fmt, with fmt's text TOLD by the authors' own Lean function (tested against real Go, not proved from fmt's source: count such statements apart). THE CARD IS WHAT COUNTS. Prove the row's statement (the work); the ties are given (YtfpepghmbeoanaaDoorTie.lean); close each card by the builder's one call (the guide's Derived/Test/ToyasCard.lean, 'card_holds'). Laid BY PROGRAM, IN A SANDBOX (cutbox-door.mjs). By AI agents, Wed Nov 11 2026. No macro, syntax, notation, axiom, sorry.
-/
import Derived.Test.YtfpepghmbeoanaaDoorRows
import GoSem.ClaimSeven
namespace Go.Proofs.YtfpepghmbeoanaaDoor
namespace Rows

/-- THE TIED CARD OF 'laws.FnBools'. -/
def fnBoolsCard : Claim7 := { stood := { row := fnBoolsRow, standIns := [], harness := (true, "55800c8b4fa58a30c6316fe5c070365fc0d645eae4b5a3ec6ca2368f22d0e659"), looks := true }, kinds := [], alts := [], laidByText := true, laidKinds := [.sentinel, .sentinel], laidTests := true, laidLooks := .later }
def FnBoolsCardSaid : Prop := Claim7.holds Tryd.pinned (.plain (OpenSpec.ofChange fnBoolsSpec)) fnBoolsCard

/-- THE TIED CARD OF 'laws.FnOptional'. -/
def fnOptionalCard : Claim7 := { stood := { row := fnOptionalRow, standIns := [], harness := (true, "55800c8b4fa58a30c6316fe5c070365fc0d645eae4b5a3ec6ca2368f22d0e659"), looks := true }, kinds := [], alts := [], laidByText := true, laidKinds := [.sentinel, .sentinel], laidTests := true, laidLooks := .later }
def FnOptionalCardSaid : Prop := Claim7.holds Tryd.pinned (.plain (OpenSpec.ofChange fnOptionalSpec)) fnOptionalCard

/-- THE TIED CARD OF 'laws.FnNames'. -/
def fnNamesCard : Claim7 := { stood := { row := fnNamesRow, standIns := [], harness := (true, "55800c8b4fa58a30c6316fe5c070365fc0d645eae4b5a3ec6ca2368f22d0e659"), looks := true }, kinds := [], alts := [], laidByText := true, laidKinds := [.sentinel, .sentinel, .sentinel, .sentinel, .sentinel], laidTests := true, laidLooks := .later }
def FnNamesCardSaid : Prop := Claim7.holds Tryd.pinned (.plain (OpenSpec.ofChange fnNamesSpec)) fnNamesCard

/-- THE SECOND FORM's CARD OF 'laws.FnBools'. -/
def fnBoolsUptoCard : Claim7 := { stood := { row := fnBoolsUptoRow, standIns := [], harness := (true, "55800c8b4fa58a30c6316fe5c070365fc0d645eae4b5a3ec6ca2368f22d0e659"), looks := true }, kinds := [], alts := [], laidByText := true, laidKinds := [.sentinel, .sentinel], laidTests := true, laidLooks := .later }
def FnBoolsUptoCardSaid : Prop := Claim7.holds Tryd.pinned (.plain (OpenSpec.upto fnBoolsSpec)) fnBoolsUptoCard

/-- THE SECOND FORM's CARD OF 'laws.FnOptional'. -/
def fnOptionalUptoCard : Claim7 := { stood := { row := fnOptionalUptoRow, standIns := [], harness := (true, "55800c8b4fa58a30c6316fe5c070365fc0d645eae4b5a3ec6ca2368f22d0e659"), looks := true }, kinds := [], alts := [], laidByText := true, laidKinds := [.sentinel, .sentinel], laidTests := true, laidLooks := .later }
def FnOptionalUptoCardSaid : Prop := Claim7.holds Tryd.pinned (.plain (OpenSpec.upto fnOptionalSpec)) fnOptionalUptoCard

/-- THE SECOND FORM's CARD OF 'laws.FnNames'. -/
def fnNamesUptoCard : Claim7 := { stood := { row := fnNamesUptoRow, standIns := [], harness := (true, "55800c8b4fa58a30c6316fe5c070365fc0d645eae4b5a3ec6ca2368f22d0e659"), looks := true }, kinds := [], alts := [], laidByText := true, laidKinds := [.sentinel, .sentinel, .sentinel, .sentinel, .sentinel], laidTests := true, laidLooks := .later }
def FnNamesUptoCardSaid : Prop := Claim7.holds Tryd.pinned (.plain (OpenSpec.upto fnNamesSpec)) fnNamesUptoCard
end Rows
end Go.Proofs.YtfpepghmbeoanaaDoor
