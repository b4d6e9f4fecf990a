/-
  DERIVED. GIVEN WITH THE SEED: THE CARDS: each row of YtdhifgedhaapjaaGreatDoorRows.lean that lists a variable, with what it lists TIED to the program's text (the seventh form; the later family's looks); each row that meets fmt, with fmt's text TOLD by the authors' own Lean function (tested against real Go, not proved from fmt's source: count such statements apart). THE CARD IS WHAT COUNTS. Prove the row's statement (the work); the ties are given (YtdhifgedhaapjaaGreatDoorTie.lean); close each card by the builder's one call (the guide's Derived/Test/ToyasCard.lean, 'card_holds'). Laid BY PROGRAM, IN A SANDBOX (cutbox-door.mjs). By AI agents, Wed Nov 11 2026. No macro, syntax, notation, axiom, sorry.
-/
import Derived.Test.YtdhifgedhaapjaaGreatDoorRows
import GoSem.ClaimSeven
namespace Go.Proofs.YtdhifgedhaapjaaGreatDoor
namespace Rows

/-- THE TIED CARD OF 'laws.FnCut'. -/
def fnCutCard : Claim7 := { stood := { row := fnCutRow, standIns := [], harness := (true, "f3086a16e9aea9d975da33e205c700d430919eda99c942596de9c00afb58b9e7"), looks := true }, kinds := [], alts := [], laidByText := true, laidKinds := [.sentinel, .sentinel, .sentinel, .data, .sentinel], laidTests := true, laidLooks := .later }
def FnCutCardSaid : Prop := Claim7.holds Tryz.pinned (.plain (OpenSpec.ofChange fnCutSpec)) fnCutCard

/-- THE TIED CARD OF 'laws.FnLookup'. -/
def fnLookupCard : Claim7 := { stood := { row := fnLookupRow, standIns := [], harness := (true, "f3086a16e9aea9d975da33e205c700d430919eda99c942596de9c00afb58b9e7"), looks := true }, kinds := [], alts := [], laidByText := true, laidKinds := [.data], laidTests := true, laidLooks := .later }
def FnLookupCardSaid : Prop := Claim7.holds Tryz.pinned (.plain (OpenSpec.ofChange fnLookupSpec)) fnLookupCard

/-- THE TIED CARD OF 'laws.FnWhole'. -/
def fnWholeCard : Claim7 := { stood := { row := fnWholeRow, standIns := [], harness := (true, "f3086a16e9aea9d975da33e205c700d430919eda99c942596de9c00afb58b9e7"), looks := true }, kinds := [], alts := [], laidByText := true, laidKinds := [.sentinel, .sentinel, .sentinel, .data, .sentinel], laidTests := true, laidLooks := .later }
def FnWholeCardSaid : Prop := Claim7.holds Tryz.pinned (.plain (OpenSpec.ofChange fnWholeSpec)) fnWholeCard

/-- THE SECOND FORM's CARD OF 'laws.FnCut'. -/
def fnCutUptoCard : Claim7 := { stood := { row := fnCutUptoRow, standIns := [], harness := (true, "f3086a16e9aea9d975da33e205c700d430919eda99c942596de9c00afb58b9e7"), looks := true }, kinds := [], alts := [], laidByText := true, laidKinds := [.sentinel, .sentinel, .sentinel, .data, .sentinel], laidTests := true, laidLooks := .later }
def FnCutUptoCardSaid : Prop := Claim7.holds Tryz.pinned (.plain (OpenSpec.upto fnCutSpec)) fnCutUptoCard

/-- THE SECOND FORM's CARD OF 'laws.FnLookup'. -/
def fnLookupUptoCard : Claim7 := { stood := { row := fnLookupUptoRow, standIns := [], harness := (true, "f3086a16e9aea9d975da33e205c700d430919eda99c942596de9c00afb58b9e7"), looks := true }, kinds := [], alts := [], laidByText := true, laidKinds := [.data], laidTests := true, laidLooks := .later }
def FnLookupUptoCardSaid : Prop := Claim7.holds Tryz.pinned (.plain (OpenSpec.upto fnLookupSpec)) fnLookupUptoCard

/-- THE SECOND FORM's CARD OF 'laws.FnWhole'. -/
def fnWholeUptoCard : Claim7 := { stood := { row := fnWholeUptoRow, standIns := [], harness := (true, "f3086a16e9aea9d975da33e205c700d430919eda99c942596de9c00afb58b9e7"), looks := true }, kinds := [], alts := [], laidByText := true, laidKinds := [.sentinel, .sentinel, .sentinel, .data, .sentinel], laidTests := true, laidLooks := .later }
def FnWholeUptoCardSaid : Prop := Claim7.holds Tryz.pinned (.plain (OpenSpec.upto fnWholeSpec)) fnWholeUptoCard
end Rows
end Go.Proofs.YtdhifgedhaapjaaGreatDoor
