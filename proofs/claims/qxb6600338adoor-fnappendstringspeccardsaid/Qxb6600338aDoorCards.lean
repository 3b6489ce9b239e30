/-
  DERIVED. GIVEN WITH THE SEED: THE CARDS: each row of Qxb6600338aDoorRows.lean that lists a variable, with what it lists TIED to the program's text (the seventh form; the later family's looks); each row that meets fmt, with fmt's text TOLD by the authors' own Lean function (tested against real Go, not proved from fmt's source: count such statements apart). THE CARD IS WHAT COUNTS. Prove the row's statement (the work); the ties are given (Qxb6600338aDoorTie.lean); close each card by the builder's one call (the guide's Derived/Test/ToyasCard.lean, 'card_holds'). Laid BY PROGRAM, IN A SANDBOX (cutbox-door.mjs). By AI agents, Wed Nov 11 2026. No macro, syntax, notation, axiom, sorry.
-/
import Derived.Test.Qxb6600338aDoorRows
import GoSem.ClaimSeven
namespace Go.Proofs.Qxb6600338aDoor
namespace Rows

/-- THE TIED CARD OF 'zzlaws_internal_bencode_b1.FnPaddedIntSpec'. -/
def fnPaddedIntSpecCard : Claim7 := { stood := { row := fnPaddedIntSpecRow, standIns := [], harness := (true, "2fd9a9ec69f454e459fa0729be57d20833cde158e3510be6273e4ebdfba1a3d6"), looks := false }, kinds := [], alts := [], laidByText := true, laidKinds := [.data, .pinned], laidTests := true, laidLooks := .later }
def FnPaddedIntSpecCardSaid : Prop := Claim7.holds Tryd.pinned (.plain (OpenSpec.ofChange fnPaddedIntSpecSpec)) fnPaddedIntSpecCard

/-- THE TIED CARD OF 'zzlaws_internal_bencode_b1.FnPaddedIntZeroPadding'. -/
def fnPaddedIntZeroPaddingCard : Claim7 := { stood := { row := fnPaddedIntZeroPaddingRow, standIns := [], harness := (true, "2fd9a9ec69f454e459fa0729be57d20833cde158e3510be6273e4ebdfba1a3d6"), looks := false }, kinds := [], alts := [], laidByText := true, laidKinds := [.data, .pinned], laidTests := true, laidLooks := .later }
def FnPaddedIntZeroPaddingCardSaid : Prop := Claim7.holds Tryd.pinned (.plain (OpenSpec.ofChange fnPaddedIntZeroPaddingSpec)) fnPaddedIntZeroPaddingCard

/-- THE TIED CARD OF 'zzlaws_internal_bencode_b1.FnPaddedIntAgreesWithCanonicalInt'. -/
def fnPaddedIntAgreesWithCanonicalIntCard : Claim7 := { stood := { row := fnPaddedIntAgreesWithCanonicalIntRow, standIns := [], harness := (true, "2fd9a9ec69f454e459fa0729be57d20833cde158e3510be6273e4ebdfba1a3d6"), looks := false }, kinds := [], alts := [], laidByText := true, laidKinds := [.data, .pinned], laidTests := true, laidLooks := .later }
def FnPaddedIntAgreesWithCanonicalIntCardSaid : Prop := Claim7.holds Tryd.pinned (.plain (OpenSpec.ofChange fnPaddedIntAgreesWithCanonicalIntSpec)) fnPaddedIntAgreesWithCanonicalIntCard

/-- THE TIED CARD OF 'zzlaws_internal_bencode_b1.FnAppendStringSpec'. -/
def fnAppendStringSpecCard : Claim7 := { stood := { row := fnAppendStringSpecRow, standIns := [], harness := (true, "2fd9a9ec69f454e459fa0729be57d20833cde158e3510be6273e4ebdfba1a3d6"), looks := false }, kinds := [], alts := [], laidByText := true, laidKinds := [.data, .data, .data], laidTests := true, laidLooks := .later }
def FnAppendStringSpecCardSaid : Prop := Claim7.holds Tryd.pinned (.plain (OpenSpec.ofChange fnAppendStringSpecSpec)) fnAppendStringSpecCard

/-- THE TIED CARD OF 'zzlaws_internal_bencode_b1.FnAppendStringSelfDelimiting'. -/
def fnAppendStringSelfDelimitingCard : Claim7 := { stood := { row := fnAppendStringSelfDelimitingRow, standIns := [], harness := (true, "2fd9a9ec69f454e459fa0729be57d20833cde158e3510be6273e4ebdfba1a3d6"), looks := false }, kinds := [], alts := [], laidByText := true, laidKinds := [.data, .data, .data], laidTests := true, laidLooks := .later }
def FnAppendStringSelfDelimitingCardSaid : Prop := Claim7.holds Tryd.pinned (.plain (OpenSpec.ofChange fnAppendStringSelfDelimitingSpec)) fnAppendStringSelfDelimitingCard

/-- THE TIED CARD OF 'zzlaws_internal_bencode_b1.FnAppendStringHeaderReadsBack'. -/
def fnAppendStringHeaderReadsBackCard : Claim7 := { stood := { row := fnAppendStringHeaderReadsBackRow, standIns := [], harness := (true, "2fd9a9ec69f454e459fa0729be57d20833cde158e3510be6273e4ebdfba1a3d6"), looks := false }, kinds := [], alts := [], laidByText := true, laidKinds := [.data, .data, .data], laidTests := true, laidLooks := .later }
def FnAppendStringHeaderReadsBackCardSaid : Prop := Claim7.holds Tryd.pinned (.plain (OpenSpec.ofChange fnAppendStringHeaderReadsBackSpec)) fnAppendStringHeaderReadsBackCard
end Rows
end Go.Proofs.Qxb6600338aDoor
