/-
  DERIVED. GIVEN WITH THE SEED: THE CARDS: each row of Qxb6601596aDoorRows.lean that lists a variable, with what it lists TIED to the program's text (the seventh form; the later family's looks); each row that meets fmt, with fmt's text TOLD by the authors' own Lean function (tested against real Go, not proved from fmt's source: count such statements apart). THE CARD IS WHAT COUNTS. Prove the row's statement (the work); the ties are given (Qxb6601596aDoorTie.lean); close each card by the builder's one call (the guide's Derived/Test/ToyasCard.lean, 'card_holds'). Laid BY PROGRAM, IN A SANDBOX (cutbox-door.mjs). By AI agents, Wed Nov 11 2026. No macro, syntax, notation, axiom, sorry.
-/
import Derived.Test.Qxb6601596aDoorRows
import GoSem.ClaimSeven
namespace Go.Proofs.Qxb6601596aDoor
namespace Rows

/-- THE TIED CARD OF 'zzlaws_decimal_b1.FnTextSpec'. -/
def fnTextSpecCard : Claim7 := { stood := { row := fnTextSpecRow, standIns := [], harness := (true, "c9048325ebea478e66541a60951844a230f34674f24af4862c9de493c6050703"), looks := false }, kinds := [], alts := [], laidByText := true, laidKinds := [.data, .data, .data], laidTests := true, laidLooks := .later }
def FnTextSpecCardSaid : Prop := Claim7.holds Tryd.pinned (.plain (OpenSpec.ofChange fnTextSpecSpec)) fnTextSpecCard

/-- THE TIED CARD OF 'zzlaws_decimal_b1.FnTextOneMorePlace'. -/
def fnTextOneMorePlaceCard : Claim7 := { stood := { row := fnTextOneMorePlaceRow, standIns := [], harness := (true, "c9048325ebea478e66541a60951844a230f34674f24af4862c9de493c6050703"), looks := false }, kinds := [], alts := [], laidByText := true, laidKinds := [.data, .data, .data], laidTests := true, laidLooks := .later }
def FnTextOneMorePlaceCardSaid : Prop := Claim7.holds Tryd.pinned (.plain (OpenSpec.ofChange fnTextOneMorePlaceSpec)) fnTextOneMorePlaceCard

/-- THE TIED CARD OF 'zzlaws_decimal_b1.FnTextShapeByIsDigits'. -/
def fnTextShapeByIsDigitsCard : Claim7 := { stood := { row := fnTextShapeByIsDigitsRow, standIns := [], harness := (true, "c9048325ebea478e66541a60951844a230f34674f24af4862c9de493c6050703"), looks := false }, kinds := [], alts := [], laidByText := true, laidKinds := [.data, .data, .data], laidTests := true, laidLooks := .later }
def FnTextShapeByIsDigitsCardSaid : Prop := Claim7.holds Tryd.pinned (.plain (OpenSpec.ofChange fnTextShapeByIsDigitsSpec)) fnTextShapeByIsDigitsCard
end Rows
end Go.Proofs.Qxb6601596aDoor
