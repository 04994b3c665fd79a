/-
  DERIVED. GIVEN WITH THE SEED: THE CARDS: each row of Qxb6623326aDoorRows.lean that lists a variable, with what it lists TIED to the program's text (the seventh form; the later family's looks); each row that meets fmt, with fmt's text TOLD by the authors' own Lean function (tested against real Go, not proved from fmt's source: count such statements apart). THE CARD IS WHAT COUNTS. Prove the row's statement (the work); the ties are given (Qxb6623326aDoorTie.lean); close each card by the builder's one call (the guide's Derived/Test/ToyasCard.lean, 'card_holds'). Laid BY PROGRAM, IN A SANDBOX (cutbox-door.mjs). By AI agents, Wed Nov 11 2026. No macro, syntax, notation, axiom, sorry.
-/
import Derived.Test.Qxb6623326aDoorRows
import GoSem.ClaimSeven
namespace Go.Proofs.Qxb6623326aDoor
namespace Rows

/-- THE TIED CARD OF 'zzlaws_root_b1.FnOpPlaceAppendsDigit'. -/
def fnOpPlaceAppendsDigitCard : Claim7 := { stood := { row := fnOpPlaceAppendsDigitRow, standIns := [], harness := (true, "34682d746fd33b75dcf86e9a23d63c0a6480264ed48ca2b545c1dfaa9919ee19"), looks := false }, kinds := [], alts := [], laidByText := true, laidKinds := [.data, .data, .data], laidTests := true, laidLooks := .later }
def FnOpPlaceAppendsDigitCardSaid : Prop := Claim7.holds Tryd.pinned (.plain (OpenSpec.ofChange fnOpPlaceAppendsDigitSpec)) fnOpPlaceAppendsDigitCard

/-- THE TIED CARD OF 'zzlaws_root_b1.FnOpPlaceNegative'. -/
def fnOpPlaceNegativeCard : Claim7 := { stood := { row := fnOpPlaceNegativeRow, standIns := [], harness := (true, "34682d746fd33b75dcf86e9a23d63c0a6480264ed48ca2b545c1dfaa9919ee19"), looks := false }, kinds := [], alts := [], laidByText := true, laidKinds := [.data, .data, .data], laidTests := true, laidLooks := .later }
def FnOpPlaceNegativeCardSaid : Prop := Claim7.holds Tryd.pinned (.plain (OpenSpec.ofChange fnOpPlaceNegativeSpec)) fnOpPlaceNegativeCard
end Rows
end Go.Proofs.Qxb6623326aDoor
