/-
  DERIVED. GIVEN WITH THE SEED: THE CARDS: each row of Qxb6605809aDoorRows.lean that lists a variable, with what it lists TIED to the program's text (the seventh form; the later family's looks); each row that meets fmt, with fmt's text TOLD by the authors' own Lean function (tested against real Go, not proved from fmt's source: count such statements apart). THE CARD IS WHAT COUNTS. Prove the row's statement (the work); the ties are given (Qxb6605809aDoorTie.lean); close each card by the builder's one call (the guide's Derived/Test/ToyasCard.lean, 'card_holds'). Laid BY PROGRAM, IN A SANDBOX (cutbox-door.mjs). By AI agents, Wed Nov 11 2026. No macro, syntax, notation, axiom, sorry.
-/
import Derived.Test.Qxb6605809aDoorRows
import GoSem.ClaimSeven
namespace Go.Proofs.Qxb6605809aDoor
namespace Rows

/-- THE TIED CARD OF 'zzlaws_internal_lowerhex_b1.FnDecodeMatchesNibbleModel'. -/
def fnDecodeMatchesNibbleModelCard : Claim7 := { stood := { row := fnDecodeMatchesNibbleModelRow, standIns := [], harness := (true, "568420c26011f8d2c49403a1e4e0e8512b61fb26d48720189c66177a92e16859"), looks := false }, kinds := [], alts := [], laidByText := true, laidKinds := [.sentinel], laidTests := true, laidLooks := .later }
def FnDecodeMatchesNibbleModelCardSaid : Prop := Claim7.holds Tryd.pinned (.plain (OpenSpec.ofChange fnDecodeMatchesNibbleModelSpec)) fnDecodeMatchesNibbleModelCard

/-- THE TIED CARD OF 'zzlaws_internal_lowerhex_b1.FnDecodeInvertsLowerHexEncoding'. -/
def fnDecodeInvertsLowerHexEncodingCard : Claim7 := { stood := { row := fnDecodeInvertsLowerHexEncodingRow, standIns := [], harness := (true, "568420c26011f8d2c49403a1e4e0e8512b61fb26d48720189c66177a92e16859"), looks := false }, kinds := [], alts := [], laidByText := true, laidKinds := [.sentinel], laidTests := true, laidLooks := .later }
def FnDecodeInvertsLowerHexEncodingCardSaid : Prop := Claim7.holds Tryd.pinned (.plain (OpenSpec.ofChange fnDecodeInvertsLowerHexEncodingSpec)) fnDecodeInvertsLowerHexEncodingCard
end Rows
end Go.Proofs.Qxb6605809aDoor
