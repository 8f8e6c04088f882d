/-
  DERIVED. GIVEN WITH THE SEED: THE CARDS: each row of Qxb6615572aDoorRows.lean that lists a variable, with what it lists TIED to the program's text (the seventh form; the later family's looks); each row that meets fmt, with fmt's text TOLD by the authors' own Lean function (tested against real Go, not proved from fmt's source: count such statements apart). THE CARD IS WHAT COUNTS. Prove the row's statement (the work); the ties are given (Qxb6615572aDoorTie.lean); close each card by the builder's one call (the guide's Derived/Test/ToyasCard.lean, 'card_holds'). Laid BY PROGRAM, IN A SANDBOX (cutbox-door.mjs). By AI agents, Wed Nov 11 2026. No macro, syntax, notation, axiom, sorry.
-/
import Derived.Test.Qxb6615572aDoorRows
import GoSem.ClaimSeven
namespace Go.Proofs.Qxb6615572aDoor
namespace Rows

/-- THE TIED CARD OF 'zzlaws_upstream_b1.FnCarriesExactly'. -/
def fnCarriesExactlyCard : Claim7 := { stood := { row := fnCarriesExactlyRow, standIns := [], harness := (true, "945f71e9fc8ae6912cf229982e8356a18fdde3f26a11ed5c4c39a0f40ab16294"), looks := true }, kinds := [], alts := [], laidByText := true, laidKinds := [.wider], laidTests := true, laidLooks := .later }
def FnCarriesExactlyCardSaid : Prop := Claim7.holds Tryd.pinned (.plain (OpenSpec.ofChange fnCarriesExactlySpec)) fnCarriesExactlyCard

/-- THE TIED CARD OF 'zzlaws_upstream_b1.FnCarriesFieldsCut'. -/
def fnCarriesFieldsCutCard : Claim7 := { stood := { row := fnCarriesFieldsCutRow, standIns := [], harness := (true, "945f71e9fc8ae6912cf229982e8356a18fdde3f26a11ed5c4c39a0f40ab16294"), looks := true }, kinds := [], alts := [], laidByText := true, laidKinds := [.wider], laidTests := true, laidLooks := .later }
def FnCarriesFieldsCutCardSaid : Prop := Claim7.holds Tryd.pinned (.plain (OpenSpec.ofChange fnCarriesFieldsCutSpec)) fnCarriesFieldsCutCard
end Rows
end Go.Proofs.Qxb6615572aDoor
