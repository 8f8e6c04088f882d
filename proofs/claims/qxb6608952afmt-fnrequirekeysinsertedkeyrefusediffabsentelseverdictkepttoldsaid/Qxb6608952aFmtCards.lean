/-
  DERIVED. GIVEN WITH THE SEED: THE CARDS: each row of Qxb6608952aFmtRows.lean that lists a variable, with what it lists TIED to the program's text (the seventh form; the later family's looks); each row that meets fmt, with fmt's text TOLD by the authors' own Lean function (tested against real Go, not proved from fmt's source: count such statements apart). THE CARD IS WHAT COUNTS. Prove the row's statement (the work); the ties are given (Qxb6608952aFmtTie.lean); close each card by the builder's one call (the guide's Derived/Test/ToyasCard.lean, 'card_holds'). Laid BY PROGRAM, IN A SANDBOX (cutbox-door.mjs). By AI agents, Wed Nov 11 2026. No macro, syntax, notation, axiom, sorry.
-/
import Derived.Test.Qxb6608952aFmtRows
import GoSem.ClaimSeven
namespace Go.Proofs.Qxb6608952aFmt
namespace Rows

/-- THE TOLD CARD OF 'zzlaws_internal_input_b1.FnRequireKeysInsertedKeyRefusedIffAbsentElseVerdictKept'. -/
def fnRequireKeysInsertedKeyRefusedIffAbsentElseVerdictKeptCard : Claim7 := { stood := { row := fnRequireKeysInsertedKeyRefusedIffAbsentElseVerdictKeptRow, standIns := [], harness := (true, "305780965c40ac8349784df8e1819f0b0af0f1029c90772704f852024e5e288a"), looks := false }, told := true, goes := false }
def FnRequireKeysInsertedKeyRefusedIffAbsentElseVerdictKeptToldSaid : Prop := Claim7.holds Tryf.pinned (.plain (OpenSpec.ofChange fnRequireKeysInsertedKeyRefusedIffAbsentElseVerdictKeptSpec)) fnRequireKeysInsertedKeyRefusedIffAbsentElseVerdictKeptCard
/-- ITS FALSE NEIGHBOUR. Refute it at one input. -/
def FnRequireKeysInsertedKeyRefusedIffAbsentElseVerdictKeptToldWrongFalsely : Prop := Claim7.holds Tryf.pinned (.plain (OpenSpec.ofChange fnRequireKeysInsertedKeyRefusedIffAbsentElseVerdictKeptWrong)) fnRequireKeysInsertedKeyRefusedIffAbsentElseVerdictKeptCard
end Rows
end Go.Proofs.Qxb6608952aFmt
