/-
  No cell of these rows narrows 'for every input' (looked for: loops, veiled, ifaces, maps, wideKeys, modest, calm, conditions, laid).
  DERIVED. THE GIVEN ROWS OF THIS SEAT. 1 by the template 'for every input the law returns true; each argument reads behind the call as it read before'; 0 by the template 'total and deterministic' (their statements: Qxb6608952aFmtTotals.lean).
  GIVEN WITH THE SEED: the statements are not yours to turn. If you find one false, say at which input.
  Laid BY PROGRAM, IN A SANDBOX (cutbox-rows.mjs): the forced cells as the released guide's own fill.sh prints them over the translation f399588b10a21f53… (all of the seat's roots in one cut). By AI agents, Wed Nov 11 2026. No macro, syntax, notation, axiom, sorry.
-/
import Derived.Test.Qxb6608952aFmtChecked
import GoSem.Claim
import GoSem.ClaimJoined
import GoSem.ClaimMapViews
import Derived.JoinedTies
import Derived.KernelRfl
namespace Go.Proofs.Qxb6608952aFmt
/- THE CELL 'sum', in the pinned program and in every row, IS THE sha256 OF THE DUMP (.gsa) THAT Qxb6608952aFmtProg.lean LOADS. Nothing in Lean hashes anything: it is a label: what it is worth is what the hold of that sum in a sandbox is worth. -/
noncomputable def Tryf.pinned : Pinned := { name := "qxb6608952afmt", sum := "f399588b10a21f53cea370063af38dff1c34ed0088c57d22685259f5cf525fb0", checked := Tryf.checked }
namespace Rows
def none {H : Type} : Left H := { results := [], args := [] }

/-- 'zzlaws_internal_input_b1.FnRequireKeysInsertedKeyRefusedIffAbsentElseVerdictKept': WHATEVER THE INPUT: true; the input reads as it did. -/
def fnRequireKeysInsertedKeyRefusedIffAbsentElseVerdictKeptSpec : ChangeSpec := { name := "fnRequireKeysInsertedKeyRefusedIffAbsentElseVerdictKept", fn := fun _ => fun
  | [d1, d2, d3, d4, d5, d6, d7, d8, d9, d10] => { results := [.lit (.bool true)], args := [d1, d2, d3, d4, d5, d6, d7, d8, d9, d10] }
  | _ => none }
def fnRequireKeysInsertedKeyRefusedIffAbsentElseVerdictKeptRow : OpenClaim := { program := "qxb6608952afmt", sum := "f399588b10a21f53cea370063af38dff1c34ed0088c57d22685259f5cf525fb0", func := "example.com/vestledger/vestledger/zzlaws_internal_input_b1.FnRequireKeysInsertedKeyRefusedIffAbsentElseVerdictKept", spec := "fnRequireKeysInsertedKeyRefusedIffAbsentElseVerdictKept", stops := ["fmt.Sprintf", "fmt.errorf, its operands' methods called"], inPlace := ["fmt.Sprintf", "fmt.errorf", "internal/abi.NoEscape", "internal/bytealg.MakeNoZero"], unfollowed := true, recurses := true, apart := false }
/-- NO THEOREM (fmt's text is open here; it may be false): for the released tool's asking of the row's closed facts alone. THE STATEMENT IS 'FnRequireKeysInsertedKeyRefusedIffAbsentElseVerdictKeptToldSaid' (Qxb6608952aFmtCards.lean). -/
def FnRequireKeysInsertedKeyRefusedIffAbsentElseVerdictKeptFormAsk : Prop := fnRequireKeysInsertedKeyRefusedIffAbsentElseVerdictKeptRow.holds Tryf.pinned (OpenSpec.ofChange fnRequireKeysInsertedKeyRefusedIffAbsentElseVerdictKeptSpec)

/-- ITS FALSE NEIGHBOUR: 'it returns false'. Refute it at one input. -/
def fnRequireKeysInsertedKeyRefusedIffAbsentElseVerdictKeptWrong : ChangeSpec := { name := "fnRequireKeysInsertedKeyRefusedIffAbsentElseVerdictKept", fn := fun _ => fun
  | [d1, d2, d3, d4, d5, d6, d7, d8, d9, d10] => { results := [.lit (.bool false)], args := [d1, d2, d3, d4, d5, d6, d7, d8, d9, d10] }
  | _ => none }
def FnRequireKeysInsertedKeyRefusedIffAbsentElseVerdictKeptWrongFormAsk : Prop := fnRequireKeysInsertedKeyRefusedIffAbsentElseVerdictKeptRow.holds Tryf.pinned (OpenSpec.ofChange fnRequireKeysInsertedKeyRefusedIffAbsentElseVerdictKeptWrong)

end Rows
end Go.Proofs.Qxb6608952aFmt
