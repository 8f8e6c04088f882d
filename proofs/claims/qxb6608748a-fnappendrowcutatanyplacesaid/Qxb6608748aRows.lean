/-
  No cell of these rows narrows 'for every input' (looked for: loops, veiled, ifaces, maps, wideKeys, modest, calm, conditions, laid).
  DERIVED. THE GIVEN ROWS OF THIS SEAT. 4 by the template 'for every input the law returns true; each argument reads behind the call as it read before'; 0 by the template 'total and deterministic' (their statements: Qxb6608748aTotals.lean).
  GIVEN WITH THE SEED: the statements are not yours to turn. If you find one false, say at which input.
  Laid BY PROGRAM, IN A SANDBOX (cutbox-rows.mjs): the forced cells as the released guide's own fill.sh prints them over the translation 588c0527980ecd6c… (all of the seat's roots in one cut). By AI agents, Wed Nov 11 2026. No macro, syntax, notation, axiom, sorry.
-/
import Derived.Test.Qxb6608748aChecked
import GoSem.Claim
import GoSem.ClaimJoined
import GoSem.ClaimMapViews
import Derived.JoinedTies
import Derived.KernelRfl
namespace Go.Proofs.Qxb6608748a
/- THE CELL 'sum', in the pinned program and in every row, IS THE sha256 OF THE DUMP (.gsa) THAT Qxb6608748aProg.lean LOADS. Nothing in Lean hashes anything: it is a label: what it is worth is what the hold of that sum in a sandbox is worth. -/
noncomputable def Try.pinned : Pinned := { name := "qxb6608748a", sum := "588c0527980ecd6ced94cbe4911afa5a53d73e741e23e10c9fbef180d8e3b057", checked := Try.checked }
namespace Rows
def none {H : Type} : Left H := { results := [], args := [] }

/-- 'zzlaws_internal_engine_b1.FnAppendRowDecodesBack': WHATEVER THE INPUT: true; the input reads as it did. -/
def fnAppendRowDecodesBackSpec : ChangeSpec := { name := "fnAppendRowDecodesBack", fn := fun _ => fun
  | [d1, d2] => { results := [.lit (.bool true)], args := [d1, d2] }
  | _ => none }
def fnAppendRowDecodesBackRow : OpenClaim := { program := "qxb6608748a", sum := "588c0527980ecd6ced94cbe4911afa5a53d73e741e23e10c9fbef180d8e3b057", func := "example.com/palimpsest/palimpsest/zzlaws_internal_engine_b1.FnAppendRowDecodesBack", spec := "fnAppendRowDecodesBack", plainKeys := false, apart := false }
def FnAppendRowDecodesBackSaid : Prop := fnAppendRowDecodesBackRow.holds Try.pinned (OpenSpec.ofChange fnAppendRowDecodesBackSpec)

/-- ITS FALSE NEIGHBOUR: 'it returns false'. Refute it at one input. -/
def fnAppendRowDecodesBackWrong : ChangeSpec := { name := "fnAppendRowDecodesBack", fn := fun _ => fun
  | [d1, d2] => { results := [.lit (.bool false)], args := [d1, d2] }
  | _ => none }
def FnAppendRowDecodesBackWrongFalsely : Prop := fnAppendRowDecodesBackRow.holds Try.pinned (OpenSpec.ofChange fnAppendRowDecodesBackWrong)

/-- 'zzlaws_internal_engine_b1.FnAppendRowCutAtAnyPlace': WHATEVER THE INPUT: true; the input reads as it did. -/
def fnAppendRowCutAtAnyPlaceSpec : ChangeSpec := { name := "fnAppendRowCutAtAnyPlace", fn := fun _ => fun
  | [d1, d2, d3] => { results := [.lit (.bool true)], args := [d1, d2, d3] }
  | _ => none }
def fnAppendRowCutAtAnyPlaceRow : OpenClaim := { program := "qxb6608748a", sum := "588c0527980ecd6ced94cbe4911afa5a53d73e741e23e10c9fbef180d8e3b057", func := "example.com/palimpsest/palimpsest/zzlaws_internal_engine_b1.FnAppendRowCutAtAnyPlace", spec := "fnAppendRowCutAtAnyPlace", plainKeys := false, apart := false }
def FnAppendRowCutAtAnyPlaceSaid : Prop := fnAppendRowCutAtAnyPlaceRow.holds Try.pinned (OpenSpec.ofChange fnAppendRowCutAtAnyPlaceSpec)

/-- ITS FALSE NEIGHBOUR: 'it returns false'. Refute it at one input. -/
def fnAppendRowCutAtAnyPlaceWrong : ChangeSpec := { name := "fnAppendRowCutAtAnyPlace", fn := fun _ => fun
  | [d1, d2, d3] => { results := [.lit (.bool false)], args := [d1, d2, d3] }
  | _ => none }
def FnAppendRowCutAtAnyPlaceWrongFalsely : Prop := fnAppendRowCutAtAnyPlaceRow.holds Try.pinned (OpenSpec.ofChange fnAppendRowCutAtAnyPlaceWrong)

/-- 'zzlaws_internal_engine_b1.FnCursorNextWalksEveryRecordInOrder': WHATEVER THE INPUT: true; the input reads as it did. -/
def fnCursorNextWalksEveryRecordInOrderSpec : ChangeSpec := { name := "fnCursorNextWalksEveryRecordInOrder", fn := fun _ => fun
  | [d] => { results := [.lit (.bool true)], args := [d] }
  | _ => none }
def fnCursorNextWalksEveryRecordInOrderRow : OpenClaim := { program := "qxb6608748a", sum := "588c0527980ecd6ced94cbe4911afa5a53d73e741e23e10c9fbef180d8e3b057", func := "example.com/palimpsest/palimpsest/zzlaws_internal_engine_b1.FnCursorNextWalksEveryRecordInOrder", spec := "fnCursorNextWalksEveryRecordInOrder", plainKeys := false, apart := false }
def FnCursorNextWalksEveryRecordInOrderSaid : Prop := fnCursorNextWalksEveryRecordInOrderRow.holds Try.pinned (OpenSpec.ofChange fnCursorNextWalksEveryRecordInOrderSpec)

/-- ITS FALSE NEIGHBOUR: 'it returns false'. Refute it at one input. -/
def fnCursorNextWalksEveryRecordInOrderWrong : ChangeSpec := { name := "fnCursorNextWalksEveryRecordInOrder", fn := fun _ => fun
  | [d] => { results := [.lit (.bool false)], args := [d] }
  | _ => none }
def FnCursorNextWalksEveryRecordInOrderWrongFalsely : Prop := fnCursorNextWalksEveryRecordInOrderRow.holds Try.pinned (OpenSpec.ofChange fnCursorNextWalksEveryRecordInOrderWrong)

/-- 'zzlaws_internal_engine_b1.FnCursorNextTwiceFromAnyRecord': WHATEVER THE INPUT: true; the input reads as it did. -/
def fnCursorNextTwiceFromAnyRecordSpec : ChangeSpec := { name := "fnCursorNextTwiceFromAnyRecord", fn := fun _ => fun
  | [d1, d2, d3] => { results := [.lit (.bool true)], args := [d1, d2, d3] }
  | _ => none }
def fnCursorNextTwiceFromAnyRecordRow : OpenClaim := { program := "qxb6608748a", sum := "588c0527980ecd6ced94cbe4911afa5a53d73e741e23e10c9fbef180d8e3b057", func := "example.com/palimpsest/palimpsest/zzlaws_internal_engine_b1.FnCursorNextTwiceFromAnyRecord", spec := "fnCursorNextTwiceFromAnyRecord", plainKeys := false, apart := false }
def FnCursorNextTwiceFromAnyRecordSaid : Prop := fnCursorNextTwiceFromAnyRecordRow.holds Try.pinned (OpenSpec.ofChange fnCursorNextTwiceFromAnyRecordSpec)

/-- ITS FALSE NEIGHBOUR: 'it returns false'. Refute it at one input. -/
def fnCursorNextTwiceFromAnyRecordWrong : ChangeSpec := { name := "fnCursorNextTwiceFromAnyRecord", fn := fun _ => fun
  | [d1, d2, d3] => { results := [.lit (.bool false)], args := [d1, d2, d3] }
  | _ => none }
def FnCursorNextTwiceFromAnyRecordWrongFalsely : Prop := fnCursorNextTwiceFromAnyRecordRow.holds Try.pinned (OpenSpec.ofChange fnCursorNextTwiceFromAnyRecordWrong)

end Rows
end Go.Proofs.Qxb6608748a
