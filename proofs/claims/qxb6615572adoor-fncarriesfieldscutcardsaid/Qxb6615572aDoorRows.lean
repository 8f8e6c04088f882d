/-
  NARROWER THAN 'FOR EVERY INPUT', by the rows' own cells (each row's printed sentence says how): FnCarriesExactly: laid · FnCarriesFieldsCut: laid.
  DERIVED. THE GIVEN ROWS OF THIS SEAT. 2 by the template 'for every input the law returns true; each argument reads behind the call as it read before'; 0 by the template 'total and deterministic' (their statements: Qxb6615572aDoorTotals.lean).
  GIVEN WITH THE SEED: the statements are not yours to turn. If you find one false, say at which input.
  Laid BY PROGRAM, IN A SANDBOX (cutbox-rows.mjs): the forced cells as the released guide's own fill.sh prints them over the translation 22826bb8dd04a013… (all of the seat's roots in one cut). By AI agents, Wed Nov 11 2026. No macro, syntax, notation, axiom, sorry.
-/
import Derived.Test.Qxb6615572aDoorChecked
import GoSem.Claim
import GoSem.ClaimJoined
import GoSem.ClaimMapViews
import Derived.JoinedTies
import Derived.KernelRfl
namespace Go.Proofs.Qxb6615572aDoor
/- THE CELL 'sum', in the pinned program and in every row, IS THE sha256 OF THE DUMP (.gsa) THAT Qxb6615572aDoorProg.lean LOADS. Nothing in Lean hashes anything: it is a label: what it is worth is what the hold of that sum in a sandbox is worth. -/
noncomputable def Tryd.pinned : Pinned := { name := "qxb6615572adoor", sum := "22826bb8dd04a013d9f9ffc83096774607e35220574e6d1644d2a55bdc79fd64", checked := Tryd.checked }
namespace Rows
def none {H : Type} : Left H := { results := [], args := [] }

/- WHAT THE LISTED PACKAGE-LEVEL VARIABLES READ AS WHEN THE CALL BEGINS. Each datum BY PROGRAM (the guide's laid-datum.mjs) off the statement by which the dump's own 'gosem.cut.vars' lays the variable. In a bare row this is a premise. The card (Qxb6615572aDoorCards.lean) ties it to the program's text. -/
def laid_net_http_NoBody {H : Type} : DataW H := .agg []

/-- 'zzlaws_upstream_b1.FnCarriesExactly': WHATEVER THE INPUT: true; the input reads as it did. -/
def fnCarriesExactlySpec : ChangeSpec := { name := "fnCarriesExactly", fn := fun _ => fun
  | [d1, d2, d3, d4, d5, d6, d7, d8] => { results := [.lit (.bool true)], args := [d1, d2, d3, d4, d5, d6, d7, d8] }
  | _ => none }
def fnCarriesExactlyRow : OpenClaim := { program := "qxb6615572adoor", sum := "22826bb8dd04a013d9f9ffc83096774607e35220574e6d1644d2a55bdc79fd64", func := "example.com/lychgate/lychgate/zzlaws_upstream_b1.FnCarriesExactly", spec := "fnCarriesExactly", named := ["net/http.NoBody"], apart := false, laid := [("net/http.NoBody", laid_net_http_NoBody)] }
def FnCarriesExactlySaid : Prop := fnCarriesExactlyRow.holds Tryd.pinned (OpenSpec.ofChange fnCarriesExactlySpec)

/-- ITS FALSE NEIGHBOUR: 'it returns false'. Refute it at one input. -/
def fnCarriesExactlyWrong : ChangeSpec := { name := "fnCarriesExactly", fn := fun _ => fun
  | [d1, d2, d3, d4, d5, d6, d7, d8] => { results := [.lit (.bool false)], args := [d1, d2, d3, d4, d5, d6, d7, d8] }
  | _ => none }
def FnCarriesExactlyWrongFalsely : Prop := fnCarriesExactlyRow.holds Tryd.pinned (OpenSpec.ofChange fnCarriesExactlyWrong)

/-- 'zzlaws_upstream_b1.FnCarriesFieldsCut': WHATEVER THE INPUT: true; the input reads as it did. -/
def fnCarriesFieldsCutSpec : ChangeSpec := { name := "fnCarriesFieldsCut", fn := fun _ => fun
  | [d1, d2, d3, d4, d5, d6, d7, d8, d9] => { results := [.lit (.bool true)], args := [d1, d2, d3, d4, d5, d6, d7, d8, d9] }
  | _ => none }
def fnCarriesFieldsCutRow : OpenClaim := { program := "qxb6615572adoor", sum := "22826bb8dd04a013d9f9ffc83096774607e35220574e6d1644d2a55bdc79fd64", func := "example.com/lychgate/lychgate/zzlaws_upstream_b1.FnCarriesFieldsCut", spec := "fnCarriesFieldsCut", named := ["net/http.NoBody"], apart := false, laid := [("net/http.NoBody", laid_net_http_NoBody)] }
def FnCarriesFieldsCutSaid : Prop := fnCarriesFieldsCutRow.holds Tryd.pinned (OpenSpec.ofChange fnCarriesFieldsCutSpec)

/-- ITS FALSE NEIGHBOUR: 'it returns false'. Refute it at one input. -/
def fnCarriesFieldsCutWrong : ChangeSpec := { name := "fnCarriesFieldsCut", fn := fun _ => fun
  | [d1, d2, d3, d4, d5, d6, d7, d8, d9] => { results := [.lit (.bool false)], args := [d1, d2, d3, d4, d5, d6, d7, d8, d9] }
  | _ => none }
def FnCarriesFieldsCutWrongFalsely : Prop := fnCarriesFieldsCutRow.holds Tryd.pinned (OpenSpec.ofChange fnCarriesFieldsCutWrong)

end Rows
end Go.Proofs.Qxb6615572aDoor
