/-
  No cell of these rows narrows 'for every input' (looked for: loops, veiled, ifaces, maps, wideKeys, modest, calm, conditions, laid).
  DERIVED. THE GIVEN ROWS OF THIS SEAT. 2 by the template 'for every input the law returns true; each argument reads behind the call as it read before'; 0 by the template 'total and deterministic' (their statements: YoefawTotals.lean).
  GIVEN WITH THE SEED: the statements are not yours to turn. If you find one false, say at which input.
  Laid BY PROGRAM, IN A SANDBOX (cutbox-rows.mjs): the forced cells as the released guide's own fill.sh prints them over the translation 893bee356ded05d8… (all of the seat's roots in one cut). By AI agents, Wed Nov 11 2026. No macro, syntax, notation, axiom, sorry.
-/
import Derived.Test.YoefawChecked
import GoSem.Claim
import GoSem.ClaimJoined
import GoSem.ClaimMapViews
import Derived.JoinedTies
import Derived.KernelRfl
namespace Go.Proofs.Yoefaw
/- THE CELL 'sum', in the pinned program and in every row, IS THE sha256 OF THE DUMP (.gsa) THAT YoefawProg.lean LOADS. Nothing in Lean hashes anything: it is a label: what it is worth is what the hold of that sum in a sandbox is worth. -/
noncomputable def Efag.pinned : Pinned := { name := "yoefaw", sum := "893bee356ded05d8d2ae97d9ca84682c61c24023185415097353a3463ca3ac3f", checked := Efag.checked }
namespace Rows
def none {H : Type} : Left H := { results := [], args := [] }

/-- 'zzlaws_root_b3.FnBuildRangeClosedForm': WHATEVER THE INPUT: true; the input reads as it did. -/
def fnBuildRangeClosedFormSpec : ChangeSpec := { name := "fnBuildRangeClosedForm", fn := fun _ => fun
  | [d1, d2, d3] => { results := [.lit (.bool true)], args := [d1, d2, d3] }
  | _ => none }
def fnBuildRangeClosedFormRow : OpenClaim := { program := "yoefaw", sum := "893bee356ded05d8d2ae97d9ca84682c61c24023185415097353a3463ca3ac3f", func := "github.com/d5/tengo/v2/zzlaws_root_b3.FnBuildRangeClosedForm", spec := "fnBuildRangeClosedForm", apart := false }
def FnBuildRangeClosedFormSaid : Prop := fnBuildRangeClosedFormRow.holds Efag.pinned (OpenSpec.ofChange fnBuildRangeClosedFormSpec)

/-- ITS FALSE NEIGHBOUR: 'it returns false'. Refute it at one input. -/
def fnBuildRangeClosedFormWrong : ChangeSpec := { name := "fnBuildRangeClosedForm", fn := fun _ => fun
  | [d1, d2, d3] => { results := [.lit (.bool false)], args := [d1, d2, d3] }
  | _ => none }
def FnBuildRangeClosedFormWrongFalsely : Prop := fnBuildRangeClosedFormRow.holds Efag.pinned (OpenSpec.ofChange fnBuildRangeClosedFormWrong)

/-- 'zzlaws_root_b3.FnBuildRangeMirror': WHATEVER THE INPUT: true; the input reads as it did. -/
def fnBuildRangeMirrorSpec : ChangeSpec := { name := "fnBuildRangeMirror", fn := fun _ => fun
  | [d1, d2, d3] => { results := [.lit (.bool true)], args := [d1, d2, d3] }
  | _ => none }
def fnBuildRangeMirrorRow : OpenClaim := { program := "yoefaw", sum := "893bee356ded05d8d2ae97d9ca84682c61c24023185415097353a3463ca3ac3f", func := "github.com/d5/tengo/v2/zzlaws_root_b3.FnBuildRangeMirror", spec := "fnBuildRangeMirror", apart := false }
def FnBuildRangeMirrorSaid : Prop := fnBuildRangeMirrorRow.holds Efag.pinned (OpenSpec.ofChange fnBuildRangeMirrorSpec)

/-- ITS FALSE NEIGHBOUR: 'it returns false'. Refute it at one input. -/
def fnBuildRangeMirrorWrong : ChangeSpec := { name := "fnBuildRangeMirror", fn := fun _ => fun
  | [d1, d2, d3] => { results := [.lit (.bool false)], args := [d1, d2, d3] }
  | _ => none }
def FnBuildRangeMirrorWrongFalsely : Prop := fnBuildRangeMirrorRow.holds Efag.pinned (OpenSpec.ofChange fnBuildRangeMirrorWrong)

end Rows
end Go.Proofs.Yoefaw
