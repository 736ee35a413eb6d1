/-
  NARROWER THAN 'FOR EVERY INPUT', by the rows' own cells (each row's printed sentence says how): FnCopyRangeArrayFreshAndEqual: ifaces, laid.
  DERIVED. THE GIVEN ROWS OF THIS SEAT. 1 by the template 'for every input the law returns true; each argument reads behind the call as it read before'; 0 by the template 'total and deterministic' (their statements: YoefawDoorTotals.lean).
  GIVEN WITH THE SEED: the statements are not yours to turn. If you find one false, say at which input.
  Laid BY PROGRAM, IN A SANDBOX (cutbox-rows.mjs): the forced cells as the released guide's own fill.sh prints them over the translation cad655fb831834d6… (all of the seat's roots in one cut). By AI agents, Wed Nov 11 2026. No macro, syntax, notation, axiom, sorry.
-/
import Derived.Test.YoefawDoorChecked
import GoSem.Claim
import GoSem.ClaimJoined
import GoSem.ClaimMapViews
import Derived.JoinedTies
import Derived.KernelRfl
namespace Go.Proofs.YoefawDoor
/- THE CELL 'sum', in the pinned program and in every row, IS THE sha256 OF THE DUMP (.gsa) THAT YoefawDoorProg.lean LOADS. Nothing in Lean hashes anything: it is a label: what it is worth is what the hold of that sum in a sandbox is worth. -/
noncomputable def Efag.pinned : Pinned := { name := "yoefawdoor", sum := "cad655fb831834d6e94af8409d7e60dcf266a17f5602b8384f97eb0bc8b0af62", checked := Efag.checked }
namespace Rows
def none {H : Type} : Left H := { results := [], args := [] }

/- WHAT THE LISTED PACKAGE-LEVEL VARIABLES READ AS WHEN THE CALL BEGINS. Each datum BY PROGRAM (the guide's laid-datum.mjs) off the statement by which the dump's own 'gosem.cut.vars' lays the variable. In a bare row this is a premise. The card (YoefawDoorCards.lean) ties it to the program's text. -/
def laid_github_com_d5_tengo_v2_ErrWrongNumArguments {H : Type} : DataW H := .iface "*errors.errorString" (.ptr (.agg [.lit (.string [119, 114, 111, 110, 103, 32, 110, 117, 109, 98, 101, 114, 32, 111, 102, 32, 97, 114, 103, 117, 109, 101, 110, 116, 115])]))

/-- 'zzlaws_root_b3.FnCopyRangeArrayFreshAndEqual': WHATEVER THE INPUT: true; the input reads as it did. -/
def fnCopyRangeArrayFreshAndEqualSpec : ChangeSpec := { name := "fnCopyRangeArrayFreshAndEqual", vars := ["github.com/d5/tengo/v2.ErrWrongNumArguments"], fn := fun _ => fun
  | [d1, d2, g1] => { results := [.lit (.bool true)], args := [d1, d2], vars := [g1] }
  | _ => none }
def fnCopyRangeArrayFreshAndEqualRow : OpenClaim := { program := "yoefawdoor", sum := "cad655fb831834d6e94af8409d7e60dcf266a17f5602b8384f97eb0bc8b0af62", func := "github.com/d5/tengo/v2/zzlaws_root_b3.FnCopyRangeArrayFreshAndEqual", spec := "fnCopyRangeArrayFreshAndEqual", unfollowed := true, recurses := true, named := ["github.com/d5/tengo/v2.ErrWrongNumArguments"], ifaces := true, apart := false, laid := [("github.com/d5/tengo/v2.ErrWrongNumArguments", laid_github_com_d5_tengo_v2_ErrWrongNumArguments)] }
def FnCopyRangeArrayFreshAndEqualSaid : Prop := fnCopyRangeArrayFreshAndEqualRow.holds Efag.pinned (OpenSpec.ofChange fnCopyRangeArrayFreshAndEqualSpec)

/-- ITS FALSE NEIGHBOUR: 'it returns false'. Refute it at one input. -/
def fnCopyRangeArrayFreshAndEqualWrong : ChangeSpec := { name := "fnCopyRangeArrayFreshAndEqual", vars := ["github.com/d5/tengo/v2.ErrWrongNumArguments"], fn := fun _ => fun
  | [d1, d2, g1] => { results := [.lit (.bool false)], args := [d1, d2], vars := [g1] }
  | _ => none }
def FnCopyRangeArrayFreshAndEqualWrongFalsely : Prop := fnCopyRangeArrayFreshAndEqualRow.holds Efag.pinned (OpenSpec.ofChange fnCopyRangeArrayFreshAndEqualWrong)

end Rows
end Go.Proofs.YoefawDoor
