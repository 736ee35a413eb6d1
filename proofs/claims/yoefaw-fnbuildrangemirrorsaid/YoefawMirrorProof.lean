/-
  THE PROOF OF 'Rows.FnBuildRangeMirrorSaid': the row's step over the walk. The frame is the guide's shell, its world told by 'Below'.
-/
import Derived.Test.YoefawMirrorWalk
import Derived.ProofKit
import Derived.ChangeOld
import Derived.Below
namespace Go.Proofs.Yoefaw.fnBuildRangeMirror
open Go.ChangeShapes Go.WideShapes Go.ChangeAt Go.RowKit

theorem own : ownKnob Efag.prog.godebug = none := by kernel_rfl

set_option maxRecDepth 100000 in
theorem lifted (os : Os) (started : os.Started) (H : Type) (enc : TypeId × Value → H) :
    ReturnsInHanded {} Efag.checked os 4 .any (Rows.fnBuildRangeMirrorSpec.pre6 enc Efag.prog Efag.f4 Rows.fnBuildRangeMirrorRow.domain false) (Rows.fnBuildRangeMirrorSpec.post enc Efag.prog Efag.f4 false true false false) := by
  refine returnsInHanded_of_change (C := Efag.checked) own started (by kernel_rfl) Efag.func4
    (ChangeSpec.witness6 (enc := enc) (C := Efag.checked) false ⟨#[], #[.int .i64 0, .int .i64 0, .int .i64 0], []⟩ 8 (by kernel_rfl) (by kernel_rfl) (by kernel_rfl) (by kernel_rfl)) ?_
  intro W base args ds gs before hval0 hW hcnd _
  have hval : ∀ (j : Nat) t v, Efag.f4.params[j]? = some t → args[j]? = some v → Value.okWide Efag.prog W .any base t v := hval0
  have hW' := hW
  obtain ⟨p, q, hA0, hV, rfl, hfz, hnd⟩ := hW
  have hA : DataW.TrodAll enc Efag.prog W 0 (fun _ => true) true Efag.f4.params.toList args.toList ds p := hA0
  rw [Efag.params4] at hA hval
  obtain ⟨v0, vs0, d0, ds0, p0, q0, hargs, rfl, rfl, h0, r0⟩ := trodAll_cons hA
  obtain ⟨v1, vs1, d1, ds1, p1, q1, rfl, rfl, rfl, h1, r1⟩ := trodAll_cons r0
  obtain ⟨v2, vs2, d2, ds2, p2, q2, rfl, rfl, rfl, h2, r2⟩ := trodAll_cons r1
  obtain ⟨rfl, rfl, rfl⟩ := trodAll_nil r2
  obtain rfl : args = #[v0, v1, v2] := by cases args; simp_all
  obtain ⟨rfl, rfl⟩ := trodVars_none hV
  obtain ⟨a0, rfl, rfl, rfl, w0⟩ := open_int Efag.underlying2 (hval 0 2 v0 rfl rfl) h0
  obtain ⟨a1, rfl, rfl, rfl, w1⟩ := open_int Efag.underlying2 (hval 1 2 v1 rfl rfl) h1
  obtain ⟨a2, rfl, rfl, rfl, w2⟩ := open_int Efag.underlying2 (hval 2 2 v2 rfl rfl) h2
  clear hA0 hval0
  refine (mirror_any a0 a1 a2 W).mono fun e W' ⟨he, bel⟩ => ?_
  subst he
  exact ⟨_, rfl, _, _, _, [], _, [], hW', trodAll_mk1 (shut_bool Efag.underlying4 _), trodAll_mk3 (shut_int Efag.underlying2 w0) (shut_int Efag.underlying2 w1) (shut_int Efag.underlying2 w2), rfl, bel.frame _, fun h => by cases h⟩

theorem over : Rows.fnBuildRangeMirrorRow.holds Efag.pinned (OpenSpec.ofChange Rows.fnBuildRangeMirrorSpec) :=
  OpenClaim.holds_of_wide 4 Efag.f4 rfl rfl rfl rfl rfl rfl rfl ⟨rfl, rfl, rfl, rfl, rfl⟩ rfl rfl rfl rfl rfl (by kernel_rfl) Efag.func4 (by kernel_rfl)
    (of_decide_eq_true (by kernel_rfl)) (by unfold Func.isWrapper; first | (rw [if_pos (by decide +kernel)]; kernel_rfl) | (rw [if_neg (by decide +kernel)]; exact ⟨rfl, rfl⟩))
    (fun os started H enc _ => lifted os started H enc)

/-- THE STATEMENT -/
theorem proved : Rows.FnBuildRangeMirrorSaid :=
  over
end Go.Proofs.Yoefaw.fnBuildRangeMirror
