/-
  THE PROOF OF 'Rows.FnCopyRangeArrayFreshAndEqualCardSaid': the row's step over the walk; then the tied card by the builder's one call.
-/
import Derived.Test.YoefawDoorWalk
import Derived.Test.YoefawDoorTie
import Derived.Test.YoefawDoorCards
import Derived.ProofKit
import Derived.ChangeOld
import Derived.ChangeVars
import Derived.RowKitTokens
import Derived.WalkSmall
import Derived.LaidMore
import Derived.Stop.Joined
import Derived.SevenTiedAt
namespace Go.Proofs.YoefawDoor.fnCopyRangeArrayFreshAndEqual
open Go.ChangeShapes Go.WideShapes Go.ChangeAt Go.RowKit

theorem own : ownKnob Efag.prog.godebug = none := by kernel_rfl
/-- The one variable that the row names. -/
def errName : String := Rows.fnCopyRangeArrayFreshAndEqualSpec.vars.headD ""
theorem gErr : Efag.prog.globalNamed errName = some 0 := by kernel_rfl
theorem tErr : (Efag.prog.globals[0]?).map (·.type) = some 34 := by kernel_rfl

/-- The door's own heap meets the condition. -/
theorem door_met (os : Os) (args : Array Value) : laidMetH Efag.prog Rows.fnCopyRangeArrayFreshAndEqualRow.laid ((World.doorLaid Efag.prog 28 os).forCall (fun _ _ => 0) ⟨#[], args, []⟩).memory :=
  laidMetH_of_parts3 (fuel := 8) (laidMet_of_run' 8 (by kernel_rfl) (by kernel_rfl)) (by kernel_rfl) (by kernel_rfl)

set_option maxRecDepth 100000 in
theorem lifted (os : Os) (started : os.Started) (H : Type) (enc : TypeId × Value → H) :
    ReturnsInHanded {} Efag.checked os 3 .any (fun w args => (Rows.fnCopyRangeArrayFreshAndEqualSpec.pre enc Efag.prog Efag.f3 [] false w args ∧ laidMetH Efag.prog Rows.fnCopyRangeArrayFreshAndEqualRow.laid w) ∧ sizedMet enc Efag.prog Efag.f3 (OpenSpec.ofChange Rows.fnCopyRangeArrayFreshAndEqualSpec) false w args)
      (Rows.fnCopyRangeArrayFreshAndEqualSpec.post enc Efag.prog Efag.f3 false true false false) := by
  refine returnsInHanded_of_change_and (C := Efag.checked) (X := fun w _ => laidMetH Efag.prog Rows.fnCopyRangeArrayFreshAndEqualRow.laid w) (fun _ _ _ hh h => h.of_heap hh) own started (by kernel_rfl) Efag.func3
    (ChangeSpec.witness_shaped (enc := enc) (C := Efag.checked) (os := os) (X := fun w _ => laidMetH Efag.prog Rows.fnCopyRangeArrayFreshAndEqualRow.laid w) false (World.doorLaid Efag.prog 28 os) #[.int .i64 0, .int .i64 0] 8 rfl (World.shaped_of_RefB (by kernel_rfl) (by kernel_rfl)) (by kernel_rfl) (by kernel_rfl) (by kernel_rfl) (door_met os _)) ?_
  intro W base args ds gs before hval0 hW _ _ _ _
  have hval : ∀ (j : Nat) t v, Efag.f3.params[j]? = some t → args[j]? = some v → Value.okWide Efag.prog W .any base t v := hval0
  have hW' := hW
  obtain ⟨p, q, hA0, hV0, rfl, hfz, hnd⟩ := hW
  have hA : DataW.TrodAll enc Efag.prog W 0 (fun _ => true) true Efag.f3.params.toList args.toList ds p := hA0
  have hV : DataW.TrodVars enc Efag.prog W (fun _ => true) [errName] gs q := hV0
  rw [Efag.params3] at hA hval
  obtain ⟨v0, v1, d0, d1, p0, p1, rfl, rfl, rfl, h0, h1⟩ := trodAll_two hA
  obtain ⟨a0, rfl, rfl, rfl, w0⟩ := open_int Efag.underlying2 (hval 0 2 v0 rfl rfl) h0
  obtain ⟨a1, rfl, rfl, rfl, w1⟩ := open_int Efag.underlying2 (hval 1 2 v1 rfl rfl) h1
  obtain ⟨g, t, cs, fuel, d, p', rfl, hg, ht, hvar, hd, rfl⟩ := trodVars_one hV
  obtain rfl := Option.some.inj (gErr.symm.trans hg)
  obtain rfl := Option.some.inj (tErr.symm.trans ht)
  obtain ⟨old, hcs, ho, hx⟩ := held_of_trod_list Efag.underlying34 hd
  simp only [Prod.mk.injEq] at hx
  obtain ⟨rfl, rfl⟩ := hx
  have hcs' : cs = #[old] := by
    cases cs
    simp_all
  subst hcs'
  have hlt : 0 < W.heap.size := World.block_lt_of_cell? W ⟨0, 0, none⟩ (by simpa using World.var?_cell hg hvar 0)
  clear hA0 hV0 hval0
  refine (copy_any a0 a1 W).mono fun e W' ⟨he, bel⟩ => ?_
  subst he
  have hvars : ∀ sp : Nat → Bool, DataW.TrodVars enc Efag.prog W' sp [errName] [tok enc old] (MemPlace.row ⟨0, 0, none⟩ (#[old] : Array Value).size ++ []) := fun sp =>
    trodVars_mk1 (enc := enc) (spare := sp) (fuel := 1) (d := tok enc old) (p := []) hg ht (var?_below bel hg hlt hvar) (trod_held Efag.underlying34 ho 0)
  exact ⟨_, rfl, _, _, _, [], _, _, hW', trodAll_mk1 (shut_bool Efag.underlying4 _), trodAll_mk2 (shut_int Efag.underlying2 w0) (shut_int Efag.underlying2 w1), hvars _, bel.frame _, fun h => by cases h⟩

theorem row_holds : Rows.FnCopyRangeArrayFreshAndEqualSaid :=
  OpenClaim.holds_of_wide 3 Efag.f3 rfl rfl rfl rfl rfl rfl rfl ⟨rfl, rfl, rfl, rfl, rfl⟩ rfl rfl rfl rfl rfl (by kernel_rfl) Efag.func3 (by kernel_rfl)
    (of_decide_eq_true (by kernel_rfl)) (by unfold Func.isWrapper; first | (rw [if_pos (by decide +kernel)]; kernel_rfl) | (rw [if_neg (by decide +kernel)]; exact ⟨rfl, rfl⟩))
    (fun os started H enc _ => lifted os started H enc)

/-- THE STATEMENT: the tied card. -/
theorem proved : Rows.FnCopyRangeArrayFreshAndEqualCardSaid :=
  Claim7.holds_tied_plain_at .later [] [.called] true (true, "ff6c7a75f5bef9b61bcc6d48365b1f79da9d4ca966f005318ec33a71f02723f0") true
    row_holds (fun _ h => by cases h) (by kernel_rfl) (fun _ h => by cases h) fnCopyRangeArrayFreshAndEqual_row_tie rfl ⟨rfl, rfl⟩ (by kernel_rfl) rfl
    (fun f fn hf hfn => by
      obtain rfl : f = 3 := Option.some.inj ((show Efag.prog.funcNamed Rows.fnCopyRangeArrayFreshAndEqualRow.func = some 3 by kernel_rfl).symm.trans hf) |>.symm
      obtain rfl : fn = Efag.f3 := (Option.some.inj (Efag.func3.symm.trans hfn)).symm
      exact ⟨by kernel_rfl, fun j t ht => by
        rw [Efag.params3] at ht
        have hm : t ∈ [2, 2] := by simpa using Array.mem_of_getElem? ht
        have hall : ([2, 2].all fun u => !Efag.prog.wantsStandIn u) = true := by kernel_rfl
        exact (show Efag.prog.wantsStandIn t = false by simpa using List.all_eq_true.1 hall t hm)⟩)
    (by kernel_rfl)
end Go.Proofs.YoefawDoor.fnCopyRangeArrayFreshAndEqual
