/-
  DERIVED. GIVEN WITH THE SEED: THE CARDS: each row of YoefawDoorRows.lean that lists a variable, with what it lists TIED to the program's text (the seventh form; the later family's looks); each row that meets fmt, with fmt's text TOLD by the authors' own Lean function (tested against real Go, not proved from fmt's source: count such statements apart). THE CARD IS WHAT COUNTS. Prove the row's statement (the work); the ties are given (YoefawDoorTie.lean); close each card by the builder's one call (the guide's Derived/Test/ToyasCard.lean, 'card_holds'). Laid BY PROGRAM, IN A SANDBOX (cutbox-door.mjs). By AI agents, Wed Nov 11 2026. No macro, syntax, notation, axiom, sorry.
-/
import Derived.Test.YoefawDoorRows
import GoSem.ClaimSeven
namespace Go.Proofs.YoefawDoor
namespace Rows

/-- THE TIED CARD OF 'zzlaws_root_b3.FnCopyRangeArrayFreshAndEqual'. -/
def fnCopyRangeArrayFreshAndEqualCard : Claim7 := { stood := { row := fnCopyRangeArrayFreshAndEqualRow, standIns := [], harness := (true, "ff6c7a75f5bef9b61bcc6d48365b1f79da9d4ca966f005318ec33a71f02723f0"), looks := true }, kinds := [], alts := [], laidByText := true, laidKinds := [.called], laidTests := true, laidLooks := .later }
def FnCopyRangeArrayFreshAndEqualCardSaid : Prop := Claim7.holds Efag.pinned (.plain (OpenSpec.ofChange fnCopyRangeArrayFreshAndEqualSpec)) fnCopyRangeArrayFreshAndEqualCard
end Rows
end Go.Proofs.YoefawDoor
