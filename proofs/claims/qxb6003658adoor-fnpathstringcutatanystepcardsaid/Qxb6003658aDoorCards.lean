/-
  DERIVED. GIVEN WITH THE SEED: THE CARDS: each row of Qxb6003658aDoorRows.lean that lists a variable, with what it lists TIED to the program's text (the seventh form; the later family's looks); each row that meets fmt, with fmt's text TOLD by the authors' own Lean function (tested against real Go, not proved from fmt's source: count such statements apart). THE CARD IS WHAT COUNTS. Prove the row's statement (the work); the ties are given (Qxb6003658aDoorTie.lean); close each card by the builder's one call (the guide's Derived/Test/ToyasCard.lean, 'card_holds'). Laid BY PROGRAM, IN A SANDBOX (cutbox-door.mjs). By AI agents, Wed Nov 11 2026. No macro, syntax, notation, axiom, sorry.
-/
import Derived.Test.Qxb6003658aDoorRows
import GoSem.ClaimSeven
namespace Go.Proofs.Qxb6003658aDoor
namespace Rows

/-- THE TIED CARD OF 'zzlaws_internal_jsonvalue_b1.FnPathStringCutAtAnyStep'. -/
def fnPathStringCutAtAnyStepCard : Claim7 := { stood := { row := fnPathStringCutAtAnyStepRow, standIns := [], harness := (true, "8c96ee6cbe63c24faa673e48abdc80da0f965caa6f35f804d905811476648471"), looks := false }, kinds := [], alts := [], laidByText := true, laidKinds := [.data, .data, .data], laidTests := true, laidLooks := .later }
def FnPathStringCutAtAnyStepCardSaid : Prop := Claim7.holds Tryd.pinned (.plain (OpenSpec.ofChange fnPathStringCutAtAnyStepSpec)) fnPathStringCutAtAnyStepCard
end Rows
end Go.Proofs.Qxb6003658aDoor
