/-
  No cell of these rows narrows 'for every input' (looked for: loops, veiled, ifaces, maps, wideKeys, modest, calm, conditions, laid).
  DERIVED. THE GIVEN ROWS OF THIS SEAT. 3 by the template 'for every input the law returns true; each argument reads behind the call as it read before'; 0 by the template 'total and deterministic' (their statements: Qxb6601086aTotals.lean).
  GIVEN WITH THE SEED: the statements are not yours to turn. If you find one false, say at which input.
  Laid BY PROGRAM, IN A SANDBOX (cutbox-rows.mjs): the forced cells as the released guide's own fill.sh prints them over the translation 043592a47b687e9c… (all of the seat's roots in one cut). By AI agents, Wed Nov 11 2026. No macro, syntax, notation, axiom, sorry.
-/
import Derived.Test.Qxb6601086aChecked
import GoSem.Claim
import GoSem.ClaimJoined
import GoSem.ClaimMapViews
import Derived.JoinedTies
import Derived.KernelRfl
namespace Go.Proofs.Qxb6601086a
/- THE CELL 'sum', in the pinned program and in every row, IS THE sha256 OF THE DUMP (.gsa) THAT Qxb6601086aProg.lean LOADS. Nothing in Lean hashes anything: it is a label: what it is worth is what the hold of that sum in a sandbox is worth. -/
noncomputable def Try.pinned : Pinned := { name := "qxb6601086a", sum := "043592a47b687e9cb4ce78b67f70f4cf3efd82c5c4ac17c92c2e295db7db8b12", checked := Try.checked }
namespace Rows
def none {H : Type} : Left H := { results := [], args := [] }

/-- 'zzlaws_internal_history_b1.FnWalkValuesFillsFourTablePlaces': WHATEVER THE INPUT: true; the input reads as it did. -/
def fnWalkValuesFillsFourTablePlacesSpec : ChangeSpec := { name := "fnWalkValuesFillsFourTablePlaces", fn := fun _ => fun
  | [d] => { results := [.lit (.bool true)], args := [d] }
  | _ => none }
def fnWalkValuesFillsFourTablePlacesRow : OpenClaim := { program := "qxb6601086a", sum := "043592a47b687e9cb4ce78b67f70f4cf3efd82c5c4ac17c92c2e295db7db8b12", func := "example.com/tierd/tierd/zzlaws_internal_history_b1.FnWalkValuesFillsFourTablePlaces", spec := "fnWalkValuesFillsFourTablePlaces", apart := false }
def FnWalkValuesFillsFourTablePlacesSaid : Prop := fnWalkValuesFillsFourTablePlacesRow.holds Try.pinned (OpenSpec.ofChange fnWalkValuesFillsFourTablePlacesSpec)

/-- ITS FALSE NEIGHBOUR: 'it returns false'. Refute it at one input. -/
def fnWalkValuesFillsFourTablePlacesWrong : ChangeSpec := { name := "fnWalkValuesFillsFourTablePlaces", fn := fun _ => fun
  | [d] => { results := [.lit (.bool false)], args := [d] }
  | _ => none }
def FnWalkValuesFillsFourTablePlacesWrongFalsely : Prop := fnWalkValuesFillsFourTablePlacesRow.holds Try.pinned (OpenSpec.ofChange fnWalkValuesFillsFourTablePlacesWrong)

/-- 'zzlaws_internal_history_b1.FnWalkValuesDayReadsBack': WHATEVER THE INPUT: true; the input reads as it did. -/
def fnWalkValuesDayReadsBackSpec : ChangeSpec := { name := "fnWalkValuesDayReadsBack", fn := fun _ => fun
  | [d] => { results := [.lit (.bool true)], args := [d] }
  | _ => none }
def fnWalkValuesDayReadsBackRow : OpenClaim := { program := "qxb6601086a", sum := "043592a47b687e9cb4ce78b67f70f4cf3efd82c5c4ac17c92c2e295db7db8b12", func := "example.com/tierd/tierd/zzlaws_internal_history_b1.FnWalkValuesDayReadsBack", spec := "fnWalkValuesDayReadsBack", apart := false }
def FnWalkValuesDayReadsBackSaid : Prop := fnWalkValuesDayReadsBackRow.holds Try.pinned (OpenSpec.ofChange fnWalkValuesDayReadsBackSpec)

/-- ITS FALSE NEIGHBOUR: 'it returns false'. Refute it at one input. -/
def fnWalkValuesDayReadsBackWrong : ChangeSpec := { name := "fnWalkValuesDayReadsBack", fn := fun _ => fun
  | [d] => { results := [.lit (.bool false)], args := [d] }
  | _ => none }
def FnWalkValuesDayReadsBackWrongFalsely : Prop := fnWalkValuesDayReadsBackRow.holds Try.pinned (OpenSpec.ofChange fnWalkValuesDayReadsBackWrong)

/-- 'zzlaws_internal_history_b1.FnWalkValuesInjective': WHATEVER THE INPUT: true; the input reads as it did. -/
def fnWalkValuesInjectiveSpec : ChangeSpec := { name := "fnWalkValuesInjective", fn := fun _ => fun
  | [d1, d2] => { results := [.lit (.bool true)], args := [d1, d2] }
  | _ => none }
def fnWalkValuesInjectiveRow : OpenClaim := { program := "qxb6601086a", sum := "043592a47b687e9cb4ce78b67f70f4cf3efd82c5c4ac17c92c2e295db7db8b12", func := "example.com/tierd/tierd/zzlaws_internal_history_b1.FnWalkValuesInjective", spec := "fnWalkValuesInjective", apart := false }
def FnWalkValuesInjectiveSaid : Prop := fnWalkValuesInjectiveRow.holds Try.pinned (OpenSpec.ofChange fnWalkValuesInjectiveSpec)

/-- ITS FALSE NEIGHBOUR: 'it returns false'. Refute it at one input. -/
def fnWalkValuesInjectiveWrong : ChangeSpec := { name := "fnWalkValuesInjective", fn := fun _ => fun
  | [d1, d2] => { results := [.lit (.bool false)], args := [d1, d2] }
  | _ => none }
def FnWalkValuesInjectiveWrongFalsely : Prop := fnWalkValuesInjectiveRow.holds Try.pinned (OpenSpec.ofChange fnWalkValuesInjectiveWrong)

end Rows
end Go.Proofs.Qxb6601086a
