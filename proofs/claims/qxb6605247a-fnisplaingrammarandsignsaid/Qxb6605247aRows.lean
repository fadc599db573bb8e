/-
  No cell of these rows narrows 'for every input' (looked for: loops, veiled, ifaces, maps, wideKeys, modest, calm, conditions, laid).
  DERIVED. THE GIVEN ROWS OF THIS SEAT. 2 by the template 'for every input the law returns true; each argument reads behind the call as it read before'; 0 by the template 'total and deterministic' (their statements: Qxb6605247aTotals.lean).
  GIVEN WITH THE SEED: the statements are not yours to turn. If you find one false, say at which input.
  Laid BY PROGRAM, IN A SANDBOX (cutbox-rows.mjs): the forced cells as the released guide's own fill.sh prints them over the translation 29c862ff7ff0758c… (all of the seat's roots in one cut). By AI agents, Wed Nov 11 2026. No macro, syntax, notation, axiom, sorry.
-/
import Derived.Test.Qxb6605247aChecked
import GoSem.Claim
import GoSem.ClaimJoined
import GoSem.ClaimMapViews
import Derived.JoinedTies
import Derived.KernelRfl
namespace Go.Proofs.Qxb6605247a
/- THE CELL 'sum', in the pinned program and in every row, IS THE sha256 OF THE DUMP (.gsa) THAT Qxb6605247aProg.lean LOADS. Nothing in Lean hashes anything: it is a label: what it is worth is what the hold of that sum in a sandbox is worth. -/
noncomputable def Try.pinned : Pinned := { name := "qxb6605247a", sum := "29c862ff7ff0758c0f2601f905b6ce36e52f6fc3050c13a913f3674fb49b9b12", checked := Try.checked }
namespace Rows
def none {H : Type} : Left H := { results := [], args := [] }

/-- 'zzlaws_internal_decimal_b1.FnIsPlainMatchesAutomaton': WHATEVER THE INPUT: true; the input reads as it did. -/
def fnIsPlainMatchesAutomatonSpec : ChangeSpec := { name := "fnIsPlainMatchesAutomaton", fn := fun _ => fun
  | [d] => { results := [.lit (.bool true)], args := [d] }
  | _ => none }
def fnIsPlainMatchesAutomatonRow : OpenClaim := { program := "qxb6605247a", sum := "29c862ff7ff0758c0f2601f905b6ce36e52f6fc3050c13a913f3674fb49b9b12", func := "example.com/custodex/custodex/zzlaws_internal_decimal_b1.FnIsPlainMatchesAutomaton", spec := "fnIsPlainMatchesAutomaton", apart := false }
def FnIsPlainMatchesAutomatonSaid : Prop := fnIsPlainMatchesAutomatonRow.holds Try.pinned (OpenSpec.ofChange fnIsPlainMatchesAutomatonSpec)

/-- ITS FALSE NEIGHBOUR: 'it returns false'. Refute it at one input. -/
def fnIsPlainMatchesAutomatonWrong : ChangeSpec := { name := "fnIsPlainMatchesAutomaton", fn := fun _ => fun
  | [d] => { results := [.lit (.bool false)], args := [d] }
  | _ => none }
def FnIsPlainMatchesAutomatonWrongFalsely : Prop := fnIsPlainMatchesAutomatonRow.holds Try.pinned (OpenSpec.ofChange fnIsPlainMatchesAutomatonWrong)

/-- 'zzlaws_internal_decimal_b1.FnIsPlainGrammarAndSign': WHATEVER THE INPUT: true; the input reads as it did. -/
def fnIsPlainGrammarAndSignSpec : ChangeSpec := { name := "fnIsPlainGrammarAndSign", fn := fun _ => fun
  | [d] => { results := [.lit (.bool true)], args := [d] }
  | _ => none }
def fnIsPlainGrammarAndSignRow : OpenClaim := { program := "qxb6605247a", sum := "29c862ff7ff0758c0f2601f905b6ce36e52f6fc3050c13a913f3674fb49b9b12", func := "example.com/custodex/custodex/zzlaws_internal_decimal_b1.FnIsPlainGrammarAndSign", spec := "fnIsPlainGrammarAndSign", apart := false }
def FnIsPlainGrammarAndSignSaid : Prop := fnIsPlainGrammarAndSignRow.holds Try.pinned (OpenSpec.ofChange fnIsPlainGrammarAndSignSpec)

/-- ITS FALSE NEIGHBOUR: 'it returns false'. Refute it at one input. -/
def fnIsPlainGrammarAndSignWrong : ChangeSpec := { name := "fnIsPlainGrammarAndSign", fn := fun _ => fun
  | [d] => { results := [.lit (.bool false)], args := [d] }
  | _ => none }
def FnIsPlainGrammarAndSignWrongFalsely : Prop := fnIsPlainGrammarAndSignRow.holds Try.pinned (OpenSpec.ofChange fnIsPlainGrammarAndSignWrong)

end Rows
end Go.Proofs.Qxb6605247a
