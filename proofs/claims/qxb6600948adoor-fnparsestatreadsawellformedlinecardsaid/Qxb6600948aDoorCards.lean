/-
  DERIVED. GIVEN WITH THE SEED: THE CARDS: each row of Qxb6600948aDoorRows.lean that lists a variable, with what it lists TIED to the program's text (the seventh form; the later family's looks); each row that meets fmt, with fmt's text TOLD by the authors' own Lean function (tested against real Go, not proved from fmt's source: count such statements apart). THE CARD IS WHAT COUNTS. Prove the row's statement (the work); the ties are given (Qxb6600948aDoorTie.lean); close each card by the builder's one call (the guide's Derived/Test/ToyasCard.lean, 'card_holds'). Laid BY PROGRAM, IN A SANDBOX (cutbox-door.mjs). By AI agents, Wed Nov 11 2026. No macro, syntax, notation, axiom, sorry.
-/
import Derived.Test.Qxb6600948aDoorRows
import GoSem.ClaimSeven
namespace Go.Proofs.Qxb6600948aDoor
namespace Rows

/-- THE TIED CARD OF 'zzlaws_stack_b1.FnParseStatReadsAWellFormedLine'. -/
def fnParseStatReadsAWellFormedLineCard : Claim7 := { stood := { row := fnParseStatReadsAWellFormedLineRow, standIns := [], harness := (true, "b616c5e1056c0d2083c4fa3257340d8a382d2bc98a232e50273f9187d3c8d38b"), looks := true }, kinds := [], alts := [], laidByText := true, laidKinds := [.data, .data, .data, .sentinel, .sentinel, .listed, .data], laidTests := true, laidLooks := .later }
def FnParseStatReadsAWellFormedLineCardSaid : Prop := Claim7.holds Tryd.pinned (.plain (OpenSpec.ofChange fnParseStatReadsAWellFormedLineSpec)) fnParseStatReadsAWellFormedLineCard

/-- THE TIED CARD OF 'zzlaws_stack_b1.FnParseStatRefusesAShortLineOrOneWithoutParen'. -/
def fnParseStatRefusesAShortLineOrOneWithoutParenCard : Claim7 := { stood := { row := fnParseStatRefusesAShortLineOrOneWithoutParenRow, standIns := [], harness := (true, "b616c5e1056c0d2083c4fa3257340d8a382d2bc98a232e50273f9187d3c8d38b"), looks := true }, kinds := [], alts := [], laidByText := true, laidKinds := [.data, .data, .data, .sentinel, .sentinel, .listed, .data], laidTests := true, laidLooks := .later }
def FnParseStatRefusesAShortLineOrOneWithoutParenCardSaid : Prop := Claim7.holds Tryd.pinned (.plain (OpenSpec.ofChange fnParseStatRefusesAShortLineOrOneWithoutParenSpec)) fnParseStatRefusesAShortLineOrOneWithoutParenCard

/-- THE TIED CARD OF 'zzlaws_stack_b1.FnParseStatHangsOnlyOnWhatFollowsTheLastParen'. -/
def fnParseStatHangsOnlyOnWhatFollowsTheLastParenCard : Claim7 := { stood := { row := fnParseStatHangsOnlyOnWhatFollowsTheLastParenRow, standIns := [], harness := (true, "b616c5e1056c0d2083c4fa3257340d8a382d2bc98a232e50273f9187d3c8d38b"), looks := true }, kinds := [], alts := [], laidByText := true, laidKinds := [.data, .data, .data, .sentinel, .sentinel, .listed, .data], laidTests := true, laidLooks := .later }
def FnParseStatHangsOnlyOnWhatFollowsTheLastParenCardSaid : Prop := Claim7.holds Tryd.pinned (.plain (OpenSpec.ofChange fnParseStatHangsOnlyOnWhatFollowsTheLastParenSpec)) fnParseStatHangsOnlyOnWhatFollowsTheLastParenCard
end Rows
end Go.Proofs.Qxb6600948aDoor
