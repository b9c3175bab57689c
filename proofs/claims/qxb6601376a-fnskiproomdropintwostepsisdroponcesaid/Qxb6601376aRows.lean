/-
  No cell of these rows narrows 'for every input' (looked for: loops, veiled, ifaces, maps, wideKeys, modest, calm, conditions, laid).
  DERIVED. THE GIVEN ROWS OF THIS SEAT. 5 by the template 'for every input the law returns true; each argument reads behind the call as it read before'; 0 by the template 'total and deterministic' (their statements: Qxb6601376aTotals.lean).
  GIVEN WITH THE SEED: the statements are not yours to turn. If you find one false, say at which input.
  Laid BY PROGRAM, IN A SANDBOX (cutbox-rows.mjs): the forced cells as the released guide's own fill.sh prints them over the translation 13fac6f221927930… (all of the seat's roots in one cut). By AI agents, Wed Nov 11 2026. No macro, syntax, notation, axiom, sorry.
-/
import Derived.Test.Qxb6601376aChecked
import GoSem.Claim
import GoSem.ClaimJoined
import GoSem.ClaimMapViews
import Derived.JoinedTies
import Derived.KernelRfl
namespace Go.Proofs.Qxb6601376a
/- THE CELL 'sum', in the pinned program and in every row, IS THE sha256 OF THE DUMP (.gsa) THAT Qxb6601376aProg.lean LOADS. Nothing in Lean hashes anything: it is a label: what it is worth is what the hold of that sum in a sandbox is worth. -/
noncomputable def Try.pinned : Pinned := { name := "qxb6601376a", sum := "13fac6f2219279308ef20472864b39a055d4c40a08aa94e872b79303a9fbd661", checked := Try.checked }
namespace Rows
def none {H : Type} : Left H := { results := [], args := [] }

/-- 'zzlaws_root_b1.FnXmlEscapeDecodesBackAndAttrCoversText': WHATEVER THE INPUT: true; the input reads as it did. -/
def fnXmlEscapeDecodesBackAndAttrCoversTextSpec : ChangeSpec := { name := "fnXmlEscapeDecodesBackAndAttrCoversText", fn := fun _ => fun
  | [d1, d2] => { results := [.lit (.bool true)], args := [d1, d2] }
  | _ => none }
def fnXmlEscapeDecodesBackAndAttrCoversTextRow : OpenClaim := { program := "qxb6601376a", sum := "13fac6f2219279308ef20472864b39a055d4c40a08aa94e872b79303a9fbd661", func := "example.com/wiregram/wiregram/zzlaws_root_b1.FnXmlEscapeDecodesBackAndAttrCoversText", spec := "fnXmlEscapeDecodesBackAndAttrCoversText", apart := false }
def FnXmlEscapeDecodesBackAndAttrCoversTextSaid : Prop := fnXmlEscapeDecodesBackAndAttrCoversTextRow.holds Try.pinned (OpenSpec.ofChange fnXmlEscapeDecodesBackAndAttrCoversTextSpec)

/-- ITS FALSE NEIGHBOUR: 'it returns false'. Refute it at one input. -/
def fnXmlEscapeDecodesBackAndAttrCoversTextWrong : ChangeSpec := { name := "fnXmlEscapeDecodesBackAndAttrCoversText", fn := fun _ => fun
  | [d1, d2] => { results := [.lit (.bool false)], args := [d1, d2] }
  | _ => none }
def FnXmlEscapeDecodesBackAndAttrCoversTextWrongFalsely : Prop := fnXmlEscapeDecodesBackAndAttrCoversTextRow.holds Try.pinned (OpenSpec.ofChange fnXmlEscapeDecodesBackAndAttrCoversTextWrong)

/-- 'zzlaws_root_b1.FnParseWeightMatchesQvalueGrammar': WHATEVER THE INPUT: true; the input reads as it did. -/
def fnParseWeightMatchesQvalueGrammarSpec : ChangeSpec := { name := "fnParseWeightMatchesQvalueGrammar", fn := fun _ => fun
  | [d] => { results := [.lit (.bool true)], args := [d] }
  | _ => none }
def fnParseWeightMatchesQvalueGrammarRow : OpenClaim := { program := "qxb6601376a", sum := "13fac6f2219279308ef20472864b39a055d4c40a08aa94e872b79303a9fbd661", func := "example.com/wiregram/wiregram/zzlaws_root_b1.FnParseWeightMatchesQvalueGrammar", spec := "fnParseWeightMatchesQvalueGrammar", apart := false }
def FnParseWeightMatchesQvalueGrammarSaid : Prop := fnParseWeightMatchesQvalueGrammarRow.holds Try.pinned (OpenSpec.ofChange fnParseWeightMatchesQvalueGrammarSpec)

/-- ITS FALSE NEIGHBOUR: 'it returns false'. Refute it at one input. -/
def fnParseWeightMatchesQvalueGrammarWrong : ChangeSpec := { name := "fnParseWeightMatchesQvalueGrammar", fn := fun _ => fun
  | [d] => { results := [.lit (.bool false)], args := [d] }
  | _ => none }
def FnParseWeightMatchesQvalueGrammarWrongFalsely : Prop := fnParseWeightMatchesQvalueGrammarRow.holds Try.pinned (OpenSpec.ofChange fnParseWeightMatchesQvalueGrammarWrong)

/-- 'zzlaws_root_b1.FnParseWeightReadsBackSpelledWeights': WHATEVER THE INPUT: true; the input reads as it did. -/
def fnParseWeightReadsBackSpelledWeightsSpec : ChangeSpec := { name := "fnParseWeightReadsBackSpelledWeights", fn := fun _ => fun
  | [d] => { results := [.lit (.bool true)], args := [d] }
  | _ => none }
def fnParseWeightReadsBackSpelledWeightsRow : OpenClaim := { program := "qxb6601376a", sum := "13fac6f2219279308ef20472864b39a055d4c40a08aa94e872b79303a9fbd661", func := "example.com/wiregram/wiregram/zzlaws_root_b1.FnParseWeightReadsBackSpelledWeights", spec := "fnParseWeightReadsBackSpelledWeights", apart := false }
def FnParseWeightReadsBackSpelledWeightsSaid : Prop := fnParseWeightReadsBackSpelledWeightsRow.holds Try.pinned (OpenSpec.ofChange fnParseWeightReadsBackSpelledWeightsSpec)

/-- ITS FALSE NEIGHBOUR: 'it returns false'. Refute it at one input. -/
def fnParseWeightReadsBackSpelledWeightsWrong : ChangeSpec := { name := "fnParseWeightReadsBackSpelledWeights", fn := fun _ => fun
  | [d] => { results := [.lit (.bool false)], args := [d] }
  | _ => none }
def FnParseWeightReadsBackSpelledWeightsWrongFalsely : Prop := fnParseWeightReadsBackSpelledWeightsRow.holds Try.pinned (OpenSpec.ofChange fnParseWeightReadsBackSpelledWeightsWrong)

/-- 'zzlaws_root_b1.FnSkipRoomDropUndoesThePuts': WHATEVER THE INPUT: true; the input reads as it did. -/
def fnSkipRoomDropUndoesThePutsSpec : ChangeSpec := { name := "fnSkipRoomDropUndoesThePuts", fn := fun _ => fun
  | [d1, d2, d3] => { results := [.lit (.bool true)], args := [d1, d2, d3] }
  | _ => none }
def fnSkipRoomDropUndoesThePutsRow : OpenClaim := { program := "qxb6601376a", sum := "13fac6f2219279308ef20472864b39a055d4c40a08aa94e872b79303a9fbd661", func := "example.com/wiregram/wiregram/zzlaws_root_b1.FnSkipRoomDropUndoesThePuts", spec := "fnSkipRoomDropUndoesThePuts", apart := false }
def FnSkipRoomDropUndoesThePutsSaid : Prop := fnSkipRoomDropUndoesThePutsRow.holds Try.pinned (OpenSpec.ofChange fnSkipRoomDropUndoesThePutsSpec)

/-- ITS FALSE NEIGHBOUR: 'it returns false'. Refute it at one input. -/
def fnSkipRoomDropUndoesThePutsWrong : ChangeSpec := { name := "fnSkipRoomDropUndoesThePuts", fn := fun _ => fun
  | [d1, d2, d3] => { results := [.lit (.bool false)], args := [d1, d2, d3] }
  | _ => none }
def FnSkipRoomDropUndoesThePutsWrongFalsely : Prop := fnSkipRoomDropUndoesThePutsRow.holds Try.pinned (OpenSpec.ofChange fnSkipRoomDropUndoesThePutsWrong)

/-- 'zzlaws_root_b1.FnSkipRoomDropInTwoStepsIsDropOnce': WHATEVER THE INPUT: true; the input reads as it did. -/
def fnSkipRoomDropInTwoStepsIsDropOnceSpec : ChangeSpec := { name := "fnSkipRoomDropInTwoStepsIsDropOnce", fn := fun _ => fun
  | [d1, d2, d3, d4] => { results := [.lit (.bool true)], args := [d1, d2, d3, d4] }
  | _ => none }
def fnSkipRoomDropInTwoStepsIsDropOnceRow : OpenClaim := { program := "qxb6601376a", sum := "13fac6f2219279308ef20472864b39a055d4c40a08aa94e872b79303a9fbd661", func := "example.com/wiregram/wiregram/zzlaws_root_b1.FnSkipRoomDropInTwoStepsIsDropOnce", spec := "fnSkipRoomDropInTwoStepsIsDropOnce", apart := false }
def FnSkipRoomDropInTwoStepsIsDropOnceSaid : Prop := fnSkipRoomDropInTwoStepsIsDropOnceRow.holds Try.pinned (OpenSpec.ofChange fnSkipRoomDropInTwoStepsIsDropOnceSpec)

/-- ITS FALSE NEIGHBOUR: 'it returns false'. Refute it at one input. -/
def fnSkipRoomDropInTwoStepsIsDropOnceWrong : ChangeSpec := { name := "fnSkipRoomDropInTwoStepsIsDropOnce", fn := fun _ => fun
  | [d1, d2, d3, d4] => { results := [.lit (.bool false)], args := [d1, d2, d3, d4] }
  | _ => none }
def FnSkipRoomDropInTwoStepsIsDropOnceWrongFalsely : Prop := fnSkipRoomDropInTwoStepsIsDropOnceRow.holds Try.pinned (OpenSpec.ofChange fnSkipRoomDropInTwoStepsIsDropOnceWrong)

end Rows
end Go.Proofs.Qxb6601376a
