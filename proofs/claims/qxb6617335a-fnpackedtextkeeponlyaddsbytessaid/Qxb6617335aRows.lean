/-
  No cell of these rows narrows 'for every input' (looked for: loops, veiled, ifaces, maps, wideKeys, modest, calm, conditions, laid).
  DERIVED. THE GIVEN ROWS OF THIS SEAT. 7 by the template 'for every input the law returns true; each argument reads behind the call as it read before'; 0 by the template 'total and deterministic' (their statements: Qxb6617335aTotals.lean).
  GIVEN WITH THE SEED: the statements are not yours to turn. If you find one false, say at which input.
  Laid BY PROGRAM, IN A SANDBOX (cutbox-rows.mjs): the forced cells as the released guide's own fill.sh prints them over the translation eb4dc6c9d9a41795… (all of the seat's roots in one cut). By AI agents, Wed Nov 11 2026. No macro, syntax, notation, axiom, sorry.
-/
import Derived.Test.Qxb6617335aChecked
import GoSem.Claim
import GoSem.ClaimJoined
import GoSem.ClaimMapViews
import Derived.JoinedTies
import Derived.KernelRfl
namespace Go.Proofs.Qxb6617335a
/- THE CELL 'sum', in the pinned program and in every row, IS THE sha256 OF THE DUMP (.gsa) THAT Qxb6617335aProg.lean LOADS. Nothing in Lean hashes anything: it is a label: what it is worth is what the hold of that sum in a sandbox is worth. -/
noncomputable def Try.pinned : Pinned := { name := "qxb6617335a", sum := "eb4dc6c9d9a41795381c17d33cb1064312fd66a24a9419414c8951434b7a1c8b", checked := Try.checked }
namespace Rows
def none {H : Type} : Left H := { results := [], args := [] }

/-- 'zzlaws_internal_wire_b1.FnPackedTextReadsOnePiece': WHATEVER THE INPUT: true; the input reads as it did. -/
def fnPackedTextReadsOnePieceSpec : ChangeSpec := { name := "fnPackedTextReadsOnePiece", fn := fun _ => fun
  | [d1, d2, d3] => { results := [.lit (.bool true)], args := [d1, d2, d3] }
  | _ => none }
def fnPackedTextReadsOnePieceRow : OpenClaim := { program := "qxb6617335a", sum := "eb4dc6c9d9a41795381c17d33cb1064312fd66a24a9419414c8951434b7a1c8b", func := "example.com/model-handoff/model-handoff/zzlaws_internal_wire_b1.FnPackedTextReadsOnePiece", spec := "fnPackedTextReadsOnePiece", apart := false }
def FnPackedTextReadsOnePieceSaid : Prop := fnPackedTextReadsOnePieceRow.holds Try.pinned (OpenSpec.ofChange fnPackedTextReadsOnePieceSpec)

/-- ITS FALSE NEIGHBOUR: 'it returns false'. Refute it at one input. -/
def fnPackedTextReadsOnePieceWrong : ChangeSpec := { name := "fnPackedTextReadsOnePiece", fn := fun _ => fun
  | [d1, d2, d3] => { results := [.lit (.bool false)], args := [d1, d2, d3] }
  | _ => none }
def FnPackedTextReadsOnePieceWrongFalsely : Prop := fnPackedTextReadsOnePieceRow.holds Try.pinned (OpenSpec.ofChange fnPackedTextReadsOnePieceWrong)

/-- 'zzlaws_internal_wire_b1.FnPackedTextKeepOnlyAddsBytes': WHATEVER THE INPUT: true; the input reads as it did. -/
def fnPackedTextKeepOnlyAddsBytesSpec : ChangeSpec := { name := "fnPackedTextKeepOnlyAddsBytes", fn := fun _ => fun
  | [d1, d2] => { results := [.lit (.bool true)], args := [d1, d2] }
  | _ => none }
def fnPackedTextKeepOnlyAddsBytesRow : OpenClaim := { program := "qxb6617335a", sum := "eb4dc6c9d9a41795381c17d33cb1064312fd66a24a9419414c8951434b7a1c8b", func := "example.com/model-handoff/model-handoff/zzlaws_internal_wire_b1.FnPackedTextKeepOnlyAddsBytes", spec := "fnPackedTextKeepOnlyAddsBytes", apart := false }
def FnPackedTextKeepOnlyAddsBytesSaid : Prop := fnPackedTextKeepOnlyAddsBytesRow.holds Try.pinned (OpenSpec.ofChange fnPackedTextKeepOnlyAddsBytesSpec)

/-- ITS FALSE NEIGHBOUR: 'it returns false'. Refute it at one input. -/
def fnPackedTextKeepOnlyAddsBytesWrong : ChangeSpec := { name := "fnPackedTextKeepOnlyAddsBytes", fn := fun _ => fun
  | [d1, d2] => { results := [.lit (.bool false)], args := [d1, d2] }
  | _ => none }
def FnPackedTextKeepOnlyAddsBytesWrongFalsely : Prop := fnPackedTextKeepOnlyAddsBytesRow.holds Try.pinned (OpenSpec.ofChange fnPackedTextKeepOnlyAddsBytesWrong)

/-- 'zzlaws_internal_wire_b1.FnPackedTextReadsOnlyItsPiece': WHATEVER THE INPUT: true; the input reads as it did. -/
def fnPackedTextReadsOnlyItsPieceSpec : ChangeSpec := { name := "fnPackedTextReadsOnlyItsPiece", fn := fun _ => fun
  | [d1, d2, d3, d4] => { results := [.lit (.bool true)], args := [d1, d2, d3, d4] }
  | _ => none }
def fnPackedTextReadsOnlyItsPieceRow : OpenClaim := { program := "qxb6617335a", sum := "eb4dc6c9d9a41795381c17d33cb1064312fd66a24a9419414c8951434b7a1c8b", func := "example.com/model-handoff/model-handoff/zzlaws_internal_wire_b1.FnPackedTextReadsOnlyItsPiece", spec := "fnPackedTextReadsOnlyItsPiece", apart := false }
def FnPackedTextReadsOnlyItsPieceSaid : Prop := fnPackedTextReadsOnlyItsPieceRow.holds Try.pinned (OpenSpec.ofChange fnPackedTextReadsOnlyItsPieceSpec)

/-- ITS FALSE NEIGHBOUR: 'it returns false'. Refute it at one input. -/
def fnPackedTextReadsOnlyItsPieceWrong : ChangeSpec := { name := "fnPackedTextReadsOnlyItsPiece", fn := fun _ => fun
  | [d1, d2, d3, d4] => { results := [.lit (.bool false)], args := [d1, d2, d3, d4] }
  | _ => none }
def FnPackedTextReadsOnlyItsPieceWrongFalsely : Prop := fnPackedTextReadsOnlyItsPieceRow.holds Try.pinned (OpenSpec.ofChange fnPackedTextReadsOnlyItsPieceWrong)

/-- 'zzlaws_internal_wire_b1.FnBytesMarkSaysWhetherBytesSpellText': WHATEVER THE INPUT: true; the input reads as it did. -/
def fnBytesMarkSaysWhetherBytesSpellTextSpec : ChangeSpec := { name := "fnBytesMarkSaysWhetherBytesSpellText", fn := fun _ => fun
  | [d1, d2] => { results := [.lit (.bool true)], args := [d1, d2] }
  | _ => none }
def fnBytesMarkSaysWhetherBytesSpellTextRow : OpenClaim := { program := "qxb6617335a", sum := "eb4dc6c9d9a41795381c17d33cb1064312fd66a24a9419414c8951434b7a1c8b", func := "example.com/model-handoff/model-handoff/zzlaws_internal_wire_b1.FnBytesMarkSaysWhetherBytesSpellText", spec := "fnBytesMarkSaysWhetherBytesSpellText", apart := false }
def FnBytesMarkSaysWhetherBytesSpellTextSaid : Prop := fnBytesMarkSaysWhetherBytesSpellTextRow.holds Try.pinned (OpenSpec.ofChange fnBytesMarkSaysWhetherBytesSpellTextSpec)

/-- ITS FALSE NEIGHBOUR: 'it returns false'. Refute it at one input. -/
def fnBytesMarkSaysWhetherBytesSpellTextWrong : ChangeSpec := { name := "fnBytesMarkSaysWhetherBytesSpellText", fn := fun _ => fun
  | [d1, d2] => { results := [.lit (.bool false)], args := [d1, d2] }
  | _ => none }
def FnBytesMarkSaysWhetherBytesSpellTextWrongFalsely : Prop := fnBytesMarkSaysWhetherBytesSpellTextRow.holds Try.pinned (OpenSpec.ofChange fnBytesMarkSaysWhetherBytesSpellTextWrong)

/-- 'zzlaws_internal_wire_b1.FnBytesMarkJoinsAtAnyCut': WHATEVER THE INPUT: true; the input reads as it did. -/
def fnBytesMarkJoinsAtAnyCutSpec : ChangeSpec := { name := "fnBytesMarkJoinsAtAnyCut", fn := fun _ => fun
  | [d1, d2, d3] => { results := [.lit (.bool true)], args := [d1, d2, d3] }
  | _ => none }
def fnBytesMarkJoinsAtAnyCutRow : OpenClaim := { program := "qxb6617335a", sum := "eb4dc6c9d9a41795381c17d33cb1064312fd66a24a9419414c8951434b7a1c8b", func := "example.com/model-handoff/model-handoff/zzlaws_internal_wire_b1.FnBytesMarkJoinsAtAnyCut", spec := "fnBytesMarkJoinsAtAnyCut", apart := false }
def FnBytesMarkJoinsAtAnyCutSaid : Prop := fnBytesMarkJoinsAtAnyCutRow.holds Try.pinned (OpenSpec.ofChange fnBytesMarkJoinsAtAnyCutSpec)

/-- ITS FALSE NEIGHBOUR: 'it returns false'. Refute it at one input. -/
def fnBytesMarkJoinsAtAnyCutWrong : ChangeSpec := { name := "fnBytesMarkJoinsAtAnyCut", fn := fun _ => fun
  | [d1, d2, d3] => { results := [.lit (.bool false)], args := [d1, d2, d3] }
  | _ => none }
def FnBytesMarkJoinsAtAnyCutWrongFalsely : Prop := fnBytesMarkJoinsAtAnyCutRow.holds Try.pinned (OpenSpec.ofChange fnBytesMarkJoinsAtAnyCutWrong)

/-- 'zzlaws_internal_wire_b1.FnTextsUnionOfKeySets': WHATEVER THE INPUT: true; the input reads as it did. -/
def fnTextsUnionOfKeySetsSpec : ChangeSpec := { name := "fnTextsUnionOfKeySets", fn := fun _ => fun
  | [d1, d2, d3] => { results := [.lit (.bool true)], args := [d1, d2, d3] }
  | _ => none }
def fnTextsUnionOfKeySetsRow : OpenClaim := { program := "qxb6617335a", sum := "eb4dc6c9d9a41795381c17d33cb1064312fd66a24a9419414c8951434b7a1c8b", func := "example.com/model-handoff/model-handoff/zzlaws_internal_wire_b1.FnTextsUnionOfKeySets", spec := "fnTextsUnionOfKeySets", apart := false }
def FnTextsUnionOfKeySetsSaid : Prop := fnTextsUnionOfKeySetsRow.holds Try.pinned (OpenSpec.ofChange fnTextsUnionOfKeySetsSpec)

/-- ITS FALSE NEIGHBOUR: 'it returns false'. Refute it at one input. -/
def fnTextsUnionOfKeySetsWrong : ChangeSpec := { name := "fnTextsUnionOfKeySets", fn := fun _ => fun
  | [d1, d2, d3] => { results := [.lit (.bool false)], args := [d1, d2, d3] }
  | _ => none }
def FnTextsUnionOfKeySetsWrongFalsely : Prop := fnTextsUnionOfKeySetsRow.holds Try.pinned (OpenSpec.ofChange fnTextsUnionOfKeySetsWrong)

/-- 'zzlaws_internal_wire_b1.FnTextsReadsOnlyTheKnownKeys': WHATEVER THE INPUT: true; the input reads as it did. -/
def fnTextsReadsOnlyTheKnownKeysSpec : ChangeSpec := { name := "fnTextsReadsOnlyTheKnownKeys", fn := fun _ => fun
  | [d1, d2] => { results := [.lit (.bool true)], args := [d1, d2] }
  | _ => none }
def fnTextsReadsOnlyTheKnownKeysRow : OpenClaim := { program := "qxb6617335a", sum := "eb4dc6c9d9a41795381c17d33cb1064312fd66a24a9419414c8951434b7a1c8b", func := "example.com/model-handoff/model-handoff/zzlaws_internal_wire_b1.FnTextsReadsOnlyTheKnownKeys", spec := "fnTextsReadsOnlyTheKnownKeys", apart := false }
def FnTextsReadsOnlyTheKnownKeysSaid : Prop := fnTextsReadsOnlyTheKnownKeysRow.holds Try.pinned (OpenSpec.ofChange fnTextsReadsOnlyTheKnownKeysSpec)

/-- ITS FALSE NEIGHBOUR: 'it returns false'. Refute it at one input. -/
def fnTextsReadsOnlyTheKnownKeysWrong : ChangeSpec := { name := "fnTextsReadsOnlyTheKnownKeys", fn := fun _ => fun
  | [d1, d2] => { results := [.lit (.bool false)], args := [d1, d2] }
  | _ => none }
def FnTextsReadsOnlyTheKnownKeysWrongFalsely : Prop := fnTextsReadsOnlyTheKnownKeysRow.holds Try.pinned (OpenSpec.ofChange fnTextsReadsOnlyTheKnownKeysWrong)

end Rows
end Go.Proofs.Qxb6617335a
