/-
  No cell of these rows narrows 'for every input' (looked for: loops, veiled, ifaces, maps, wideKeys, modest, calm, conditions, laid).
  DERIVED. THE GIVEN ROWS OF THIS SEAT. 4 by the template 'for every input the law returns true; each argument reads behind the call as it read before'; 0 by the template 'total and deterministic' (their statements: Qxb6000100aTotals.lean).
  GIVEN WITH THE SEED: the statements are not yours to turn. If you find one false, say at which input.
  Laid BY PROGRAM, IN A SANDBOX (cutbox-rows.mjs): the forced cells as the released guide's own fill.sh prints them over the translation 6b853726f5e212b2… (all of the seat's roots in one cut). By AI agents, Wed Nov 11 2026. No macro, syntax, notation, axiom, sorry.
-/
import Derived.Test.Qxb6000100aChecked
import GoSem.Claim
import GoSem.ClaimJoined
import GoSem.ClaimMapViews
import Derived.JoinedTies
import Derived.KernelRfl
namespace Go.Proofs.Qxb6000100a
/- THE CELL 'sum', in the pinned program and in every row, IS THE sha256 OF THE DUMP (.gsa) THAT Qxb6000100aProg.lean LOADS. Nothing in Lean hashes anything: it is a label: what it is worth is what the hold of that sum in a sandbox is worth. -/
noncomputable def Try.pinned : Pinned := { name := "qxb6000100a", sum := "6b853726f5e212b23f26cfaad9ecb32d8c32fa2a81a29d646126f6525709c684", checked := Try.checked }
namespace Rows
def none {H : Type} : Left H := { results := [], args := [] }

/-- 'zzlaws_internal_jsonobject_b1.FnPlainStringMatchesFirstQuoteModel': WHATEVER THE INPUT: true; the input reads as it did. -/
def fnPlainStringMatchesFirstQuoteModelSpec : ChangeSpec := { name := "fnPlainStringMatchesFirstQuoteModel", fn := fun _ => fun
  | [d1, d2] => { results := [.lit (.bool true)], args := [d1, d2] }
  | _ => none }
def fnPlainStringMatchesFirstQuoteModelRow : OpenClaim := { program := "qxb6000100a", sum := "6b853726f5e212b23f26cfaad9ecb32d8c32fa2a81a29d646126f6525709c684", func := "example.com/kinkline/kinkline/zzlaws_internal_jsonobject_b1.FnPlainStringMatchesFirstQuoteModel", spec := "fnPlainStringMatchesFirstQuoteModel", apart := false }
def FnPlainStringMatchesFirstQuoteModelSaid : Prop := fnPlainStringMatchesFirstQuoteModelRow.holds Try.pinned (OpenSpec.ofChange fnPlainStringMatchesFirstQuoteModelSpec)

/-- ITS FALSE NEIGHBOUR: 'it returns false'. Refute it at one input. -/
def fnPlainStringMatchesFirstQuoteModelWrong : ChangeSpec := { name := "fnPlainStringMatchesFirstQuoteModel", fn := fun _ => fun
  | [d1, d2] => { results := [.lit (.bool false)], args := [d1, d2] }
  | _ => none }
def FnPlainStringMatchesFirstQuoteModelWrongFalsely : Prop := fnPlainStringMatchesFirstQuoteModelRow.holds Try.pinned (OpenSpec.ofChange fnPlainStringMatchesFirstQuoteModelWrong)

/-- 'zzlaws_internal_jsonobject_b1.FnPlainStringRequoteRoundTrip': WHATEVER THE INPUT: true; the input reads as it did. -/
def fnPlainStringRequoteRoundTripSpec : ChangeSpec := { name := "fnPlainStringRequoteRoundTrip", fn := fun _ => fun
  | [d1, d2] => { results := [.lit (.bool true)], args := [d1, d2] }
  | _ => none }
def fnPlainStringRequoteRoundTripRow : OpenClaim := { program := "qxb6000100a", sum := "6b853726f5e212b23f26cfaad9ecb32d8c32fa2a81a29d646126f6525709c684", func := "example.com/kinkline/kinkline/zzlaws_internal_jsonobject_b1.FnPlainStringRequoteRoundTrip", spec := "fnPlainStringRequoteRoundTrip", apart := false }
def FnPlainStringRequoteRoundTripSaid : Prop := fnPlainStringRequoteRoundTripRow.holds Try.pinned (OpenSpec.ofChange fnPlainStringRequoteRoundTripSpec)

/-- ITS FALSE NEIGHBOUR: 'it returns false'. Refute it at one input. -/
def fnPlainStringRequoteRoundTripWrong : ChangeSpec := { name := "fnPlainStringRequoteRoundTrip", fn := fun _ => fun
  | [d1, d2] => { results := [.lit (.bool false)], args := [d1, d2] }
  | _ => none }
def FnPlainStringRequoteRoundTripWrongFalsely : Prop := fnPlainStringRequoteRoundTripRow.holds Try.pinned (OpenSpec.ofChange fnPlainStringRequoteRoundTripWrong)

/-- 'zzlaws_internal_jsonobject_b1.FnPlainValueMatchesGrammarModel': WHATEVER THE INPUT: true; the input reads as it did. -/
def fnPlainValueMatchesGrammarModelSpec : ChangeSpec := { name := "fnPlainValueMatchesGrammarModel", fn := fun _ => fun
  | [d1, d2] => { results := [.lit (.bool true)], args := [d1, d2] }
  | _ => none }
def fnPlainValueMatchesGrammarModelRow : OpenClaim := { program := "qxb6000100a", sum := "6b853726f5e212b23f26cfaad9ecb32d8c32fa2a81a29d646126f6525709c684", func := "example.com/kinkline/kinkline/zzlaws_internal_jsonobject_b1.FnPlainValueMatchesGrammarModel", spec := "fnPlainValueMatchesGrammarModel", apart := false }
def FnPlainValueMatchesGrammarModelSaid : Prop := fnPlainValueMatchesGrammarModelRow.holds Try.pinned (OpenSpec.ofChange fnPlainValueMatchesGrammarModelSpec)

/-- ITS FALSE NEIGHBOUR: 'it returns false'. Refute it at one input. -/
def fnPlainValueMatchesGrammarModelWrong : ChangeSpec := { name := "fnPlainValueMatchesGrammarModel", fn := fun _ => fun
  | [d1, d2] => { results := [.lit (.bool false)], args := [d1, d2] }
  | _ => none }
def FnPlainValueMatchesGrammarModelWrongFalsely : Prop := fnPlainValueMatchesGrammarModelRow.holds Try.pinned (OpenSpec.ofChange fnPlainValueMatchesGrammarModelWrong)

/-- 'zzlaws_internal_jsonobject_b1.FnPlainValueLocalAndCutStable': WHATEVER THE INPUT: true; the input reads as it did. -/
def fnPlainValueLocalAndCutStableSpec : ChangeSpec := { name := "fnPlainValueLocalAndCutStable", fn := fun _ => fun
  | [d1, d2] => { results := [.lit (.bool true)], args := [d1, d2] }
  | _ => none }
def fnPlainValueLocalAndCutStableRow : OpenClaim := { program := "qxb6000100a", sum := "6b853726f5e212b23f26cfaad9ecb32d8c32fa2a81a29d646126f6525709c684", func := "example.com/kinkline/kinkline/zzlaws_internal_jsonobject_b1.FnPlainValueLocalAndCutStable", spec := "fnPlainValueLocalAndCutStable", apart := false }
def FnPlainValueLocalAndCutStableSaid : Prop := fnPlainValueLocalAndCutStableRow.holds Try.pinned (OpenSpec.ofChange fnPlainValueLocalAndCutStableSpec)

/-- ITS FALSE NEIGHBOUR: 'it returns false'. Refute it at one input. -/
def fnPlainValueLocalAndCutStableWrong : ChangeSpec := { name := "fnPlainValueLocalAndCutStable", fn := fun _ => fun
  | [d1, d2] => { results := [.lit (.bool false)], args := [d1, d2] }
  | _ => none }
def FnPlainValueLocalAndCutStableWrongFalsely : Prop := fnPlainValueLocalAndCutStableRow.holds Try.pinned (OpenSpec.ofChange fnPlainValueLocalAndCutStableWrong)

end Rows
end Go.Proofs.Qxb6000100a
