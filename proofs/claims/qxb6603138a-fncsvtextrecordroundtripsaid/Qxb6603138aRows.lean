/-
  No cell of these rows narrows 'for every input' (looked for: loops, veiled, ifaces, maps, wideKeys, modest, calm, conditions, laid).
  DERIVED. THE GIVEN ROWS OF THIS SEAT. 6 by the template 'for every input the law returns true; each argument reads behind the call as it read before'; 0 by the template 'total and deterministic' (their statements: Qxb6603138aTotals.lean).
  GIVEN WITH THE SEED: the statements are not yours to turn. If you find one false, say at which input.
  Laid BY PROGRAM, IN A SANDBOX (cutbox-rows.mjs): the forced cells as the released guide's own fill.sh prints them over the translation e1fe807f2fb0c947… (all of the seat's roots in one cut). By AI agents, Wed Nov 11 2026. No macro, syntax, notation, axiom, sorry.
-/
import Derived.Test.Qxb6603138aChecked
import GoSem.Claim
import GoSem.ClaimJoined
import GoSem.ClaimMapViews
import Derived.JoinedTies
import Derived.KernelRfl
namespace Go.Proofs.Qxb6603138a
/- THE CELL 'sum', in the pinned program and in every row, IS THE sha256 OF THE DUMP (.gsa) THAT Qxb6603138aProg.lean LOADS. Nothing in Lean hashes anything: it is a label: what it is worth is what the hold of that sum in a sandbox is worth. -/
noncomputable def Try.pinned : Pinned := { name := "qxb6603138a", sum := "e1fe807f2fb0c947a1275a78b07a7e3950acfd9866934ffb9be5ee5942daa5b2", checked := Try.checked }
namespace Rows
def none {H : Type} : Left H := { results := [], args := [] }

/-- 'zzlaws_internal_textformat_b1.FnIsPlainDecimalMatchesGrammar': WHATEVER THE INPUT: true; the input reads as it did. -/
def fnIsPlainDecimalMatchesGrammarSpec : ChangeSpec := { name := "fnIsPlainDecimalMatchesGrammar", fn := fun _ => fun
  | [d] => { results := [.lit (.bool true)], args := [d] }
  | _ => none }
def fnIsPlainDecimalMatchesGrammarRow : OpenClaim := { program := "qxb6603138a", sum := "e1fe807f2fb0c947a1275a78b07a7e3950acfd9866934ffb9be5ee5942daa5b2", func := "example.com/tuoguan/tuoguan/zzlaws_internal_textformat_b1.FnIsPlainDecimalMatchesGrammar", spec := "fnIsPlainDecimalMatchesGrammar", apart := false }
def FnIsPlainDecimalMatchesGrammarSaid : Prop := fnIsPlainDecimalMatchesGrammarRow.holds Try.pinned (OpenSpec.ofChange fnIsPlainDecimalMatchesGrammarSpec)

/-- ITS FALSE NEIGHBOUR: 'it returns false'. Refute it at one input. -/
def fnIsPlainDecimalMatchesGrammarWrong : ChangeSpec := { name := "fnIsPlainDecimalMatchesGrammar", fn := fun _ => fun
  | [d] => { results := [.lit (.bool false)], args := [d] }
  | _ => none }
def FnIsPlainDecimalMatchesGrammarWrongFalsely : Prop := fnIsPlainDecimalMatchesGrammarRow.holds Try.pinned (OpenSpec.ofChange fnIsPlainDecimalMatchesGrammarWrong)

/-- 'zzlaws_internal_textformat_b1.FnIsPlainDecimalSignRule': WHATEVER THE INPUT: true; the input reads as it did. -/
def fnIsPlainDecimalSignRuleSpec : ChangeSpec := { name := "fnIsPlainDecimalSignRule", fn := fun _ => fun
  | [d] => { results := [.lit (.bool true)], args := [d] }
  | _ => none }
def fnIsPlainDecimalSignRuleRow : OpenClaim := { program := "qxb6603138a", sum := "e1fe807f2fb0c947a1275a78b07a7e3950acfd9866934ffb9be5ee5942daa5b2", func := "example.com/tuoguan/tuoguan/zzlaws_internal_textformat_b1.FnIsPlainDecimalSignRule", spec := "fnIsPlainDecimalSignRule", apart := false }
def FnIsPlainDecimalSignRuleSaid : Prop := fnIsPlainDecimalSignRuleRow.holds Try.pinned (OpenSpec.ofChange fnIsPlainDecimalSignRuleSpec)

/-- ITS FALSE NEIGHBOUR: 'it returns false'. Refute it at one input. -/
def fnIsPlainDecimalSignRuleWrong : ChangeSpec := { name := "fnIsPlainDecimalSignRule", fn := fun _ => fun
  | [d] => { results := [.lit (.bool false)], args := [d] }
  | _ => none }
def FnIsPlainDecimalSignRuleWrongFalsely : Prop := fnIsPlainDecimalSignRuleRow.holds Try.pinned (OpenSpec.ofChange fnIsPlainDecimalSignRuleWrong)

/-- 'zzlaws_internal_textformat_b1.FnPlainDecimalNeedsNoQuotes': WHATEVER THE INPUT: true; the input reads as it did. -/
def fnPlainDecimalNeedsNoQuotesSpec : ChangeSpec := { name := "fnPlainDecimalNeedsNoQuotes", fn := fun _ => fun
  | [d] => { results := [.lit (.bool true)], args := [d] }
  | _ => none }
def fnPlainDecimalNeedsNoQuotesRow : OpenClaim := { program := "qxb6603138a", sum := "e1fe807f2fb0c947a1275a78b07a7e3950acfd9866934ffb9be5ee5942daa5b2", func := "example.com/tuoguan/tuoguan/zzlaws_internal_textformat_b1.FnPlainDecimalNeedsNoQuotes", spec := "fnPlainDecimalNeedsNoQuotes", apart := false }
def FnPlainDecimalNeedsNoQuotesSaid : Prop := fnPlainDecimalNeedsNoQuotesRow.holds Try.pinned (OpenSpec.ofChange fnPlainDecimalNeedsNoQuotesSpec)

/-- ITS FALSE NEIGHBOUR: 'it returns false'. Refute it at one input. -/
def fnPlainDecimalNeedsNoQuotesWrong : ChangeSpec := { name := "fnPlainDecimalNeedsNoQuotes", fn := fun _ => fun
  | [d] => { results := [.lit (.bool false)], args := [d] }
  | _ => none }
def FnPlainDecimalNeedsNoQuotesWrongFalsely : Prop := fnPlainDecimalNeedsNoQuotesRow.holds Try.pinned (OpenSpec.ofChange fnPlainDecimalNeedsNoQuotesWrong)

/-- 'zzlaws_internal_textformat_b1.FnNeedsQuotesOfConcatenation': WHATEVER THE INPUT: true; the input reads as it did. -/
def fnNeedsQuotesOfConcatenationSpec : ChangeSpec := { name := "fnNeedsQuotesOfConcatenation", fn := fun _ => fun
  | [d1, d2] => { results := [.lit (.bool true)], args := [d1, d2] }
  | _ => none }
def fnNeedsQuotesOfConcatenationRow : OpenClaim := { program := "qxb6603138a", sum := "e1fe807f2fb0c947a1275a78b07a7e3950acfd9866934ffb9be5ee5942daa5b2", func := "example.com/tuoguan/tuoguan/zzlaws_internal_textformat_b1.FnNeedsQuotesOfConcatenation", spec := "fnNeedsQuotesOfConcatenation", apart := false }
def FnNeedsQuotesOfConcatenationSaid : Prop := fnNeedsQuotesOfConcatenationRow.holds Try.pinned (OpenSpec.ofChange fnNeedsQuotesOfConcatenationSpec)

/-- ITS FALSE NEIGHBOUR: 'it returns false'. Refute it at one input. -/
def fnNeedsQuotesOfConcatenationWrong : ChangeSpec := { name := "fnNeedsQuotesOfConcatenation", fn := fun _ => fun
  | [d1, d2] => { results := [.lit (.bool false)], args := [d1, d2] }
  | _ => none }
def FnNeedsQuotesOfConcatenationWrongFalsely : Prop := fnNeedsQuotesOfConcatenationRow.holds Try.pinned (OpenSpec.ofChange fnNeedsQuotesOfConcatenationWrong)

/-- 'zzlaws_internal_textformat_b1.FnCSVTextExactEffect': WHATEVER THE INPUT: true; the input reads as it did. -/
def fnCSVTextExactEffectSpec : ChangeSpec := { name := "fnCSVTextExactEffect", fn := fun _ => fun
  | [d1, d2, d3] => { results := [.lit (.bool true)], args := [d1, d2, d3] }
  | _ => none }
def fnCSVTextExactEffectRow : OpenClaim := { program := "qxb6603138a", sum := "e1fe807f2fb0c947a1275a78b07a7e3950acfd9866934ffb9be5ee5942daa5b2", func := "example.com/tuoguan/tuoguan/zzlaws_internal_textformat_b1.FnCSVTextExactEffect", spec := "fnCSVTextExactEffect", apart := false }
def FnCSVTextExactEffectSaid : Prop := fnCSVTextExactEffectRow.holds Try.pinned (OpenSpec.ofChange fnCSVTextExactEffectSpec)

/-- ITS FALSE NEIGHBOUR: 'it returns false'. Refute it at one input. -/
def fnCSVTextExactEffectWrong : ChangeSpec := { name := "fnCSVTextExactEffect", fn := fun _ => fun
  | [d1, d2, d3] => { results := [.lit (.bool false)], args := [d1, d2, d3] }
  | _ => none }
def FnCSVTextExactEffectWrongFalsely : Prop := fnCSVTextExactEffectRow.holds Try.pinned (OpenSpec.ofChange fnCSVTextExactEffectWrong)

/-- 'zzlaws_internal_textformat_b1.FnCSVTextRecordRoundTrip': WHATEVER THE INPUT: true; the input reads as it did. -/
def fnCSVTextRecordRoundTripSpec : ChangeSpec := { name := "fnCSVTextRecordRoundTrip", fn := fun _ => fun
  | [d] => { results := [.lit (.bool true)], args := [d] }
  | _ => none }
def fnCSVTextRecordRoundTripRow : OpenClaim := { program := "qxb6603138a", sum := "e1fe807f2fb0c947a1275a78b07a7e3950acfd9866934ffb9be5ee5942daa5b2", func := "example.com/tuoguan/tuoguan/zzlaws_internal_textformat_b1.FnCSVTextRecordRoundTrip", spec := "fnCSVTextRecordRoundTrip", apart := false }
def FnCSVTextRecordRoundTripSaid : Prop := fnCSVTextRecordRoundTripRow.holds Try.pinned (OpenSpec.ofChange fnCSVTextRecordRoundTripSpec)

/-- ITS FALSE NEIGHBOUR: 'it returns false'. Refute it at one input. -/
def fnCSVTextRecordRoundTripWrong : ChangeSpec := { name := "fnCSVTextRecordRoundTrip", fn := fun _ => fun
  | [d] => { results := [.lit (.bool false)], args := [d] }
  | _ => none }
def FnCSVTextRecordRoundTripWrongFalsely : Prop := fnCSVTextRecordRoundTripRow.holds Try.pinned (OpenSpec.ofChange fnCSVTextRecordRoundTripWrong)

end Rows
end Go.Proofs.Qxb6603138a
