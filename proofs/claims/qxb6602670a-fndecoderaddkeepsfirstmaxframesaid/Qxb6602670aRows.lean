/-
  No cell of these rows narrows 'for every input' (looked for: loops, veiled, ifaces, maps, wideKeys, modest, calm, conditions, laid).
  DERIVED. THE GIVEN ROWS OF THIS SEAT. 6 by the template 'for every input the law returns true; each argument reads behind the call as it read before'; 0 by the template 'total and deterministic' (their statements: Qxb6602670aTotals.lean).
  GIVEN WITH THE SEED: the statements are not yours to turn. If you find one false, say at which input.
  Laid BY PROGRAM, IN A SANDBOX (cutbox-rows.mjs): the forced cells as the released guide's own fill.sh prints them over the translation 75d30328c651e9a2… (all of the seat's roots in one cut). By AI agents, Wed Nov 11 2026. No macro, syntax, notation, axiom, sorry.
-/
import Derived.Test.Qxb6602670aChecked
import GoSem.Claim
import GoSem.ClaimJoined
import GoSem.ClaimMapViews
import Derived.JoinedTies
import Derived.KernelRfl
namespace Go.Proofs.Qxb6602670a
/- THE CELL 'sum', in the pinned program and in every row, IS THE sha256 OF THE DUMP (.gsa) THAT Qxb6602670aProg.lean LOADS. Nothing in Lean hashes anything: it is a label: what it is worth is what the hold of that sum in a sandbox is worth. -/
noncomputable def Try.pinned : Pinned := { name := "qxb6602670a", sum := "75d30328c651e9a28590366ff81a3935be8191d779136ecb0056059c923afb1d", checked := Try.checked }
namespace Rows
def none {H : Type} : Left H := { results := [], args := [] }

/-- 'zzlaws_pkg_hdlc_b1.FnFCSTableIsPolynomialRemainder': WHATEVER THE INPUT: true; the input reads as it did. -/
def fnFCSTableIsPolynomialRemainderSpec : ChangeSpec := { name := "fnFCSTableIsPolynomialRemainder", fn := fun _ => fun
  | [] => { results := [.lit (.bool true)], args := [] }
  | _ => none }
def fnFCSTableIsPolynomialRemainderRow : OpenClaim := { program := "qxb6602670a", sum := "75d30328c651e9a28590366ff81a3935be8191d779136ecb0056059c923afb1d", func := "example.com/crossfade/crossfade/zzlaws_pkg_hdlc_b1.FnFCSTableIsPolynomialRemainder", spec := "fnFCSTableIsPolynomialRemainder", apart := false }
def FnFCSTableIsPolynomialRemainderSaid : Prop := fnFCSTableIsPolynomialRemainderRow.holds Try.pinned (OpenSpec.ofChange fnFCSTableIsPolynomialRemainderSpec)

/-- ITS FALSE NEIGHBOUR: 'it returns false'. Refute it at one input. -/
def fnFCSTableIsPolynomialRemainderWrong : ChangeSpec := { name := "fnFCSTableIsPolynomialRemainder", fn := fun _ => fun
  | [] => { results := [.lit (.bool false)], args := [] }
  | _ => none }
def FnFCSTableIsPolynomialRemainderWrongFalsely : Prop := fnFCSTableIsPolynomialRemainderRow.holds Try.pinned (OpenSpec.ofChange fnFCSTableIsPolynomialRemainderWrong)

/-- 'zzlaws_pkg_hdlc_b1.FnFCSTableGivesX25CheckValue': WHATEVER THE INPUT: true; the input reads as it did. -/
def fnFCSTableGivesX25CheckValueSpec : ChangeSpec := { name := "fnFCSTableGivesX25CheckValue", fn := fun _ => fun
  | [] => { results := [.lit (.bool true)], args := [] }
  | _ => none }
def fnFCSTableGivesX25CheckValueRow : OpenClaim := { program := "qxb6602670a", sum := "75d30328c651e9a28590366ff81a3935be8191d779136ecb0056059c923afb1d", func := "example.com/crossfade/crossfade/zzlaws_pkg_hdlc_b1.FnFCSTableGivesX25CheckValue", spec := "fnFCSTableGivesX25CheckValue", apart := false }
def FnFCSTableGivesX25CheckValueSaid : Prop := fnFCSTableGivesX25CheckValueRow.holds Try.pinned (OpenSpec.ofChange fnFCSTableGivesX25CheckValueSpec)

/-- ITS FALSE NEIGHBOUR: 'it returns false'. Refute it at one input. -/
def fnFCSTableGivesX25CheckValueWrong : ChangeSpec := { name := "fnFCSTableGivesX25CheckValue", fn := fun _ => fun
  | [] => { results := [.lit (.bool false)], args := [] }
  | _ => none }
def FnFCSTableGivesX25CheckValueWrongFalsely : Prop := fnFCSTableGivesX25CheckValueRow.holds Try.pinned (OpenSpec.ofChange fnFCSTableGivesX25CheckValueWrong)

/-- 'zzlaws_pkg_hdlc_b1.FnFCSResidueIsGoodFCS': WHATEVER THE INPUT: true; the input reads as it did. -/
def fnFCSResidueIsGoodFCSSpec : ChangeSpec := { name := "fnFCSResidueIsGoodFCS", fn := fun _ => fun
  | [d] => { results := [.lit (.bool true)], args := [d] }
  | _ => none }
def fnFCSResidueIsGoodFCSRow : OpenClaim := { program := "qxb6602670a", sum := "75d30328c651e9a28590366ff81a3935be8191d779136ecb0056059c923afb1d", func := "example.com/crossfade/crossfade/zzlaws_pkg_hdlc_b1.FnFCSResidueIsGoodFCS", spec := "fnFCSResidueIsGoodFCS", apart := false }
def FnFCSResidueIsGoodFCSSaid : Prop := fnFCSResidueIsGoodFCSRow.holds Try.pinned (OpenSpec.ofChange fnFCSResidueIsGoodFCSSpec)

/-- ITS FALSE NEIGHBOUR: 'it returns false'. Refute it at one input. -/
def fnFCSResidueIsGoodFCSWrong : ChangeSpec := { name := "fnFCSResidueIsGoodFCS", fn := fun _ => fun
  | [d] => { results := [.lit (.bool false)], args := [d] }
  | _ => none }
def FnFCSResidueIsGoodFCSWrongFalsely : Prop := fnFCSResidueIsGoodFCSRow.holds Try.pinned (OpenSpec.ofChange fnFCSResidueIsGoodFCSWrong)

/-- 'zzlaws_pkg_hdlc_b1.FnAppendStuffedExact': WHATEVER THE INPUT: true; the input reads as it did. -/
def fnAppendStuffedExactSpec : ChangeSpec := { name := "fnAppendStuffedExact", fn := fun _ => fun
  | [d1, d2] => { results := [.lit (.bool true)], args := [d1, d2] }
  | _ => none }
def fnAppendStuffedExactRow : OpenClaim := { program := "qxb6602670a", sum := "75d30328c651e9a28590366ff81a3935be8191d779136ecb0056059c923afb1d", func := "example.com/crossfade/crossfade/zzlaws_pkg_hdlc_b1.FnAppendStuffedExact", spec := "fnAppendStuffedExact", apart := false }
def FnAppendStuffedExactSaid : Prop := fnAppendStuffedExactRow.holds Try.pinned (OpenSpec.ofChange fnAppendStuffedExactSpec)

/-- ITS FALSE NEIGHBOUR: 'it returns false'. Refute it at one input. -/
def fnAppendStuffedExactWrong : ChangeSpec := { name := "fnAppendStuffedExact", fn := fun _ => fun
  | [d1, d2] => { results := [.lit (.bool false)], args := [d1, d2] }
  | _ => none }
def FnAppendStuffedExactWrongFalsely : Prop := fnAppendStuffedExactRow.holds Try.pinned (OpenSpec.ofChange fnAppendStuffedExactWrong)

/-- 'zzlaws_pkg_hdlc_b1.FnAppendStuffedSplitsAnywhere': WHATEVER THE INPUT: true; the input reads as it did. -/
def fnAppendStuffedSplitsAnywhereSpec : ChangeSpec := { name := "fnAppendStuffedSplitsAnywhere", fn := fun _ => fun
  | [d1, d2, d3] => { results := [.lit (.bool true)], args := [d1, d2, d3] }
  | _ => none }
def fnAppendStuffedSplitsAnywhereRow : OpenClaim := { program := "qxb6602670a", sum := "75d30328c651e9a28590366ff81a3935be8191d779136ecb0056059c923afb1d", func := "example.com/crossfade/crossfade/zzlaws_pkg_hdlc_b1.FnAppendStuffedSplitsAnywhere", spec := "fnAppendStuffedSplitsAnywhere", apart := false }
def FnAppendStuffedSplitsAnywhereSaid : Prop := fnAppendStuffedSplitsAnywhereRow.holds Try.pinned (OpenSpec.ofChange fnAppendStuffedSplitsAnywhereSpec)

/-- ITS FALSE NEIGHBOUR: 'it returns false'. Refute it at one input. -/
def fnAppendStuffedSplitsAnywhereWrong : ChangeSpec := { name := "fnAppendStuffedSplitsAnywhere", fn := fun _ => fun
  | [d1, d2, d3] => { results := [.lit (.bool false)], args := [d1, d2, d3] }
  | _ => none }
def FnAppendStuffedSplitsAnywhereWrongFalsely : Prop := fnAppendStuffedSplitsAnywhereRow.holds Try.pinned (OpenSpec.ofChange fnAppendStuffedSplitsAnywhereWrong)

/-- 'zzlaws_pkg_hdlc_b1.FnDecoderAddKeepsFirstMaxFrame': WHATEVER THE INPUT: true; the input reads as it did. -/
def fnDecoderAddKeepsFirstMaxFrameSpec : ChangeSpec := { name := "fnDecoderAddKeepsFirstMaxFrame", fn := fun _ => fun
  | [d1, d2, d3, d4, d5] => { results := [.lit (.bool true)], args := [d1, d2, d3, d4, d5] }
  | _ => none }
def fnDecoderAddKeepsFirstMaxFrameRow : OpenClaim := { program := "qxb6602670a", sum := "75d30328c651e9a28590366ff81a3935be8191d779136ecb0056059c923afb1d", func := "example.com/crossfade/crossfade/zzlaws_pkg_hdlc_b1.FnDecoderAddKeepsFirstMaxFrame", spec := "fnDecoderAddKeepsFirstMaxFrame", apart := false }
def FnDecoderAddKeepsFirstMaxFrameSaid : Prop := fnDecoderAddKeepsFirstMaxFrameRow.holds Try.pinned (OpenSpec.ofChange fnDecoderAddKeepsFirstMaxFrameSpec)

/-- ITS FALSE NEIGHBOUR: 'it returns false'. Refute it at one input. -/
def fnDecoderAddKeepsFirstMaxFrameWrong : ChangeSpec := { name := "fnDecoderAddKeepsFirstMaxFrame", fn := fun _ => fun
  | [d1, d2, d3, d4, d5] => { results := [.lit (.bool false)], args := [d1, d2, d3, d4, d5] }
  | _ => none }
def FnDecoderAddKeepsFirstMaxFrameWrongFalsely : Prop := fnDecoderAddKeepsFirstMaxFrameRow.holds Try.pinned (OpenSpec.ofChange fnDecoderAddKeepsFirstMaxFrameWrong)

end Rows
end Go.Proofs.Qxb6602670a
