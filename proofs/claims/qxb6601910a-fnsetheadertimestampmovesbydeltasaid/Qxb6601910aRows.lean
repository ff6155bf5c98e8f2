/-
  No cell of these rows narrows 'for every input' (looked for: loops, veiled, ifaces, maps, wideKeys, modest, calm, conditions, laid).
  DERIVED. THE GIVEN ROWS OF THIS SEAT. 5 by the template 'for every input the law returns true; each argument reads behind the call as it read before'; 0 by the template 'total and deterministic' (their statements: Qxb6601910aTotals.lean).
  GIVEN WITH THE SEED: the statements are not yours to turn. If you find one false, say at which input.
  Laid BY PROGRAM, IN A SANDBOX (cutbox-rows.mjs): the forced cells as the released guide's own fill.sh prints them over the translation 59abe89b5165c519… (all of the seat's roots in one cut). By AI agents, Wed Nov 11 2026. No macro, syntax, notation, axiom, sorry.
-/
import Derived.Test.Qxb6601910aChecked
import GoSem.Claim
import GoSem.ClaimJoined
import GoSem.ClaimMapViews
import Derived.JoinedTies
import Derived.KernelRfl
namespace Go.Proofs.Qxb6601910a
/- THE CELL 'sum', in the pinned program and in every row, IS THE sha256 OF THE DUMP (.gsa) THAT Qxb6601910aProg.lean LOADS. Nothing in Lean hashes anything: it is a label: what it is worth is what the hold of that sum in a sandbox is worth. -/
noncomputable def Try.pinned : Pinned := { name := "qxb6601910a", sum := "59abe89b5165c519f09ab4f059fe73cb0f9a0357c7b55bdeb1bfc58a060ce04c", checked := Try.checked }
namespace Rows
def none {H : Type} : Left H := { results := [], args := [] }

/-- 'zzlaws_pkg_rtmp_b1.FnParseBasicHeaderCaseTable': WHATEVER THE INPUT: true; the input reads as it did. -/
def fnParseBasicHeaderCaseTableSpec : ChangeSpec := { name := "fnParseBasicHeaderCaseTable", fn := fun _ => fun
  | [d] => { results := [.lit (.bool true)], args := [d] }
  | _ => none }
def fnParseBasicHeaderCaseTableRow : OpenClaim := { program := "qxb6601910a", sum := "59abe89b5165c519f09ab4f059fe73cb0f9a0357c7b55bdeb1bfc58a060ce04c", func := "example.com/tributary/tributary/zzlaws_pkg_rtmp_b1.FnParseBasicHeaderCaseTable", spec := "fnParseBasicHeaderCaseTable", apart := false }
def FnParseBasicHeaderCaseTableSaid : Prop := fnParseBasicHeaderCaseTableRow.holds Try.pinned (OpenSpec.ofChange fnParseBasicHeaderCaseTableSpec)

/-- ITS FALSE NEIGHBOUR: 'it returns false'. Refute it at one input. -/
def fnParseBasicHeaderCaseTableWrong : ChangeSpec := { name := "fnParseBasicHeaderCaseTable", fn := fun _ => fun
  | [d] => { results := [.lit (.bool false)], args := [d] }
  | _ => none }
def FnParseBasicHeaderCaseTableWrongFalsely : Prop := fnParseBasicHeaderCaseTableRow.holds Try.pinned (OpenSpec.ofChange fnParseBasicHeaderCaseTableWrong)

/-- 'zzlaws_pkg_rtmp_b1.FnParseBasicHeaderReadsEveryWrittenHeader': WHATEVER THE INPUT: true; the input reads as it did. -/
def fnParseBasicHeaderReadsEveryWrittenHeaderSpec : ChangeSpec := { name := "fnParseBasicHeaderReadsEveryWrittenHeader", fn := fun _ => fun
  | [d1, d2, d3] => { results := [.lit (.bool true)], args := [d1, d2, d3] }
  | _ => none }
def fnParseBasicHeaderReadsEveryWrittenHeaderRow : OpenClaim := { program := "qxb6601910a", sum := "59abe89b5165c519f09ab4f059fe73cb0f9a0357c7b55bdeb1bfc58a060ce04c", func := "example.com/tributary/tributary/zzlaws_pkg_rtmp_b1.FnParseBasicHeaderReadsEveryWrittenHeader", spec := "fnParseBasicHeaderReadsEveryWrittenHeader", apart := false }
def FnParseBasicHeaderReadsEveryWrittenHeaderSaid : Prop := fnParseBasicHeaderReadsEveryWrittenHeaderRow.holds Try.pinned (OpenSpec.ofChange fnParseBasicHeaderReadsEveryWrittenHeaderSpec)

/-- ITS FALSE NEIGHBOUR: 'it returns false'. Refute it at one input. -/
def fnParseBasicHeaderReadsEveryWrittenHeaderWrong : ChangeSpec := { name := "fnParseBasicHeaderReadsEveryWrittenHeader", fn := fun _ => fun
  | [d1, d2, d3] => { results := [.lit (.bool false)], args := [d1, d2, d3] }
  | _ => none }
def FnParseBasicHeaderReadsEveryWrittenHeaderWrongFalsely : Prop := fnParseBasicHeaderReadsEveryWrittenHeaderRow.holds Try.pinned (OpenSpec.ofChange fnParseBasicHeaderReadsEveryWrittenHeaderWrong)

/-- 'zzlaws_pkg_rtmp_b1.FnParseBasicHeaderMoreBytesChangeNothingRead': WHATEVER THE INPUT: true; the input reads as it did. -/
def fnParseBasicHeaderMoreBytesChangeNothingReadSpec : ChangeSpec := { name := "fnParseBasicHeaderMoreBytesChangeNothingRead", fn := fun _ => fun
  | [d1, d2] => { results := [.lit (.bool true)], args := [d1, d2] }
  | _ => none }
def fnParseBasicHeaderMoreBytesChangeNothingReadRow : OpenClaim := { program := "qxb6601910a", sum := "59abe89b5165c519f09ab4f059fe73cb0f9a0357c7b55bdeb1bfc58a060ce04c", func := "example.com/tributary/tributary/zzlaws_pkg_rtmp_b1.FnParseBasicHeaderMoreBytesChangeNothingRead", spec := "fnParseBasicHeaderMoreBytesChangeNothingRead", apart := false }
def FnParseBasicHeaderMoreBytesChangeNothingReadSaid : Prop := fnParseBasicHeaderMoreBytesChangeNothingReadRow.holds Try.pinned (OpenSpec.ofChange fnParseBasicHeaderMoreBytesChangeNothingReadSpec)

/-- ITS FALSE NEIGHBOUR: 'it returns false'. Refute it at one input. -/
def fnParseBasicHeaderMoreBytesChangeNothingReadWrong : ChangeSpec := { name := "fnParseBasicHeaderMoreBytesChangeNothingRead", fn := fun _ => fun
  | [d1, d2] => { results := [.lit (.bool false)], args := [d1, d2] }
  | _ => none }
def FnParseBasicHeaderMoreBytesChangeNothingReadWrongFalsely : Prop := fnParseBasicHeaderMoreBytesChangeNothingReadRow.holds Try.pinned (OpenSpec.ofChange fnParseBasicHeaderMoreBytesChangeNothingReadWrong)

/-- 'zzlaws_pkg_rtmp_b1.FnSetHeaderTimestampMovesByDelta': WHATEVER THE INPUT: true; the input reads as it did. -/
def fnSetHeaderTimestampMovesByDeltaSpec : ChangeSpec := { name := "fnSetHeaderTimestampMovesByDelta", fn := fun _ => fun
  | [d1, d2, d3, d4] => { results := [.lit (.bool true)], args := [d1, d2, d3, d4] }
  | _ => none }
def fnSetHeaderTimestampMovesByDeltaRow : OpenClaim := { program := "qxb6601910a", sum := "59abe89b5165c519f09ab4f059fe73cb0f9a0357c7b55bdeb1bfc58a060ce04c", func := "example.com/tributary/tributary/zzlaws_pkg_rtmp_b1.FnSetHeaderTimestampMovesByDelta", spec := "fnSetHeaderTimestampMovesByDelta", apart := false }
def FnSetHeaderTimestampMovesByDeltaSaid : Prop := fnSetHeaderTimestampMovesByDeltaRow.holds Try.pinned (OpenSpec.ofChange fnSetHeaderTimestampMovesByDeltaSpec)

/-- ITS FALSE NEIGHBOUR: 'it returns false'. Refute it at one input. -/
def fnSetHeaderTimestampMovesByDeltaWrong : ChangeSpec := { name := "fnSetHeaderTimestampMovesByDelta", fn := fun _ => fun
  | [d1, d2, d3, d4] => { results := [.lit (.bool false)], args := [d1, d2, d3, d4] }
  | _ => none }
def FnSetHeaderTimestampMovesByDeltaWrongFalsely : Prop := fnSetHeaderTimestampMovesByDeltaRow.holds Try.pinned (OpenSpec.ofChange fnSetHeaderTimestampMovesByDeltaWrong)

/-- 'zzlaws_pkg_rtmp_b1.FnSetHeaderFormatZeroForgetsThePast': WHATEVER THE INPUT: true; the input reads as it did. -/
def fnSetHeaderFormatZeroForgetsThePastSpec : ChangeSpec := { name := "fnSetHeaderFormatZeroForgetsThePast", fn := fun _ => fun
  | [d1, d2, d3, d4] => { results := [.lit (.bool true)], args := [d1, d2, d3, d4] }
  | _ => none }
def fnSetHeaderFormatZeroForgetsThePastRow : OpenClaim := { program := "qxb6601910a", sum := "59abe89b5165c519f09ab4f059fe73cb0f9a0357c7b55bdeb1bfc58a060ce04c", func := "example.com/tributary/tributary/zzlaws_pkg_rtmp_b1.FnSetHeaderFormatZeroForgetsThePast", spec := "fnSetHeaderFormatZeroForgetsThePast", apart := false }
def FnSetHeaderFormatZeroForgetsThePastSaid : Prop := fnSetHeaderFormatZeroForgetsThePastRow.holds Try.pinned (OpenSpec.ofChange fnSetHeaderFormatZeroForgetsThePastSpec)

/-- ITS FALSE NEIGHBOUR: 'it returns false'. Refute it at one input. -/
def fnSetHeaderFormatZeroForgetsThePastWrong : ChangeSpec := { name := "fnSetHeaderFormatZeroForgetsThePast", fn := fun _ => fun
  | [d1, d2, d3, d4] => { results := [.lit (.bool false)], args := [d1, d2, d3, d4] }
  | _ => none }
def FnSetHeaderFormatZeroForgetsThePastWrongFalsely : Prop := fnSetHeaderFormatZeroForgetsThePastRow.holds Try.pinned (OpenSpec.ofChange fnSetHeaderFormatZeroForgetsThePastWrong)

end Rows
end Go.Proofs.Qxb6601910a
