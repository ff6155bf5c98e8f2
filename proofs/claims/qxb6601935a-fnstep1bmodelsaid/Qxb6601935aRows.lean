/-
  No cell of these rows narrows 'for every input' (looked for: loops, veiled, ifaces, maps, wideKeys, modest, calm, conditions, laid).
  DERIVED. THE GIVEN ROWS OF THIS SEAT. 7 by the template 'for every input the law returns true; each argument reads behind the call as it read before'; 0 by the template 'total and deterministic' (their statements: Qxb6601935aTotals.lean).
  GIVEN WITH THE SEED: the statements are not yours to turn. If you find one false, say at which input.
  Laid BY PROGRAM, IN A SANDBOX (cutbox-rows.mjs): the forced cells as the released guide's own fill.sh prints them over the translation 18e532797acc58be… (all of the seat's roots in one cut). By AI agents, Wed Nov 11 2026. No macro, syntax, notation, axiom, sorry.
-/
import Derived.Test.Qxb6601935aChecked
import GoSem.Claim
import GoSem.ClaimJoined
import GoSem.ClaimMapViews
import Derived.JoinedTies
import Derived.KernelRfl
namespace Go.Proofs.Qxb6601935a
/- THE CELL 'sum', in the pinned program and in every row, IS THE sha256 OF THE DUMP (.gsa) THAT Qxb6601935aProg.lean LOADS. Nothing in Lean hashes anything: it is a label: what it is worth is what the hold of that sum in a sandbox is worth. -/
noncomputable def Try.pinned : Pinned := { name := "qxb6601935a", sum := "18e532797acc58be7be29a6277bcaaf50fa6cab00217174e8c75c8aeada49a90", checked := Try.checked }
namespace Rows
def none {H : Type} : Left H := { results := [], args := [] }

/-- 'zzlaws_terms_b1.FnStep1aModel': WHATEVER THE INPUT: true; the input reads as it did. -/
def fnStep1aModelSpec : ChangeSpec := { name := "fnStep1aModel", fn := fun _ => fun
  | [d] => { results := [.lit (.bool true)], args := [d] }
  | _ => none }
def fnStep1aModelRow : OpenClaim := { program := "qxb6601935a", sum := "18e532797acc58be7be29a6277bcaaf50fa6cab00217174e8c75c8aeada49a90", func := "example.com/attache/attache/zzlaws_terms_b1.FnStep1aModel", spec := "fnStep1aModel", apart := false }
def FnStep1aModelSaid : Prop := fnStep1aModelRow.holds Try.pinned (OpenSpec.ofChange fnStep1aModelSpec)

/-- ITS FALSE NEIGHBOUR: 'it returns false'. Refute it at one input. -/
def fnStep1aModelWrong : ChangeSpec := { name := "fnStep1aModel", fn := fun _ => fun
  | [d] => { results := [.lit (.bool false)], args := [d] }
  | _ => none }
def FnStep1aModelWrongFalsely : Prop := fnStep1aModelRow.holds Try.pinned (OpenSpec.ofChange fnStep1aModelWrong)

/-- 'zzlaws_terms_b1.FnStep1aIdempotent': WHATEVER THE INPUT: true; the input reads as it did. -/
def fnStep1aIdempotentSpec : ChangeSpec := { name := "fnStep1aIdempotent", fn := fun _ => fun
  | [d] => { results := [.lit (.bool true)], args := [d] }
  | _ => none }
def fnStep1aIdempotentRow : OpenClaim := { program := "qxb6601935a", sum := "18e532797acc58be7be29a6277bcaaf50fa6cab00217174e8c75c8aeada49a90", func := "example.com/attache/attache/zzlaws_terms_b1.FnStep1aIdempotent", spec := "fnStep1aIdempotent", apart := false }
def FnStep1aIdempotentSaid : Prop := fnStep1aIdempotentRow.holds Try.pinned (OpenSpec.ofChange fnStep1aIdempotentSpec)

/-- ITS FALSE NEIGHBOUR: 'it returns false'. Refute it at one input. -/
def fnStep1aIdempotentWrong : ChangeSpec := { name := "fnStep1aIdempotent", fn := fun _ => fun
  | [d] => { results := [.lit (.bool false)], args := [d] }
  | _ => none }
def FnStep1aIdempotentWrongFalsely : Prop := fnStep1aIdempotentRow.holds Try.pinned (OpenSpec.ofChange fnStep1aIdempotentWrong)

/-- 'zzlaws_terms_b1.FnStep1bModel': WHATEVER THE INPUT: true; the input reads as it did. -/
def fnStep1bModelSpec : ChangeSpec := { name := "fnStep1bModel", fn := fun _ => fun
  | [d] => { results := [.lit (.bool true)], args := [d] }
  | _ => none }
def fnStep1bModelRow : OpenClaim := { program := "qxb6601935a", sum := "18e532797acc58be7be29a6277bcaaf50fa6cab00217174e8c75c8aeada49a90", func := "example.com/attache/attache/zzlaws_terms_b1.FnStep1bModel", spec := "fnStep1bModel", recurses := true, apart := false }
def FnStep1bModelSaid : Prop := fnStep1bModelRow.holds Try.pinned (OpenSpec.ofChange fnStep1bModelSpec)

/-- ITS FALSE NEIGHBOUR: 'it returns false'. Refute it at one input. -/
def fnStep1bModelWrong : ChangeSpec := { name := "fnStep1bModel", fn := fun _ => fun
  | [d] => { results := [.lit (.bool false)], args := [d] }
  | _ => none }
def FnStep1bModelWrongFalsely : Prop := fnStep1bModelRow.holds Try.pinned (OpenSpec.ofChange fnStep1bModelWrong)

/-- 'zzlaws_terms_b1.FnStep1bShape': WHATEVER THE INPUT: true; the input reads as it did. -/
def fnStep1bShapeSpec : ChangeSpec := { name := "fnStep1bShape", fn := fun _ => fun
  | [d] => { results := [.lit (.bool true)], args := [d] }
  | _ => none }
def fnStep1bShapeRow : OpenClaim := { program := "qxb6601935a", sum := "18e532797acc58be7be29a6277bcaaf50fa6cab00217174e8c75c8aeada49a90", func := "example.com/attache/attache/zzlaws_terms_b1.FnStep1bShape", spec := "fnStep1bShape", recurses := true, apart := false }
def FnStep1bShapeSaid : Prop := fnStep1bShapeRow.holds Try.pinned (OpenSpec.ofChange fnStep1bShapeSpec)

/-- ITS FALSE NEIGHBOUR: 'it returns false'. Refute it at one input. -/
def fnStep1bShapeWrong : ChangeSpec := { name := "fnStep1bShape", fn := fun _ => fun
  | [d] => { results := [.lit (.bool false)], args := [d] }
  | _ => none }
def FnStep1bShapeWrongFalsely : Prop := fnStep1bShapeRow.holds Try.pinned (OpenSpec.ofChange fnStep1bShapeWrong)

/-- 'zzlaws_terms_b1.FnReplaceMonotoneInLeast': WHATEVER THE INPUT: true; the input reads as it did. -/
def fnReplaceMonotoneInLeastSpec : ChangeSpec := { name := "fnReplaceMonotoneInLeast", fn := fun _ => fun
  | [d1, d2, d3, d4] => { results := [.lit (.bool true)], args := [d1, d2, d3, d4] }
  | _ => none }
def fnReplaceMonotoneInLeastRow : OpenClaim := { program := "qxb6601935a", sum := "18e532797acc58be7be29a6277bcaaf50fa6cab00217174e8c75c8aeada49a90", func := "example.com/attache/attache/zzlaws_terms_b1.FnReplaceMonotoneInLeast", spec := "fnReplaceMonotoneInLeast", recurses := true, apart := false }
def FnReplaceMonotoneInLeastSaid : Prop := fnReplaceMonotoneInLeastRow.holds Try.pinned (OpenSpec.ofChange fnReplaceMonotoneInLeastSpec)

/-- ITS FALSE NEIGHBOUR: 'it returns false'. Refute it at one input. -/
def fnReplaceMonotoneInLeastWrong : ChangeSpec := { name := "fnReplaceMonotoneInLeast", fn := fun _ => fun
  | [d1, d2, d3, d4] => { results := [.lit (.bool false)], args := [d1, d2, d3, d4] }
  | _ => none }
def FnReplaceMonotoneInLeastWrongFalsely : Prop := fnReplaceMonotoneInLeastRow.holds Try.pinned (OpenSpec.ofChange fnReplaceMonotoneInLeastWrong)

/-- 'zzlaws_terms_b1.FnReplaceModel': WHATEVER THE INPUT: true; the input reads as it did. -/
def fnReplaceModelSpec : ChangeSpec := { name := "fnReplaceModel", fn := fun _ => fun
  | [d1, d2, d3] => { results := [.lit (.bool true)], args := [d1, d2, d3] }
  | _ => none }
def fnReplaceModelRow : OpenClaim := { program := "qxb6601935a", sum := "18e532797acc58be7be29a6277bcaaf50fa6cab00217174e8c75c8aeada49a90", func := "example.com/attache/attache/zzlaws_terms_b1.FnReplaceModel", spec := "fnReplaceModel", recurses := true, apart := false }
def FnReplaceModelSaid : Prop := fnReplaceModelRow.holds Try.pinned (OpenSpec.ofChange fnReplaceModelSpec)

/-- ITS FALSE NEIGHBOUR: 'it returns false'. Refute it at one input. -/
def fnReplaceModelWrong : ChangeSpec := { name := "fnReplaceModel", fn := fun _ => fun
  | [d1, d2, d3] => { results := [.lit (.bool false)], args := [d1, d2, d3] }
  | _ => none }
def FnReplaceModelWrongFalsely : Prop := fnReplaceModelRow.holds Try.pinned (OpenSpec.ofChange fnReplaceModelWrong)

/-- 'zzlaws_terms_b1.FnReplaceRefusesAtHighLeast': WHATEVER THE INPUT: true; the input reads as it did. -/
def fnReplaceRefusesAtHighLeastSpec : ChangeSpec := { name := "fnReplaceRefusesAtHighLeast", fn := fun _ => fun
  | [d1, d2, d3] => { results := [.lit (.bool true)], args := [d1, d2, d3] }
  | _ => none }
def fnReplaceRefusesAtHighLeastRow : OpenClaim := { program := "qxb6601935a", sum := "18e532797acc58be7be29a6277bcaaf50fa6cab00217174e8c75c8aeada49a90", func := "example.com/attache/attache/zzlaws_terms_b1.FnReplaceRefusesAtHighLeast", spec := "fnReplaceRefusesAtHighLeast", recurses := true, apart := false }
def FnReplaceRefusesAtHighLeastSaid : Prop := fnReplaceRefusesAtHighLeastRow.holds Try.pinned (OpenSpec.ofChange fnReplaceRefusesAtHighLeastSpec)

/-- ITS FALSE NEIGHBOUR: 'it returns false'. Refute it at one input. -/
def fnReplaceRefusesAtHighLeastWrong : ChangeSpec := { name := "fnReplaceRefusesAtHighLeast", fn := fun _ => fun
  | [d1, d2, d3] => { results := [.lit (.bool false)], args := [d1, d2, d3] }
  | _ => none }
def FnReplaceRefusesAtHighLeastWrongFalsely : Prop := fnReplaceRefusesAtHighLeastRow.holds Try.pinned (OpenSpec.ofChange fnReplaceRefusesAtHighLeastWrong)

end Rows
end Go.Proofs.Qxb6601935a
