/-
  No cell of these rows narrows 'for every input' (looked for: loops, veiled, ifaces, maps, wideKeys, modest, calm, conditions, laid).
  DERIVED. THE GIVEN ROWS OF THIS SEAT. 4 by the template 'for every input the law returns true; each argument reads behind the call as it read before'; 0 by the template 'total and deterministic' (their statements: Qxb6605293aTotals.lean).
  GIVEN WITH THE SEED: the statements are not yours to turn. If you find one false, say at which input.
  Laid BY PROGRAM, IN A SANDBOX (cutbox-rows.mjs): the forced cells as the released guide's own fill.sh prints them over the translation 6bbda0d8f40a076a… (all of the seat's roots in one cut). By AI agents, Wed Nov 11 2026. No macro, syntax, notation, axiom, sorry.
-/
import Derived.Test.Qxb6605293aChecked
import GoSem.Claim
import GoSem.ClaimJoined
import GoSem.ClaimMapViews
import Derived.JoinedTies
import Derived.KernelRfl
namespace Go.Proofs.Qxb6605293a
/- THE CELL 'sum', in the pinned program and in every row, IS THE sha256 OF THE DUMP (.gsa) THAT Qxb6605293aProg.lean LOADS. Nothing in Lean hashes anything: it is a label: what it is worth is what the hold of that sum in a sandbox is worth. -/
noncomputable def Try.pinned : Pinned := { name := "qxb6605293a", sum := "6bbda0d8f40a076a525ac5bedf4b42a12bc125ebea5294e2fd0fb9f41dc416d8", checked := Try.checked }
namespace Rows
def none {H : Type} : Left H := { results := [], args := [] }

/-- 'zzlaws_internal_excerpt_b1.FnPrefixAgreesWithUTF8Model': WHATEVER THE INPUT: true; the input reads as it did. -/
def fnPrefixAgreesWithUTF8ModelSpec : ChangeSpec := { name := "fnPrefixAgreesWithUTF8Model", fn := fun _ => fun
  | [d1, d2] => { results := [.lit (.bool true)], args := [d1, d2] }
  | _ => none }
def fnPrefixAgreesWithUTF8ModelRow : OpenClaim := { program := "qxb6605293a", sum := "6bbda0d8f40a076a525ac5bedf4b42a12bc125ebea5294e2fd0fb9f41dc416d8", func := "example.com/prudent-permissions/prudent-permissions/zzlaws_internal_excerpt_b1.FnPrefixAgreesWithUTF8Model", spec := "fnPrefixAgreesWithUTF8Model", apart := false }
def FnPrefixAgreesWithUTF8ModelSaid : Prop := fnPrefixAgreesWithUTF8ModelRow.holds Try.pinned (OpenSpec.ofChange fnPrefixAgreesWithUTF8ModelSpec)

/-- ITS FALSE NEIGHBOUR: 'it returns false'. Refute it at one input. -/
def fnPrefixAgreesWithUTF8ModelWrong : ChangeSpec := { name := "fnPrefixAgreesWithUTF8Model", fn := fun _ => fun
  | [d1, d2] => { results := [.lit (.bool false)], args := [d1, d2] }
  | _ => none }
def FnPrefixAgreesWithUTF8ModelWrongFalsely : Prop := fnPrefixAgreesWithUTF8ModelRow.holds Try.pinned (OpenSpec.ofChange fnPrefixAgreesWithUTF8ModelWrong)

/-- 'zzlaws_internal_excerpt_b1.FnPrefixResumesAtItsCut': WHATEVER THE INPUT: true; the input reads as it did. -/
def fnPrefixResumesAtItsCutSpec : ChangeSpec := { name := "fnPrefixResumesAtItsCut", fn := fun _ => fun
  | [d1, d2, d3] => { results := [.lit (.bool true)], args := [d1, d2, d3] }
  | _ => none }
def fnPrefixResumesAtItsCutRow : OpenClaim := { program := "qxb6605293a", sum := "6bbda0d8f40a076a525ac5bedf4b42a12bc125ebea5294e2fd0fb9f41dc416d8", func := "example.com/prudent-permissions/prudent-permissions/zzlaws_internal_excerpt_b1.FnPrefixResumesAtItsCut", spec := "fnPrefixResumesAtItsCut", apart := false }
def FnPrefixResumesAtItsCutSaid : Prop := fnPrefixResumesAtItsCutRow.holds Try.pinned (OpenSpec.ofChange fnPrefixResumesAtItsCutSpec)

/-- ITS FALSE NEIGHBOUR: 'it returns false'. Refute it at one input. -/
def fnPrefixResumesAtItsCutWrong : ChangeSpec := { name := "fnPrefixResumesAtItsCut", fn := fun _ => fun
  | [d1, d2, d3] => { results := [.lit (.bool false)], args := [d1, d2, d3] }
  | _ => none }
def FnPrefixResumesAtItsCutWrongFalsely : Prop := fnPrefixResumesAtItsCutRow.holds Try.pinned (OpenSpec.ofChange fnPrefixResumesAtItsCutWrong)

/-- 'zzlaws_internal_excerpt_b1.FnCutToAgreesWithUTF8Model': WHATEVER THE INPUT: true; the input reads as it did. -/
def fnCutToAgreesWithUTF8ModelSpec : ChangeSpec := { name := "fnCutToAgreesWithUTF8Model", fn := fun _ => fun
  | [d1, d2] => { results := [.lit (.bool true)], args := [d1, d2] }
  | _ => none }
def fnCutToAgreesWithUTF8ModelRow : OpenClaim := { program := "qxb6605293a", sum := "6bbda0d8f40a076a525ac5bedf4b42a12bc125ebea5294e2fd0fb9f41dc416d8", func := "example.com/prudent-permissions/prudent-permissions/zzlaws_internal_excerpt_b1.FnCutToAgreesWithUTF8Model", spec := "fnCutToAgreesWithUTF8Model", apart := false }
def FnCutToAgreesWithUTF8ModelSaid : Prop := fnCutToAgreesWithUTF8ModelRow.holds Try.pinned (OpenSpec.ofChange fnCutToAgreesWithUTF8ModelSpec)

/-- ITS FALSE NEIGHBOUR: 'it returns false'. Refute it at one input. -/
def fnCutToAgreesWithUTF8ModelWrong : ChangeSpec := { name := "fnCutToAgreesWithUTF8Model", fn := fun _ => fun
  | [d1, d2] => { results := [.lit (.bool false)], args := [d1, d2] }
  | _ => none }
def FnCutToAgreesWithUTF8ModelWrongFalsely : Prop := fnCutToAgreesWithUTF8ModelRow.holds Try.pinned (OpenSpec.ofChange fnCutToAgreesWithUTF8ModelWrong)

/-- 'zzlaws_internal_excerpt_b1.FnCutToFitsItsBudgetExactly': WHATEVER THE INPUT: true; the input reads as it did. -/
def fnCutToFitsItsBudgetExactlySpec : ChangeSpec := { name := "fnCutToFitsItsBudgetExactly", fn := fun _ => fun
  | [d1, d2] => { results := [.lit (.bool true)], args := [d1, d2] }
  | _ => none }
def fnCutToFitsItsBudgetExactlyRow : OpenClaim := { program := "qxb6605293a", sum := "6bbda0d8f40a076a525ac5bedf4b42a12bc125ebea5294e2fd0fb9f41dc416d8", func := "example.com/prudent-permissions/prudent-permissions/zzlaws_internal_excerpt_b1.FnCutToFitsItsBudgetExactly", spec := "fnCutToFitsItsBudgetExactly", apart := false }
def FnCutToFitsItsBudgetExactlySaid : Prop := fnCutToFitsItsBudgetExactlyRow.holds Try.pinned (OpenSpec.ofChange fnCutToFitsItsBudgetExactlySpec)

/-- ITS FALSE NEIGHBOUR: 'it returns false'. Refute it at one input. -/
def fnCutToFitsItsBudgetExactlyWrong : ChangeSpec := { name := "fnCutToFitsItsBudgetExactly", fn := fun _ => fun
  | [d1, d2] => { results := [.lit (.bool false)], args := [d1, d2] }
  | _ => none }
def FnCutToFitsItsBudgetExactlyWrongFalsely : Prop := fnCutToFitsItsBudgetExactlyRow.holds Try.pinned (OpenSpec.ofChange fnCutToFitsItsBudgetExactlyWrong)

end Rows
end Go.Proofs.Qxb6605293a
