/-
  No cell of these rows narrows 'for every input' (looked for: loops, veiled, ifaces, maps, wideKeys, modest, calm, conditions, laid).
  DERIVED. THE GIVEN ROWS OF THIS SEAT. 4 by the template 'for every input the law returns true; each argument reads behind the call as it read before'; 0 by the template 'total and deterministic' (their statements: Qxb6608902aTotals.lean).
  GIVEN WITH THE SEED: the statements are not yours to turn. If you find one false, say at which input.
  Laid BY PROGRAM, IN A SANDBOX (cutbox-rows.mjs): the forced cells as the released guide's own fill.sh prints them over the translation a41e95431508e626… (all of the seat's roots in one cut). By AI agents, Wed Nov 11 2026. No macro, syntax, notation, axiom, sorry.
-/
import Derived.Test.Qxb6608902aChecked
import GoSem.Claim
import GoSem.ClaimJoined
import GoSem.ClaimMapViews
import Derived.JoinedTies
import Derived.KernelRfl
namespace Go.Proofs.Qxb6608902a
/- THE CELL 'sum', in the pinned program and in every row, IS THE sha256 OF THE DUMP (.gsa) THAT Qxb6608902aProg.lean LOADS. Nothing in Lean hashes anything: it is a label: what it is worth is what the hold of that sum in a sandbox is worth. -/
noncomputable def Try.pinned : Pinned := { name := "qxb6608902a", sum := "a41e95431508e626c195492dd67502d00d711fc85978383b525b9f9f82d00d02", checked := Try.checked }
namespace Rows
def none {H : Type} : Left H := { results := [], args := [] }

/-- 'zzlaws_root_b1.FnCompareRuleOrdersByPackedKey': WHATEVER THE INPUT: true; the input reads as it did. -/
def fnCompareRuleOrdersByPackedKeySpec : ChangeSpec := { name := "fnCompareRuleOrdersByPackedKey", fn := fun _ => fun
  | [d1, d2, d3, d4, d5, d6, d7, d8] => { results := [.lit (.bool true)], args := [d1, d2, d3, d4, d5, d6, d7, d8] }
  | _ => none }
def fnCompareRuleOrdersByPackedKeyRow : OpenClaim := { program := "qxb6608902a", sum := "a41e95431508e626c195492dd67502d00d711fc85978383b525b9f9f82d00d02", func := "example.com/tripline/tripline/zzlaws_root_b1.FnCompareRuleOrdersByPackedKey", spec := "fnCompareRuleOrdersByPackedKey", apart := false }
def FnCompareRuleOrdersByPackedKeySaid : Prop := fnCompareRuleOrdersByPackedKeyRow.holds Try.pinned (OpenSpec.ofChange fnCompareRuleOrdersByPackedKeySpec)

/-- ITS FALSE NEIGHBOUR: 'it returns false'. Refute it at one input. -/
def fnCompareRuleOrdersByPackedKeyWrong : ChangeSpec := { name := "fnCompareRuleOrdersByPackedKey", fn := fun _ => fun
  | [d1, d2, d3, d4, d5, d6, d7, d8] => { results := [.lit (.bool false)], args := [d1, d2, d3, d4, d5, d6, d7, d8] }
  | _ => none }
def FnCompareRuleOrdersByPackedKeyWrongFalsely : Prop := fnCompareRuleOrdersByPackedKeyRow.holds Try.pinned (OpenSpec.ofChange fnCompareRuleOrdersByPackedKeyWrong)

/-- 'zzlaws_root_b1.FnPointerFreshAndExact': WHATEVER THE INPUT: true; the input reads as it did. -/
def fnPointerFreshAndExactSpec : ChangeSpec := { name := "fnPointerFreshAndExact", fn := fun _ => fun
  | [d1, d2] => { results := [.lit (.bool true)], args := [d1, d2] }
  | _ => none }
def fnPointerFreshAndExactRow : OpenClaim := { program := "qxb6608902a", sum := "a41e95431508e626c195492dd67502d00d711fc85978383b525b9f9f82d00d02", func := "example.com/tripline/tripline/zzlaws_root_b1.FnPointerFreshAndExact", spec := "fnPointerFreshAndExact", apart := false }
def FnPointerFreshAndExactSaid : Prop := fnPointerFreshAndExactRow.holds Try.pinned (OpenSpec.ofChange fnPointerFreshAndExactSpec)

/-- ITS FALSE NEIGHBOUR: 'it returns false'. Refute it at one input. -/
def fnPointerFreshAndExactWrong : ChangeSpec := { name := "fnPointerFreshAndExact", fn := fun _ => fun
  | [d1, d2] => { results := [.lit (.bool false)], args := [d1, d2] }
  | _ => none }
def FnPointerFreshAndExactWrongFalsely : Prop := fnPointerFreshAndExactRow.holds Try.pinned (OpenSpec.ofChange fnPointerFreshAndExactWrong)

/-- 'zzlaws_root_b1.FnPointerAgreesWithRuleOrder': WHATEVER THE INPUT: true; the input reads as it did. -/
def fnPointerAgreesWithRuleOrderSpec : ChangeSpec := { name := "fnPointerAgreesWithRuleOrder", fn := fun _ => fun
  | [d1, d2, d3, d4] => { results := [.lit (.bool true)], args := [d1, d2, d3, d4] }
  | _ => none }
def fnPointerAgreesWithRuleOrderRow : OpenClaim := { program := "qxb6608902a", sum := "a41e95431508e626c195492dd67502d00d711fc85978383b525b9f9f82d00d02", func := "example.com/tripline/tripline/zzlaws_root_b1.FnPointerAgreesWithRuleOrder", spec := "fnPointerAgreesWithRuleOrder", apart := false }
def FnPointerAgreesWithRuleOrderSaid : Prop := fnPointerAgreesWithRuleOrderRow.holds Try.pinned (OpenSpec.ofChange fnPointerAgreesWithRuleOrderSpec)

/-- ITS FALSE NEIGHBOUR: 'it returns false'. Refute it at one input. -/
def fnPointerAgreesWithRuleOrderWrong : ChangeSpec := { name := "fnPointerAgreesWithRuleOrder", fn := fun _ => fun
  | [d1, d2, d3, d4] => { results := [.lit (.bool false)], args := [d1, d2, d3, d4] }
  | _ => none }
def FnPointerAgreesWithRuleOrderWrongFalsely : Prop := fnPointerAgreesWithRuleOrderRow.holds Try.pinned (OpenSpec.ofChange fnPointerAgreesWithRuleOrderWrong)

/-- 'zzlaws_root_b1.FnReportQuotaAgreesWithCloseArmed': WHATEVER THE INPUT: true; the input reads as it did. -/
def fnReportQuotaAgreesWithCloseArmedSpec : ChangeSpec := { name := "fnReportQuotaAgreesWithCloseArmed", fn := fun _ => fun
  | [d1, d2, d3, d4, d5, d6, d7, d8, d9] => { results := [.lit (.bool true)], args := [d1, d2, d3, d4, d5, d6, d7, d8, d9] }
  | _ => none }
def fnReportQuotaAgreesWithCloseArmedRow : OpenClaim := { program := "qxb6608902a", sum := "a41e95431508e626c195492dd67502d00d711fc85978383b525b9f9f82d00d02", func := "example.com/tripline/tripline/zzlaws_root_b1.FnReportQuotaAgreesWithCloseArmed", spec := "fnReportQuotaAgreesWithCloseArmed", unfollowed := true, recurses := true, apart := false }
def FnReportQuotaAgreesWithCloseArmedSaid : Prop := fnReportQuotaAgreesWithCloseArmedRow.holds Try.pinned (OpenSpec.ofChange fnReportQuotaAgreesWithCloseArmedSpec)

/-- ITS FALSE NEIGHBOUR: 'it returns false'. Refute it at one input. -/
def fnReportQuotaAgreesWithCloseArmedWrong : ChangeSpec := { name := "fnReportQuotaAgreesWithCloseArmed", fn := fun _ => fun
  | [d1, d2, d3, d4, d5, d6, d7, d8, d9] => { results := [.lit (.bool false)], args := [d1, d2, d3, d4, d5, d6, d7, d8, d9] }
  | _ => none }
def FnReportQuotaAgreesWithCloseArmedWrongFalsely : Prop := fnReportQuotaAgreesWithCloseArmedRow.holds Try.pinned (OpenSpec.ofChange fnReportQuotaAgreesWithCloseArmedWrong)

end Rows
end Go.Proofs.Qxb6608902a
