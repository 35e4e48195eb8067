/-
  No cell of these rows narrows 'for every input' (looked for: loops, veiled, ifaces, maps, wideKeys, modest, calm, conditions, laid).
  DERIVED. THE GIVEN ROWS OF THIS SEAT. 4 by the template 'for every input the law returns true; each argument reads behind the call as it read before'; 0 by the template 'total and deterministic' (their statements: Qxb6600436aModsTotals.lean).
  GIVEN WITH THE SEED: the statements are not yours to turn. If you find one false, say at which input.
  Laid BY PROGRAM, IN A SANDBOX (cutbox-rows.mjs): the forced cells as the released guide's own fill.sh prints them over the translation 47e9bff8ba00de75… (all of the seat's roots in one cut). By AI agents, Wed Nov 11 2026. No macro, syntax, notation, axiom, sorry.
-/
import Derived.Test.Qxb6600436aModsChecked
import GoSem.Claim
import GoSem.ClaimJoined
import GoSem.ClaimMapViews
import Derived.JoinedTies
import Derived.KernelRfl
namespace Go.Proofs.Qxb6600436aMods
/- THE CELL 'sum', in the pinned program and in every row, IS THE sha256 OF THE DUMP (.gsa) THAT Qxb6600436aModsProg.lean LOADS. Nothing in Lean hashes anything: it is a label: what it is worth is what the hold of that sum in a sandbox is worth. -/
noncomputable def Trym.pinned : Pinned := { name := "qxb6600436amods", sum := "47e9bff8ba00de755d49607a6ffef7cbbaa83597e2e03905806ff086cbc03f1a", checked := Trym.checked }
namespace Rows
def none {H : Type} : Left H := { results := [], args := [] }

/-- 'zzlaws_root_b1.FnPluralityAboveThirdModel': WHATEVER THE INPUT: true; the input reads as it did. -/
def fnPluralityAboveThirdModelSpec : ChangeSpec := { name := "fnPluralityAboveThirdModel", fn := fun _ => fun
  | [d1, d2] => { results := [.lit (.bool true)], args := [d1, d2] }
  | _ => none }
def fnPluralityAboveThirdModelRow : OpenClaim := { program := "qxb6600436amods", sum := "47e9bff8ba00de755d49607a6ffef7cbbaa83597e2e03905806ff086cbc03f1a", func := "example.com/plenum/plenum/zzlaws_root_b1.FnPluralityAboveThirdModel", spec := "fnPluralityAboveThirdModel", make := .lifted ["publicsums"], apart := false }
def FnPluralityAboveThirdModelSaid : Prop := fnPluralityAboveThirdModelRow.holds Trym.pinned (OpenSpec.ofChange fnPluralityAboveThirdModelSpec)

/-- ITS FALSE NEIGHBOUR: 'it returns false'. Refute it at one input. -/
def fnPluralityAboveThirdModelWrong : ChangeSpec := { name := "fnPluralityAboveThirdModel", fn := fun _ => fun
  | [d1, d2] => { results := [.lit (.bool false)], args := [d1, d2] }
  | _ => none }
def FnPluralityAboveThirdModelWrongFalsely : Prop := fnPluralityAboveThirdModelRow.holds Trym.pinned (OpenSpec.ofChange fnPluralityAboveThirdModelWrong)

/-- 'zzlaws_root_b1.FnPluralityAboveThirdIgnoresBottom': WHATEVER THE INPUT: true; the input reads as it did. -/
def fnPluralityAboveThirdIgnoresBottomSpec : ChangeSpec := { name := "fnPluralityAboveThirdIgnoresBottom", fn := fun _ => fun
  | [d1, d2, d3] => { results := [.lit (.bool true)], args := [d1, d2, d3] }
  | _ => none }
def fnPluralityAboveThirdIgnoresBottomRow : OpenClaim := { program := "qxb6600436amods", sum := "47e9bff8ba00de755d49607a6ffef7cbbaa83597e2e03905806ff086cbc03f1a", func := "example.com/plenum/plenum/zzlaws_root_b1.FnPluralityAboveThirdIgnoresBottom", spec := "fnPluralityAboveThirdIgnoresBottom", make := .lifted ["publicsums"], apart := false }
def FnPluralityAboveThirdIgnoresBottomSaid : Prop := fnPluralityAboveThirdIgnoresBottomRow.holds Trym.pinned (OpenSpec.ofChange fnPluralityAboveThirdIgnoresBottomSpec)

/-- ITS FALSE NEIGHBOUR: 'it returns false'. Refute it at one input. -/
def fnPluralityAboveThirdIgnoresBottomWrong : ChangeSpec := { name := "fnPluralityAboveThirdIgnoresBottom", fn := fun _ => fun
  | [d1, d2, d3] => { results := [.lit (.bool false)], args := [d1, d2, d3] }
  | _ => none }
def FnPluralityAboveThirdIgnoresBottomWrongFalsely : Prop := fnPluralityAboveThirdIgnoresBottomRow.holds Trym.pinned (OpenSpec.ofChange fnPluralityAboveThirdIgnoresBottomWrong)

/-- 'zzlaws_root_b1.FnSameValueIsEquality': WHATEVER THE INPUT: true; the input reads as it did. -/
def fnSameValueIsEqualitySpec : ChangeSpec := { name := "fnSameValueIsEquality", fn := fun _ => fun
  | [d1, d2] => { results := [.lit (.bool true)], args := [d1, d2] }
  | _ => none }
def fnSameValueIsEqualityRow : OpenClaim := { program := "qxb6600436amods", sum := "47e9bff8ba00de755d49607a6ffef7cbbaa83597e2e03905806ff086cbc03f1a", func := "example.com/plenum/plenum/zzlaws_root_b1.FnSameValueIsEquality", spec := "fnSameValueIsEquality", make := .lifted ["publicsums"], apart := false }
def FnSameValueIsEqualitySaid : Prop := fnSameValueIsEqualityRow.holds Trym.pinned (OpenSpec.ofChange fnSameValueIsEqualitySpec)

/-- ITS FALSE NEIGHBOUR: 'it returns false'. Refute it at one input. -/
def fnSameValueIsEqualityWrong : ChangeSpec := { name := "fnSameValueIsEquality", fn := fun _ => fun
  | [d1, d2] => { results := [.lit (.bool false)], args := [d1, d2] }
  | _ => none }
def FnSameValueIsEqualityWrongFalsely : Prop := fnSameValueIsEqualityRow.holds Trym.pinned (OpenSpec.ofChange fnSameValueIsEqualityWrong)

/-- 'zzlaws_root_b1.FnKeepCopiesKeepsEveryValue': WHATEVER THE INPUT: true; the input reads as it did. -/
def fnKeepCopiesKeepsEveryValueSpec : ChangeSpec := { name := "fnKeepCopiesKeepsEveryValue", fn := fun _ => fun
  | [d] => { results := [.lit (.bool true)], args := [d] }
  | _ => none }
def fnKeepCopiesKeepsEveryValueRow : OpenClaim := { program := "qxb6600436amods", sum := "47e9bff8ba00de755d49607a6ffef7cbbaa83597e2e03905806ff086cbc03f1a", func := "example.com/plenum/plenum/zzlaws_root_b1.FnKeepCopiesKeepsEveryValue", spec := "fnKeepCopiesKeepsEveryValue", inPlace := ["internal/abi.NoEscape", "internal/bytealg.MakeNoZero"], make := .lifted ["publicsums"], apart := false }
def FnKeepCopiesKeepsEveryValueSaid : Prop := fnKeepCopiesKeepsEveryValueRow.holds Trym.pinned (OpenSpec.ofChange fnKeepCopiesKeepsEveryValueSpec)

/-- ITS FALSE NEIGHBOUR: 'it returns false'. Refute it at one input. -/
def fnKeepCopiesKeepsEveryValueWrong : ChangeSpec := { name := "fnKeepCopiesKeepsEveryValue", fn := fun _ => fun
  | [d] => { results := [.lit (.bool false)], args := [d] }
  | _ => none }
def FnKeepCopiesKeepsEveryValueWrongFalsely : Prop := fnKeepCopiesKeepsEveryValueRow.holds Trym.pinned (OpenSpec.ofChange fnKeepCopiesKeepsEveryValueWrong)

end Rows
end Go.Proofs.Qxb6600436aMods
