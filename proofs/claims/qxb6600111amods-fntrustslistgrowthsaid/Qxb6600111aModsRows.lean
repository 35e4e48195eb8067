/-
  No cell of these rows narrows 'for every input' (looked for: loops, veiled, ifaces, maps, wideKeys, modest, calm, conditions, laid).
  DERIVED. THE GIVEN ROWS OF THIS SEAT. 3 by the template 'for every input the law returns true; each argument reads behind the call as it read before'; 0 by the template 'total and deterministic' (their statements: Qxb6600111aModsTotals.lean).
  GIVEN WITH THE SEED: the statements are not yours to turn. If you find one false, say at which input.
  Laid BY PROGRAM, IN A SANDBOX (cutbox-rows.mjs): the forced cells as the released guide's own fill.sh prints them over the translation c66948b045572eb5… (all of the seat's roots in one cut). By AI agents, Wed Nov 11 2026. No macro, syntax, notation, axiom, sorry.
-/
import Derived.Test.Qxb6600111aModsChecked
import GoSem.Claim
import GoSem.ClaimJoined
import GoSem.ClaimMapViews
import Derived.JoinedTies
import Derived.KernelRfl
namespace Go.Proofs.Qxb6600111aMods
/- THE CELL 'sum', in the pinned program and in every row, IS THE sha256 OF THE DUMP (.gsa) THAT Qxb6600111aModsProg.lean LOADS. Nothing in Lean hashes anything: it is a label: what it is worth is what the hold of that sum in a sandbox is worth. -/
noncomputable def Trym.pinned : Pinned := { name := "qxb6600111amods", sum := "c66948b045572eb564d37d9141801f342b909d8976af9ec22624e2ed55e4e49c", checked := Trym.checked }
namespace Rows
def none {H : Type} : Left H := { results := [], args := [] }

/-- 'zzlaws_internal_stssim_b1.FnTrustsSessionAsItsRole': WHATEVER THE INPUT: true; the input reads as it did. -/
def fnTrustsSessionAsItsRoleSpec : ChangeSpec := { name := "fnTrustsSessionAsItsRole", fn := fun _ => fun
  | [d1, d2, d3, d4] => { results := [.lit (.bool true)], args := [d1, d2, d3, d4] }
  | _ => none }
def fnTrustsSessionAsItsRoleRow : OpenClaim := { program := "qxb6600111amods", sum := "c66948b045572eb564d37d9141801f342b909d8976af9ec22624e2ed55e4e49c", func := "example.com/roleweave/roleweave/zzlaws_internal_stssim_b1.FnTrustsSessionAsItsRole", spec := "fnTrustsSessionAsItsRole", make := .lifted ["publicsums"], apart := false }
def FnTrustsSessionAsItsRoleSaid : Prop := fnTrustsSessionAsItsRoleRow.holds Trym.pinned (OpenSpec.ofChange fnTrustsSessionAsItsRoleSpec)

/-- ITS FALSE NEIGHBOUR: 'it returns false'. Refute it at one input. -/
def fnTrustsSessionAsItsRoleWrong : ChangeSpec := { name := "fnTrustsSessionAsItsRole", fn := fun _ => fun
  | [d1, d2, d3, d4] => { results := [.lit (.bool false)], args := [d1, d2, d3, d4] }
  | _ => none }
def FnTrustsSessionAsItsRoleWrongFalsely : Prop := fnTrustsSessionAsItsRoleRow.holds Trym.pinned (OpenSpec.ofChange fnTrustsSessionAsItsRoleWrong)

/-- 'zzlaws_internal_stssim_b1.FnTrustsListGrowth': WHATEVER THE INPUT: true; the input reads as it did. -/
def fnTrustsListGrowthSpec : ChangeSpec := { name := "fnTrustsListGrowth", fn := fun _ => fun
  | [d1, d2, d3, d4] => { results := [.lit (.bool true)], args := [d1, d2, d3, d4] }
  | _ => none }
def fnTrustsListGrowthRow : OpenClaim := { program := "qxb6600111amods", sum := "c66948b045572eb564d37d9141801f342b909d8976af9ec22624e2ed55e4e49c", func := "example.com/roleweave/roleweave/zzlaws_internal_stssim_b1.FnTrustsListGrowth", spec := "fnTrustsListGrowth", make := .lifted ["publicsums"], apart := false }
def FnTrustsListGrowthSaid : Prop := fnTrustsListGrowthRow.holds Trym.pinned (OpenSpec.ofChange fnTrustsListGrowthSpec)

/-- ITS FALSE NEIGHBOUR: 'it returns false'. Refute it at one input. -/
def fnTrustsListGrowthWrong : ChangeSpec := { name := "fnTrustsListGrowth", fn := fun _ => fun
  | [d1, d2, d3, d4] => { results := [.lit (.bool false)], args := [d1, d2, d3, d4] }
  | _ => none }
def FnTrustsListGrowthWrongFalsely : Prop := fnTrustsListGrowthRow.holds Trym.pinned (OpenSpec.ofChange fnTrustsListGrowthWrong)

/-- 'zzlaws_internal_stssim_b1.FnTrustsOrderFree': WHATEVER THE INPUT: true; the input reads as it did. -/
def fnTrustsOrderFreeSpec : ChangeSpec := { name := "fnTrustsOrderFree", fn := fun _ => fun
  | [d1, d2, d3] => { results := [.lit (.bool true)], args := [d1, d2, d3] }
  | _ => none }
def fnTrustsOrderFreeRow : OpenClaim := { program := "qxb6600111amods", sum := "c66948b045572eb564d37d9141801f342b909d8976af9ec22624e2ed55e4e49c", func := "example.com/roleweave/roleweave/zzlaws_internal_stssim_b1.FnTrustsOrderFree", spec := "fnTrustsOrderFree", make := .lifted ["publicsums"], apart := false }
def FnTrustsOrderFreeSaid : Prop := fnTrustsOrderFreeRow.holds Trym.pinned (OpenSpec.ofChange fnTrustsOrderFreeSpec)

/-- ITS FALSE NEIGHBOUR: 'it returns false'. Refute it at one input. -/
def fnTrustsOrderFreeWrong : ChangeSpec := { name := "fnTrustsOrderFree", fn := fun _ => fun
  | [d1, d2, d3] => { results := [.lit (.bool false)], args := [d1, d2, d3] }
  | _ => none }
def FnTrustsOrderFreeWrongFalsely : Prop := fnTrustsOrderFreeRow.holds Trym.pinned (OpenSpec.ofChange fnTrustsOrderFreeWrong)

end Rows
end Go.Proofs.Qxb6600111aMods
