/-
  No cell of these rows narrows 'for every input' (looked for: loops, veiled, ifaces, maps, wideKeys, modest, calm, conditions, laid).
  DERIVED. THE GIVEN ROWS OF THIS SEAT. 2 by the template 'for every input the law returns true; each argument reads behind the call as it read before'; 0 by the template 'total and deterministic' (their statements: Qxb6600439aModsTotals.lean).
  GIVEN WITH THE SEED: the statements are not yours to turn. If you find one false, say at which input.
  Laid BY PROGRAM, IN A SANDBOX (cutbox-rows.mjs): the forced cells as the released guide's own fill.sh prints them over the translation ef8a787491c4ef59… (all of the seat's roots in one cut). By AI agents, Wed Nov 11 2026. No macro, syntax, notation, axiom, sorry.
-/
import Derived.Test.Qxb6600439aModsChecked
import GoSem.Claim
import GoSem.ClaimJoined
import GoSem.ClaimMapViews
import Derived.JoinedTies
import Derived.KernelRfl
namespace Go.Proofs.Qxb6600439aMods
/- THE CELL 'sum', in the pinned program and in every row, IS THE sha256 OF THE DUMP (.gsa) THAT Qxb6600439aModsProg.lean LOADS. Nothing in Lean hashes anything: it is a label: what it is worth is what the hold of that sum in a sandbox is worth. -/
noncomputable def Trym.pinned : Pinned := { name := "qxb6600439amods", sum := "ef8a787491c4ef597050cf139babc6af5e976b726104df45ecda6b6533dd4cab", checked := Trym.checked }
namespace Rows
def none {H : Type} : Left H := { results := [], args := [] }

/-- 'zzlaws_pkg_redisengine_b1.FnNamedWriteThroughSetsExactlyThatField': WHATEVER THE INPUT: true; the input reads as it did. -/
def fnNamedWriteThroughSetsExactlyThatFieldSpec : ChangeSpec := { name := "fnNamedWriteThroughSetsExactlyThatField", fn := fun _ => fun
  | [d1, d2, d3, d4, d5, d6, d7, d8, d9, d10] => { results := [.lit (.bool true)], args := [d1, d2, d3, d4, d5, d6, d7, d8, d9, d10] }
  | _ => none }
def fnNamedWriteThroughSetsExactlyThatFieldRow : OpenClaim := { program := "qxb6600439amods", sum := "ef8a787491c4ef597050cf139babc6af5e976b726104df45ecda6b6533dd4cab", func := "example.com/brisk-queue/brisk-queue/zzlaws_pkg_redisengine_b1.FnNamedWriteThroughSetsExactlyThatField", spec := "fnNamedWriteThroughSetsExactlyThatField", make := .lifted ["publicsums"], apart := false }
def FnNamedWriteThroughSetsExactlyThatFieldSaid : Prop := fnNamedWriteThroughSetsExactlyThatFieldRow.holds Trym.pinned (OpenSpec.ofChange fnNamedWriteThroughSetsExactlyThatFieldSpec)

/-- ITS FALSE NEIGHBOUR: 'it returns false'. Refute it at one input. -/
def fnNamedWriteThroughSetsExactlyThatFieldWrong : ChangeSpec := { name := "fnNamedWriteThroughSetsExactlyThatField", fn := fun _ => fun
  | [d1, d2, d3, d4, d5, d6, d7, d8, d9, d10] => { results := [.lit (.bool false)], args := [d1, d2, d3, d4, d5, d6, d7, d8, d9, d10] }
  | _ => none }
def FnNamedWriteThroughSetsExactlyThatFieldWrongFalsely : Prop := fnNamedWriteThroughSetsExactlyThatFieldRow.holds Trym.pinned (OpenSpec.ofChange fnNamedWriteThroughSetsExactlyThatFieldWrong)

/-- 'zzlaws_pkg_redisengine_b1.FnNamedStableAndDistinct': WHATEVER THE INPUT: true; the input reads as it did. -/
def fnNamedStableAndDistinctSpec : ChangeSpec := { name := "fnNamedStableAndDistinct", fn := fun _ => fun
  | [d1, d2, d3, d4, d5, d6, d7, d8, d9, d10] => { results := [.lit (.bool true)], args := [d1, d2, d3, d4, d5, d6, d7, d8, d9, d10] }
  | _ => none }
def fnNamedStableAndDistinctRow : OpenClaim := { program := "qxb6600439amods", sum := "ef8a787491c4ef597050cf139babc6af5e976b726104df45ecda6b6533dd4cab", func := "example.com/brisk-queue/brisk-queue/zzlaws_pkg_redisengine_b1.FnNamedStableAndDistinct", spec := "fnNamedStableAndDistinct", make := .lifted ["publicsums"], apart := false }
def FnNamedStableAndDistinctSaid : Prop := fnNamedStableAndDistinctRow.holds Trym.pinned (OpenSpec.ofChange fnNamedStableAndDistinctSpec)

/-- ITS FALSE NEIGHBOUR: 'it returns false'. Refute it at one input. -/
def fnNamedStableAndDistinctWrong : ChangeSpec := { name := "fnNamedStableAndDistinct", fn := fun _ => fun
  | [d1, d2, d3, d4, d5, d6, d7, d8, d9, d10] => { results := [.lit (.bool false)], args := [d1, d2, d3, d4, d5, d6, d7, d8, d9, d10] }
  | _ => none }
def FnNamedStableAndDistinctWrongFalsely : Prop := fnNamedStableAndDistinctRow.holds Trym.pinned (OpenSpec.ofChange fnNamedStableAndDistinctWrong)

end Rows
end Go.Proofs.Qxb6600439aMods
