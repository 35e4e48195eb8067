/-
  No cell of these rows narrows 'for every input' (looked for: loops, veiled, ifaces, maps, wideKeys, modest, calm, conditions, laid).
  DERIVED. THE GIVEN ROWS OF THIS SEAT. 1 by the template 'for every input the law returns true; each argument reads behind the call as it read before'; 0 by the template 'total and deterministic' (their statements: Qxb6600427aModsTotals.lean).
  GIVEN WITH THE SEED: the statements are not yours to turn. If you find one false, say at which input.
  Laid BY PROGRAM, IN A SANDBOX (cutbox-rows.mjs): the forced cells as the released guide's own fill.sh prints them over the translation d725d3f6745312c0… (all of the seat's roots in one cut). By AI agents, Wed Nov 11 2026. No macro, syntax, notation, axiom, sorry.
-/
import Derived.Test.Qxb6600427aModsChecked
import GoSem.Claim
import GoSem.ClaimJoined
import GoSem.ClaimMapViews
import Derived.JoinedTies
import Derived.KernelRfl
namespace Go.Proofs.Qxb6600427aMods
/- THE CELL 'sum', in the pinned program and in every row, IS THE sha256 OF THE DUMP (.gsa) THAT Qxb6600427aModsProg.lean LOADS. Nothing in Lean hashes anything: it is a label: what it is worth is what the hold of that sum in a sandbox is worth. -/
noncomputable def Trym.pinned : Pinned := { name := "qxb6600427amods", sum := "d725d3f6745312c0a64f469a3bcd25b985649a5bd062fecd882bf36ec86c774d", checked := Trym.checked }
namespace Rows
def none {H : Type} : Left H := { results := [], args := [] }

/-- 'zzlaws_evmasm_b1.FnUnquoteInvertsQuoting': WHATEVER THE INPUT: true; the input reads as it did. -/
def fnUnquoteInvertsQuotingSpec : ChangeSpec := { name := "fnUnquoteInvertsQuoting", fn := fun _ => fun
  | [d] => { results := [.lit (.bool true)], args := [d] }
  | _ => none }
def fnUnquoteInvertsQuotingRow : OpenClaim := { program := "qxb6600427amods", sum := "d725d3f6745312c0a64f469a3bcd25b985649a5bd062fecd882bf36ec86c774d", func := "example.com/soukmesh/soukmesh/zzlaws_evmasm_b1.FnUnquoteInvertsQuoting", spec := "fnUnquoteInvertsQuoting", make := .lifted ["publicsums"], apart := false }
def FnUnquoteInvertsQuotingSaid : Prop := fnUnquoteInvertsQuotingRow.holds Trym.pinned (OpenSpec.ofChange fnUnquoteInvertsQuotingSpec)

/-- ITS FALSE NEIGHBOUR: 'it returns false'. Refute it at one input. -/
def fnUnquoteInvertsQuotingWrong : ChangeSpec := { name := "fnUnquoteInvertsQuoting", fn := fun _ => fun
  | [d] => { results := [.lit (.bool false)], args := [d] }
  | _ => none }
def FnUnquoteInvertsQuotingWrongFalsely : Prop := fnUnquoteInvertsQuotingRow.holds Trym.pinned (OpenSpec.ofChange fnUnquoteInvertsQuotingWrong)

end Rows
end Go.Proofs.Qxb6600427aMods
