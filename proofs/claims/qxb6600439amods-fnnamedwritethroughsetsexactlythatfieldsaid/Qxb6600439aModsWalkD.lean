import Derived.Test.Qxb6600439aModsWalkC
import Derived.Laws.StructEq
namespace Go.Proofs.Qxb6600439aMods
open Go.RowKit

set_option maxRecDepth 100000 in
set_option maxHeartbeats 1000000 in
theorem neq24 (a b c d e f g h i j : ByteArray) (w : World) : (binOp .neq 24 (.agg #[.string a, .string b, .string c, .string d, .string e, .string f, .string g, .string h, .string i, .string j]) (.agg #[.string a, .string b, .string c, .string d, .string e, .string f, .string g, .string h, .string i, .string j])).run Trym.prog w = .ok (.bool false) w := by
  have u9 := Trym.underlying9
  have a9 := Trym.isAgg9
  have z9 := Trym.sizeOf9
  have hS : Trym.prog.underlying 24 = some (.struct (Trym.prog.fieldsOf 24)) := by kernel_rfl
  have hp : Trym.prog.stoodInHeld 24 = false := by kernel_rfl
  rw [run_neq_struct, show (10000 : Nat) = 9999 + 1 from rfl, run_equalIn_agg w 9999 24 _ _ hS hp]
  simp only [Program.fieldsOf, Trym.underlying24]
  go_simp
end Go.Proofs.Qxb6600439aMods
