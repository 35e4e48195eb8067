import Derived.Test.Qxb6600439aModsWalkB
namespace Go.Proofs.Qxb6600439aMods
open Go.RowKit

set_option maxRecDepth 100000 in
set_option maxHeartbeats 1000000 in
theorem build_any (a b c d e f g h i j : ByteArray) (w : World) :
    Calls Trym.prog 7 #[.string a, .string b, .string c, .string d, .string e, .string f, .string g, .string h, .string i, .string j] w fun x w' => x = .returned (.agg (ten a b c d e f g h i j)) ∧ Below w.heap.size w w' := by
  go_enter Trym.func7, Trym.ntmps7
  go_wp2_with fail
  exact bodyPost_ret (v := .agg #[.string a, .string b, .string c, .string d, .string e, .string f, .string g, .string h, .string i, .string j]) (by simp [results, Trym.results7, go_sem]) rfl ⟨rfl, (Below.refl _ _).alloc (Nat.le_refl _) _⟩

theorem heap_alloc_two (w : World) (o p : Obj) : ((w.alloc o).alloc p).heap[w.heap.size + 1]? = some p := by
  have := heap_alloc_new (w.alloc o) p
  simpa using this

set_option maxRecDepth 100000 in
set_option maxHeartbeats 1000000 in
theorem newKeys_any (a b c d e f g h i j : ByteArray) (w : World) :
    Calls Trym.prog 8 #[.agg (ten a b c d e f g h i j)] w fun x w' => x = .returned (.pointer (some ⟨w.heap.size + 1, 0, none⟩)) ∧ w'.heap[w.heap.size + 1]? = some (.cells (ten a b c d e f g h i j) 39 (0, 0)) ∧ Below w.heap.size w w' := by
  unfold ten
  go_enter Trym.func8, Trym.ntmps8
  go_wp2_with fail
  go_ret
  exact ⟨rfl, heap_alloc_two w _ _, ((Below.refl _ _).alloc (Nat.le_refl _) _).alloc (by simp) _⟩

set_option maxRecDepth 100000 in
set_option maxHeartbeats 1000000 in
theorem set0 (a b c d e f g h i j : ByteArray) (v : ByteArray) (w : World) :
    Calls Trym.prog 12 #[.agg (ten a b c d e f g h i j), .string ⟨#[100, 101, 108, 97, 121, 101, 100]⟩, .string v] w fun x w' => x = .returned (.tuple #[.agg (ten v b c d e f g h i j), .bool true]) ∧ Below w.heap.size w w' := by
  unfold ten
  go_enter Trym.func12, Trym.ntmps12
  go_wp2_with fail
  exact bodyPost_ret (v := .tuple #[.agg #[.string v, .string b, .string c, .string d, .string e, .string f, .string g, .string h, .string i, .string j], .bool true]) (by simp [results, Trym.results12, go_sem]) rfl ⟨rfl, ((Below.refl _ _).alloc (Nat.le_refl _) _).alloc (by simp) _⟩

set_option maxRecDepth 100000 in
set_option maxHeartbeats 1000000 in
theorem set1 (a b c d e f g h i j : ByteArray) (v : ByteArray) (w : World) :
    Calls Trym.prog 12 #[.agg (ten a b c d e f g h i j), .string ⟨#[100, 101, 108, 97, 121, 101, 100, 67, 111, 117, 110, 116]⟩, .string v] w fun x w' => x = .returned (.tuple #[.agg (ten a v c d e f g h i j), .bool true]) ∧ Below w.heap.size w w' := by
  unfold ten
  go_enter Trym.func12, Trym.ntmps12
  go_wp2_with fail
  exact bodyPost_ret (v := .tuple #[.agg #[.string a, .string v, .string c, .string d, .string e, .string f, .string g, .string h, .string i, .string j], .bool true]) (by simp [results, Trym.results12, go_sem]) rfl ⟨rfl, ((Below.refl _ _).alloc (Nat.le_refl _) _).alloc (by simp) _⟩

set_option maxRecDepth 100000 in
set_option maxHeartbeats 1000000 in
theorem set2 (a b c d e f g h i j : ByteArray) (v : ByteArray) (w : World) :
    Calls Trym.prog 12 #[.agg (ten a b c d e f g h i j), .string ⟨#[114, 101, 97, 100, 121]⟩, .string v] w fun x w' => x = .returned (.tuple #[.agg (ten a b v d e f g h i j), .bool true]) ∧ Below w.heap.size w w' := by
  unfold ten
  go_enter Trym.func12, Trym.ntmps12
  go_wp2_with fail
  exact bodyPost_ret (v := .tuple #[.agg #[.string a, .string b, .string v, .string d, .string e, .string f, .string g, .string h, .string i, .string j], .bool true]) (by simp [results, Trym.results12, go_sem]) rfl ⟨rfl, ((Below.refl _ _).alloc (Nat.le_refl _) _).alloc (by simp) _⟩

set_option maxRecDepth 100000 in
set_option maxHeartbeats 1000000 in
theorem set3 (a b c d e f g h i j : ByteArray) (v : ByteArray) (w : World) :
    Calls Trym.prog 12 #[.agg (ten a b c d e f g h i j), .string ⟨#[114, 101, 97, 100, 121, 67, 111, 117, 110, 116]⟩, .string v] w fun x w' => x = .returned (.tuple #[.agg (ten a b c v e f g h i j), .bool true]) ∧ Below w.heap.size w w' := by
  unfold ten
  go_enter Trym.func12, Trym.ntmps12
  go_wp2_with fail
  exact bodyPost_ret (v := .tuple #[.agg #[.string a, .string b, .string c, .string v, .string e, .string f, .string g, .string h, .string i, .string j], .bool true]) (by simp [results, Trym.results12, go_sem]) rfl ⟨rfl, ((Below.refl _ _).alloc (Nat.le_refl _) _).alloc (by simp) _⟩

set_option maxRecDepth 100000 in
set_option maxHeartbeats 1000000 in
theorem set4 (a b c d e f g h i j : ByteArray) (v : ByteArray) (w : World) :
    Calls Trym.prog 12 #[.agg (ten a b c d e f g h i j), .string ⟨#[108, 97, 116, 101, 115, 116, 69, 120, 112, 105, 114, 121]⟩, .string v] w fun x w' => x = .returned (.tuple #[.agg (ten a b c d v f g h i j), .bool true]) ∧ Below w.heap.size w w' := by
  unfold ten
  go_enter Trym.func12, Trym.ntmps12
  go_wp2_with fail
  exact bodyPost_ret (v := .tuple #[.agg #[.string a, .string b, .string c, .string d, .string v, .string f, .string g, .string h, .string i, .string j], .bool true]) (by simp [results, Trym.results12, go_sem]) rfl ⟨rfl, ((Below.refl _ _).alloc (Nat.le_refl _) _).alloc (by simp) _⟩

set_option maxRecDepth 100000 in
set_option maxHeartbeats 1000000 in
theorem set5 (a b c d e f g h i j : ByteArray) (v : ByteArray) (w : World) :
    Calls Trym.prog 12 #[.agg (ten a b c d e f g h i j), .string ⟨#[117, 110, 111, 114, 100, 101, 114, 101, 100]⟩, .string v] w fun x w' => x = .returned (.tuple #[.agg (ten a b c d e v g h i j), .bool true]) ∧ Below w.heap.size w w' := by
  unfold ten
  go_enter Trym.func12, Trym.ntmps12
  go_wp2_with fail
  exact bodyPost_ret (v := .tuple #[.agg #[.string a, .string b, .string c, .string d, .string e, .string v, .string g, .string h, .string i, .string j], .bool true]) (by simp [results, Trym.results12, go_sem]) rfl ⟨rfl, ((Below.refl _ _).alloc (Nat.le_refl _) _).alloc (by simp) _⟩

set_option maxRecDepth 100000 in
set_option maxHeartbeats 1000000 in
theorem set6 (a b c d e f g h i j : ByteArray) (v : ByteArray) (w : World) :
    Calls Trym.prog 12 #[.agg (ten a b c d e f g h i j), .string ⟨#[114, 101, 115, 101, 114, 118, 101, 100]⟩, .string v] w fun x w' => x = .returned (.tuple #[.agg (ten a b c d e f v h i j), .bool true]) ∧ Below w.heap.size w w' := by
  unfold ten
  go_enter Trym.func12, Trym.ntmps12
  go_wp2_with fail
  exact bodyPost_ret (v := .tuple #[.agg #[.string a, .string b, .string c, .string d, .string e, .string f, .string v, .string h, .string i, .string j], .bool true]) (by simp [results, Trym.results12, go_sem]) rfl ⟨rfl, ((Below.refl _ _).alloc (Nat.le_refl _) _).alloc (by simp) _⟩

set_option maxRecDepth 100000 in
set_option maxHeartbeats 1000000 in
theorem set7 (a b c d e f g h i j : ByteArray) (v : ByteArray) (w : World) :
    Calls Trym.prog 12 #[.agg (ten a b c d e f g h i j), .string ⟨#[100, 101, 97, 100]⟩, .string v] w fun x w' => x = .returned (.tuple #[.agg (ten a b c d e f g v i j), .bool true]) ∧ Below w.heap.size w w' := by
  unfold ten
  go_enter Trym.func12, Trym.ntmps12
  go_wp2_with fail
  exact bodyPost_ret (v := .tuple #[.agg #[.string a, .string b, .string c, .string d, .string e, .string f, .string g, .string v, .string i, .string j], .bool true]) (by simp [results, Trym.results12, go_sem]) rfl ⟨rfl, ((Below.refl _ _).alloc (Nat.le_refl _) _).alloc (by simp) _⟩

end Go.Proofs.Qxb6600439aMods
