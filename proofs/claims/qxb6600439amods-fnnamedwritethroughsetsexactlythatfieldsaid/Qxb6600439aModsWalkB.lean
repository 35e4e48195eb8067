import Derived.Test.Qxb6600439aModsWalkA
import Derived.StillTailTactics
import Derived.Deep.CutRange
import Derived.Deep.CutBlock
namespace Go.Proofs.Qxb6600439aMods
open Go.RowKit

theorem mixed : Trym.prog.follows .mixedOrders = true := by kernel_rfl

/-- What named lays: eight names, each with a pointer to its field of the block k. -/
def namedCells (k : Nat) : Array Value := #[.string ⟨#[100, 101, 108, 97, 121, 101, 100]⟩, .pointer (some ⟨k, 0, none⟩), .string ⟨#[100, 101, 108, 97, 121, 101, 100, 67, 111, 117, 110, 116]⟩, .pointer (some ⟨k, 1, none⟩), .string ⟨#[114, 101, 97, 100, 121]⟩, .pointer (some ⟨k, 2, none⟩), .string ⟨#[114, 101, 97, 100, 121, 67, 111, 117, 110, 116]⟩, .pointer (some ⟨k, 3, none⟩), .string ⟨#[108, 97, 116, 101, 115, 116, 69, 120, 112, 105, 114, 121]⟩, .pointer (some ⟨k, 4, none⟩), .string ⟨#[117, 110, 111, 114, 100, 101, 114, 101, 100]⟩, .pointer (some ⟨k, 5, none⟩), .string ⟨#[114, 101, 115, 101, 114, 118, 101, 100]⟩, .pointer (some ⟨k, 6, none⟩), .string ⟨#[100, 101, 97, 100]⟩, .pointer (some ⟨k, 7, none⟩)]

/-- Ten strings as cells. -/
def ten (a b c d e f g h i j : ByteArray) : Array Value := #[.string a, .string b, .string c, .string d, .string e, .string f, .string g, .string h, .string i, .string j]

set_option maxRecDepth 100000 in
set_option maxHeartbeats 2000000 in
theorem named_any (k : Nat) (w : World) :
    Calls Trym.prog 15 #[.pointer (some ⟨k, 0, none⟩)] w fun x w' => x = .returned (.slice (some ⟨w.heap.size, 0, none⟩) 8 8) ∧ w'.heap[w.heap.size]? = some (.cells (namedCells k) 33 (0, 0)) ∧ Below w.heap.size w w' := by
  go_enter Trym.func15, Trym.ntmps15
  go_upto_region 1 with fail
  go_still_tail 32, mixed
  go_wp2_with fail
  go_ret
  exact ⟨rfl, heap_alloc_new w _, ((Below.refl _ _).alloc (Nat.le_refl _) _).drew⟩

theorem zzNamed_any (k : Nat) (w : World) :
    Calls Trym.prog 9 #[.pointer (some ⟨k, 0, none⟩)] w fun x w' => x = .returned (.slice (some ⟨w.heap.size, 0, none⟩) 8 8) ∧ w'.heap[w.heap.size]? = some (.cells (namedCells k) 33 (0, 0)) ∧ Below w.heap.size w w' := by
  go_enter Trym.func9, Trym.ntmps9
  go_wp2_with fail
  refine (named_any k _).mono ?_
  rintro x w1 ⟨rfl, h1, h2⟩
  go_wp2_with fail
  go_ret
  exact ⟨rfl, h1, h2⟩

theorem ten_cells {w : World} {k t : Nat} (a b c d e f g h i j : ByteArray) (hk : w.heap[k]? = some (.cells (ten a b c d e f g h i j) t (0, 0))) :
    w.cell? ⟨k, 0, none⟩ = some (.string a) ∧ w.cell? ⟨k, 1, none⟩ = some (.string b) ∧ w.cell? ⟨k, 2, none⟩ = some (.string c) ∧ w.cell? ⟨k, 3, none⟩ = some (.string d) ∧ w.cell? ⟨k, 4, none⟩ = some (.string e) ∧ w.cell? ⟨k, 5, none⟩ = some (.string f) ∧ w.cell? ⟨k, 6, none⟩ = some (.string g) ∧ w.cell? ⟨k, 7, none⟩ = some (.string h) ∧ w.cell? ⟨k, 8, none⟩ = some (.string i) ∧ w.cell? ⟨k, 9, none⟩ = some (.string j) := by
  refine ⟨?_, ?_, ?_, ?_, ?_, ?_, ?_, ?_, ?_, ?_⟩ <;> (rw [cell_of_row w _ _ _ _ _ hk]; rfl)

/-- wp_region_still_tail with the world under a name. -/
theorem still_tail {P : Program} {id : Nat} {Q : Exit → Act → World → Prop} {a : Act} {w : World} {l : List Oper} (n : Nat) (hm : P.follows .mixedOrders = true) (hB : Region.lexTailB .any l.toArray n = true)
    (h : ∀ W, Hid (W = w.drew) → wpStill P l.toArray W (fun a' => wpList P l.toArray Q (l.drop n) a' W) (l.take n) a) : (Code.region id l.toArray true).wp P Q a w :=
  wp_region_still_tail n hm hB (h _ rfl)

set_option maxRecDepth 100000 in
set_option maxHeartbeats 2000000 in
theorem keysOf_any (k : Nat) (a b c d e f g h i j : ByteArray) (w : World) (hk : w.heap[k]? = some (.cells (ten a b c d e f g h i j) 39 (0, 0))) :
    Calls Trym.prog 13 #[.pointer (some ⟨k, 0, none⟩)] w fun x w' => x = .returned (.agg (ten a b c d e f g h i j)) ∧ Below w.heap.size w w' := by
  obtain ⟨x0, x1, x2, x3, x4, x5, x6, x7, x8, x9⟩ := ten_cells a b c d e f g h i j hk
  have hlt : k < w.heap.size := (Array.getElem?_eq_some_iff.1 hk).1
  clear hk
  go_enter Trym.func13, Trym.ntmps13
  go_upto_region 1 with fail
  refine still_tail 40 mixed (by kernel_rfl) ?_
  intro W HW
  have hy : ∀ a : Addr, a.block < w.heap.size → W.cell? a = w.cell? a := fun a ha => by
    rw [HW.out]
    exact (((Below.refl w.heap.size w).alloc (Nat.le_refl _) _).drew).cell ha
  have y0 : W.cell? ⟨k, 0, none⟩ = some (.string a) := (hy _ hlt).trans x0
  have y1 : W.cell? ⟨k, 1, none⟩ = some (.string b) := (hy _ hlt).trans x1
  have y2 : W.cell? ⟨k, 2, none⟩ = some (.string c) := (hy _ hlt).trans x2
  have y3 : W.cell? ⟨k, 3, none⟩ = some (.string d) := (hy _ hlt).trans x3
  have y4 : W.cell? ⟨k, 4, none⟩ = some (.string e) := (hy _ hlt).trans x4
  have y5 : W.cell? ⟨k, 5, none⟩ = some (.string f) := (hy _ hlt).trans x5
  have y6 : W.cell? ⟨k, 6, none⟩ = some (.string g) := (hy _ hlt).trans x6
  have y7 : W.cell? ⟨k, 7, none⟩ = some (.string h) := (hy _ hlt).trans x7
  have y8 : W.cell? ⟨k, 8, none⟩ = some (.string i) := (hy _ hlt).trans x8
  have y9 : W.cell? ⟨k, 9, none⟩ = some (.string j) := (hy _ hlt).trans x9
  clear hy
  simp only [List.take_succ_cons, List.take_zero, List.drop_succ_cons, List.drop_zero]
  repeat still_step
  refine wpStill_nil ?_
  clear y0 y1 y2 y3 y4 y5 y6 y7 y8 y9
  have hW := HW.out
  clear HW
  subst hW
  go_wp2_with fail
  exact bodyPost_ret (v := .agg #[.string a, .string b, .string c, .string d, .string e, .string f, .string g, .string h, .string i, .string j]) (by simp [results, Trym.results13, go_sem]) rfl ⟨rfl, ((Below.refl _ _).alloc (Nat.le_refl _) _).drew⟩
end Go.Proofs.Qxb6600439aMods
