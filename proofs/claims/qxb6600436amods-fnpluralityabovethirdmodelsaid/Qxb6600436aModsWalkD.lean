import Derived.Test.Qxb6600436aModsWalkC
import Derived.Deep.CutRange
namespace Go.Proofs.Qxb6600436aMods
open Go.RowKit

/-- What pluralityAboveThird reads of its messages. -/
def MsgRow (w : World) (ao : Option Addr) (n : Nat) (zs : List ByteArray) : Prop :=
  zs.length = n ∧ ∀ j, j < n → ∃ g m q, ao = some ⟨g, 0, none⟩ ∧ w.cell? ⟨g, j, none⟩ = some (.pointer (some ⟨m, 0, none⟩)) ∧ w.cell? ⟨m, 3, none⟩ = some (.slice (some ⟨q, 0, none⟩) 2 2) ∧ w.cell? ⟨q, 1, none⟩ = some (.string (zs.getD j ByteArray.empty))

theorem MsgRow.below {w w' : World} {ao : Option Addr} {n : Nat} {zs : List ByteArray} (h : MsgRow w ao n zs) (hb : Below w.heap.size w w') : MsgRow w' ao n zs := by
  refine ⟨h.1, fun j hj => ?_⟩
  obtain ⟨g, m, q, h1, h2, h3, h4⟩ := h.2 j hj
  exact ⟨g, m, q, h1, by rw [hb.cell (block_lt_of_cell h2)]; exact h2, by rw [hb.cell (block_lt_of_cell h3)]; exact h3, by rw [hb.cell (block_lt_of_cell h4)]; exact h4⟩

theorem MsgsOwn.row {w : World} {B cap : Nat} {ao : Option Addr} {zs : List ByteArray} (h : MsgsOwn w B (.slice ao zs.length cap) zs) : MsgRow w ao zs.length zs := by
  obtain ⟨xs, ho, hm⟩ := h
  refine ⟨rfl, fun j hj => ?_⟩
  obtain ⟨x, hx, m, q, cs, rfl, h1, h2, h3⟩ := hm j hj
  rcases ho.2 with ⟨h', h0⟩ | ⟨g, cap', cur, h', _, hg, _⟩
  · omega
  · injection h' with h4 h5 h6
    subst h4
    refine ⟨g, m, q, rfl, ?_, ?_, ?_⟩
    · rw [ho.cellAt j (by omega)]; exact hx
    · rw [cell_of_row w m 3 cs 40 _ h1]; exact h2
    · rw [cell_of_row w q 1 _ 9 _ h3]; rfl

/-- What it returns. -/
def RetG (zs : List ByteArray) (e : Nat) (x : Ending) : Prop := ∃ (v : ByteArray) (c : Nat), x = .returned (.tuple #[.string v, .int .i64 c]) ∧ Plain.Good zs e v c

/-- The three arrays of pluralityAboveThird: values, counts, since. -/
structure St (w : World) (B : Nat) (v0 v1 : ByteArray) (c0 c1 s0 s1 : Nat) : Prop where
  b0 : w.heap[B]? = some (.cells #[.string v0, .string v1] 41 (0, 0))
  b1 : w.heap[B + 1]? = some (.cells #[.int .i64 (c0 : Int), .int .i64 (c1 : Int)] 42 (0, 0))
  b2 : w.heap[B + 1 + 1]? = some (.cells #[.int .i64 (s0 : Int), .int .i64 (s1 : Int)] 42 (0, 0))
  z0 : v0.size ≤ 9223372036854775807
  z1 : v1.size ≤ 9223372036854775807

section
variable {w : World} {B : Nat} {v0 v1 : ByteArray} {c0 c1 s0 s1 : Nat}

theorem St.drewN (h : St w B v0 v1 c0 c1 s0 s1) (n : Nat) : St (w.drewN n) B v0 v1 c0 c1 s0 s1 := ⟨h.b0, h.b1, h.b2, h.z0, h.z1⟩

theorem St.cells (h : St w B v0 v1 c0 c1 s0 s1) : w.cell? ⟨B, 0, none⟩ = some (.string v0) ∧ w.cell? ⟨B, 1, none⟩ = some (.string v1) ∧ w.cell? ⟨B + 1, 0, none⟩ = some (.int .i64 (c0 : Int)) ∧ w.cell? ⟨B + 1, 1, none⟩ = some (.int .i64 (c1 : Int)) ∧
    w.cell? ⟨B + 1 + 1, 0, none⟩ = some (.int .i64 (s0 : Int)) ∧ w.cell? ⟨B + 1 + 1, 1, none⟩ = some (.int .i64 (s1 : Int)) :=
  ⟨by rw [cell_of_row w _ _ _ _ _ h.b0]; rfl, by rw [cell_of_row w _ _ _ _ _ h.b0]; rfl, by rw [cell_of_row w _ _ _ _ _ h.b1]; rfl, by rw [cell_of_row w _ _ _ _ _ h.b1]; rfl, by rw [cell_of_row w _ _ _ _ _ h.b2]; rfl, by rw [cell_of_row w _ _ _ _ _ h.b2]; rfl⟩

theorem St.free (h : St w B v0 v1 c0 c1 s0 s1) : (∀ j, w.frozen? ⟨B, j, none⟩ = false) ∧ (∀ j, w.frozen? ⟨B + 1, j, none⟩ = false) ∧ (∀ j, w.frozen? ⟨B + 1 + 1, j, none⟩ = false) :=
  ⟨fun j => frozen_of_row w _ j _ _ h.b0, fun j => frozen_of_row w _ j _ _ h.b1, fun j => frozen_of_row w _ j _ _ h.b2⟩

theorem St.setV0 (h : St w B v0 v1 c0 c1 s0 s1) {x : ByteArray} (hx : x.size ≤ 9223372036854775807) : St (w.setCell ⟨B, 0, none⟩ (.string x)) B x v1 c0 c1 s0 s1 :=
  ⟨by rw [heap_setCell_same w _ _ _ _ _ h.b0]; rfl, by rw [Below.heap_setCell _ _ _ _ (by simp)]; exact h.b1, by rw [Below.heap_setCell _ _ _ _ (by simp; omega)]; exact h.b2, hx, h.z1⟩
theorem St.setV1 (h : St w B v0 v1 c0 c1 s0 s1) {x : ByteArray} (hx : x.size ≤ 9223372036854775807) : St (w.setCell ⟨B, 1, none⟩ (.string x)) B v0 x c0 c1 s0 s1 :=
  ⟨by rw [heap_setCell_same w _ _ _ _ _ h.b0]; rfl, by rw [Below.heap_setCell _ _ _ _ (by simp)]; exact h.b1, by rw [Below.heap_setCell _ _ _ _ (by simp; omega)]; exact h.b2, h.z0, hx⟩
theorem St.setC0 (h : St w B v0 v1 c0 c1 s0 s1) {x : Int} {c : Nat} (hx : x = (c : Int)) : St (w.setCell ⟨B + 1, 0, none⟩ (.int .i64 x)) B v0 v1 c c1 s0 s1 := by
  subst hx
  exact ⟨by rw [Below.heap_setCell _ _ _ _ (by simp)]; exact h.b0, by rw [heap_setCell_same w _ _ _ _ _ h.b1]; rfl, by rw [Below.heap_setCell _ _ _ _ (by simp)]; exact h.b2, h.z0, h.z1⟩
theorem St.setC1 (h : St w B v0 v1 c0 c1 s0 s1) {x : Int} {c : Nat} (hx : x = (c : Int)) : St (w.setCell ⟨B + 1, 1, none⟩ (.int .i64 x)) B v0 v1 c0 c s0 s1 := by
  subst hx
  exact ⟨by rw [Below.heap_setCell _ _ _ _ (by simp)]; exact h.b0, by rw [heap_setCell_same w _ _ _ _ _ h.b1]; rfl, by rw [Below.heap_setCell _ _ _ _ (by simp)]; exact h.b2, h.z0, h.z1⟩
theorem St.setS0 (h : St w B v0 v1 c0 c1 s0 s1) {x : Int} {c : Nat} (hx : x = (c : Int)) : St (w.setCell ⟨B + 1 + 1, 0, none⟩ (.int .i64 x)) B v0 v1 c0 c1 c s1 := by
  subst hx
  exact ⟨by rw [Below.heap_setCell _ _ _ _ (by simp; omega)]; exact h.b0, by rw [Below.heap_setCell _ _ _ _ (by simp)]; exact h.b1, by rw [heap_setCell_same w _ _ _ _ _ h.b2]; rfl, h.z0, h.z1⟩
theorem St.setS1 (h : St w B v0 v1 c0 c1 s0 s1) {x : Int} {c : Nat} (hx : x = (c : Int)) : St (w.setCell ⟨B + 1 + 1, 1, none⟩ (.int .i64 x)) B v0 v1 c0 c1 s0 c := by
  subst hx
  exact ⟨by rw [Below.heap_setCell _ _ _ _ (by simp; omega)]; exact h.b0, by rw [Below.heap_setCell _ _ _ _ (by simp)]; exact h.b1, by rw [heap_setCell_same w _ _ _ _ _ h.b2]; rfl, h.z0, h.z1⟩
end

theorem below_drewN' {B : Nat} {w wr : World} (h : Below B w wr) (n : Nat) : Below B w (wr.drewN n) := h.trans ⟨rfl, rfl, rfl, Nat.le_refl _, fun _ _ => rfl⟩
end Go.Proofs.Qxb6600436aMods
