import Derived.Test.Qxb6600111aModsWalkB
import Derived.OwnWalk
namespace Go.Proofs.Qxb6600111aMods
open Go.RowKit

/-- Block B is a row of n cells of the call's own, the first k of which hold the first k strings of zs. -/
def Fill (w : World) (B n k : Nat) (zs : List ByteArray) : Prop :=
  ∃ cur, w.heap[B]? = some (.cells cur 9 (0, 0)) ∧ cur.size = n ∧ ∀ j, j < k → cur[j]? = some (.string (zs.getD j ByteArray.empty))

theorem Fill.of_owns {w : World} {base B n : Nat} {xs : List Value} (h : w.ownsRow base 9 1 (.slice (some ⟨B, 0, none⟩) n n) n xs) (zs : List ByteArray) : Fill w B n 0 zs := by
  rcases h.2 with ⟨h', _⟩ | ⟨g', cap', cur, h', _, hg, _, _, hs, _⟩
  · simp at h'
  · simp only [Value.slice.injEq, Option.some.injEq, Addr.mk.injEq, and_true, true_and] at h'
    obtain ⟨rfl, rfl⟩ := h'
    exact ⟨cur, hg, by simpa using hs, fun j hj => absurd hj (Nat.not_lt_zero _)⟩

theorem Fill.at {w : World} {B n k : Nat} {zs : List ByteArray} (h : Fill w B n k zs) {j : Nat} (hj : j < n) : ∃ v, w.cell? ⟨B, j, none⟩ = some v := by
  obtain ⟨cur, hg, hs, _⟩ := h
  exact ⟨cur[j]'(by omega), by rw [cell_of_row w B j cur 9 _ hg]; simp [hs, hj]⟩

theorem Fill.free {w : World} {B n k : Nat} {zs : List ByteArray} (h : Fill w B n k zs) (j : Nat) : w.frozen? ⟨B, j, none⟩ = false := by
  obtain ⟨cur, hg, _, _⟩ := h
  exact frozen_of_row w B j cur 9 hg

theorem Fill.step {w : World} {B n k : Nat} {zs : List ByteArray} (h : Fill w B n k zs) (hk : k < n) {s : ByteArray} (hs : s = zs.getD k ByteArray.empty) :
    Fill (w.setCell ⟨B, k, none⟩ (.string s)) B n (k + 1) zs := by
  subst hs
  obtain ⟨cur, hg, hz, hc⟩ := h
  refine ⟨cur.setIfInBounds k _, heap_setCell_same w B k cur 9 _ hg, by simpa using hz, fun j hj => ?_⟩
  rw [Array.getElem?_setIfInBounds]
  by_cases e : k = j
  · subst e; simp [hz, hk]
  · rw [if_neg e]; exact hc j (by omega)

theorem Fill.row {w : World} {B n : Nat} {zs : List ByteArray} (h : Fill w B n n zs) (hl : zs.length = n) (hb : n ≤ 9223372036854775807) (hs : ∀ j, (zs.getD j ByteArray.empty).size ≤ 9223372036854775807) :
    IsRow w (some ⟨B, 0, none⟩) n zs := by
  obtain ⟨cur, hg, hz, hc⟩ := h
  refine ⟨hl, hb, hs, fun j hj => ⟨_, rfl, ?_⟩⟩
  rw [← hc j hj, ← cell_of_row w B j cur 9 _ hg]
  congr 1
  simp [Addr.add]
  intro e
  omega

theorem Trym.info9 : (Trym.prog.info? 9).map (fun i => (i.zero, i.size, i.bytes)) = some (some (.string ByteArray.empty), 1, 16) := by kernel_rfl

theorem copy_nil (w : World) : Calls Trym.prog 8 #[.slice none 0 0] w fun e w' => e = .returned (.slice none 0 0) ∧ w' = w := by
  have hq := fun (a : Option Addr) (n c n' c' : Nat) (wx : World) => Lib.run_eql_slice_nil (P := Trym.prog) wx 22 9 a n c n' c' Trym.underlying22
  go_enter Trym.func8, Trym.ntmps8
  go_wp2
  go_ret
  exact ⟨rfl, rfl⟩

set_option maxHeartbeats 400000 in
theorem copy_any (a : Addr) (len cap : Nat) (zs : List ByteArray) (w : World) (hr : IsRow w (some a) len zs) (hlen : len ≤ 65536) :
    Calls Trym.prog 8 #[.slice (some a) len cap] w fun e w' => e = .returned (.slice (some ⟨w.heap.size, 0, none⟩) len len) ∧ IsRow w' (some ⟨w.heap.size, 0, none⟩) len zs ∧ Below w.heap.size w w' := by
  have hq := fun (a : Option Addr) (n c n' c' : Nat) (wx : World) => Lib.run_eql_slice_nil (P := Trym.prog) wx 22 9 a n c n' c' Trym.underlying22
  obtain ⟨i0, hi, hz0, hz1, hz2⟩ := info_parts Trym.info9
  go_enter Trym.func8, Trym.ntmps8
  go_wp2_with (at_make; refine wpList_make_full _ rfl _ _ 22 rfl w.heap.size 9 i0 (.string ByteArray.empty) 1 Trym.underlying22 hi hz0 hz1 .i64 .i64 _ _ len rfl rfl rfl rfl (by rw [hz2]; omega) (by unfold maxLen; omega) (Nat.le_refl _) ?_)
  intro w1 hown hg
  have hf := Fill.of_owns hown zs
  have hb1 : Below w.heap.size w w1 := (Below.refl _ _).grown hg (Nat.le_refl _) (by simp)
  clear hown hg hq hi hz0 hz1 hz2
  go_wp2
  go_loopw [4] (fun i wr => ∃ k : Nat, k ≤ len ∧ i = .int .i64 k ∧ Fill wr w.heap.size len k zs ∧ Below w.heap.size w wr) (fun i _ => len - (intOf i).toNat)
  case atStart => exact ⟨0, Nat.zero_le _, rfl, hf, hb1⟩
  case round =>
    obtain ⟨k, hk, rfl, hfr, hbr⟩ := hrel
    by_cases hlt : k < len
    · obtain ⟨b, off, ha, hck⟩ := (hr.below hbr).at hlt
      obtain rfl := Option.some.inj ha
      obtain ⟨v, hv⟩ := hfr.at hlt
      have hfz := hfr.free k
      go_wp2
      go_roundw
      case rel => exact ⟨k + 1, by omega, by go_num, hfr.step hlt rfl, hbr.setCell (Nat.le_refl _) _⟩
      case measure => simp [intOf]; omega
    · go_wp2
      go_ret
      have : k = len := by omega
      subst this
      exact ⟨rfl, hfr.row hr.1 hr.2.1 hr.2.2.1, hbr⟩
end Go.Proofs.Qxb6600111aMods
