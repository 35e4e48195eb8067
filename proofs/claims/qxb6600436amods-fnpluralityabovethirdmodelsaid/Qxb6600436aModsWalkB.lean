import Derived.Test.Qxb6600436aModsWalkA
import Derived.Test.Qxb6600436aModsPlain
namespace Go.Proofs.Qxb6600436aMods
open Go.RowKit

/-- What a walk is told of a slice of strings: nil, or a row of 'len' cells that hold the strings 'zs'. -/
def IsRow (w : World) (ao : Option Addr) (len : Nat) (zs : List ByteArray) : Prop :=
  zs.length = len ∧ len ≤ 9223372036854775807 ∧ (∀ j, (zs.getD j ByteArray.empty).size ≤ 9223372036854775807) ∧
  ∀ j, j < len → ∃ a, ao = some a ∧ w.cell? (a.add j) = some (.string (zs.getD j ByteArray.empty))

theorem IsRow.at {w : World} {ao : Option Addr} {len : Nat} {zs : List ByteArray} (h : IsRow w ao len zs) {k : Nat} (hk : k < len) :
    ∃ b off, ao = some ⟨b, off, none⟩ ∧ w.cell? ⟨b, off + k, none⟩ = some (.string (zs.getD k ByteArray.empty)) := by
  obtain ⟨⟨b, off, spot⟩, rfl, h0⟩ := h.2.2.2 0 (by omega)
  have hspot : spot = none := by simpa [Addr.add] using World.cell?_spot h0
  subst hspot
  obtain ⟨a, ha, hc⟩ := h.2.2.2 k hk
  obtain rfl := Option.some.inj ha
  refine ⟨b, off, rfl, ?_⟩
  rw [← hc]
  by_cases e : k = 0
  · subst e; simp [Addr.add]
  · simp [Addr.add, e]

/-- Memory that was there is still there. -/
theorem IsRow.below {w w' : World} {ao : Option Addr} {len : Nat} {zs : List ByteArray} (h : IsRow w ao len zs) (hb : Below w.heap.size w w') : IsRow w' ao len zs := by
  refine ⟨h.1, h.2.1, h.2.2.1, fun j hj => ?_⟩
  obtain ⟨a, rfl, hc⟩ := h.2.2.2 j hj
  refine ⟨a, rfl, ?_⟩
  rw [← hc]
  exact hb.cell (block_lt_of_cell hc)

def RetB (e : Ending) : Prop := ∃ b, e = .returned (.bool b)
def RetN (e : Ending) : Prop := ∃ t : Nat, t ≤ 1048577 ∧ e = .returned (.int .i64 t)

set_option maxHeartbeats 400000 in
theorem bytes_any (ao : Option Addr) (len cap : Nat) (zs : List ByteArray) (n : Int) (w : World) (hr : IsRow w ao len zs) :
    Calls Trym.prog 7 #[.slice ao len cap, .int .i64 n] w fun e w' => RetB e ∧ w' = w := by
  have hb := hr.2.1
  go_enter Trym.func7, Trym.ntmps7
  go_wp2
  · go_ret
    exact ⟨⟨_, rfl⟩, rfl⟩
  go_loop [5, 6] (fun n i => ∃ k t : Nat, k ≤ len ∧ t ≤ 1048576 ∧ i = .int .i64 k ∧ n = .int .i64 t) (fun _ i => len - (intOf i).toNat)
  case atStart => exact ⟨0, len, Nat.zero_le _, by omega, rfl, rfl⟩
  case round =>
    obtain ⟨k, t, hk, ht, rfl, rfl⟩ := hrel
    by_cases hlt : k < len
    · obtain ⟨b, off, rfl, hck⟩ := hr.at hlt
      have hsk := hr.2.2.1 k
      go_wp2
      · go_ret
        exact ⟨⟨_, rfl⟩, rfl⟩
      · go_ret
        exact ⟨⟨_, rfl⟩, rfl⟩
      · go_round
        case rel => exact ⟨k + 1, t + (zs.getD k ByteArray.empty).size, by omega, by simp only [List.getD] at *; omega, by go_num, by simp only [List.getD]; go_num⟩
        case measure => simp [intOf]; omega
    · go_wp2
      go_ret
      exact ⟨⟨_, rfl⟩, rfl⟩

set_option maxHeartbeats 400000 in
theorem stringBytes_any (ao : Option Addr) (len cap : Nat) (zs : List ByteArray) (w : World) (hr : IsRow w ao len zs) :
    Calls Trym.prog 8 #[.slice ao len cap, .int .i64 1048576] w fun e w' => RetN e ∧ w' = w := by
  have hb := hr.2.1
  go_enter Trym.func8, Trym.ntmps8
  go_wp2
  go_loop [5, 6] (fun n i => ∃ k t : Nat, k ≤ len ∧ t ≤ 1048576 ∧ i = .int .i64 k ∧ n = .int .i64 t) (fun _ i => len - (intOf i).toNat)
  case atStart => exact ⟨0, 0, Nat.zero_le _, by omega, rfl, rfl⟩
  case round =>
    obtain ⟨k, t, hk, ht, rfl, rfl⟩ := hrel
    by_cases hlt : k < len
    · obtain ⟨b, off, rfl, hck⟩ := hr.at hlt
      have hsk := hr.2.2.1 k
      go_wp2
      · go_ret
        exact ⟨⟨1048577, by omega, rfl⟩, rfl⟩
      · go_ret
        exact ⟨⟨1048577, by omega, rfl⟩, rfl⟩
      · go_round
        case rel => exact ⟨k + 1, t + (16 + (zs.getD k ByteArray.empty).size), by omega, by simp only [List.getD] at *; omega, by go_num, by simp only [List.getD]; go_num⟩
        case measure => simp [intOf]; omega
    · go_wp2
      go_ret
      exact ⟨⟨t, by omega, rfl⟩, rfl⟩

theorem take_snoc {zs : List ByteArray} {k : Nat} (h : k < zs.length) : zs.take (k + 1) = zs.take k ++ [zs.getD k ByteArray.empty] := by
  rw [List.take_succ_eq_append_getElem h]
  simp [List.getD, h]

theorem cnt_take_succ {zs : List ByteArray} {k len : Nat} (x : ByteArray) (hl : zs.length = len) (h : k < len) : Plain.cnt (zs.take (k + 1)) x = Plain.cnt (zs.take k) x + if zs.getD k ByteArray.empty = x then 1 else 0 := by
  rw [take_snoc (by omega), Plain.cnt_snoc]

set_option maxHeartbeats 400000 in
theorem count_any (ao : Option Addr) (len cap : Nat) (zs : List ByteArray) (x : ByteArray) (w : World) (hr : IsRow w ao len zs) :
    Calls Trym.prog 11 #[.slice ao len cap, .string x] w fun e w' => e = .returned (.int .i64 (Plain.cnt zs x)) ∧ w' = w := by
  have hb := hr.2.1
  have HL : Hid (zs.length = len) := hr.1
  go_enter Trym.func11, Trym.ntmps11
  go_wp2
  go_loop [5, 6] (fun n i => ∃ k t : Nat, k ≤ len ∧ t ≤ k ∧ i = .int .i64 k ∧ n = .int .i64 t ∧ Hid (t = Plain.cnt (zs.take k) x)) (fun _ i => len - (intOf i).toNat)
  case atStart => exact ⟨0, 0, Nat.zero_le _, Nat.le_refl _, rfl, rfl, rfl⟩
  case round =>
    obtain ⟨k, t, hk, ht, rfl, rfl, hc⟩ := hrel
    by_cases hlt : k < len
    · obtain ⟨b, off, rfl, hck⟩ := hr.at hlt
      go_wp2
      · have heq : ((zs[k]?.getD ByteArray.empty).toList == x.toList) = true := by assumption
        have hx : zs.getD k ByteArray.empty = x := (Lib.bytes_beq_iff _ _).1 heq
        go_round
        case rel => exact ⟨k + 1, t + 1, by omega, by omega, by go_num, by go_num, by show t + 1 = _; rw [cnt_take_succ x HL.out hlt, if_pos hx, ← hc.out]⟩
        case measure => simp [intOf]; omega
      · have heq : ((zs[k]?.getD ByteArray.empty).toList == x.toList) = false := by assumption
        have hx : zs.getD k ByteArray.empty ≠ x := (Lib.bytes_beq_false_iff _ _).1 heq
        go_round
        case rel => exact ⟨k + 1, t, by omega, by omega, by go_num, by go_num, by show t = _; rw [cnt_take_succ x HL.out hlt, if_neg hx, ← hc.out]; rfl⟩
        case measure => simp [intOf]; omega
    · go_wp2
      go_ret
      refine ⟨?_, rfl⟩
      have h2 : t = Plain.cnt zs x := by
        have := hc.out
        rwa [List.take_of_length_le (by have := HL.out; omega)] at this
      rw [← h2]
      rfl

end Go.Proofs.Qxb6600436aMods
