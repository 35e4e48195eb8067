import Derived.Test.Qxb6600111aModsRows
import Derived.WalkKit
import Derived.WalkLawsBesides
import Derived.WalkSpells
import Derived.Below
import Derived.Outline
import Derived.Lib.SlicesS
namespace Go.Proofs.Qxb6600111aMods
open Go.RowKit

/-- What a walk is told of a slice of strings: nil, or a row of 'len' cells that hold the strings 'zs'. -/
def IsRow (w : World) (ao : Option Addr) (len : Nat) (zs : List ByteArray) : Prop :=
  zs.length = len ∧ len ≤ 9223372036854775807 ∧ (∀ j, (zs.getD j ByteArray.empty).size ≤ 9223372036854775807) ∧
  ∀ j, j < len → ∃ a, ao = some a ∧ w.cell? (a.add j) = some (.string (zs.getD j ByteArray.empty))

theorem IsRow.at {w : World} {ao : Option Addr} {len : Nat} {zs : List ByteArray} (h : IsRow w ao len zs) {k : Nat} (hk : k < len) :
    ∃ b off, ao = some ⟨b, off, none⟩ ∧ w.cell? ⟨b, off + k, none⟩ = some (.string (zs.getD k ByteArray.empty)) := by
  obtain ⟨⟨b, off, spot⟩, rfl, h0⟩ := h.2.2.2 0 (by omega)
  have hspot : spot = none := by simpa [Addr.add] using World.cell?_spot h0
  subst hspot
  obtain ⟨a, ha, hc⟩ := h.2.2.2 k hk
  obtain rfl := Option.some.inj ha
  refine ⟨b, off, rfl, ?_⟩
  rw [← hc]
  by_cases e : k = 0
  · subst e; simp [Addr.add]
  · simp [Addr.add, e]

/-- Memory that was there is still there. -/
theorem IsRow.below {w w' : World} {ao : Option Addr} {len : Nat} {zs : List ByteArray} (h : IsRow w ao len zs) (hb : Below w.heap.size w w') : IsRow w' ao len zs := by
  refine ⟨h.1, h.2.1, h.2.2.1, fun j hj => ?_⟩
  obtain ⟨a, rfl, hc⟩ := h.2.2.2 j hj
  refine ⟨a, rfl, ?_⟩
  rw [← hc]
  exact hb.cell (block_lt_of_cell hc)

def RetB (e : Ending) : Prop := ∃ b, e = .returned (.bool b)
def RetOK (len : Nat) (e : Ending) : Prop := ∃ b, e = .returned (.bool b) ∧ (b = true → len ≤ 65536)

set_option maxHeartbeats 400000 in
theorem bytes_any (ao : Option Addr) (len cap : Nat) (zs : List ByteArray) (s1 s2 s3 : ByteArray) (w : World) (hr : IsRow w ao len zs)
    (h1 : s1.size ≤ 9223372036854775807) (h2 : s2.size ≤ 9223372036854775807) (h3 : s3.size ≤ 9223372036854775807) :
    Calls Trym.prog 10 #[.slice ao len cap, .string s1, .string s2, .string s3] w fun e w' => RetB e ∧ w' = w := by
  have hb := hr.2.1
  go_enter Trym.func10, Trym.ntmps10
  go_wp2
  · go_ret
    exact ⟨⟨_, rfl⟩, rfl⟩
  go_loop [9, 10] (fun n i => ∃ k t : Nat, k ≤ len ∧ t ≤ 1048576 ∧ i = .int .i64 k ∧ n = .int .i64 t) (fun _ i => len - (intOf i).toNat)
  case atStart => exact ⟨0, len, Nat.zero_le _, by omega, rfl, rfl⟩
  case round =>
    obtain ⟨k, t, hk, ht, rfl, rfl⟩ := hrel
    by_cases hlt : k < len
    · obtain ⟨b, off, rfl, hck⟩ := hr.at hlt
      have hsk := hr.2.2.1 k
      go_wp2
      · go_ret
        exact ⟨⟨_, rfl⟩, rfl⟩
      · go_ret
        exact ⟨⟨_, rfl⟩, rfl⟩
      · go_round
        case rel => exact ⟨k + 1, t + (zs.getD k ByteArray.empty).size, by omega, by simp only [List.getD] at *; omega, by go_num, by simp only [List.getD]; go_num⟩
        case measure => simp [intOf]; omega
    · go_wp2
      all_goals
        go_ret
        exact ⟨⟨_, rfl⟩, rfl⟩

set_option maxHeartbeats 400000 in
theorem sizeOK_any (ao : Option Addr) (len cap : Nat) (zs : List ByteArray) (s1 s2 s3 : ByteArray) (w : World) (hr : IsRow w ao len zs)
    (h1 : s1.size ≤ 9223372036854775807) (h2 : s2.size ≤ 9223372036854775807) (h3 : s3.size ≤ 9223372036854775807) :
    Calls Trym.prog 7 #[.slice ao len cap, .string s1, .string s2, .string s3] w fun e w' => RetOK len e ∧ w' = w := by
  have hb := hr.2.1
  go_enter Trym.func7, Trym.ntmps7
  go_wp2
  all_goals try (go_ret; exact ⟨⟨_, rfl, fun h => by first | cases h | omega⟩, rfl⟩)
  go_loop [9, 10] (fun n i => ∃ k t : Nat, k ≤ len ∧ t ≤ 1048576 ∧ i = .int .i64 k ∧ n = .int .i64 t) (fun _ i => len - (intOf i).toNat)
  case atStart => exact ⟨0, 16 * len + s1.size + s2.size + s3.size, Nat.zero_le _, by omega, rfl, by go_num⟩
  case round =>
    obtain ⟨k, t, hk, ht, rfl, rfl⟩ := hrel
    by_cases hlt : k < len
    · obtain ⟨b, off, rfl, hck⟩ := hr.at hlt
      have hsk := hr.2.2.1 k
      go_wp2
      · go_ret
        exact ⟨⟨_, rfl, fun h => by cases h⟩, rfl⟩
      · go_ret
        exact ⟨⟨_, rfl, fun h => by cases h⟩, rfl⟩
      · go_round
        case rel => exact ⟨k + 1, t + (zs.getD k ByteArray.empty).size, by omega, by simp only [List.getD] at *; omega, by go_num, by simp only [List.getD]; go_num⟩
        case measure => simp [intOf]; omega
    · go_wp2
      go_ret
      exact ⟨⟨_, rfl, fun _ => by omega⟩, rfl⟩

set_option maxHeartbeats 400000 in
/-- zzHas: is s among the elements? -/
theorem has_any (ao : Option Addr) (len cap : Nat) (zs : List ByteArray) (x : ByteArray) (w : World) (hr : IsRow w ao len zs) :
    Calls Trym.prog 11 #[.slice ao len cap, .string x] w fun e w' => e = .returned (.bool (Lib.containsS zs x)) ∧ w' = w := by
  have hb := hr.2.1
  have hl := hr.1
  have HL : Hid (zs.length = len) := hl
  clear hl
  go_enter Trym.func11, Trym.ntmps11
  go_wp2
  go_loop [5] (fun i => ∃ k : Nat, k ≤ len ∧ i = .int .i64 k ∧ Hid (∀ j, j < k → zs.getD j ByteArray.empty ≠ x)) (fun i => len - (intOf i).toNat)
  case atStart => exact ⟨0, Nat.zero_le _, rfl, fun j hj => absurd hj (Nat.not_lt_zero _)⟩
  case round =>
    obtain ⟨k, hk, rfl, hne⟩ := hrel
    by_cases hlt : k < len
    · obtain ⟨b, off, rfl, hck⟩ := hr.at hlt
      go_wp2
      · have heq : ((zs[k]?.getD ByteArray.empty).toList == x.toList) = true := by assumption
        go_ret
        refine ⟨?_, rfl⟩
        have : Lib.containsS zs x = true := by
          rw [Lib.containsS_iff]
          rw [Lib.bytes_beq_iff] at heq
          rw [← heq, List.getElem?_eq_getElem (by rw [HL.out]; exact hlt)]
          exact List.getElem_mem _
        rw [this]; rfl
      · have hneq : ((zs[k]?.getD ByteArray.empty).toList == x.toList) = false := by assumption
        go_round
        case rel =>
          refine ⟨k + 1, by omega, by go_num, fun j hj => ?_⟩
          by_cases e : j = k
          · subst e
            exact (Lib.bytes_beq_false_iff _ _).1 hneq
          · exact hne.out j (by omega)
        case measure => simp [intOf]; omega
    · go_wp2
      go_ret
      refine ⟨?_, rfl⟩
      have : Lib.containsS zs x = false := by
        rw [Bool.eq_false_iff, Ne, Lib.containsS_iff]
        intro hm
        obtain ⟨j, hj, rfl⟩ := List.getElem_of_mem hm
        refine hne.out j (by have := HL.out; omega) ?_
        simp [List.getD, hj]
      rw [this]; rfl
end Go.Proofs.Qxb6600111aMods
