import Derived.Test.Qxb6600427aModsRows
import Derived.WalkKit
import Derived.WalkLawsBesides
import Derived.WalkSpells
import Derived.Below
import Derived.Lib.Strings
import Derived.Lib.Slices
import Derived.Lib.Walk
namespace Go.Proofs.Qxb6600427aMods
open Go.RowKit

set_option maxHeartbeats 1000000 in
/-- strings.CutPrefix (laid off the shelf's template for this program). -/
theorem strings_CutPrefix (s p : ByteArray) (w : World) :
    Calls Trym.prog 8 #[.string s, .string p] w fun e w' => e = .returned (.tuple #[.string ⟨(Lib.trimPrefix s.data.toList p.data.toList).toArray⟩, .bool (Lib.hasPrefix s.data.toList p.data.toList)]) ∧ w' = w := by
  go_enter Trym.func8, Trym.ntmps8
  go_wp2
  · have h2 : (!((s.extract 0 p.size).toList == p.toList)) = true := by assumption
    have h3 : (decide (p.size ≤ s.size) && ((s.extract 0 p.size).toList == p.toList)) = false := by
      have : ((s.extract 0 p.size).toList == p.toList) = false := by simpa using h2
      rw [this]
      simp
    go_ret2
    refine ⟨?_, rfl⟩
    rw [Lib.trimPrefix_miss s p h3, ← Lib.hasPrefix_raw, h3]
    rfl
  · have h1 : p.size ≤ s.size := by assumption
    have h2 : (!((s.extract 0 p.size).toList == p.toList)) = false := by assumption
    have h2' : ((s.extract 0 p.size).toList == p.toList) = true := by simpa using h2
    go_ret2
    refine ⟨?_, rfl⟩
    rw [Lib.trimPrefix_hit s p h1 h2', ← Lib.hasPrefix_raw, h2', decide_eq_true h1]
    rfl
  · have h1 : ¬ p.size ≤ s.size := by assumption
    have h3 : (decide (p.size ≤ s.size) && ((s.extract 0 p.size).toList == p.toList)) = false := by simp [h1]
    go_ret2
    refine ⟨?_, rfl⟩
    rw [Lib.trimPrefix_miss s p h3, ← Lib.hasPrefix_raw, h3]
    rfl


set_option maxHeartbeats 1000000 in
/-- strings.CutSuffix (laid off the shelf's template for this program). -/
theorem strings_CutSuffix (s p : ByteArray) (w : World) (hs : s.size ≤ 9223372036854775807) :
    Calls Trym.prog 9 #[.string s, .string p] w fun e w' => e = .returned (.tuple #[.string ⟨(Lib.trimSuffix s.data.toList p.data.toList).toArray⟩, .bool (Lib.hasSuffix s.data.toList p.data.toList)]) ∧ w' = w := by
  have hlo : p.size ≤ s.size → ((s.size : Int) - (p.size : Int) + 9223372036854775808) % 18446744073709551616 - 9223372036854775808 = ((s.size - p.size : Nat) : Int) := fun _ => by omega
  go_enter Trym.func9, Trym.ntmps9
  go_wp2
  · have h2 : (!((s.extract (s.size - p.size) s.size).toList == p.toList)) = true := by assumption
    have h3 : (decide (p.size ≤ s.size) && ((s.extract (s.size - p.size) s.size).toList == p.toList)) = false := by
      have : ((s.extract (s.size - p.size) s.size).toList == p.toList) = false := by simpa using h2
      rw [this]
      simp
    go_ret2
    refine ⟨?_, rfl⟩
    rw [Lib.trimSuffix_miss s p h3, ← Lib.hasSuffix_raw, h3]
    rfl
  · have h1 : p.size ≤ s.size := by assumption
    have h2 : (!((s.extract (s.size - p.size) s.size).toList == p.toList)) = false := by assumption
    have h2' : ((s.extract (s.size - p.size) s.size).toList == p.toList) = true := by simpa using h2
    go_ret2
    refine ⟨?_, rfl⟩
    rw [Lib.trimSuffix_hit s p h1 h2', ← Lib.hasSuffix_raw, h2', decide_eq_true h1]
    rfl
  · have h1 : ¬ p.size ≤ s.size := by assumption
    have h3 : (decide (p.size ≤ s.size) && ((s.extract (s.size - p.size) s.size).toList == p.toList)) = false := by simp [h1]
    go_ret2
    refine ⟨?_, rfl⟩
    rw [Lib.trimSuffix_miss s p h3, ← Lib.hasSuffix_raw, h3]
    rfl



/-- Printable ASCII, no double quote. -/
def pr (c : UInt8) : Bool := decide (32 ≤ (c.toNat : Int)) && decide ((c.toNat : Int) ≤ 126) && !decide ((c.toNat : Int) = 34)

def quoted (s : ByteArray) : ByteArray := ⟨(34 :: (s.data.toList ++ [34])).toArray⟩

theorem quoted_add (s : ByteArray) : (⟨#[34]⟩ : ByteArray) ++ s ++ (⟨#[34]⟩ : ByteArray) = quoted s := by
  apply ByteArray.ext
  simp [quoted, ByteArray.data_append]

theorem trim1 (l : List UInt8) : Lib.trimPrefix (34 :: l) [34] = l := by simp [Lib.trimPrefix, Lib.hasPrefix]
theorem has1 (l : List UInt8) : Lib.hasPrefix (34 :: l) [34] = true := by simp [Lib.hasPrefix]
theorem has2 (l : List UInt8) : Lib.hasSuffix (l ++ [34]) [34] = true := by simp [Lib.hasSuffix, List.isSuffixOf]
theorem trim2 (l : List UInt8) : Lib.trimSuffix (l ++ [34]) [34] = l := by simp [Lib.trimSuffix, has2]

theorem cutP (s : ByteArray) (w : World) :
    Calls Trym.prog 8 #[.string (quoted s), .string ⟨#[34]⟩] w fun e w' => e = .returned (.tuple #[.string ⟨(s.data.toList ++ [34]).toArray⟩, .bool true]) ∧ w' = w := by
  have h := strings_CutPrefix (quoted s) ⟨#[34]⟩ w
  simp only [quoted, trim1, has1] at h
  exact h

theorem cutS (s : ByteArray) (w : World) (hs : s.size ≤ 9223372036854775806) :
    Calls Trym.prog 9 #[.string ⟨(s.data.toList ++ [34]).toArray⟩, .string ⟨#[34]⟩] w fun e w' => e = .returned (.tuple #[.string s, .bool true]) ∧ w' = w := by
  have hz : (⟨(s.data.toList ++ [34]).toArray⟩ : ByteArray).size = s.size + 1 := by
    show ((s.data.toList ++ [34]).toArray).size = s.data.size + 1
    rw [List.size_toArray, List.length_append, Array.length_toList]
    rfl
  have h := strings_CutSuffix ⟨(s.data.toList ++ [34]).toArray⟩ ⟨#[34]⟩ w (by rw [hz]; omega)
  simp only [trim2, has2, Array.toArray_toList] at h
  exact h
end Go.Proofs.Qxb6600427aMods
