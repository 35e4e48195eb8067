import Derived.Test.Qxb6600111aModsWalkA
namespace Go.Proofs.Qxb6600111aMods
open Go.RowKit

set_option maxHeartbeats 400000 in
/-- slices.Index at []string. -/
theorem index_any (ao : Option Addr) (len cap : Nat) (zs : List ByteArray) (x : ByteArray) (w : World) (hr : IsRow w ao len zs) :
    Calls Trym.prog 15 #[.slice ao len cap, .string x] w fun e w' => e = .returned (.int .i64 (Lib.idxOfS zs x)) ∧ w' = w := by
  have hb := hr.2.1
  have HL : Hid (zs.length = len) := hr.1
  go_enter Trym.func15, Trym.ntmps15
  go_wp2
  go_loop [5, 8] (fun _ i => ∃ k : Nat, k ≤ len ∧ i = .int .i64 k ∧ Hid (∀ j, j < k → zs.getD j ByteArray.empty ≠ x)) (fun _ i => len - (intOf i).toNat)
  case atStart => exact ⟨0, Nat.zero_le _, rfl, fun j hj => absurd hj (Nat.not_lt_zero _)⟩
  case round =>
    obtain ⟨k, hk, rfl, hne⟩ := hrel
    by_cases hlt : k < len
    · obtain ⟨b, off, rfl, hck⟩ := hr.at hlt
      go_wp2
      · have heq : (x.toList == (zs[k]?.getD ByteArray.empty).toList) = true := by assumption
        go_ret
        refine ⟨?_, rfl⟩
        have h1 := Lib.idxOfS_hit zs len k x hlt (by rw [HL.out]; exact Nat.le_refl _) (by simp only [List.getD]; exact ((Lib.bytes_beq_iff _ _).1 heq).symm) hne.out
        rw [List.take_of_length_le (by rw [HL.out]; exact Nat.le_refl _)] at h1
        rw [h1]; rfl
      · have hneq : (x.toList == (zs[k]?.getD ByteArray.empty).toList) = false := by assumption
        go_round
        case rel =>
          refine ⟨k + 1, by omega, by go_num, fun j hj => ?_⟩
          by_cases e : j = k
          · subst e
            exact fun he => (Lib.bytes_beq_false_iff _ _).1 hneq he.symm
          · exact hne.out j (by omega)
        case measure => simp [intOf]; omega
    · go_wp2
      go_ret
      refine ⟨?_, rfl⟩
      have h1 := Lib.idxOfS_miss zs len x (fun j hj => hne.out j (by omega))
      rw [List.take_of_length_le (by rw [HL.out]; exact Nat.le_refl _)] at h1
      rw [h1]; rfl

/-- slices.Contains at []string. -/
theorem contains_any (ao : Option Addr) (len cap : Nat) (zs : List ByteArray) (x : ByteArray) (w : World) (hr : IsRow w ao len zs) :
    Calls Trym.prog 14 #[.slice ao len cap, .string x] w fun e w' => e = .returned (.bool (Lib.containsS zs x)) ∧ w' = w := by
  unfold Lib.containsS
  go_enter Trym.func14, Trym.ntmps14
  go_wp2_with (go_at_call 15; refine (index_any ao len cap zs x _ hr).mono ?_; rintro e w' ⟨rfl, rfl⟩)
  go_ret
  exact ⟨rfl, rfl⟩

/-- Whom role.trusts looks for. -/
def who (x y : ByteArray) : ByteArray := if y = ByteArray.empty then x else y

theorem toList_isEmpty (y : ByteArray) : y.toList.isEmpty = decide (y = ByteArray.empty) := by
  rw [Bool.eq_iff_iff, decide_eq_true_eq, List.isEmpty_iff, ByteArray.toList_eq]
  exact ⟨fun h => ByteArray.ext (by simpa using h), fun h => by rw [h]; rfl⟩

set_option maxHeartbeats 400000 in
theorem trusts_nil (x y : ByteArray) (w : World) :
    Calls Trym.prog 9 #[.slice none 0 0, .string x, .string y] w fun e w' => e = .returned (.bool true) ∧ Below w.heap.size w w' := by
  have hq := fun (a : Option Addr) (n c n' c' : Nat) (wx : World) => Lib.run_eql_slice_nil (P := Trym.prog) wx 22 9 a n c n' c' Trym.underlying22
  go_enter Trym.func9, Trym.ntmps9
  go_wp2
  all_goals
    go_ret
    exact ⟨rfl, ((Below.refl _ _).alloc (Nat.le_refl _) _).alloc (by simp) _⟩

set_option maxHeartbeats 400000 in
theorem trusts_any (a : Addr) (len cap : Nat) (zs : List ByteArray) (x y : ByteArray) (w : World) (hr : IsRow w (some a) len zs) :
    Calls Trym.prog 9 #[.slice (some a) len cap, .string x, .string y] w fun e w' => e = .returned (.bool (Lib.containsS zs (who x y))) ∧ Below w.heap.size w w' := by
  have hq := fun (a : Option Addr) (n c n' c' : Nat) (wx : World) => Lib.run_eql_slice_nil (P := Trym.prog) wx 22 9 a n c n' c' Trym.underlying22
  by_cases hy : y = ByteArray.empty
  · have he : who x y = x := by simp [who, hy]
    have HE : Hid (who x y = x) := he
    have hd : y.toList.isEmpty = true := by rw [toList_isEmpty]; simpa using hy
    clear he hy
    go_enter Trym.func9, Trym.ntmps9
    go_wp2_with (first | (go_at_call 14; refine (contains_any (some a) len cap zs x _ (hr.below (((Below.refl _ _).alloc (Nat.le_refl _) _).alloc (by simp) _))).mono ?_; rintro e w' ⟨rfl, rfl⟩) | go_in)
    go_ret
    exact ⟨by rw [HE.out]; rfl, ((Below.refl _ _).alloc (Nat.le_refl _) _).alloc (by simp) _⟩
  · have he : who x y = y := by simp [who, hy]
    have HE : Hid (who x y = y) := he
    have hd : y.toList.isEmpty = false := by rw [toList_isEmpty]; simpa using hy
    clear he hy
    go_enter Trym.func9, Trym.ntmps9
    go_wp2_with (first | (go_at_call 14; refine (contains_any (some a) len cap zs y _ (hr.below (((Below.refl _ _).alloc (Nat.le_refl _) _).alloc (by simp) _))).mono ?_; rintro e w' ⟨rfl, rfl⟩) | go_in)
    go_ret
    exact ⟨by rw [HE.out]; rfl, ((Below.refl _ _).alloc (Nat.le_refl _) _).alloc (by simp) _⟩
end Go.Proofs.Qxb6600111aMods
