import Derived.Test.Qxb6600427aModsWalkB
import Derived.Outline
namespace Go.Proofs.Qxb6600427aMods
open Go.RowKit

theorem okAll_at {s : ByteArray} (h : okAll s = true) {k : Nat} (hk : k < s.size) : pr s[k] = true := by
  unfold okAll at h
  rw [List.all_eq_true] at h
  exact h _ (List.getElem_mem (l := s.data.toList) (by simpa using hk))

set_option maxHeartbeats 400000 in
theorem law_walk (s : ByteArray) (h0 : s.size ≤ maxLen) (w : World) :
    Calls Trym.prog 3 #[.string s] w fun e w' => e = .returned (.bool true) ∧ Grown w w' := by
  unfold maxLen at h0
  by_cases hs : s.size ≤ 1048576
  · have hg : Grown w w := Grown.refl _
    cases h : okAll s with
    | true =>
      have H : Hid (okAll s = true) := h
      have HA : Hid (ans s = _) := ans_yes h
      clear h
      go_enter Trym.func3, Trym.ntmps3
      go_wp2_with (go_at_call 4; go_in)
      rw [quoted_add]
      refine (zzUnquote_any s _ hs).mono ?_
      rintro e w' ⟨rfl, hw⟩
      subst hw
      rw [HA.out]
      go_wp2_with fail
      go_loop [5, 6] (fun v i => ∃ k : Nat, k ≤ s.size ∧ i = .int .i64 k ∧ v = .bool true) (fun _ i => s.size - (intOf i).toNat)
      case atStart => exact ⟨0, Nat.zero_le _, rfl, rfl⟩
      case round =>
        obtain ⟨k, hk, rfl, rfl⟩ := hrel
        by_cases hlt : k < s.size
        · have hp : pr s[k] = true := okAll_at H.out hlt
          go_wp2_with (go_at_call 6; refine (printable_any _ _).mono ?_; rintro e w'' ⟨rfl, hw⟩; subst hw)
          go_round
          case rel => exact ⟨k + 1, by omega, by go_num, rfl⟩
          case measure => simp [intOf]; omega
        · go_wp2_with fail
          go_ret
          exact ⟨rfl, hg⟩
    | false =>
      have H : Hid (okAll s = false) := h
      have HA : Hid (ans s = _) := ans_no h
      clear h
      go_enter Trym.func3, Trym.ntmps3
      go_wp2_with (go_at_call 4; go_in)
      rw [quoted_add]
      refine (zzUnquote_any s _ hs).mono ?_
      rintro e w' ⟨rfl, hw⟩
      subst hw
      rw [HA.out]
      go_wp2_with fail
      go_loop [5, 6] (fun v i => ∃ k : Nat, k ≤ s.size ∧ i = .int .i64 k ∧ v = .bool true ∧ Hid (∀ j (hj : j < s.size), j < k → pr s[j] = true)) (fun _ i => s.size - (intOf i).toNat)
      case atStart => exact ⟨0, Nat.zero_le _, rfl, rfl, fun j _ hj => absurd hj (Nat.not_lt_zero _)⟩
      case round =>
        obtain ⟨k, hk, rfl, rfl, hne⟩ := hrel
        by_cases hlt : k < s.size
        · cases hp : pr s[k] with
          | true =>
            go_wp2_with (go_at_call 6; refine (printable_any _ _).mono ?_; rintro e w'' ⟨rfl, hw⟩; subst hw)
            go_round
            case rel =>
              refine ⟨k + 1, by omega, by go_num, rfl, fun j hj hjk => ?_⟩
              by_cases e : j = k
              · subst e
                exact hp
              · exact hne.out j hj (by omega)
            case measure => simp [intOf]; omega
          | false =>
            go_wp2_with (go_at_call 6; refine (printable_any _ _).mono ?_; rintro e w'' ⟨rfl, hw⟩; subst hw)
            go_ret
            exact ⟨rfl, hg⟩
        · exfalso
          have := okAll_of (s := s) fun j hj => hne.out j hj (by omega)
          rw [H.out] at this
          cases this
  · go_enter Trym.func3, Trym.ntmps3
    go_wp2
    go_ret
    exact ⟨rfl, by repeat (first | exact Grown.refl _ | apply Grown.drew | apply Grown.alloc)⟩
end Go.Proofs.Qxb6600427aMods
