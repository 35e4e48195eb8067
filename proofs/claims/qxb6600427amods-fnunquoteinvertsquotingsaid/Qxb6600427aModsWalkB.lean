import Derived.Test.Qxb6600427aModsWalkA
namespace Go.Proofs.Qxb6600427aMods
open Go.RowKit

def okAll (s : ByteArray) : Bool := s.data.toList.all pr

theorem okAll_of {s : ByteArray} (h : ∀ j (hj : j < s.size), pr s[j] = true) : okAll s = true := by
  unfold okAll
  rw [List.all_eq_true]
  intro x hx
  obtain ⟨j, hj, rfl⟩ := List.getElem_of_mem hx
  exact h j (by simpa using hj)

theorem okAll_not {s : ByteArray} {k : Nat} (hk : k < s.size) (h : pr s[k] = false) : okAll s = false := by
  unfold okAll
  rw [List.all_eq_false]
  refine ⟨s[k], ?_, by simp [h]⟩
  exact List.getElem_mem (l := s.data.toList) (by simpa using hk)

theorem pr_false {c : UInt8} (h : ((c.toNat : Int) < 32 ∨ 126 < (c.toNat : Int)) ∨ ((c.toNat : Int) == 34) = true) : pr c = false := by
  rw [beq_iff_eq] at h
  rw [Bool.eq_false_iff]
  intro e
  simp only [pr, Bool.and_eq_true, decide_eq_true_eq, Bool.not_eq_true', decide_eq_false_iff_not] at e
  omega

theorem pr_true {c : UInt8} (h : (32 ≤ (c.toNat : Int) ∧ (c.toNat : Int) ≤ 126) ∧ ((c.toNat : Int) == 34) = false) : pr c = true := by
  rw [beq_eq_false_iff_ne] at h
  simp only [pr, Bool.and_eq_true, decide_eq_true_eq, Bool.not_eq_true', decide_eq_false_iff_not]
  exact ⟨h.1, h.2⟩

theorem pr_mid {c : UInt8} (h1 : 32 ≤ (c.toNat : Int)) (h2 : (c.toNat : Int) ≤ 126) : pr c = ((c.toNat : Int) != 34) := by
  simp only [pr, decide_eq_true h1, decide_eq_true h2, Bool.true_and]
  by_cases h : (c.toNat : Int) = 34 <;> simp [h]

theorem size_quoted (s : ByteArray) : (quoted s).size = s.size + 2 := by
  show ((34 :: (s.data.toList ++ [34])).toArray).size = s.data.size + 2
  rw [List.size_toArray, List.length_cons, List.length_append, Array.length_toList]
  rfl

/-- What unquote answers at a quoted text. -/
def ans (s : ByteArray) : Value := .tuple #[.string (if okAll s then s else ByteArray.empty), .bool (okAll s)]

theorem ans_no {s : ByteArray} (h : okAll s = false) : ans s = .tuple #[.string ByteArray.empty, .bool false] := by simp [ans, h]
theorem ans_yes {s : ByteArray} (h : okAll s = true) : ans s = .tuple #[.string s, .bool true] := by simp [ans, h]

set_option maxHeartbeats 400000 in
theorem unquote_any (s : ByteArray) (w : World) (hs : s.size ≤ 1048576) :
    Calls Trym.prog 7 #[.string (quoted s)] w fun e w' => e = .returned (ans s) ∧ w' = w := by
  have hz := size_quoted s
  have hz2 : (2 : Int) ≤ (quoted s).size := by omega
  have HZ : Hid ((quoted s).size = s.size + 2) := hz
  clear hz
  go_enter Trym.func7, Trym.ntmps7
  go_wp2_with fail
  refine (cutP s _).mono ?_
  rintro e w' ⟨rfl, hw⟩
  subst hw
  go_wp2_with fail
  refine (cutS s _ (by omega)).mono ?_
  rintro e w' ⟨rfl, hw⟩
  subst hw
  go_wp2_with fail
  go_loop [7] (fun i => ∃ k : Nat, k ≤ s.size ∧ i = .int .i64 k ∧ Hid (∀ j (hj : j < s.size), j < k → pr s[j] = true)) (fun i => s.size - (intOf i).toNat)
  case atStart => exact ⟨0, Nat.zero_le _, rfl, fun j _ hj => absurd hj (Nat.not_lt_zero _)⟩
  case round =>
    obtain ⟨k, hk, rfl, hne⟩ := hrel
    by_cases hlt : k < s.size
    · go_wp2_with fail
      · have h : ((s[k].toNat : Int) < 32 ∨ 126 < (s[k].toNat : Int)) ∨ ((s[k].toNat : Int) == 34) = true := by assumption
        have H : okAll s = false := okAll_not hlt (pr_false h)
        go_ret2
        exact ⟨by rw [ans_no H]; rfl, rfl⟩
      · have h : (32 ≤ (s[k].toNat : Int) ∧ (s[k].toNat : Int) ≤ 126) ∧ ((s[k].toNat : Int) == 34) = false := by assumption
        go_round
        case rel =>
          refine ⟨k + 1, by omega, by go_num, fun j hj hjk => ?_⟩
          by_cases e : j = k
          · subst e
            exact pr_true h
          · exact hne.out j hj (by omega)
        case measure => simp [intOf]; omega
      · have h : 126 < (s[k].toNat : Int) := by assumption
        have H : okAll s = false := okAll_not hlt (pr_false (.inl (.inr h)))
        go_ret2
        exact ⟨by rw [ans_no H]; rfl, rfl⟩
      · have h : (s[k].toNat : Int) < 32 := by assumption
        have H : okAll s = false := okAll_not hlt (pr_false (.inl (.inl h)))
        go_ret2
        exact ⟨by rw [ans_no H]; rfl, rfl⟩
    · have H : Hid (okAll s = true) := okAll_of fun j hj => hne.out j hj (by omega)
      go_wp2_with fail
      go_ret2
      exact ⟨by rw [ans_yes H.out]; rfl, rfl⟩

theorem zzUnquote_any (s : ByteArray) (w : World) (hs : s.size ≤ 1048576) :
    Calls Trym.prog 5 #[.string (quoted s)] w fun e w' => e = .returned (ans s) ∧ w' = w := by
  cases h : okAll s with
  | true =>
    have H : Hid (ans s = _) := ans_yes h
    go_enter Trym.func5, Trym.ntmps5
    go_wp2_with fail
    refine (unquote_any s _ hs).mono ?_
    rintro e w' ⟨rfl, hw⟩
    subst hw
    rw [H.out]
    go_wp2_with fail
    go_ret2
    exact ⟨by rw [H.out]; rfl, rfl⟩
  | false =>
    have H : Hid (ans s = _) := ans_no h
    go_enter Trym.func5, Trym.ntmps5
    go_wp2_with fail
    refine (unquote_any s _ hs).mono ?_
    rintro e w' ⟨rfl, hw⟩
    subst hw
    rw [H.out]
    go_wp2_with fail
    go_ret2
    exact ⟨by rw [H.out]; rfl, rfl⟩

/-- zzB1PrintableNoQuote. -/
theorem printable_any (c : UInt8) (w : World) :
    Calls Trym.prog 6 #[.int .u8 (c.toNat : Int)] w fun e w' => e = .returned (.bool (pr c)) ∧ w' = w := by
  go_enter Trym.func6, Trym.ntmps6
  go_wp2_with fail
  · have h1 : 32 ≤ (c.toNat : Int) := by assumption
    have h2 : (c.toNat : Int) ≤ 126 := by assumption
    have H : pr c = ((c.toNat : Int) != 34) := pr_mid h1 h2
    go_ret
    exact ⟨by rw [H]; rfl, rfl⟩
  · have h2 : 126 < (c.toNat : Int) := by assumption
    have H : pr c = false := pr_false (.inl (.inr h2))
    go_ret
    exact ⟨by rw [H]; rfl, rfl⟩
  · have h2 : (c.toNat : Int) < 32 := by assumption
    have H : pr c = false := pr_false (.inl (.inl h2))
    go_ret
    exact ⟨by rw [H]; rfl, rfl⟩
end Go.Proofs.Qxb6600427aMods
