import Derived.Test.Qxb6600436aModsRows
import Derived.WalkKit
import Derived.WalkLawsBesides
import Derived.WalkSpells
import Derived.Below
import Derived.Outline
import Derived.Deep.QuietTactic
import Derived.BigQuiet
import Derived.Lib.SlicesS
namespace Go.Proofs.Qxb6600436aMods
open Go.RowKit

def sameB (a b : ByteArray) : Bool := decide (a = b)

theorem sameB_toList (a b : ByteArray) : (a.toList == b.toList) = sameB a b := by
  rw [Bool.eq_iff_iff, Lib.bytes_beq_iff, sameB, decide_eq_true_eq]

theorem ba_ext {a b : ByteArray} (hs : a.size = b.size) (h : ∀ j (ha : j < a.size) (hb : j < b.size), a[j] = b[j]) : a = b := by
  apply ByteArray.ext
  exact Array.ext hs h

theorem same_yes {a b : ByteArray} (hs : a.size = b.size) (h : ∀ j (ha : j < a.size) (hb : j < b.size), a[j] = b[j]) : sameB a b = true := by
  rw [sameB, decide_eq_true_eq]; exact ba_ext hs h

theorem same_no_size {a b : ByteArray} (hs : a.size ≠ b.size) : sameB a b = false := by
  rw [sameB, decide_eq_false_iff_not]; intro h; exact hs (by rw [h])

theorem same_no {a b : ByteArray} {j : Nat} (ha : j < a.size) (hb : j < b.size) (h : a[j] ≠ b[j]) : sameB a b = false := by
  rw [sameB, decide_eq_false_iff_not]; intro e; subst e; exact h rfl

set_option maxHeartbeats 400000 in
theorem sameValue_any (a b : ByteArray) (w : World) (h1 : a.size ≤ 9223372036854775807) (_h2 : b.size ≤ 9223372036854775807) :
    Calls Trym.prog 21 #[.string a, .string b] w fun e w' => e = .returned (.bool (sameB a b)) ∧ ∃ n, w' = w.drewN n := by
  by_cases hs : a.size = b.size
  · have hq : ((a.size : Int) != (b.size : Int)) = false := by simp [hs]
    have HS : Hid (a.size = b.size) := hs
    by_cases h8 : a.size ≤ 8
    · have ha8 : (a.size : Int) ≤ 8 := by omega
      have hb8 : (b.size : Int) ≤ 8 := by omega
      clear hs
      go_enter Trym.func21, Trym.ntmps21
      go_wp2
      go_loopw [5, 19] (fun _ i wr => ∃ k nq : Nat, k ≤ a.size ∧ i = .int .i64 k ∧ wr = w.drewN nq ∧ Hid (∀ j (ha : j < a.size) (hb : j < b.size), j < k → a[j] = b[j])) (fun _ i _ => a.size - (intOf i).toNat)
      case atStart => exact ⟨0, 0, Nat.zero_le _, rfl, rfl, fun j _ _ hj => absurd hj (Nat.not_lt_zero _)⟩
      case round =>
        obtain ⟨k, nq, hk, rfl, rfl, hne⟩ := hrel
        by_cases hlt : k < a.size
        · have hltb : k < b.size := by have := HS.out; omega
          have hi1 : (k : Int) < (a.size : Int) := by omega
          have hi2 : (k : Int) < (b.size : Int) := by omega
          go_wp2
          go_quiet (fail)
          go_wp2
          · have hx : ((a[k].toNat : Int) != (b[k].toNat : Int)) = true := by assumption
            have H : sameB a b = false := same_no hlt hltb (by intro e; rw [e] at hx; simp at hx)
            go_ret
            exact ⟨by rw [H]; rfl, _, World.drewN_drewN _ _ _⟩
          · have hx : ((a[k].toNat : Int) != (b[k].toNat : Int)) = false := by assumption
            have hx2 : a[k] = b[k] := by
              apply UInt8.toNat_inj.1
              have hx3 : (a[k].toNat : Int) = (b[k].toNat : Int) := by simpa using hx
              omega
            go_roundw
            case rel =>
              refine ⟨k + 1, _, by omega, by go_num, rfl, fun j ha hb hjk => ?_⟩
              by_cases e : j = k
              · subst e
                exact hx2
              · exact hne.out j ha hb (by omega)
            case measure => simp [intOf]; omega
        · go_wp2
          have H : sameB a b = true := same_yes HS.out fun j ha hb => hne.out j ha hb (by omega)
          go_ret
          exact ⟨by rw [H]; rfl, nq, rfl⟩
    · clear hs
      have ha8 : 8 < (a.size : Int) := by omega
      have hb8 : 8 < (b.size : Int) := by have := HS.out; omega
      go_enter Trym.func21, Trym.ntmps21
      go_wp2
      go_ret
      exact ⟨by rw [← sameB_toList]; rfl, 0, rfl⟩
  · have hq : ((a.size : Int) != (b.size : Int)) = true := by simp; omega
    have H : Hid (sameB a b = false) := same_no_size hs
    go_enter Trym.func21, Trym.ntmps21
    go_wp2
    go_ret
    exact ⟨by rw [H.out]; rfl, 0, rfl⟩

theorem zzSameValue_any (a b : ByteArray) (w : World) (h1 : a.size ≤ 9223372036854775807) (h2 : b.size ≤ 9223372036854775807) :
    Calls Trym.prog 16 #[.string a, .string b] w fun e w' => e = .returned (.bool (sameB a b)) ∧ ∃ n, w' = w.drewN n := by
  go_enter Trym.func16, Trym.ntmps16
  go_wp2_with fail
  refine (sameValue_any a b _ h1 h2).mono ?_
  rintro e w' ⟨rfl, n, rfl⟩
  go_wp2_with fail
  go_ret
  exact ⟨rfl, n, rfl⟩

theorem grown_drewN (w : World) : ∀ n, Grown w (w.drewN n)
  | 0 => Grown.refl _
  | n + 1 => (grown_drewN w n).drew

set_option maxHeartbeats 400000 in
theorem same_law (a b : ByteArray) (w0 : a.size ≤ maxLen) (w1 : b.size ≤ maxLen) (w : World) :
    Calls Trym.prog 5 #[.string a, .string b] w fun e w' => e = .returned (.bool true) ∧ Grown w w' := by
  unfold maxLen at w0 w1
  have h1 : a.size ≤ 9223372036854775807 := by omega
  have h2 : b.size ≤ 9223372036854775807 := by omega
  have hg : Grown w w := Grown.refl _
  clear w0 w1
  have heq : (sameB a b == (a.toList == b.toList)) = true := by rw [sameB_toList]; simp
  go_enter Trym.func5, Trym.ntmps5
  go_wp2_with (first | (go_at_call 16; refine (zzSameValue_any a b _ h1 h2).mono ?_; rintro e w' ⟨rfl, n, rfl⟩) | go_in)
  all_goals go_ret
  · exact ⟨rfl, hg⟩
  · exact ⟨rfl, hg⟩
  · exact ⟨rfl, hg⟩
  · exact ⟨rfl, hg⟩
  · exact ⟨rfl, hg⟩
  · exact ⟨rfl, grown_drewN _ _⟩
end Go.Proofs.Qxb6600436aMods
