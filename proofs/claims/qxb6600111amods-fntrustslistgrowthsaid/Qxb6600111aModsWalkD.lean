import Derived.Test.Qxb6600111aModsWalkC
import Derived.Deep.CutRange
namespace Go.Proofs.Qxb6600111aMods
open Go.RowKit

/-- What role.trusts answers: a nil list admits everyone. -/
def trustB (ao : Option Addr) (zs : List ByteArray) (x y : ByteArray) : Bool := ao.isNone || Lib.containsS zs (who x y)

theorem trusts_opt (ao : Option Addr) (len : Nat) (zs : List ByteArray) (x y : ByteArray) (w : World) (hr : IsRow w ao len zs) :
    Calls Trym.prog 9 #[.slice ao len len, .string x, .string y] w fun e w' => e = .returned (.bool (trustB ao zs x y)) ∧ Below w.heap.size w w' := by
  cases ao with
  | none =>
    have h0 : len = 0 := by
      by_cases h : 0 < len
      · obtain ⟨b, off, h', _⟩ := hr.at h
        cases h'
      · omega
    subst h0
    exact trusts_nil x y w
  | some a =>
    have he : trustB (some a) zs x y = Lib.containsS zs (who x y) := by simp [trustB]
    rw [he]
    exact trusts_any a len len zs x y w hr

theorem trusts_empty (a : Addr) (x y : ByteArray) (w : World) :
    Calls Trym.prog 9 #[.slice (some a) 0 0, .string x, .string y] w fun e w' => e = .returned (.bool false) ∧ Below w.heap.size w w' :=
  trusts_any a 0 0 [] x y w ⟨rfl, Nat.zero_le _, fun j => by simp [List.getD], fun j hj => absurd hj (Nat.not_lt_zero _)⟩

theorem copy_opt (ao : Option Addr) (len cap : Nat) (zs : List ByteArray) (w : World) (hr : IsRow w ao len zs) (hn : ao = none → len = 0 ∧ cap = 0) (hlen : len ≤ 65536) :
    Calls Trym.prog 8 #[.slice ao len cap] w fun e w' => ∃ ao', e = .returned (.slice ao' len len) ∧ IsRow w' ao' len zs ∧ Below w.heap.size w w' := by
  cases ao with
  | none =>
    obtain ⟨rfl, rfl⟩ := hn rfl
    refine (copy_nil w).mono ?_
    rintro e w' ⟨rfl, rfl⟩
    exact ⟨none, rfl, hr, Below.refl _ _⟩
  | some a =>
    refine (copy_any a len cap zs w hr hlen).mono ?_
    rintro e w' ⟨rfl, h1, h2⟩
    exact ⟨_, rfl, h1, h2⟩

theorem containsS_append (zs : List ByteArray) (ys : List ByteArray) (x : ByteArray) (h : Lib.containsS zs x = true ∨ x ∈ ys) : Lib.containsS (zs ++ ys) x = true := by
  rw [Lib.containsS_iff] at *
  rcases h with h | h
  · exact List.mem_append_left _ h
  · exact List.mem_append_right _ h

theorem who_mem (x y : ByteArray) : who x y ∈ [x, y] := by
  unfold who
  split <;> simp

theorem trust_of_both {ao : Option Addr} {zs : List ByteArray} {x y : ByteArray} (hx : Lib.containsS zs x = true) (hy : Lib.containsS zs y = true) : trustB ao zs x y = true := by
  unfold trustB who
  split <;> simp [hx, hy]

theorem getD_left {zs : List ByteArray} (ys : List ByteArray) {k : Nat} (h : k < zs.length) : zs.getD k ByteArray.empty = (zs ++ ys).getD k ByteArray.empty := by
  simp [List.getD, List.getElem?_append_left h]

theorem getD_right {zs : List ByteArray} (ys : List ByteArray) {n i : Nat} (h : zs.length = n) : (zs ++ ys).getD (n + i) ByteArray.empty = ys.getD i ByteArray.empty := by
  subst h
  simp [List.getD, List.getElem?_append_right]

theorem getD_sizes {zs ys : List ByteArray} {B : Nat} (h : ∀ j, (zs.getD j ByteArray.empty).size ≤ B) (g : ∀ y ∈ ys, y.size ≤ B) (j : Nat) : ((zs ++ ys).getD j ByteArray.empty).size ≤ B := by
  by_cases hj : j < zs.length
  · rw [← getD_left ys hj]; exact h j
  · obtain ⟨i, rfl⟩ : ∃ i, j = zs.length + i := ⟨j - zs.length, by omega⟩
    rw [getD_right ys rfl]
    by_cases hi : i < ys.length
    · simp only [List.getD, List.getElem?_eq_getElem hi, Option.getD_some]
      exact g _ (List.getElem_mem _)
    · simp only [List.getD, List.getElem?_eq_none (Nat.le_of_not_lt hi), Option.getD_none]
      exact Nat.zero_le _

set_option maxHeartbeats 1000000 in
theorem law_walk (ao : Option Addr) (len cap : Nat) (zs : List ByteArray) (extra arn role : ByteArray) (w : World) (hr : IsRow w ao len zs) (hn : ao = none → len = 0 ∧ cap = 0)
    (h1 : extra.size ≤ 9223372036854775807) (h2 : arn.size ≤ 9223372036854775807) (h3 : role.size ≤ 9223372036854775807) :
    Calls Trym.prog 4 #[.slice ao len cap, .string extra, .string arn, .string role] w fun e w' => e = .returned (.bool true) ∧ Below w.heap.size w w' := by
  have hqe := fun (a : Option Addr) (n c n' c' : Nat) (wx : World) => Lib.run_eql_slice_nil (P := Trym.prog) wx 22 9 a n c n' c' Trym.underlying22
  have hqn := fun (a : Option Addr) (n c n' c' : Nat) (wx : World) => run_neq_slice_nil_any (P := Trym.prog) wx 22 9 a n c n' c' Trym.underlying22
  obtain ⟨i0, hi, hz0, hz1, hz2⟩ := info_parts Trym.info9
  go_enter Trym.func4, Trym.ntmps4
  go_wp2_with fail
  refine (bytes_any ao len cap zs extra arn role _ hr h1 h2 h3).mono ?_
  rintro e w' ⟨⟨b, rfl⟩, hw⟩
  subst hw
  cases b
  · go_wp2
    go_ret
    exact ⟨rfl, Below.refl _ _⟩
  go_wp2_with fail
  refine (sizeOK_any ao len cap zs extra arn role _ hr h1 h2 h3).mono ?_
  rintro e w' ⟨⟨b, rfl, hlen⟩, hw⟩
  subst hw
  cases b
  · go_wp2
    go_ret
    exact ⟨rfl, Below.refl _ _⟩
  have hlen2 : len ≤ 65536 := hlen rfl
  clear hlen
  go_wp2_with fail
  refine (copy_opt ao len cap zs _ hr hn hlen2).mono ?_
  rintro e w1 ⟨ao1, rfl, hr1, hb1⟩
  go_wp2_with fail
  refine (trusts_nil arn role _).mono ?_
  rintro e w2 ⟨rfl, hb2⟩
  go_wp2_with fail
  refine (trusts_empty _ arn role _).mono ?_
  rintro e w3 ⟨rfl, hb3⟩
  have hb3' : Below w1.heap.size w1 w3 := (hb2.alloc hb2.size _).trans (hb3.mono (by have := hb2.size; simp; omega))
  have hr3 : IsRow w3 ao1 len zs := hr1.below hb3'
  have hb4 : Below w'.heap.size w' w3 := hb1.trans (hb3'.mono hb1.size)
  clear hb3 hb2 hb3' hr1 hb1 hqe
  go_upto_region 10 with fail
  go_cut [51] from 37 to 51 (fun v wr => v = .bool false ∧ IsRow wr ao1 len zs ∧ Below w'.heap.size w' wr)
  case first =>
    have h3 : Lib.containsS zs arn = false ∨ (Lib.containsS zs arn = true ∧ Lib.containsS zs role = false) ∨ (Lib.containsS zs arn = true ∧ Lib.containsS zs role = true ∧ trustB ao1 zs arn role = true) := by
      cases hA : Lib.containsS zs arn
      · exact .inl rfl
      · cases hR : Lib.containsS zs role
        · exact .inr (.inl ⟨rfl, rfl⟩)
        · exact .inr (.inr ⟨rfl, rfl, trust_of_both hA hR⟩)
    rcases h3 with hA | ⟨hA, hR⟩ | ⟨hA, hR, hT⟩
    · go_wp2_with fail
      refine (has_any ao1 len len zs arn _ hr3).mono ?_
      rintro e w' ⟨rfl, hw⟩
      subst hw
      go_wp2_with fail
      go_meet
      exact ⟨rfl, hr3, hb4⟩
    · go_wp2_with fail
      refine (has_any ao1 len len zs arn _ hr3).mono ?_
      rintro e w' ⟨rfl, hw⟩
      subst hw
      go_wp2_with fail
      refine (has_any ao1 len len zs role _ hr3).mono ?_
      rintro e w' ⟨rfl, hw⟩
      subst hw
      go_wp2_with fail
      go_meet
      exact ⟨rfl, hr3, hb4⟩
    · go_wp2_with fail
      refine (has_any ao1 len len zs arn _ hr3).mono ?_
      rintro e w' ⟨rfl, hw⟩
      subst hw
      go_wp2_with fail
      refine (has_any ao1 len len zs role _ hr3).mono ?_
      rintro e w' ⟨rfl, hw⟩
      subst hw
      go_wp2_with fail
      refine (trusts_opt ao1 len zs arn role _ hr3).mono ?_
      rintro e w4 ⟨rfl, hb5⟩
      go_wp2_with fail
      go_meet
      exact ⟨rfl, hr3.below hb5, hb4.trans (hb5.mono hb4.size)⟩
  case rest =>
    obtain ⟨rfl, hr5, hb5⟩ := hcut
    clear hr3 hb4
    go_wp2_with (at_make; refine wpList_make_full _ rfl _ _ 22 rfl wc.heap.size 9 i0 (.string ByteArray.empty) 1 Trym.underlying22 hi hz0 hz1 .i64 .i64 _ _ (len + 2) rfl rfl (by omega) (by omega) (by rw [hz2]; omega) (by unfold maxLen; omega) (Nat.le_refl _) ?_)
    intro w6 hown hg
    have HZ : Hid (zs.length = len) := hr5.1
    have hf6 := Fill.of_owns hown (zs ++ [arn, role])
    have hb6 : Below wc.heap.size wc w6 := (Below.refl _ _).grown hg (Nat.le_refl _) (by simp)
    clear hown hg
    go_wp2_with fail
    go_loopw [11] (fun i wr => ∃ k : Nat, k ≤ len ∧ i = .int .i64 k ∧ Fill wr wc.heap.size (len + 2) k (zs ++ [arn, role]) ∧ Below wc.heap.size wc wr) (fun i _ => len - (intOf i).toNat)
    case atStart => exact ⟨0, Nat.zero_le _, rfl, hf6, hb6⟩
    case round =>
      obtain ⟨k, hk, rfl, hfr, hbr⟩ := hrel
      by_cases hlt : k < len
      · obtain ⟨b, off, rfl, hck⟩ := (hr5.below hbr).at hlt
        obtain ⟨v, hv⟩ := hfr.at (show k < len + 2 by omega)
        have hfz := hfr.free k
        go_wp2_with fail
        go_roundw
        case rel => exact ⟨k + 1, by omega, by go_num, hfr.step (by omega) (getD_left _ (by rw [HZ.out]; exact hlt)), hbr.setCell (Nat.le_refl _) _⟩
        case measure => simp [intOf]; omega
      · obtain rfl : k = len := by omega
        obtain ⟨v, hv⟩ := hfr.at (show k < k + 2 by omega)
        have hfz := hfr.free k
        have hf7 := hfr.step (by omega) (s := arn) (getD_right (i := 0) [arn, role] HZ.out).symm
        obtain ⟨v7, hv7⟩ := hf7.at (show k + 1 < k + 2 by omega)
        have hfz7 := hf7.free (k + 1)
        have hf8 := hf7.step (by omega) (s := role) (getD_right (i := 1) [arn, role] HZ.out).symm
        have hr8 := hf8.row (by simp [HZ.out]) (by omega) (getD_sizes hr5.2.2.1 (by intro y hy; simp at hy; rcases hy with rfl | rfl <;> assumption))
        have hb8 := (hbr.setCell (p := ⟨wc.heap.size, k, none⟩) (Nat.le_refl _) (.string arn)).setCell (p := ⟨wc.heap.size, k + 1, none⟩) (Nat.le_refl _) (.string role)
        have hT8 := containsS_append zs [arn, role] (who arn role) (.inr (who_mem arn role))
        go_wp2_with fail
        refine (trusts_any _ _ _ _ arn role _ hr8).mono ?_
        rintro e w9 ⟨rfl, hb9⟩
        have hb10 : Below wc.heap.size wc w9 := hb8.trans (hb9.mono hb8.size)
        have hr9 : IsRow w9 ao1 k zs := hr5.below hb10
        have hb11 : Below w'.heap.size w' w9 := hb5.trans (hb10.mono hb5.size)
        rw [hT8]
        clear hb8 hb9 hb10 hr8 hf8 hv7 hfz7 hf7 hv hfz hT8 hfr hbr hf6 hb6 hr5 hb5
        cases ao1 with
        | none =>
          go_wp2_with fail
          go_ret
          exact ⟨rfl, hb11⟩
        | some a1 =>
          go_wp2_with fail
          refine (trusts_any a1 k k zs arn role _ hr9).mono ?_
          rintro e w12 ⟨rfl, hb12⟩
          have hr12 := hr9.below hb12
          have hb13 : Below w'.heap.size w' w12 := hb11.trans (hb12.mono hb11.size)
          clear hb12 hb11 hr9
          go_wp2_with (at_make; refine wpList_make_full _ rfl _ _ 22 rfl w12.heap.size 9 i0 (.string ByteArray.empty) 1 Trym.underlying22 hi hz0 hz1 .i64 .i64 _ _ (k + 1) rfl rfl (by omega) (by omega) (by rw [hz2]; omega) (by unfold maxLen; omega) (Nat.le_refl _) ?_)
          intro w14 hown hg
          have hf14 := Fill.of_owns hown (zs ++ [extra])
          have hb14 : Below w12.heap.size w12 w14 := (Below.refl _ _).grown hg (Nat.le_refl _) (by simp)
          clear hown hg
          go_wp2_with fail
          go_loopw [14] (fun i wr => ∃ m : Nat, m ≤ k ∧ i = .int .i64 m ∧ Fill wr w12.heap.size (k + 1) m (zs ++ [extra]) ∧ Below w12.heap.size w12 wr) (fun i _ => k - (intOf i).toNat)
          case atStart => exact ⟨0, Nat.zero_le _, rfl, hf14, hb14⟩
          case round =>
            obtain ⟨m, hm, rfl, hfr, hbr⟩ := hrel
            by_cases hlt2 : m < k
            · obtain ⟨b, off, ha, hck⟩ := (hr12.below hbr).at hlt2
              obtain rfl := Option.some.inj ha
              obtain ⟨v, hv⟩ := hfr.at (show m < k + 1 by omega)
              have hfz := hfr.free m
              go_wp2_with fail
              go_roundw
              case rel => exact ⟨m + 1, by omega, by go_num, hfr.step (by omega) (getD_left _ (by rw [HZ.out]; exact hlt2)), hbr.setCell (Nat.le_refl _) _⟩
              case measure => simp [intOf]; omega
            · obtain rfl : m = k := by omega
              obtain ⟨v, hv⟩ := hfr.at (show m < m + 1 by omega)
              have hfz := hfr.free m
              have hf15 := hfr.step (by omega) (s := extra) (getD_right (i := 0) [extra] HZ.out).symm
              have hr15 := hf15.row (by simp [HZ.out]) (by omega) (getD_sizes hr12.2.2.1 (by intro y hy; simp at hy; subst hy; assumption))
              have hb15 := hbr.setCell (p := ⟨w12.heap.size, m, none⟩) (Nat.le_refl _) (.string extra)
              have hb16 : Below w'.heap.size w' _ := hb13.trans (hb15.mono hb13.size)
              cases hT : Lib.containsS zs (who arn role) with
              | false =>
                go_wp2_with fail
                go_ret
                exact ⟨rfl, hb16⟩
              | true =>
                have hT2 := containsS_append zs [extra] (who arn role) (.inl hT)
                go_wp2_with fail
                refine (trusts_any _ _ _ _ arn role _ hr15).mono ?_
                rintro e w17 ⟨rfl, hb17⟩
                have hb18 : Below w'.heap.size w' w17 := hb16.trans (hb17.mono hb16.size)
                rw [hT2]
                go_wp2_with fail
                go_ret
                exact ⟨rfl, hb18⟩
end Go.Proofs.Qxb6600111aMods
