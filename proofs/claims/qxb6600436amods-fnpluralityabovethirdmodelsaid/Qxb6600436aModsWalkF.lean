import Derived.Test.Qxb6600436aModsWalkE
namespace Go.Proofs.Qxb6600436aMods
open Go.RowKit

theorem zzPlur_any (ao : Option Addr) (n cap e : Nat) (zs : List ByteArray) (w : World) (hr : MsgRow w ao n zs) (hn : n ≤ 4096) (he : e ≤ 9223372036854775807) (hne : n < 2 * e)
    (hsz : ∀ j, (zs.getD j ByteArray.empty).size ≤ 9223372036854775807) :
    Calls Trym.prog 10 #[.slice ao n cap, .int .i64 1, .int .i64 e] w fun x w' => RetG zs e x ∧ Below w.heap.size w w' := by
  go_enter Trym.func10, Trym.ntmps10
  go_wp2_with fail
  refine (plur_any ao n cap e zs _ hr hn he hne hsz).mono ?_
  rintro x w1 ⟨⟨v, c, rfl, hG⟩, hb⟩
  go_wp2_with fail
  go_ret2
  exact ⟨⟨v, c, rfl, hG⟩, hb⟩

theorem min_any (a b : Nat) (w : World) :
    Calls Trym.prog 12 #[.int .i64 (a : Int), .int .i64 (b : Int)] w fun x w' => x = .returned (.int .i64 ((min a b : Nat) : Int)) ∧ w' = w := by
  by_cases h : a < b
  · have H : Hid (min a b = a) := by show _ = _; omega
    go_enter Trym.func12, Trym.ntmps12
    go_wp2_with fail
    go_ret
    exact ⟨by rw [H.out]; rfl, rfl⟩
  · have H : Hid (min a b = b) := by show _ = _; omega
    go_enter Trym.func12, Trym.ntmps12
    go_wp2_with fail
    go_ret
    exact ⟨by rw [H.out]; rfl, rfl⟩

set_option maxRecDepth 100000 in
set_option maxHeartbeats 2000000 in
theorem law_walk (ao : Option Addr) (len cap : Nat) (zs : List ByteArray) (enough : Int) (w : World) (hr : IsRow w ao len zs) (hlo : -9223372036854775808 ≤ enough) (hhi : enough ≤ 9223372036854775807) :
    Calls Trym.prog 3 #[.slice ao len cap, .int .i64 enough] w fun e w' => e = .returned (.bool true) ∧ Below w.heap.size w w' := by
  have HL : Hid (zs.length = len) := hr.1
  have hb0 := hr.2.1
  go_enter Trym.func3, Trym.ntmps3
  go_wp2_with fail
  refine (bytes_any ao len cap zs enough _ hr).mono ?_
  rintro e w' ⟨⟨b, rfl⟩, hw⟩
  subst hw
  cases b
  · go_wp2_with fail
    go_ret
    exact ⟨rfl, Below.refl _ _⟩
  by_cases hlen : len ≤ 4096
  · have hlen' : (len : Int) ≤ 4096 := by omega
    go_wp2_with fail
    refine (stringBytes_any ao len cap zs _ hr).mono ?_
    rintro e w' ⟨⟨t, ht, rfl⟩, hw⟩
    subst hw
    by_cases ht2 : t ≤ 1048576
    · have ht' : (t : Int) ≤ 1048576 := by omega
      by_cases hen : enough ≤ (len : Int) / 2
      · go_wp2_with fail
        go_ret
        exact ⟨rfl, Below.refl _ _⟩
      · obtain ⟨e, rfl⟩ := Int.eq_ofNat_of_zero_le (show 0 ≤ enough by omega)
        have hne : len < 2 * e := by omega
        have hen' : (len : Int) / 2 < (e : Int) := by omega
        have he : e ≤ 9223372036854775807 := by omega
        clear hlo hhi hen
        go_wp2_with fail
        refine (messages_any ao len cap zs _ hr hlen).mono ?_
        rintro x w1 ⟨v, rfl, hm, hb1⟩
        obtain ⟨ao1, cap1, rfl⟩ := hm.shape
        have hrow := hm.row
        rw [HL.out] at hrow
        rw [HL.out]
        clear hm
        go_wp2_with fail
        refine (zzPlur_any ao1 len cap1 e zs _ hrow hlen he hne hr.2.2.1).mono ?_
        rintro x w2 ⟨⟨v, c, rfl, hG⟩, hb2⟩
        have hb3 : Below w'.heap.size w' w2 := hb1.trans (hb2.mono hb1.size)
        have hr2 := hr.below hb3
        have HG : Hid (Plain.Good zs e v c) := hG
        clear hG hb1 hb2 hrow
        go_wp2_with fail
        go_loop [8, 9, 10, 11, 12] (fun cv bv mv i _ => ∃ (k cr m : Nat) (b : ByteArray), k ≤ len ∧ cr ≤ k ∧ m ≤ len ∧ i = .int .i64 k ∧ cv = .int .i64 cr ∧ bv = .string b ∧ mv = .int .i64 m ∧ Hid (cr = Plain.car (zs.take k)) ∧ Hid (Plain.BestTo zs (zs.take k) b m)) (fun _ _ _ i _ => len - (intOf i).toNat)
        case atStart => exact ⟨0, 0, 0, ByteArray.empty, Nat.zero_le _, Nat.le_refl _, Nat.zero_le _, rfl, rfl, rfl, rfl, rfl, Plain.BestTo.start zs⟩
        case round =>
          obtain ⟨k, cr, m, b, hk, hcrk, hml, rfl, rfl, rfl, rfl, hcr, hbt⟩ := hrel
          by_cases hlt : k < len
          · obtain ⟨bb, off, rfl, hck⟩ := hr2.at hlt
            obtain ⟨s, hs⟩ : ∃ s, s = zs.getD k ByteArray.empty := ⟨_, rfl⟩
            rw [← hs] at hck
            have htk := take_snoc (zs := zs) (k := k) (by rw [HL.out]; exact hlt)
            rw [← hs] at htk
            have HT : Hid (zs.take (k + 1) = zs.take k ++ [s]) := htk
            have HM : Hid (s ∈ zs) := by
              have h1 : k < zs.length := by rw [HL.out]; exact hlt
              rw [hs]; simp only [List.getD, List.getElem?_eq_getElem h1, Option.getD_some]
              exact List.getElem_mem h1
            clear hs htk
            by_cases hE : s = ByteArray.empty
            · have hd : s.toList.isEmpty = true := by rw [empty_test]; simpa using hE
              have HC : Hid (cr = Plain.car (zs.take (k + 1))) := by show _ = _; rw [HT.out, Plain.car_snoc, if_pos hE, Nat.add_zero]; exact hcr.out
              have HB : Hid (Plain.BestTo zs (zs.take (k + 1)) b m) := by show Plain.BestTo _ _ _ _; rw [HT.out, hE]; exact hbt.out.blank
              clear hE
              go_wp2_with fail
              go_round
              case rel => exact ⟨k + 1, cr, m, b, by omega, by omega, hml, by go_num, rfl, rfl, rfl, HC, HB⟩
              case measure => simp [intOf]; omega
            · have hd : s.toList.isEmpty = false := by rw [empty_test]; simpa using hE
              have HE : Hid (s ≠ ByteArray.empty) := hE
              have HC : Hid (cr + 1 = Plain.car (zs.take (k + 1))) := by show _ = _; rw [HT.out, Plain.car_snoc, if_neg hE, hcr.out]
              clear hE
              go_wp2_with fail
              refine (count_any (some ⟨bb, off, none⟩) len cap zs s _ hr2).mono ?_
              rintro x w3 ⟨rfl, hw⟩
              subst hw
              obtain ⟨q, hq⟩ : ∃ q, q = Plain.cnt zs s := ⟨_, rfl⟩
              have hql : q ≤ len := by rw [hq, ← HL.out]; exact Plain.cnt_le zs s
              have HQ : Hid (q = Plain.cnt zs s) := hq
              rw [← hq]
              clear hq
              by_cases h1 : m < q
              · have h1' : (m : Int) < (q : Int) := by omega
                have HB : Hid (Plain.BestTo zs (zs.take (k + 1)) s q) := by show Plain.BestTo _ _ _ _; rw [HT.out, HQ.out]; exact hbt.out.more HE.out HM.out (.inl (by rw [← HQ.out]; exact h1))
                go_wp2_with fail
                go_round
                case rel => exact ⟨k + 1, cr + 1, q, s, by omega, by omega, hql, by go_num, by go_num, rfl, rfl, HC, HB⟩
                case measure => simp [intOf]; omega
              · have h1' : (q : Int) ≤ (m : Int) := by omega
                by_cases h2 : q = m
                · have hz : ((q : Int) == (m : Int)) = true := beq_iff_eq.2 (by omega)
                  cases hL : Op.bytesLess s.toList b.toList with
                  | true =>
                    have HB : Hid (Plain.BestTo zs (zs.take (k + 1)) s q) := by show Plain.BestTo _ _ _ _; rw [HT.out, HQ.out]; exact hbt.out.more HE.out HM.out (.inr ⟨by rw [← HQ.out]; exact h2, hL⟩)
                    clear h2
                    go_wp2_with fail
                    go_round
                    case rel => exact ⟨k + 1, cr + 1, q, s, by omega, by omega, hql, by go_num, by go_num, rfl, rfl, HC, HB⟩
                    case measure => simp [intOf]; omega
                  | false =>
                    have HB : Hid (Plain.BestTo zs (zs.take (k + 1)) b m) := by show Plain.BestTo _ _ _ _; rw [HT.out]; exact hbt.out.less HE.out HM.out (.inr ⟨by rw [← HQ.out]; exact h2, hL⟩)
                    clear h2
                    go_wp2_with fail
                    go_round
                    case rel => exact ⟨k + 1, cr + 1, m, b, by omega, by omega, hml, by go_num, by go_num, rfl, rfl, HC, HB⟩
                    case measure => simp [intOf]; omega
                · have hz : ((q : Int) == (m : Int)) = false := beq_eq_false_iff_ne.2 (by omega)
                  have HB : Hid (Plain.BestTo zs (zs.take (k + 1)) b m) := by show Plain.BestTo _ _ _ _; rw [HT.out]; exact hbt.out.less HE.out HM.out (.inl (by rw [← HQ.out]; omega))
                  clear h2
                  go_wp2_with fail
                  go_round
                  case rel => exact ⟨k + 1, cr + 1, m, b, by omega, by omega, hml, by go_num, by go_num, rfl, rfl, HC, HB⟩
                  case measure => simp [intOf]; omega
          · have hall : zs.take k = zs := List.take_of_length_le (by rw [HL.out]; omega)
            rw [hall] at hcr hbt
            clear hall
            by_cases h0 : cr = 0
            · have hz : ((cr : Int) == 0) = true := beq_iff_eq.2 (by omega)
              obtain ⟨g1, g2⟩ := HG.out.1 (by rw [← hcr.out]; exact h0)
              have hd : v.toList.isEmpty = true := by rw [empty_test]; simpa using g1
              have hz2 : ((c : Int) == 0) = true := beq_iff_eq.2 (by omega)
              clear g1 g2 h0
              go_wp2_with fail
              go_ret
              exact ⟨rfl, hb3⟩
            · have hz : ((cr : Int) == 0) = false := beq_eq_false_iff_ne.2 (by omega)
              have hpos : 0 < Plain.car zs := by rw [← hcr.out]; omega
              obtain ⟨g1, g2, g3, g4, g5⟩ := HG.out.2 hpos
              obtain ⟨b1, b2⟩ := hbt.out.best hpos
              have hd : v.toList.isEmpty = false := by rw [empty_test]; simpa using g1
              have HV : Hid (cr < 3 * m → v = b) := fun h => g5 b b1 (by rw [← hcr.out, ← b2]; exact h)
              obtain ⟨q, hq⟩ : ∃ q, q = Plain.cnt zs v := ⟨_, rfl⟩
              have hql : q ≤ len := by rw [hq, ← HL.out]; exact Plain.cnt_le zs v
              rw [← hq] at g2 g3 g4
              have hz2 : ((q : Int) == 0) = false := beq_eq_false_iff_ne.2 (by omega)
              have hz3 : (((min c e : Nat) : Int) != ((min q e : Nat) : Int)) = false := by rw [g4]; simp
              have hcq : (c : Int) ≤ (q : Int) := by omega
              have HQ : Hid (q = Plain.cnt zs v) := hq
              clear g1 g4 g5 b1 b2 hq h0
              go_wp2_with fail
              refine (count_any ao len cap zs v _ hr2).mono ?_
              rintro x w3 ⟨rfl, hw⟩
              subst hw
              rw [← HQ.out]
              go_wp2_with fail
              refine (min_any c e _).mono ?_
              rintro x w3 ⟨rfl, hw⟩
              subst hw
              go_wp2_with fail
              refine (min_any q e _).mono ?_
              rintro x w3 ⟨rfl, hw⟩
              subst hw
              by_cases h3 : cr < 3 * m
              · have h3' : (cr : Int) < 3 * (m : Int) := by omega
                have hvb := HV.out h3
                have hz4 : (v.toList == b.toList) = true := by rw [hvb]; simp
                clear hvb
                go_wp2_with fail
                go_ret
                exact ⟨rfl, hb3⟩
              · have h3' : 3 * (m : Int) ≤ (cr : Int) := by omega
                go_wp2_with fail
                go_ret
                exact ⟨rfl, hb3⟩
    · have ht' : 1048576 < (t : Int) := by omega
      go_wp2_with fail
      go_ret
      exact ⟨rfl, Below.refl _ _⟩
  · have hlen' : 4096 < (len : Int) := by omega
    go_wp2_with fail
    go_ret
    exact ⟨rfl, Below.refl _ _⟩
end Go.Proofs.Qxb6600436aMods
