import Derived.Test.Qxb6600436aModsWalkD
namespace Go.Proofs.Qxb6600436aMods
open Go.RowKit

theorem empty_test {s : ByteArray} : s.toList.isEmpty = decide (s = ByteArray.empty) := by
  rw [Bool.eq_iff_iff, decide_eq_true_eq, List.isEmpty_iff, ByteArray.toList_eq]
  exact ⟨fun h => ByteArray.ext (by simpa using h), fun h => by rw [h]; rfl⟩

theorem car_take_succ {zs : List ByteArray} {k n : Nat} (hl : zs.length = n) (h : k < n) : Plain.car (zs.take (k + 1)) = Plain.car (zs.take k) + if zs.getD k ByteArray.empty = ByteArray.empty then 0 else 1 := by
  rw [take_snoc (by omega), Plain.car_snoc]

set_option maxRecDepth 100000 in
set_option maxHeartbeats 4000000 in
theorem plur_any (ao : Option Addr) (n cap e : Nat) (zs : List ByteArray) (w : World) (hr : MsgRow w ao n zs) (hn : n ≤ 4096) (_he : e ≤ 9223372036854775807) (hne : n < 2 * e)
    (hsz : ∀ j, (zs.getD j ByteArray.empty).size ≤ 9223372036854775807) :
    Calls Trym.prog 20 #[.slice ao n cap, .int .i64 1, .int .i64 e] w fun x w' => RetG zs e x ∧ Below w.heap.size w w' := by
  have HL : Hid (zs.length = n) := hr.1
  go_enter Trym.func20, Trym.ntmps20
  go_wp2_with fail
  go_loopw [11, 12, 23] (fun cv xv i wr => ∃ (k cr can c0 c1 s0 s1 : Nat) (v0 v1 : ByteArray), k ≤ n ∧ i = .int .i64 k ∧ cv = .int .i64 cr ∧ xv = .int .i64 can ∧ Hid (cr = Plain.car (zs.take k)) ∧ St wr w.heap.size v0 v1 c0 c1 s0 s1 ∧ Below w.heap.size w wr ∧ Plain.Inv (zs.take k) v0 v1 c0 c1 s0 s1 can)
    (fun _ _ i _ => n - (intOf i).toNat)
  case atStart =>
    refine ⟨0, 0, 0, 0, 0, 0, 0, ByteArray.empty, ByteArray.empty, Nat.zero_le _, rfl, rfl, rfl, rfl, ⟨?_, ?_, ?_, Nat.zero_le _, Nat.zero_le _⟩, (((Below.refl _ _).alloc (Nat.le_refl _) _).alloc (by simp) _).alloc (by simp; omega) _, Plain.Inv.start⟩
    · rw [Below.heap_alloc _ _ _ (by simp; omega), Below.heap_alloc _ _ _ (by simp)]
      exact heap_alloc_new w _
    · rw [Below.heap_alloc _ _ _ (by simp)]
      have := heap_alloc_new (w.alloc (Obj.cells #[Value.string { data := #[] }, Value.string { data := #[] }] 41)) (Obj.cells #[Value.int IntKind.i64 0, Value.int IntKind.i64 0] 42)
      simpa using this
    · have := heap_alloc_new ((w.alloc (Obj.cells #[Value.string { data := #[] }, Value.string { data := #[] }] 41)).alloc (Obj.cells #[Value.int IntKind.i64 0, Value.int IntKind.i64 0] 42)) (Obj.cells #[Value.int IntKind.i64 0, Value.int IntKind.i64 0] 42)
      simpa using this
  case round =>
    obtain ⟨k, cr, can, c0, c1, s0, s1, v0, v1, hk, rfl, rfl, rfl, hcr, hst, hbr, hinv⟩ := hrel
    have hle : cr ≤ k := by
      have h1 := Plain.car_le (zs.take k)
      have h2 := hcr.out
      have h3 := List.length_take_le k zs
      omega
    have hsum := hinv.sum
    rw [← hcr.out] at hsum
    have hsum1 : c0 ≤ 4096 := by omega
    have hsum2 : c1 ≤ 4096 := by omega
    have hsum3 : can ≤ 4096 := by omega
    clear hsum
    by_cases hlt : k < n
    · obtain ⟨g, m, q, rfl, hm1, hm2, hm3⟩ := (hr.below hbr).2 k hlt
      obtain ⟨s, hs⟩ : ∃ s, s = zs.getD k ByteArray.empty := ⟨_, rfl⟩
      rw [← hs] at hm3
      have hsk : s.size ≤ 9223372036854775807 := by rw [hs]; exact hsz k
      have HS : Hid (s = zs.getD k ByteArray.empty) := hs
      have htk := take_snoc (zs := zs) (k := k) (by rw [HL.out]; exact hlt)
      rw [← hs] at htk
      have HT : Hid (zs.take (k + 1) = zs.take k ++ [s]) := htk
      clear hs htk
      obtain ⟨e0, e1, e2, e3, e4, e5⟩ := hst.cells
      obtain ⟨f0, f1, f2⟩ := hst.free
      by_cases hE : s = ByteArray.empty
      · have hd : s.toList.isEmpty = true := by rw [empty_test]; simpa using hE
        have hcar : Plain.car (zs.take (k + 1)) = cr := by rw [HT.out, Plain.car_snoc, if_pos hE, Nat.add_zero]; exact hcr.out.symm
        have hinv2 : Plain.Inv (zs.take (k + 1)) v0 v1 c0 c1 s0 s1 can := by rw [HT.out, hE]; exact hinv.blank
        have HC : Hid (Plain.car (zs.take (k + 1)) = cr) := hcar
        clear hE hcar
        go_wp2_with fail
        go_roundw
        case rel => exact ⟨k + 1, cr, can, c0, c1, s0, s1, v0, v1, by omega, by go_num, rfl, rfl, HC.out.symm, hst, hbr, hinv2⟩
        case measure => simp [intOf]; omega
      · have hd : s.toList.isEmpty = false := by rw [empty_test]; simpa using hE
        have HE : Hid (s ≠ ByteArray.empty) := hE
        have HC : Hid (Plain.car (zs.take (k + 1)) = cr + 1) := by show _ = _; rw [HT.out, Plain.car_snoc, if_neg hE, hcr.out]
        clear hE
        go_wp2_with fail
        refine (sameValue_any s v0 _ hsk hst.z0).mono ?_
        rintro x w1 ⟨rfl, nq, hw⟩
        have hst1 : St w1 w.heap.size v0 v1 c0 c1 s0 s1 := by rw [hw]; exact hst.drewN nq
        have hb1 : Below w.heap.size w w1 := by rw [hw]; exact below_drewN' hbr nq
        clear hw e0 e1 e2 e3 e4 e5 f0 f1 f2 hst hbr hm1 hm2 hm3
        obtain ⟨e0, e1, e2, e3, e4, e5⟩ := hst1.cells
        obtain ⟨f0, f1, f2⟩ := hst1.free
        cases hA : sameB s v0 with
        | true =>
          have HQ : Hid (s = v0) := of_decide_eq_true (p := s = v0) hA
          have hv0 : v0 ≠ ByteArray.empty := by rw [← HQ.out]; exact HE.out
          have hinv2 : Plain.Inv (zs.take (k + 1)) v0 v1 (c0 + 1) c1 s0 s1 can := by rw [HT.out, HQ.out]; exact hinv.hit0 hv0
          have hst2 : St (w1.setCell ⟨w.heap.size + 1, 0, none⟩ (.int .i64 ((c0 : Int) + 1))) w.heap.size v0 v1 (c0 + 1) c1 s0 s1 := hst1.setC0 (by omega)
          have hb2 : Below w.heap.size w (w1.setCell ⟨w.heap.size + 1, 0, none⟩ (.int .i64 ((c0 : Int) + 1))) := hb1.setCell (by simp) _
          by_cases h0 : s0 = 0
          · have hz : ((s0 : Int) == 0) = true := beq_iff_eq.2 (by omega)
            by_cases h1 : c0 + 1 + can = e
            · have hz2 : ((c0 : Int) + 1 + (can : Int) == (e : Int)) = true := beq_iff_eq.2 (by omega)
              have hG : Plain.Good zs e v0 e := by
                rw [h0] at hinv2
                exact hinv2.early0 (List.take_append_drop (k + 1) zs) hv0 h1 (by rw [HL.out]; exact hne)
              have HG : Hid (Plain.Good zs e v0 e) := hG
              clear h0 h1 hinv hinv2 hG hst1 hb1
              go_wp2_with fail
              go_ret2
              exact ⟨⟨v0, e, rfl, HG.out⟩, hb2⟩
            · have hz2 : ((c0 : Int) + 1 + (can : Int) == (e : Int)) = false := beq_eq_false_iff_ne.2 (by omega)
              clear h0 h1
              go_wp2_with fail
              go_roundw
              case rel => exact ⟨k + 1, cr + 1, can, c0 + 1, c1, s0, s1, v0, v1, by omega, by go_num, by go_num, rfl, HC.out.symm, hst2, hb2, hinv2⟩
              case measure => simp [intOf]; omega
          · have hz : ((s0 : Int) == 0) = false := beq_eq_false_iff_ne.2 (by omega)
            clear h0
            go_wp2_with fail
            go_roundw
            case rel => exact ⟨k + 1, cr + 1, can, c0 + 1, c1, s0, s1, v0, v1, by omega, by go_num, by go_num, rfl, HC.out.symm, hst2, hb2, hinv2⟩
            case measure => simp [intOf]; omega
        | false =>
          have HN0 : Hid (s ≠ v0) := of_decide_eq_false (p := s = v0) hA
          go_wp2_with fail
          refine (sameValue_any s v1 _ hsk hst1.z1).mono ?_
          rintro x w2 ⟨rfl, nq2, hw⟩
          have hst2 : St w2 w.heap.size v0 v1 c0 c1 s0 s1 := by rw [hw]; exact hst1.drewN nq2
          have hb2 : Below w.heap.size w w2 := by rw [hw]; exact below_drewN' hb1 nq2
          clear hw e0 e1 e2 e3 e4 e5 f0 f1 f2 hst1 hb1
          obtain ⟨e0, e1, e2, e3, e4, e5⟩ := hst2.cells
          obtain ⟨f0, f1, f2⟩ := hst2.free
          cases hB : sameB s v1 with
          | true =>
            have HQ : Hid (s = v1) := of_decide_eq_true (p := s = v1) hB
            have hv1 : v1 ≠ ByteArray.empty := by rw [← HQ.out]; exact HE.out
            have hv10 : v1 ≠ v0 := by rw [← HQ.out]; exact HN0.out
            have hinv2 : Plain.Inv (zs.take (k + 1)) v0 v1 c0 (c1 + 1) s0 s1 can := by rw [HT.out, HQ.out]; exact hinv.hit1 hv1 hv10
            have hst3 : St (w2.setCell ⟨w.heap.size + 1, 1, none⟩ (.int .i64 ((c1 : Int) + 1))) w.heap.size v0 v1 c0 (c1 + 1) s0 s1 := hst2.setC1 (by omega)
            have hb3 : Below w.heap.size w (w2.setCell ⟨w.heap.size + 1, 1, none⟩ (.int .i64 ((c1 : Int) + 1))) := hb2.setCell (by simp) _
            by_cases h0 : s1 = 0
            · have hz : ((s1 : Int) == 0) = true := beq_iff_eq.2 (by omega)
              by_cases h1 : c1 + 1 + can = e
              · have hz2 : ((c1 : Int) + 1 + (can : Int) == (e : Int)) = true := beq_iff_eq.2 (by omega)
                have hG : Plain.Good zs e v1 e := by
                  rw [h0] at hinv2
                  exact hinv2.early1 (List.take_append_drop (k + 1) zs) hv1 h1 (by rw [HL.out]; exact hne)
                have HG : Hid (Plain.Good zs e v1 e) := hG
                clear h0 h1 hinv hinv2 hG hst2 hb2
                go_wp2_with fail
                go_ret2
                exact ⟨⟨v1, e, rfl, HG.out⟩, hb3⟩
              · have hz2 : ((c1 : Int) + 1 + (can : Int) == (e : Int)) = false := beq_eq_false_iff_ne.2 (by omega)
                clear h0 h1
                go_wp2_with fail
                go_roundw
                case rel => exact ⟨k + 1, cr + 1, can, c0, c1 + 1, s0, s1, v0, v1, by omega, by go_num, by go_num, rfl, HC.out.symm, hst3, hb3, hinv2⟩
                case measure => simp [intOf]; omega
            · have hz : ((s1 : Int) == 0) = false := beq_eq_false_iff_ne.2 (by omega)
              clear h0
              go_wp2_with fail
              go_roundw
              case rel => exact ⟨k + 1, cr + 1, can, c0, c1 + 1, s0, s1, v0, v1, by omega, by go_num, by go_num, rfl, HC.out.symm, hst3, hb3, hinv2⟩
              case measure => simp [intOf]; omega
          | false =>
            have HN1 : Hid (s ≠ v1) := of_decide_eq_false (p := s = v1) hB
            by_cases h0 : c0 = 0
            · have hz : ((c0 : Int) == 0) = true := beq_iff_eq.2 (by omega)
              have hinv2 : Plain.Inv (zs.take (k + 1)) s v1 1 c1 can s1 can := by rw [HT.out]; rw [h0] at hinv; exact hinv.take0 HE.out HN0.out HN1.out
              have hst3 := ((hst2.setV0 hsk).setC0 (x := 1) (c := 1) rfl).setS0 (x := (can : Int)) (c := can) rfl
              have hb3 := ((hb2.setCell (p := ⟨w.heap.size, 0, none⟩) (Nat.le_refl _) (.string s)).setCell (p := ⟨w.heap.size + 1, 0, none⟩) (by simp) (.int .i64 1)).setCell (p := ⟨w.heap.size + 1 + 1, 0, none⟩) (by simp; omega) (.int .i64 (can : Int))
              clear h0
              go_wp2_with fail
              go_roundw
              case rel => exact ⟨k + 1, cr + 1, can, 1, c1, can, s1, s, v1, by omega, by go_num, by go_num, rfl, HC.out.symm, hst3, hb3, hinv2⟩
              case measure => simp [intOf]; omega
            · have hz : ((c0 : Int) == 0) = false := beq_eq_false_iff_ne.2 (by omega)
              by_cases h1 : c1 = 0
              · have hz1 : ((c1 : Int) == 0) = true := beq_iff_eq.2 (by omega)
                have hinv2 : Plain.Inv (zs.take (k + 1)) v0 s c0 1 s0 can can := by rw [HT.out]; rw [h1] at hinv; exact hinv.take1 HE.out HN0.out HN1.out
                have hst3 := ((hst2.setV1 hsk).setC1 (x := 1) (c := 1) rfl).setS1 (x := (can : Int)) (c := can) rfl
                have hb3 := ((hb2.setCell (p := ⟨w.heap.size, 1, none⟩) (Nat.le_refl _) (.string s)).setCell (p := ⟨w.heap.size + 1, 1, none⟩) (by simp) (.int .i64 1)).setCell (p := ⟨w.heap.size + 1 + 1, 1, none⟩) (by simp; omega) (.int .i64 (can : Int))
                clear h0 h1
                go_wp2_with fail
                go_roundw
                case rel => exact ⟨k + 1, cr + 1, can, c0, 1, s0, can, v0, s, by omega, by go_num, by go_num, rfl, HC.out.symm, hst3, hb3, hinv2⟩
                case measure => simp [intOf]; omega
              · have hz1 : ((c1 : Int) == 0) = false := beq_eq_false_iff_ne.2 (by omega)
                obtain ⟨d0, hd0⟩ : ∃ d0, c0 = d0 + 1 := ⟨c0 - 1, by omega⟩
                obtain ⟨d1, hd1⟩ : ∃ d1, c1 = d1 + 1 := ⟨c1 - 1, by omega⟩
                have hinv2 : Plain.Inv (zs.take (k + 1)) v0 v1 d0 d1 s0 s1 (can + 1) := by rw [HT.out]; rw [hd0, hd1] at hinv; exact hinv.cancel HE.out HN0.out HN1.out
                have hst3 := (hst2.setC0 (x := (c0 : Int) - 1) (c := d0) (by omega)).setC1 (x := (c1 : Int) - 1) (c := d1) (by omega)
                have hb3 := (hb2.setCell (p := ⟨w.heap.size + 1, 0, none⟩) (by simp) (.int .i64 ((c0 : Int) - 1))).setCell (p := ⟨w.heap.size + 1, 1, none⟩) (by simp) (.int .i64 ((c1 : Int) - 1))
                clear h0 h1 hd0 hd1
                go_wp2_with fail
                go_roundw
                case rel => exact ⟨k + 1, cr + 1, can + 1, d0, d1, s0, s1, v0, v1, by omega, by go_num, by go_num, by go_num, HC.out.symm, hst3, hb3, hinv2⟩
                case measure => simp [intOf]; omega
    · have hall : zs.take k = zs := List.take_of_length_le (by rw [HL.out]; omega)
      rw [hall] at hinv
      have HCR : Hid (cr = Plain.car zs) := by show _ = _; rw [hcr.out, hall]
      clear hall hcr
      by_cases hcan : can = 0
      · have HP : Hid (Plain.Pair zs v0 v1 c0 c1) := by rw [hcan] at hinv; exact hinv.pair0
        have hcan' : (can : Int) ≤ 0 := by omega
        clear hcan hinv
        obtain ⟨e0, e1, e2, e3, e4, e5⟩ := hst.cells
        by_cases hq1 : c0 < c1
        · have HG : Hid (Plain.Good zs e v1 c1) := HP.out.second (.inl hq1)
          have hq1' : (c0 : Int) < (c1 : Int) := by omega
          go_wp2_with fail
          go_quiet (fail)
          go_wp2_with fail
          go_ret2
          exact ⟨⟨v1, c1, rfl, HG.out⟩, below_drewN' hbr _⟩
        · have hq1' : (c1 : Int) ≤ (c0 : Int) := by omega
          by_cases hq2 : c1 = c0
          · have hz : ((c1 : Int) == (c0 : Int)) = true := beq_iff_eq.2 (by omega)
            cases hL : Op.bytesLess v1.toList v0.toList with
            | true =>
              have HG : Hid (Plain.Good zs e v1 c1) := HP.out.second (.inr ⟨hq2, hL⟩)
              clear hq2
              go_wp2_with fail
              go_quiet (fail)
              go_wp2_with fail
              go_ret2
              exact ⟨⟨v1, c1, rfl, HG.out⟩, below_drewN' hbr _⟩
            | false =>
              have HG : Hid (Plain.Good zs e v0 c0) := HP.out.first (.inr ⟨hq2, hL⟩)
              clear hq2
              go_wp2_with fail
              go_quiet (fail)
              go_wp2_with fail
              go_ret2
              exact ⟨⟨v0, c0, rfl, HG.out⟩, below_drewN' hbr _⟩
          · have hz : ((c1 : Int) == (c0 : Int)) = false := beq_eq_false_iff_ne.2 (by omega)
            have HG : Hid (Plain.Good zs e v0 c0) := HP.out.first (.inl (by omega))
            clear hq2
            go_wp2_with fail
            go_quiet (fail)
            go_wp2_with fail
            go_ret2
            exact ⟨⟨v0, c0, rfl, HG.out⟩, below_drewN' hbr _⟩
      · have hcan' : 0 < (can : Int) := by omega
        have hcan2 : 0 < can := by omega
        clear hcan
        obtain ⟨e0, e1, e2, e3, e4, e5⟩ := hst.cells
        obtain ⟨f0, f1, f2⟩ := hst.free
        go_wp2_with fail
        go_loop [16, 17, 111] (fun _ _ i => ∃ j : Nat, j ≤ 2 ∧ i = .int .i64 j) (fun _ _ i => 2 - (intOf i).toNat)
        case atStart => exact ⟨0, by omega, rfl⟩
        case round =>
          obtain ⟨j, hj, rfl⟩ := hrel
          rcases (show j = 0 ∨ j = 1 ∨ j = 2 by omega) with rfl | rfl | rfl
          · by_cases h0 : s0 = 0
            · have hz : ((s0 : Int) == 0) = true := beq_iff_eq.2 (by omega)
              by_cases h1 : cr < 2 * (c0 + can)
              · have h1' : (cr : Int) < 2 * ((c0 : Int) + (can : Int)) := by omega
                have HG : Hid (Plain.Good zs e v0 (c0 + can)) := by rw [h0] at hinv; exact hinv.half0 hcan2 (by rw [← HCR.out]; exact h1)
                clear h0
                go_wp2_with fail
                go_ret2
                exact ⟨⟨v0, c0 + can, by go_num, HG.out⟩, hbr⟩
              · have h1' : 2 * ((c0 : Int) + (can : Int)) ≤ (cr : Int) := by omega
                clear h0
                go_wp2_with fail
                go_round
                case rel => exact ⟨1, by omega, rfl⟩
                case measure => simp [intOf]
            · have hz : ((s0 : Int) == 0) = false := beq_eq_false_iff_ne.2 (by omega)
              clear h0
              go_wp2_with fail
              go_round
              case rel => exact ⟨1, by omega, rfl⟩
              case measure => simp [intOf]
          · by_cases h0 : s1 = 0
            · have hz : ((s1 : Int) == 0) = true := beq_iff_eq.2 (by omega)
              by_cases h1 : cr < 2 * (c1 + can)
              · have h1' : (cr : Int) < 2 * ((c1 : Int) + (can : Int)) := by omega
                have HG : Hid (Plain.Good zs e v1 (c1 + can)) := by rw [h0] at hinv; exact hinv.half1 hcan2 (by rw [← HCR.out]; exact h1)
                clear h0
                go_wp2_with fail
                go_ret2
                exact ⟨⟨v1, c1 + can, by go_num, HG.out⟩, hbr⟩
              · have h1' : 2 * ((c1 : Int) + (can : Int)) ≤ (cr : Int) := by omega
                clear h0
                go_wp2_with fail
                go_round
                case rel => exact ⟨2, by omega, rfl⟩
                case measure => simp [intOf]
            · have hz : ((s1 : Int) == 0) = false := beq_eq_false_iff_ne.2 (by omega)
              clear h0
              go_wp2_with fail
              go_round
              case rel => exact ⟨2, by omega, rfl⟩
              case measure => simp [intOf]
          · have HP : Hid (Plain.Pair zs v0 v1 (Plain.cnt zs v0) (Plain.cnt zs v1)) := hinv.pair2 hcan2
            have HH := hinv.held hcan2
            have HN : Hid (v0 ≠ v1) := hinv.ne HH.1
            have hst3 := (hst.setC0 (x := 0) (c := 0) rfl).setC1 (x := 0) (c := 0) rfl
            have hb3 := (hbr.setCell (p := ⟨w.heap.size + 1, 0, none⟩) (by simp) (.int .i64 0)).setCell (p := ⟨w.heap.size + 1, 1, none⟩) (by simp) (.int .i64 0)
            clear HH hinv
            go_wp2_with fail
            clear e0 e1 e2 e3 e4 e5 f0 f1 f2
            go_loopw [137] (fun i wx => ∃ (j d0 d1 : Nat), j ≤ n ∧ i = .int .i64 j ∧ Hid (d0 = Plain.cnt (zs.take j) v0) ∧ Hid (d1 = Plain.cnt (zs.take j) v1) ∧ d0 ≤ j ∧ d1 ≤ j ∧ St wx w.heap.size v0 v1 d0 d1 s0 s1 ∧ Below w.heap.size w wx) (fun i _ => n - (intOf i).toNat)
            case atStart => exact ⟨0, 0, 0, Nat.zero_le _, rfl, rfl, rfl, Nat.le_refl _, Nat.le_refl _, hst3, hb3⟩
            case round =>
              clear hst3 hb3 hst hbr
              obtain ⟨j, d0, d1, hj, rfl, hd0, hd1, hl0, hl1, hst, hbr⟩ := hrel
              by_cases hlt3 : j < n
              · obtain ⟨g, m, q, rfl, hm1, hm2, hm3⟩ := (hr.below hbr).2 j hlt3
                obtain ⟨s, hs⟩ : ∃ s, s = zs.getD j ByteArray.empty := ⟨_, rfl⟩
                rw [← hs] at hm3
                have hsk : s.size ≤ 9223372036854775807 := by rw [hs]; exact hsz j
                have ht0 := cnt_take_succ v0 HL.out hlt3
                have ht1 := cnt_take_succ v1 HL.out hlt3
                rw [← hs] at ht0 ht1
                have HT0 : Hid (_ = _) := ht0
                have HT1 : Hid (_ = _) := ht1
                clear hs ht0 ht1
                obtain ⟨e0, e1, e2, e3, e4, e5⟩ := hst.cells
                obtain ⟨f0, f1, f2⟩ := hst.free
                go_wp2_with fail
                refine (sameValue_any s v0 _ hsk hst.z0).mono ?_
                rintro x w1 ⟨rfl, nq, hw⟩
                have hst1 : St w1 w.heap.size v0 v1 d0 d1 s0 s1 := by rw [hw]; exact hst.drewN nq
                have hb1 : Below w.heap.size w w1 := by rw [hw]; exact below_drewN' hbr nq
                clear hw e0 e1 e2 e3 e4 e5 f0 f1 f2 hst hbr hm1 hm2 hm3
                obtain ⟨e0, e1, e2, e3, e4, e5⟩ := hst1.cells
                obtain ⟨f0, f1, f2⟩ := hst1.free
                cases hA : sameB s v0 with
                | true =>
                  have HQ : Hid (s = v0) := of_decide_eq_true (p := s = v0) hA
                  have hst2 : St (w1.setCell ⟨w.heap.size + 1, 0, none⟩ (.int .i64 ((d0 : Int) + 1))) w.heap.size v0 v1 (d0 + 1) d1 s0 s1 := hst1.setC0 (by omega)
                  have hb2 : Below w.heap.size w (w1.setCell ⟨w.heap.size + 1, 0, none⟩ (.int .i64 ((d0 : Int) + 1))) := hb1.setCell (by simp) _
                  have HD0 : Hid (d0 + 1 = Plain.cnt (zs.take (j + 1)) v0) := by show _ = _; rw [HT0.out, if_pos HQ.out, ← hd0.out]
                  have HD1 : Hid (d1 = Plain.cnt (zs.take (j + 1)) v1) := by show _ = _; rw [HT1.out, if_neg (by rw [HQ.out]; exact HN.out), ← hd1.out]; rfl
                  go_wp2_with fail
                  go_roundw
                  case rel => exact ⟨j + 1, d0 + 1, d1, by omega, by go_num, HD0, HD1, by omega, by omega, hst2, hb2⟩
                  case measure => simp [intOf]; omega
                | false =>
                  have HN0 : Hid (s ≠ v0) := of_decide_eq_false (p := s = v0) hA
                  have HD0 : Hid (d0 = Plain.cnt (zs.take (j + 1)) v0) := by show _ = _; rw [HT0.out, if_neg HN0.out, ← hd0.out]; rfl
                  go_wp2_with fail
                  refine (sameValue_any s v1 _ hsk hst1.z1).mono ?_
                  rintro x w2 ⟨rfl, nq2, hw⟩
                  have hst2 : St w2 w.heap.size v0 v1 d0 d1 s0 s1 := by rw [hw]; exact hst1.drewN nq2
                  have hb2 : Below w.heap.size w w2 := by rw [hw]; exact below_drewN' hb1 nq2
                  clear hw e0 e1 e2 e3 e4 e5 f0 f1 f2 hst1 hb1
                  obtain ⟨e0, e1, e2, e3, e4, e5⟩ := hst2.cells
                  obtain ⟨f0, f1, f2⟩ := hst2.free
                  cases hB : sameB s v1 with
                  | true =>
                    have HQ : Hid (s = v1) := of_decide_eq_true (p := s = v1) hB
                    have hst3 : St (w2.setCell ⟨w.heap.size + 1, 1, none⟩ (.int .i64 ((d1 : Int) + 1))) w.heap.size v0 v1 d0 (d1 + 1) s0 s1 := hst2.setC1 (by omega)
                    have hb3 : Below w.heap.size w (w2.setCell ⟨w.heap.size + 1, 1, none⟩ (.int .i64 ((d1 : Int) + 1))) := hb2.setCell (by simp) _
                    have HD1 : Hid (d1 + 1 = Plain.cnt (zs.take (j + 1)) v1) := by show _ = _; rw [HT1.out, if_pos HQ.out, ← hd1.out]
                    go_wp2_with fail
                    go_roundw
                    case rel => exact ⟨j + 1, d0, d1 + 1, by omega, by go_num, HD0, HD1, by omega, by omega, hst3, hb3⟩
                    case measure => simp [intOf]; omega
                  | false =>
                    have HN1 : Hid (s ≠ v1) := of_decide_eq_false (p := s = v1) hB
                    have HD1 : Hid (d1 = Plain.cnt (zs.take (j + 1)) v1) := by show _ = _; rw [HT1.out, if_neg HN1.out, ← hd1.out]; rfl
                    go_wp2_with fail
                    go_roundw
                    case rel => exact ⟨j + 1, d0, d1, by omega, by go_num, HD0, HD1, by omega, by omega, hst2, hb2⟩
                    case measure => simp [intOf]; omega
              · have hall : zs.take j = zs := List.take_of_length_le (by rw [HL.out]; omega)
                rw [← show d0 = Plain.cnt zs v0 by rw [hd0.out, hall], ← show d1 = Plain.cnt zs v1 by rw [hd1.out, hall]] at HP
                clear hall hd0 hd1
                obtain ⟨e0, e1, e2, e3, e4, e5⟩ := hst.cells
                by_cases hq1 : d0 < d1
                · have HG : Hid (Plain.Good zs e v1 d1) := HP.out.second (.inl hq1)
                  have hq1' : (d0 : Int) < (d1 : Int) := by omega
                  go_wp2_with fail
                  go_quiet (fail)
                  go_wp2_with fail
                  go_ret2
                  exact ⟨⟨v1, d1, rfl, HG.out⟩, below_drewN' hbr _⟩
                · have hq1' : (d1 : Int) ≤ (d0 : Int) := by omega
                  by_cases hq2 : d1 = d0
                  · have hz : ((d1 : Int) == (d0 : Int)) = true := beq_iff_eq.2 (by omega)
                    cases hL : Op.bytesLess v1.toList v0.toList with
                    | true =>
                      have HG : Hid (Plain.Good zs e v1 d1) := HP.out.second (.inr ⟨hq2, hL⟩)
                      clear hq2
                      go_wp2_with fail
                      go_quiet (fail)
                      go_wp2_with fail
                      go_ret2
                      exact ⟨⟨v1, d1, rfl, HG.out⟩, below_drewN' hbr _⟩
                    | false =>
                      have HG : Hid (Plain.Good zs e v0 d0) := HP.out.first (.inr ⟨hq2, hL⟩)
                      clear hq2
                      go_wp2_with fail
                      go_quiet (fail)
                      go_wp2_with fail
                      go_ret2
                      exact ⟨⟨v0, d0, rfl, HG.out⟩, below_drewN' hbr _⟩
                  · have hz : ((d1 : Int) == (d0 : Int)) = false := beq_eq_false_iff_ne.2 (by omega)
                    have HG : Hid (Plain.Good zs e v0 d0) := HP.out.first (.inl (by omega))
                    clear hq2
                    go_wp2_with fail
                    go_quiet (fail)
                    go_wp2_with fail
                    go_ret2
                    exact ⟨⟨v0, d0, rfl, HG.out⟩, below_drewN' hbr _⟩
end Go.Proofs.Qxb6600436aMods
