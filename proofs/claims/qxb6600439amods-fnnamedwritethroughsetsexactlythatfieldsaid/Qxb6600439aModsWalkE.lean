import Derived.Test.Qxb6600439aModsWalkD
import Derived.Deep.RegionWith
namespace Go.Proofs.Qxb6600439aMods
open Go.RowKit

theorem name_any (s : ByteArray) (p : Addr) (w : World) :
    Calls Trym.prog 10 #[.agg #[.string s, .pointer (some p)]] w fun x w' => x = .returned (.string s) ∧ Below w.heap.size w w' := by
  go_enter Trym.func10, Trym.ntmps10
  go_wp2_with fail
  go_ret
  exact ⟨rfl, (Below.refl _ _).alloc (Nat.le_refl _) _⟩

theorem ptr_any (s : ByteArray) (p : Addr) (w : World) :
    Calls Trym.prog 11 #[.agg #[.string s, .pointer (some p)]] w fun x w' => x = .returned (.pointer (some p)) ∧ Below w.heap.size w w' := by
  go_enter Trym.func11, Trym.ntmps11
  go_wp2_with fail
  go_ret
  exact ⟨rfl, (Below.refl _ _).alloc (Nat.le_refl _) _⟩

theorem heap_lt {w : World} {k : Nat} {o : Obj} (h : w.heap[k]? = some o) : k < w.heap.size := (Array.getElem?_eq_some_iff.1 h).1

theorem keep {w w' : World} {k : Nat} {o : Obj} (h : w.heap[k]? = some o) (hb : Below w.heap.size w w') : w'.heap[k]? = some o := by
  rw [hb.block k (heap_lt h)]; exact h

set_option maxRecDepth 100000 in
set_option maxHeartbeats 4000000 in
theorem law_walk (a b c d e f g h i j : ByteArray) (w : World) (ha : a.size ≤ 9223372036854775807) (hb : b.size ≤ 9223372036854775807) (hc : c.size ≤ 9223372036854775807) (hd : d.size ≤ 9223372036854775807) (he : e.size ≤ 9223372036854775807)
    (hf : f.size ≤ 9223372036854775807) (hg : g.size ≤ 9223372036854775807) (hh : h.size ≤ 9223372036854775807) (hi : i.size ≤ 9223372036854775807) (hj : j.size ≤ 9223372036854775807) :
    Calls Trym.prog 3 #[.string a, .string b, .string c, .string d, .string e, .string f, .string g, .string h, .string i, .string j] w fun x w' => x = .returned (.bool true) ∧ Below w.heap.size w w' := by
  go_enter Trym.func3, Trym.ntmps3
  go_wp2_with fail
  refine (bytes_any a b c d e f g h i j _ ha hb hc hd he hf hg hh hi hj).mono ?_
  rintro x w' ⟨⟨r, rfl, hr⟩, hw⟩
  subst hw
  cases r
  · go_wp2_with fail
    go_ret
    exact ⟨rfl, Below.refl _ _⟩
  have hs : a.size + b.size + c.size + d.size + e.size + f.size + g.size + h.size + i.size + j.size ≤ 1048576 := hr rfl
  clear hr ha hb hc hd he hf hg hh hi hj
  go_wp2_with fail
  refine (tooBig_no a b c d e f g h i j _ hs).mono ?_
  rintro x w ⟨rfl, hw⟩
  subst hw
  go_wp2_with fail
  refine (build_any a b c d e f g h i j _).mono ?_
  rintro x w1 ⟨rfl, hb1⟩
  unfold ten
  obtain ⟨B, HB⟩ : ∃ B, Hid (B = w1.heap.size) := ⟨_, rfl⟩
  have hz0 : (w1.alloc (.cells #[.string a, .string b, .string c, .string d, .string e, .string f, .string g, .string h, .string i, .string j] 24)).heap[B]? = some (.cells (ten a b c d e f g h i j) 24 (0, 0)) := by rw [HB.out]; exact heap_alloc_new w1 _
  have hb2 : Below w.heap.size w (w1.alloc (.cells #[.string a, .string b, .string c, .string d, .string e, .string f, .string g, .string h, .string i, .string j] 24)) := hb1.alloc hb1.size _
  go_wp2_with fail
  rw [← HB.out]
  go_loopw [22] (fun n wr => ∃ m : Nat, m ≤ 8 ∧ n = .int .i64 m ∧ wr.heap[B]? = some (.cells (ten a b c d e f g h i j) 24 (0, 0)) ∧ Below w.heap.size w wr) (fun n _ => 8 - (intOf n).toNat)
  case atStart => exact ⟨0, by omega, rfl, hz0, hb2⟩
  case round =>
    clear hz0 hb2
    obtain ⟨m, hm, rfl, hz, hbr⟩ := hrel
    rcases (show m = 0 ∨ m = 1 ∨ m = 2 ∨ m = 3 ∨ m = 4 ∨ m = 5 ∨ m = 6 ∨ m = 7 ∨ m = 8 by omega) with rfl | rfl | rfl | rfl | rfl | rfl | rfl | rfl | rfl
    · obtain ⟨x0, x1, x2, x3, x4, x5, x6, x7, x8, x9⟩ := ten_cells a b c d e f g h i j hz
      go_wp2_with fail
      refine (newKeys_any a b c d e f g h i j _).mono ?_
      rintro x w1 ⟨rfl, hK1, hb1⟩
      have hz1 := keep hz hb1
      have hB1 : Below w.heap.size w w1 := hbr.trans (hb1.mono hbr.size)
      have hKne : wr.heap.size + 1 ≠ B := by have := heap_lt hz; omega
      have hKlo : w.heap.size ≤ wr.heap.size + 1 := by have := hbr.size; omega
      obtain ⟨K, HK⟩ : ∃ K, Hid (K = wr.heap.size + 1) := ⟨_, rfl⟩
      rw [← HK.out] at hK1 hKne hKlo
      rw [← HK.out]
      clear x0 x1 x2 x3 x4 x5 x6 x7 x8 x9 hz hbr hb1
      go_wp2_with fail
      refine (zzNamed_any K _).mono ?_
      rintro x w2 ⟨rfl, hG2, hb2⟩
      have hz2 := keep hz1 hb2
      have hK2 := keep hK1 hb2
      have hB2 : Below w.heap.size w w2 := hB1.trans (hb2.mono hB1.size)
      obtain ⟨G, HG⟩ : ∃ G, Hid (G = w1.heap.size) := ⟨_, rfl⟩
      rw [← HG.out] at hG2
      rw [← HG.out]
      have g0 : w2.cell? ⟨G, 0, none⟩ = some (.string ⟨#[100, 101, 108, 97, 121, 101, 100]⟩) := by rw [cell_of_row w2 _ _ _ _ _ hG2]; rfl
      have g1 : w2.cell? ⟨G, 1, none⟩ = some (.pointer (some ⟨K, 0, none⟩)) := by rw [cell_of_row w2 _ _ _ _ _ hG2]; rfl
      clear hz1 hK1 hB1 hb2
      go_wp2_with fail
      refine (name_any _ _ _).mono ?_
      rintro x w3 ⟨rfl, hb3⟩
      have hz3 := keep hz2 hb3
      have hK3 := keep hK2 hb3
      have hG3 := keep hG2 hb3
      have hB3 : Below w.heap.size w w3 := hB2.trans (hb3.mono hB2.size)
      clear g0 g1 hz2 hK2 hG2 hB2 hb3
      have g0 : w3.cell? ⟨G, 0, none⟩ = some (.string ⟨#[100, 101, 108, 97, 121, 101, 100]⟩) := by rw [cell_of_row w3 _ _ _ _ _ hG3]; rfl
      have g1 : w3.cell? ⟨G, 1, none⟩ = some (.pointer (some ⟨K, 0, none⟩)) := by rw [cell_of_row w3 _ _ _ _ _ hG3]; rfl
      go_wp2_with fail
      refine (ptr_any _ _ _).mono ?_
      rintro x w4 ⟨rfl, hb4⟩
      have hz4 := keep hz3 hb4
      have hK4 := keep hK3 hb4
      have hB4 : Below w.heap.size w w4 := hB3.trans (hb4.mono hB3.size)
      clear g0 g1 hz3 hK3 hG3 hB3 hb4
      have q0 : w4.cell? ⟨K, 0, none⟩ = some (.string a) := by rw [cell_of_row w4 _ _ _ _ _ hK4]; rfl
      have q1 : w4.frozen? ⟨K, 0, none⟩ = false := frozen_of_row w4 _ _ _ _ hK4
      go_upto_region 19 with fail
      generalize a ++ ({ data := #[126] } : ByteArray) = nv
      have hK5 : (w4.setCell ⟨K, 0, none⟩ (.string nv)).heap[K]? = some (.cells (ten nv b c d e f g h i j) 39 (0, 0)) := by rw [heap_setCell_same w4 _ _ _ _ _ hK4]; rfl
      have hz5 : (w4.setCell ⟨K, 0, none⟩ (.string nv)).heap[B]? = some (.cells (ten a b c d e f g h i j) 24 (0, 0)) := by rw [Below.heap_setCell _ _ _ _ (fun e => hKne e.symm)]; exact hz4
      have hB5 : Below w.heap.size w (w4.setCell ⟨K, 0, none⟩ (.string nv)) := hB4.setCell hKlo _
      clear q0 q1 hz4 hK4 hB4
      generalize w4.setCell ⟨K, 0, none⟩ (.string nv) = w5 at *
      obtain ⟨x0, x1, x2, x3, x4, x5, x6, x7, x8, x9⟩ := ten_cells a b c d e f g h i j hz5
      go_wp2_with fail
      refine (set0 a b c d e f g h i j nv _).mono ?_
      rintro x w6 ⟨rfl, hb6⟩
      have hz6 := keep hz5 hb6
      have hK6 := keep hK5 hb6
      have hB6 : Below w.heap.size w w6 := hB5.trans (hb6.mono hB5.size)
      clear x0 x1 x2 x3 x4 x5 x6 x7 x8 x9 hz5 hK5 hB5 hb6
      unfold ten
      go_upto_region 22 with fail
      obtain ⟨T, HT⟩ : ∃ T, Hid (T = w6.heap.size) := ⟨_, rfl⟩
      have ha7 : Below w6.heap.size w6 (w6.alloc (.cells #[.string nv, .string b, .string c, .string d, .string e, .string f, .string g, .string h, .string i, .string j] 24)) := (Below.refl _ _).alloc (Nat.le_refl _) _
      have hz7 := keep hz6 ha7
      have hK7 := keep hK6 ha7
      have hB7 : Below w.heap.size w (w6.alloc (.cells #[.string nv, .string b, .string c, .string d, .string e, .string f, .string g, .string h, .string i, .string j] 24)) := hB6.trans (ha7.mono hB6.size)
      have hT7 : (w6.alloc (.cells #[.string nv, .string b, .string c, .string d, .string e, .string f, .string g, .string h, .string i, .string j] 24)).heap[T]? = some (.cells (ten nv b c d e f g h i j) 24 (0, 0)) := by rw [HT.out]; exact heap_alloc_new w6 _
      rw [← HT.out]
      clear ha7 hz6 hK6 hB6
      generalize w6.alloc (.cells #[.string nv, .string b, .string c, .string d, .string e, .string f, .string g, .string h, .string i, .string j] 24) = w7 at *
      go_cut [106] from 103 to 106 (fun v wx => v = .bool false ∧ wx.heap[B]? = some (.cells (ten a b c d e f g h i j) 24 (0, 0)) ∧ Below w.heap.size w wx)
      case first =>
        have hneq := fun wx => neq24 nv b c d e f g h i j wx
        obtain ⟨y0, y1, y2, y3, y4, y5, y6, y7, y8, y9⟩ := ten_cells nv b c d e f g h i j hT7
        go_region_with (go_at_call 13; refine (keysOf_any K nv b c d e f g h i j _ (by exact hK7)).mono ?_; rintro x w8 ⟨rfl, hb8⟩; have hT8 := keep (w := w7.drew) hT7 hb8; have hz8 := keep (w := w7.drew) hz7 hb8; have hB8 := hB7.drew.trans (hb8.mono hB7.drew.size); obtain ⟨u0, u1, u2, u3, u4, u5, u6, u7, u8, u9⟩ := ten_cells nv b c d e f g h i j hT8; unfold ten)
        all_goals
          go_wp2_with fail
          go_meet
          exact ⟨rfl, hz8, hB8⟩
      case rest =>
        obtain ⟨rfl, hz8, hB8⟩ := hcut
        go_wp2_with fail
        go_roundw
        case rel => exact ⟨1, by omega, rfl, hz8, hB8⟩
        case measure => simp [intOf]
    · obtain ⟨x0, x1, x2, x3, x4, x5, x6, x7, x8, x9⟩ := ten_cells a b c d e f g h i j hz
      go_wp2_with fail
      refine (newKeys_any a b c d e f g h i j _).mono ?_
      rintro x w1 ⟨rfl, hK1, hb1⟩
      have hz1 := keep hz hb1
      have hB1 : Below w.heap.size w w1 := hbr.trans (hb1.mono hbr.size)
      have hKne : wr.heap.size + 1 ≠ B := by have := heap_lt hz; omega
      have hKlo : w.heap.size ≤ wr.heap.size + 1 := by have := hbr.size; omega
      obtain ⟨K, HK⟩ : ∃ K, Hid (K = wr.heap.size + 1) := ⟨_, rfl⟩
      rw [← HK.out] at hK1 hKne hKlo
      rw [← HK.out]
      clear x0 x1 x2 x3 x4 x5 x6 x7 x8 x9 hz hbr hb1
      go_wp2_with fail
      refine (zzNamed_any K _).mono ?_
      rintro x w2 ⟨rfl, hG2, hb2⟩
      have hz2 := keep hz1 hb2
      have hK2 := keep hK1 hb2
      have hB2 : Below w.heap.size w w2 := hB1.trans (hb2.mono hB1.size)
      obtain ⟨G, HG⟩ : ∃ G, Hid (G = w1.heap.size) := ⟨_, rfl⟩
      rw [← HG.out] at hG2
      rw [← HG.out]
      have g0 : w2.cell? ⟨G, 2, none⟩ = some (.string ⟨#[100, 101, 108, 97, 121, 101, 100, 67, 111, 117, 110, 116]⟩) := by rw [cell_of_row w2 _ _ _ _ _ hG2]; rfl
      have g1 : w2.cell? ⟨G, 3, none⟩ = some (.pointer (some ⟨K, 1, none⟩)) := by rw [cell_of_row w2 _ _ _ _ _ hG2]; rfl
      clear hz1 hK1 hB1 hb2
      go_wp2_with fail
      refine (name_any _ _ _).mono ?_
      rintro x w3 ⟨rfl, hb3⟩
      have hz3 := keep hz2 hb3
      have hK3 := keep hK2 hb3
      have hG3 := keep hG2 hb3
      have hB3 : Below w.heap.size w w3 := hB2.trans (hb3.mono hB2.size)
      clear g0 g1 hz2 hK2 hG2 hB2 hb3
      have g0 : w3.cell? ⟨G, 2, none⟩ = some (.string ⟨#[100, 101, 108, 97, 121, 101, 100, 67, 111, 117, 110, 116]⟩) := by rw [cell_of_row w3 _ _ _ _ _ hG3]; rfl
      have g1 : w3.cell? ⟨G, 3, none⟩ = some (.pointer (some ⟨K, 1, none⟩)) := by rw [cell_of_row w3 _ _ _ _ _ hG3]; rfl
      go_wp2_with fail
      refine (ptr_any _ _ _).mono ?_
      rintro x w4 ⟨rfl, hb4⟩
      have hz4 := keep hz3 hb4
      have hK4 := keep hK3 hb4
      have hB4 : Below w.heap.size w w4 := hB3.trans (hb4.mono hB3.size)
      clear g0 g1 hz3 hK3 hG3 hB3 hb4
      have q0 : w4.cell? ⟨K, 1, none⟩ = some (.string b) := by rw [cell_of_row w4 _ _ _ _ _ hK4]; rfl
      have q1 : w4.frozen? ⟨K, 1, none⟩ = false := frozen_of_row w4 _ _ _ _ hK4
      go_upto_region 19 with fail
      generalize b ++ ({ data := #[126] } : ByteArray) = nv
      have hK5 : (w4.setCell ⟨K, 1, none⟩ (.string nv)).heap[K]? = some (.cells (ten a nv c d e f g h i j) 39 (0, 0)) := by rw [heap_setCell_same w4 _ _ _ _ _ hK4]; rfl
      have hz5 : (w4.setCell ⟨K, 1, none⟩ (.string nv)).heap[B]? = some (.cells (ten a b c d e f g h i j) 24 (0, 0)) := by rw [Below.heap_setCell _ _ _ _ (fun e => hKne e.symm)]; exact hz4
      have hB5 : Below w.heap.size w (w4.setCell ⟨K, 1, none⟩ (.string nv)) := hB4.setCell hKlo _
      clear q0 q1 hz4 hK4 hB4
      generalize w4.setCell ⟨K, 1, none⟩ (.string nv) = w5 at *
      obtain ⟨x0, x1, x2, x3, x4, x5, x6, x7, x8, x9⟩ := ten_cells a b c d e f g h i j hz5
      go_wp2_with fail
      refine (set1 a b c d e f g h i j nv _).mono ?_
      rintro x w6 ⟨rfl, hb6⟩
      have hz6 := keep hz5 hb6
      have hK6 := keep hK5 hb6
      have hB6 : Below w.heap.size w w6 := hB5.trans (hb6.mono hB5.size)
      clear x0 x1 x2 x3 x4 x5 x6 x7 x8 x9 hz5 hK5 hB5 hb6
      unfold ten
      go_upto_region 22 with fail
      obtain ⟨T, HT⟩ : ∃ T, Hid (T = w6.heap.size) := ⟨_, rfl⟩
      have ha7 : Below w6.heap.size w6 (w6.alloc (.cells #[.string a, .string nv, .string c, .string d, .string e, .string f, .string g, .string h, .string i, .string j] 24)) := (Below.refl _ _).alloc (Nat.le_refl _) _
      have hz7 := keep hz6 ha7
      have hK7 := keep hK6 ha7
      have hB7 : Below w.heap.size w (w6.alloc (.cells #[.string a, .string nv, .string c, .string d, .string e, .string f, .string g, .string h, .string i, .string j] 24)) := hB6.trans (ha7.mono hB6.size)
      have hT7 : (w6.alloc (.cells #[.string a, .string nv, .string c, .string d, .string e, .string f, .string g, .string h, .string i, .string j] 24)).heap[T]? = some (.cells (ten a nv c d e f g h i j) 24 (0, 0)) := by rw [HT.out]; exact heap_alloc_new w6 _
      rw [← HT.out]
      clear ha7 hz6 hK6 hB6
      generalize w6.alloc (.cells #[.string a, .string nv, .string c, .string d, .string e, .string f, .string g, .string h, .string i, .string j] 24) = w7 at *
      go_cut [106] from 103 to 106 (fun v wx => v = .bool false ∧ wx.heap[B]? = some (.cells (ten a b c d e f g h i j) 24 (0, 0)) ∧ Below w.heap.size w wx)
      case first =>
        have hneq := fun wx => neq24 a nv c d e f g h i j wx
        obtain ⟨y0, y1, y2, y3, y4, y5, y6, y7, y8, y9⟩ := ten_cells a nv c d e f g h i j hT7
        go_region_with (go_at_call 13; refine (keysOf_any K a nv c d e f g h i j _ (by exact hK7)).mono ?_; rintro x w8 ⟨rfl, hb8⟩; have hT8 := keep (w := w7.drew) hT7 hb8; have hz8 := keep (w := w7.drew) hz7 hb8; have hB8 := hB7.drew.trans (hb8.mono hB7.drew.size); obtain ⟨u0, u1, u2, u3, u4, u5, u6, u7, u8, u9⟩ := ten_cells a nv c d e f g h i j hT8; unfold ten)
        all_goals
          go_wp2_with fail
          go_meet
          exact ⟨rfl, hz8, hB8⟩
      case rest =>
        obtain ⟨rfl, hz8, hB8⟩ := hcut
        go_wp2_with fail
        go_roundw
        case rel => exact ⟨2, by omega, rfl, hz8, hB8⟩
        case measure => simp [intOf]
    · obtain ⟨x0, x1, x2, x3, x4, x5, x6, x7, x8, x9⟩ := ten_cells a b c d e f g h i j hz
      go_wp2_with fail
      refine (newKeys_any a b c d e f g h i j _).mono ?_
      rintro x w1 ⟨rfl, hK1, hb1⟩
      have hz1 := keep hz hb1
      have hB1 : Below w.heap.size w w1 := hbr.trans (hb1.mono hbr.size)
      have hKne : wr.heap.size + 1 ≠ B := by have := heap_lt hz; omega
      have hKlo : w.heap.size ≤ wr.heap.size + 1 := by have := hbr.size; omega
      obtain ⟨K, HK⟩ : ∃ K, Hid (K = wr.heap.size + 1) := ⟨_, rfl⟩
      rw [← HK.out] at hK1 hKne hKlo
      rw [← HK.out]
      clear x0 x1 x2 x3 x4 x5 x6 x7 x8 x9 hz hbr hb1
      go_wp2_with fail
      refine (zzNamed_any K _).mono ?_
      rintro x w2 ⟨rfl, hG2, hb2⟩
      have hz2 := keep hz1 hb2
      have hK2 := keep hK1 hb2
      have hB2 : Below w.heap.size w w2 := hB1.trans (hb2.mono hB1.size)
      obtain ⟨G, HG⟩ : ∃ G, Hid (G = w1.heap.size) := ⟨_, rfl⟩
      rw [← HG.out] at hG2
      rw [← HG.out]
      have g0 : w2.cell? ⟨G, 4, none⟩ = some (.string ⟨#[114, 101, 97, 100, 121]⟩) := by rw [cell_of_row w2 _ _ _ _ _ hG2]; rfl
      have g1 : w2.cell? ⟨G, 5, none⟩ = some (.pointer (some ⟨K, 2, none⟩)) := by rw [cell_of_row w2 _ _ _ _ _ hG2]; rfl
      clear hz1 hK1 hB1 hb2
      go_wp2_with fail
      refine (name_any _ _ _).mono ?_
      rintro x w3 ⟨rfl, hb3⟩
      have hz3 := keep hz2 hb3
      have hK3 := keep hK2 hb3
      have hG3 := keep hG2 hb3
      have hB3 : Below w.heap.size w w3 := hB2.trans (hb3.mono hB2.size)
      clear g0 g1 hz2 hK2 hG2 hB2 hb3
      have g0 : w3.cell? ⟨G, 4, none⟩ = some (.string ⟨#[114, 101, 97, 100, 121]⟩) := by rw [cell_of_row w3 _ _ _ _ _ hG3]; rfl
      have g1 : w3.cell? ⟨G, 5, none⟩ = some (.pointer (some ⟨K, 2, none⟩)) := by rw [cell_of_row w3 _ _ _ _ _ hG3]; rfl
      go_wp2_with fail
      refine (ptr_any _ _ _).mono ?_
      rintro x w4 ⟨rfl, hb4⟩
      have hz4 := keep hz3 hb4
      have hK4 := keep hK3 hb4
      have hB4 : Below w.heap.size w w4 := hB3.trans (hb4.mono hB3.size)
      clear g0 g1 hz3 hK3 hG3 hB3 hb4
      have q0 : w4.cell? ⟨K, 2, none⟩ = some (.string c) := by rw [cell_of_row w4 _ _ _ _ _ hK4]; rfl
      have q1 : w4.frozen? ⟨K, 2, none⟩ = false := frozen_of_row w4 _ _ _ _ hK4
      go_upto_region 19 with fail
      generalize c ++ ({ data := #[126] } : ByteArray) = nv
      have hK5 : (w4.setCell ⟨K, 2, none⟩ (.string nv)).heap[K]? = some (.cells (ten a b nv d e f g h i j) 39 (0, 0)) := by rw [heap_setCell_same w4 _ _ _ _ _ hK4]; rfl
      have hz5 : (w4.setCell ⟨K, 2, none⟩ (.string nv)).heap[B]? = some (.cells (ten a b c d e f g h i j) 24 (0, 0)) := by rw [Below.heap_setCell _ _ _ _ (fun e => hKne e.symm)]; exact hz4
      have hB5 : Below w.heap.size w (w4.setCell ⟨K, 2, none⟩ (.string nv)) := hB4.setCell hKlo _
      clear q0 q1 hz4 hK4 hB4
      generalize w4.setCell ⟨K, 2, none⟩ (.string nv) = w5 at *
      obtain ⟨x0, x1, x2, x3, x4, x5, x6, x7, x8, x9⟩ := ten_cells a b c d e f g h i j hz5
      go_wp2_with fail
      refine (set2 a b c d e f g h i j nv _).mono ?_
      rintro x w6 ⟨rfl, hb6⟩
      have hz6 := keep hz5 hb6
      have hK6 := keep hK5 hb6
      have hB6 : Below w.heap.size w w6 := hB5.trans (hb6.mono hB5.size)
      clear x0 x1 x2 x3 x4 x5 x6 x7 x8 x9 hz5 hK5 hB5 hb6
      unfold ten
      go_upto_region 22 with fail
      obtain ⟨T, HT⟩ : ∃ T, Hid (T = w6.heap.size) := ⟨_, rfl⟩
      have ha7 : Below w6.heap.size w6 (w6.alloc (.cells #[.string a, .string b, .string nv, .string d, .string e, .string f, .string g, .string h, .string i, .string j] 24)) := (Below.refl _ _).alloc (Nat.le_refl _) _
      have hz7 := keep hz6 ha7
      have hK7 := keep hK6 ha7
      have hB7 : Below w.heap.size w (w6.alloc (.cells #[.string a, .string b, .string nv, .string d, .string e, .string f, .string g, .string h, .string i, .string j] 24)) := hB6.trans (ha7.mono hB6.size)
      have hT7 : (w6.alloc (.cells #[.string a, .string b, .string nv, .string d, .string e, .string f, .string g, .string h, .string i, .string j] 24)).heap[T]? = some (.cells (ten a b nv d e f g h i j) 24 (0, 0)) := by rw [HT.out]; exact heap_alloc_new w6 _
      rw [← HT.out]
      clear ha7 hz6 hK6 hB6
      generalize w6.alloc (.cells #[.string a, .string b, .string nv, .string d, .string e, .string f, .string g, .string h, .string i, .string j] 24) = w7 at *
      go_cut [106] from 103 to 106 (fun v wx => v = .bool false ∧ wx.heap[B]? = some (.cells (ten a b c d e f g h i j) 24 (0, 0)) ∧ Below w.heap.size w wx)
      case first =>
        have hneq := fun wx => neq24 a b nv d e f g h i j wx
        obtain ⟨y0, y1, y2, y3, y4, y5, y6, y7, y8, y9⟩ := ten_cells a b nv d e f g h i j hT7
        go_region_with (go_at_call 13; refine (keysOf_any K a b nv d e f g h i j _ (by exact hK7)).mono ?_; rintro x w8 ⟨rfl, hb8⟩; have hT8 := keep (w := w7.drew) hT7 hb8; have hz8 := keep (w := w7.drew) hz7 hb8; have hB8 := hB7.drew.trans (hb8.mono hB7.drew.size); obtain ⟨u0, u1, u2, u3, u4, u5, u6, u7, u8, u9⟩ := ten_cells a b nv d e f g h i j hT8; unfold ten)
        all_goals
          go_wp2_with fail
          go_meet
          exact ⟨rfl, hz8, hB8⟩
      case rest =>
        obtain ⟨rfl, hz8, hB8⟩ := hcut
        go_wp2_with fail
        go_roundw
        case rel => exact ⟨3, by omega, rfl, hz8, hB8⟩
        case measure => simp [intOf]
    · obtain ⟨x0, x1, x2, x3, x4, x5, x6, x7, x8, x9⟩ := ten_cells a b c d e f g h i j hz
      go_wp2_with fail
      refine (newKeys_any a b c d e f g h i j _).mono ?_
      rintro x w1 ⟨rfl, hK1, hb1⟩
      have hz1 := keep hz hb1
      have hB1 : Below w.heap.size w w1 := hbr.trans (hb1.mono hbr.size)
      have hKne : wr.heap.size + 1 ≠ B := by have := heap_lt hz; omega
      have hKlo : w.heap.size ≤ wr.heap.size + 1 := by have := hbr.size; omega
      obtain ⟨K, HK⟩ : ∃ K, Hid (K = wr.heap.size + 1) := ⟨_, rfl⟩
      rw [← HK.out] at hK1 hKne hKlo
      rw [← HK.out]
      clear x0 x1 x2 x3 x4 x5 x6 x7 x8 x9 hz hbr hb1
      go_wp2_with fail
      refine (zzNamed_any K _).mono ?_
      rintro x w2 ⟨rfl, hG2, hb2⟩
      have hz2 := keep hz1 hb2
      have hK2 := keep hK1 hb2
      have hB2 : Below w.heap.size w w2 := hB1.trans (hb2.mono hB1.size)
      obtain ⟨G, HG⟩ : ∃ G, Hid (G = w1.heap.size) := ⟨_, rfl⟩
      rw [← HG.out] at hG2
      rw [← HG.out]
      have g0 : w2.cell? ⟨G, 6, none⟩ = some (.string ⟨#[114, 101, 97, 100, 121, 67, 111, 117, 110, 116]⟩) := by rw [cell_of_row w2 _ _ _ _ _ hG2]; rfl
      have g1 : w2.cell? ⟨G, 7, none⟩ = some (.pointer (some ⟨K, 3, none⟩)) := by rw [cell_of_row w2 _ _ _ _ _ hG2]; rfl
      clear hz1 hK1 hB1 hb2
      go_wp2_with fail
      refine (name_any _ _ _).mono ?_
      rintro x w3 ⟨rfl, hb3⟩
      have hz3 := keep hz2 hb3
      have hK3 := keep hK2 hb3
      have hG3 := keep hG2 hb3
      have hB3 : Below w.heap.size w w3 := hB2.trans (hb3.mono hB2.size)
      clear g0 g1 hz2 hK2 hG2 hB2 hb3
      have g0 : w3.cell? ⟨G, 6, none⟩ = some (.string ⟨#[114, 101, 97, 100, 121, 67, 111, 117, 110, 116]⟩) := by rw [cell_of_row w3 _ _ _ _ _ hG3]; rfl
      have g1 : w3.cell? ⟨G, 7, none⟩ = some (.pointer (some ⟨K, 3, none⟩)) := by rw [cell_of_row w3 _ _ _ _ _ hG3]; rfl
      go_wp2_with fail
      refine (ptr_any _ _ _).mono ?_
      rintro x w4 ⟨rfl, hb4⟩
      have hz4 := keep hz3 hb4
      have hK4 := keep hK3 hb4
      have hB4 : Below w.heap.size w w4 := hB3.trans (hb4.mono hB3.size)
      clear g0 g1 hz3 hK3 hG3 hB3 hb4
      have q0 : w4.cell? ⟨K, 3, none⟩ = some (.string d) := by rw [cell_of_row w4 _ _ _ _ _ hK4]; rfl
      have q1 : w4.frozen? ⟨K, 3, none⟩ = false := frozen_of_row w4 _ _ _ _ hK4
      go_upto_region 19 with fail
      generalize d ++ ({ data := #[126] } : ByteArray) = nv
      have hK5 : (w4.setCell ⟨K, 3, none⟩ (.string nv)).heap[K]? = some (.cells (ten a b c nv e f g h i j) 39 (0, 0)) := by rw [heap_setCell_same w4 _ _ _ _ _ hK4]; rfl
      have hz5 : (w4.setCell ⟨K, 3, none⟩ (.string nv)).heap[B]? = some (.cells (ten a b c d e f g h i j) 24 (0, 0)) := by rw [Below.heap_setCell _ _ _ _ (fun e => hKne e.symm)]; exact hz4
      have hB5 : Below w.heap.size w (w4.setCell ⟨K, 3, none⟩ (.string nv)) := hB4.setCell hKlo _
      clear q0 q1 hz4 hK4 hB4
      generalize w4.setCell ⟨K, 3, none⟩ (.string nv) = w5 at *
      obtain ⟨x0, x1, x2, x3, x4, x5, x6, x7, x8, x9⟩ := ten_cells a b c d e f g h i j hz5
      go_wp2_with fail
      refine (set3 a b c d e f g h i j nv _).mono ?_
      rintro x w6 ⟨rfl, hb6⟩
      have hz6 := keep hz5 hb6
      have hK6 := keep hK5 hb6
      have hB6 : Below w.heap.size w w6 := hB5.trans (hb6.mono hB5.size)
      clear x0 x1 x2 x3 x4 x5 x6 x7 x8 x9 hz5 hK5 hB5 hb6
      unfold ten
      go_upto_region 22 with fail
      obtain ⟨T, HT⟩ : ∃ T, Hid (T = w6.heap.size) := ⟨_, rfl⟩
      have ha7 : Below w6.heap.size w6 (w6.alloc (.cells #[.string a, .string b, .string c, .string nv, .string e, .string f, .string g, .string h, .string i, .string j] 24)) := (Below.refl _ _).alloc (Nat.le_refl _) _
      have hz7 := keep hz6 ha7
      have hK7 := keep hK6 ha7
      have hB7 : Below w.heap.size w (w6.alloc (.cells #[.string a, .string b, .string c, .string nv, .string e, .string f, .string g, .string h, .string i, .string j] 24)) := hB6.trans (ha7.mono hB6.size)
      have hT7 : (w6.alloc (.cells #[.string a, .string b, .string c, .string nv, .string e, .string f, .string g, .string h, .string i, .string j] 24)).heap[T]? = some (.cells (ten a b c nv e f g h i j) 24 (0, 0)) := by rw [HT.out]; exact heap_alloc_new w6 _
      rw [← HT.out]
      clear ha7 hz6 hK6 hB6
      generalize w6.alloc (.cells #[.string a, .string b, .string c, .string nv, .string e, .string f, .string g, .string h, .string i, .string j] 24) = w7 at *
      go_cut [106] from 103 to 106 (fun v wx => v = .bool false ∧ wx.heap[B]? = some (.cells (ten a b c d e f g h i j) 24 (0, 0)) ∧ Below w.heap.size w wx)
      case first =>
        have hneq := fun wx => neq24 a b c nv e f g h i j wx
        obtain ⟨y0, y1, y2, y3, y4, y5, y6, y7, y8, y9⟩ := ten_cells a b c nv e f g h i j hT7
        go_region_with (go_at_call 13; refine (keysOf_any K a b c nv e f g h i j _ (by exact hK7)).mono ?_; rintro x w8 ⟨rfl, hb8⟩; have hT8 := keep (w := w7.drew) hT7 hb8; have hz8 := keep (w := w7.drew) hz7 hb8; have hB8 := hB7.drew.trans (hb8.mono hB7.drew.size); obtain ⟨u0, u1, u2, u3, u4, u5, u6, u7, u8, u9⟩ := ten_cells a b c nv e f g h i j hT8; unfold ten)
        all_goals
          go_wp2_with fail
          go_meet
          exact ⟨rfl, hz8, hB8⟩
      case rest =>
        obtain ⟨rfl, hz8, hB8⟩ := hcut
        go_wp2_with fail
        go_roundw
        case rel => exact ⟨4, by omega, rfl, hz8, hB8⟩
        case measure => simp [intOf]
    · obtain ⟨x0, x1, x2, x3, x4, x5, x6, x7, x8, x9⟩ := ten_cells a b c d e f g h i j hz
      go_wp2_with fail
      refine (newKeys_any a b c d e f g h i j _).mono ?_
      rintro x w1 ⟨rfl, hK1, hb1⟩
      have hz1 := keep hz hb1
      have hB1 : Below w.heap.size w w1 := hbr.trans (hb1.mono hbr.size)
      have hKne : wr.heap.size + 1 ≠ B := by have := heap_lt hz; omega
      have hKlo : w.heap.size ≤ wr.heap.size + 1 := by have := hbr.size; omega
      obtain ⟨K, HK⟩ : ∃ K, Hid (K = wr.heap.size + 1) := ⟨_, rfl⟩
      rw [← HK.out] at hK1 hKne hKlo
      rw [← HK.out]
      clear x0 x1 x2 x3 x4 x5 x6 x7 x8 x9 hz hbr hb1
      go_wp2_with fail
      refine (zzNamed_any K _).mono ?_
      rintro x w2 ⟨rfl, hG2, hb2⟩
      have hz2 := keep hz1 hb2
      have hK2 := keep hK1 hb2
      have hB2 : Below w.heap.size w w2 := hB1.trans (hb2.mono hB1.size)
      obtain ⟨G, HG⟩ : ∃ G, Hid (G = w1.heap.size) := ⟨_, rfl⟩
      rw [← HG.out] at hG2
      rw [← HG.out]
      have g0 : w2.cell? ⟨G, 8, none⟩ = some (.string ⟨#[108, 97, 116, 101, 115, 116, 69, 120, 112, 105, 114, 121]⟩) := by rw [cell_of_row w2 _ _ _ _ _ hG2]; rfl
      have g1 : w2.cell? ⟨G, 9, none⟩ = some (.pointer (some ⟨K, 4, none⟩)) := by rw [cell_of_row w2 _ _ _ _ _ hG2]; rfl
      clear hz1 hK1 hB1 hb2
      go_wp2_with fail
      refine (name_any _ _ _).mono ?_
      rintro x w3 ⟨rfl, hb3⟩
      have hz3 := keep hz2 hb3
      have hK3 := keep hK2 hb3
      have hG3 := keep hG2 hb3
      have hB3 : Below w.heap.size w w3 := hB2.trans (hb3.mono hB2.size)
      clear g0 g1 hz2 hK2 hG2 hB2 hb3
      have g0 : w3.cell? ⟨G, 8, none⟩ = some (.string ⟨#[108, 97, 116, 101, 115, 116, 69, 120, 112, 105, 114, 121]⟩) := by rw [cell_of_row w3 _ _ _ _ _ hG3]; rfl
      have g1 : w3.cell? ⟨G, 9, none⟩ = some (.pointer (some ⟨K, 4, none⟩)) := by rw [cell_of_row w3 _ _ _ _ _ hG3]; rfl
      go_wp2_with fail
      refine (ptr_any _ _ _).mono ?_
      rintro x w4 ⟨rfl, hb4⟩
      have hz4 := keep hz3 hb4
      have hK4 := keep hK3 hb4
      have hB4 : Below w.heap.size w w4 := hB3.trans (hb4.mono hB3.size)
      clear g0 g1 hz3 hK3 hG3 hB3 hb4
      have q0 : w4.cell? ⟨K, 4, none⟩ = some (.string e) := by rw [cell_of_row w4 _ _ _ _ _ hK4]; rfl
      have q1 : w4.frozen? ⟨K, 4, none⟩ = false := frozen_of_row w4 _ _ _ _ hK4
      go_upto_region 19 with fail
      generalize e ++ ({ data := #[126] } : ByteArray) = nv
      have hK5 : (w4.setCell ⟨K, 4, none⟩ (.string nv)).heap[K]? = some (.cells (ten a b c d nv f g h i j) 39 (0, 0)) := by rw [heap_setCell_same w4 _ _ _ _ _ hK4]; rfl
      have hz5 : (w4.setCell ⟨K, 4, none⟩ (.string nv)).heap[B]? = some (.cells (ten a b c d e f g h i j) 24 (0, 0)) := by rw [Below.heap_setCell _ _ _ _ (fun e => hKne e.symm)]; exact hz4
      have hB5 : Below w.heap.size w (w4.setCell ⟨K, 4, none⟩ (.string nv)) := hB4.setCell hKlo _
      clear q0 q1 hz4 hK4 hB4
      generalize w4.setCell ⟨K, 4, none⟩ (.string nv) = w5 at *
      obtain ⟨x0, x1, x2, x3, x4, x5, x6, x7, x8, x9⟩ := ten_cells a b c d e f g h i j hz5
      go_wp2_with fail
      refine (set4 a b c d e f g h i j nv _).mono ?_
      rintro x w6 ⟨rfl, hb6⟩
      have hz6 := keep hz5 hb6
      have hK6 := keep hK5 hb6
      have hB6 : Below w.heap.size w w6 := hB5.trans (hb6.mono hB5.size)
      clear x0 x1 x2 x3 x4 x5 x6 x7 x8 x9 hz5 hK5 hB5 hb6
      unfold ten
      go_upto_region 22 with fail
      obtain ⟨T, HT⟩ : ∃ T, Hid (T = w6.heap.size) := ⟨_, rfl⟩
      have ha7 : Below w6.heap.size w6 (w6.alloc (.cells #[.string a, .string b, .string c, .string d, .string nv, .string f, .string g, .string h, .string i, .string j] 24)) := (Below.refl _ _).alloc (Nat.le_refl _) _
      have hz7 := keep hz6 ha7
      have hK7 := keep hK6 ha7
      have hB7 : Below w.heap.size w (w6.alloc (.cells #[.string a, .string b, .string c, .string d, .string nv, .string f, .string g, .string h, .string i, .string j] 24)) := hB6.trans (ha7.mono hB6.size)
      have hT7 : (w6.alloc (.cells #[.string a, .string b, .string c, .string d, .string nv, .string f, .string g, .string h, .string i, .string j] 24)).heap[T]? = some (.cells (ten a b c d nv f g h i j) 24 (0, 0)) := by rw [HT.out]; exact heap_alloc_new w6 _
      rw [← HT.out]
      clear ha7 hz6 hK6 hB6
      generalize w6.alloc (.cells #[.string a, .string b, .string c, .string d, .string nv, .string f, .string g, .string h, .string i, .string j] 24) = w7 at *
      go_cut [106] from 103 to 106 (fun v wx => v = .bool false ∧ wx.heap[B]? = some (.cells (ten a b c d e f g h i j) 24 (0, 0)) ∧ Below w.heap.size w wx)
      case first =>
        have hneq := fun wx => neq24 a b c d nv f g h i j wx
        obtain ⟨y0, y1, y2, y3, y4, y5, y6, y7, y8, y9⟩ := ten_cells a b c d nv f g h i j hT7
        go_region_with (go_at_call 13; refine (keysOf_any K a b c d nv f g h i j _ (by exact hK7)).mono ?_; rintro x w8 ⟨rfl, hb8⟩; have hT8 := keep (w := w7.drew) hT7 hb8; have hz8 := keep (w := w7.drew) hz7 hb8; have hB8 := hB7.drew.trans (hb8.mono hB7.drew.size); obtain ⟨u0, u1, u2, u3, u4, u5, u6, u7, u8, u9⟩ := ten_cells a b c d nv f g h i j hT8; unfold ten)
        all_goals
          go_wp2_with fail
          go_meet
          exact ⟨rfl, hz8, hB8⟩
      case rest =>
        obtain ⟨rfl, hz8, hB8⟩ := hcut
        go_wp2_with fail
        go_roundw
        case rel => exact ⟨5, by omega, rfl, hz8, hB8⟩
        case measure => simp [intOf]
    · obtain ⟨x0, x1, x2, x3, x4, x5, x6, x7, x8, x9⟩ := ten_cells a b c d e f g h i j hz
      go_wp2_with fail
      refine (newKeys_any a b c d e f g h i j _).mono ?_
      rintro x w1 ⟨rfl, hK1, hb1⟩
      have hz1 := keep hz hb1
      have hB1 : Below w.heap.size w w1 := hbr.trans (hb1.mono hbr.size)
      have hKne : wr.heap.size + 1 ≠ B := by have := heap_lt hz; omega
      have hKlo : w.heap.size ≤ wr.heap.size + 1 := by have := hbr.size; omega
      obtain ⟨K, HK⟩ : ∃ K, Hid (K = wr.heap.size + 1) := ⟨_, rfl⟩
      rw [← HK.out] at hK1 hKne hKlo
      rw [← HK.out]
      clear x0 x1 x2 x3 x4 x5 x6 x7 x8 x9 hz hbr hb1
      go_wp2_with fail
      refine (zzNamed_any K _).mono ?_
      rintro x w2 ⟨rfl, hG2, hb2⟩
      have hz2 := keep hz1 hb2
      have hK2 := keep hK1 hb2
      have hB2 : Below w.heap.size w w2 := hB1.trans (hb2.mono hB1.size)
      obtain ⟨G, HG⟩ : ∃ G, Hid (G = w1.heap.size) := ⟨_, rfl⟩
      rw [← HG.out] at hG2
      rw [← HG.out]
      have g0 : w2.cell? ⟨G, 10, none⟩ = some (.string ⟨#[117, 110, 111, 114, 100, 101, 114, 101, 100]⟩) := by rw [cell_of_row w2 _ _ _ _ _ hG2]; rfl
      have g1 : w2.cell? ⟨G, 11, none⟩ = some (.pointer (some ⟨K, 5, none⟩)) := by rw [cell_of_row w2 _ _ _ _ _ hG2]; rfl
      clear hz1 hK1 hB1 hb2
      go_wp2_with fail
      refine (name_any _ _ _).mono ?_
      rintro x w3 ⟨rfl, hb3⟩
      have hz3 := keep hz2 hb3
      have hK3 := keep hK2 hb3
      have hG3 := keep hG2 hb3
      have hB3 : Below w.heap.size w w3 := hB2.trans (hb3.mono hB2.size)
      clear g0 g1 hz2 hK2 hG2 hB2 hb3
      have g0 : w3.cell? ⟨G, 10, none⟩ = some (.string ⟨#[117, 110, 111, 114, 100, 101, 114, 101, 100]⟩) := by rw [cell_of_row w3 _ _ _ _ _ hG3]; rfl
      have g1 : w3.cell? ⟨G, 11, none⟩ = some (.pointer (some ⟨K, 5, none⟩)) := by rw [cell_of_row w3 _ _ _ _ _ hG3]; rfl
      go_wp2_with fail
      refine (ptr_any _ _ _).mono ?_
      rintro x w4 ⟨rfl, hb4⟩
      have hz4 := keep hz3 hb4
      have hK4 := keep hK3 hb4
      have hB4 : Below w.heap.size w w4 := hB3.trans (hb4.mono hB3.size)
      clear g0 g1 hz3 hK3 hG3 hB3 hb4
      have q0 : w4.cell? ⟨K, 5, none⟩ = some (.string f) := by rw [cell_of_row w4 _ _ _ _ _ hK4]; rfl
      have q1 : w4.frozen? ⟨K, 5, none⟩ = false := frozen_of_row w4 _ _ _ _ hK4
      go_upto_region 19 with fail
      generalize f ++ ({ data := #[126] } : ByteArray) = nv
      have hK5 : (w4.setCell ⟨K, 5, none⟩ (.string nv)).heap[K]? = some (.cells (ten a b c d e nv g h i j) 39 (0, 0)) := by rw [heap_setCell_same w4 _ _ _ _ _ hK4]; rfl
      have hz5 : (w4.setCell ⟨K, 5, none⟩ (.string nv)).heap[B]? = some (.cells (ten a b c d e f g h i j) 24 (0, 0)) := by rw [Below.heap_setCell _ _ _ _ (fun e => hKne e.symm)]; exact hz4
      have hB5 : Below w.heap.size w (w4.setCell ⟨K, 5, none⟩ (.string nv)) := hB4.setCell hKlo _
      clear q0 q1 hz4 hK4 hB4
      generalize w4.setCell ⟨K, 5, none⟩ (.string nv) = w5 at *
      obtain ⟨x0, x1, x2, x3, x4, x5, x6, x7, x8, x9⟩ := ten_cells a b c d e f g h i j hz5
      go_wp2_with fail
      refine (set5 a b c d e f g h i j nv _).mono ?_
      rintro x w6 ⟨rfl, hb6⟩
      have hz6 := keep hz5 hb6
      have hK6 := keep hK5 hb6
      have hB6 : Below w.heap.size w w6 := hB5.trans (hb6.mono hB5.size)
      clear x0 x1 x2 x3 x4 x5 x6 x7 x8 x9 hz5 hK5 hB5 hb6
      unfold ten
      go_upto_region 22 with fail
      obtain ⟨T, HT⟩ : ∃ T, Hid (T = w6.heap.size) := ⟨_, rfl⟩
      have ha7 : Below w6.heap.size w6 (w6.alloc (.cells #[.string a, .string b, .string c, .string d, .string e, .string nv, .string g, .string h, .string i, .string j] 24)) := (Below.refl _ _).alloc (Nat.le_refl _) _
      have hz7 := keep hz6 ha7
      have hK7 := keep hK6 ha7
      have hB7 : Below w.heap.size w (w6.alloc (.cells #[.string a, .string b, .string c, .string d, .string e, .string nv, .string g, .string h, .string i, .string j] 24)) := hB6.trans (ha7.mono hB6.size)
      have hT7 : (w6.alloc (.cells #[.string a, .string b, .string c, .string d, .string e, .string nv, .string g, .string h, .string i, .string j] 24)).heap[T]? = some (.cells (ten a b c d e nv g h i j) 24 (0, 0)) := by rw [HT.out]; exact heap_alloc_new w6 _
      rw [← HT.out]
      clear ha7 hz6 hK6 hB6
      generalize w6.alloc (.cells #[.string a, .string b, .string c, .string d, .string e, .string nv, .string g, .string h, .string i, .string j] 24) = w7 at *
      go_cut [106] from 103 to 106 (fun v wx => v = .bool false ∧ wx.heap[B]? = some (.cells (ten a b c d e f g h i j) 24 (0, 0)) ∧ Below w.heap.size w wx)
      case first =>
        have hneq := fun wx => neq24 a b c d e nv g h i j wx
        obtain ⟨y0, y1, y2, y3, y4, y5, y6, y7, y8, y9⟩ := ten_cells a b c d e nv g h i j hT7
        go_region_with (go_at_call 13; refine (keysOf_any K a b c d e nv g h i j _ (by exact hK7)).mono ?_; rintro x w8 ⟨rfl, hb8⟩; have hT8 := keep (w := w7.drew) hT7 hb8; have hz8 := keep (w := w7.drew) hz7 hb8; have hB8 := hB7.drew.trans (hb8.mono hB7.drew.size); obtain ⟨u0, u1, u2, u3, u4, u5, u6, u7, u8, u9⟩ := ten_cells a b c d e nv g h i j hT8; unfold ten)
        all_goals
          go_wp2_with fail
          go_meet
          exact ⟨rfl, hz8, hB8⟩
      case rest =>
        obtain ⟨rfl, hz8, hB8⟩ := hcut
        go_wp2_with fail
        go_roundw
        case rel => exact ⟨6, by omega, rfl, hz8, hB8⟩
        case measure => simp [intOf]
    · obtain ⟨x0, x1, x2, x3, x4, x5, x6, x7, x8, x9⟩ := ten_cells a b c d e f g h i j hz
      go_wp2_with fail
      refine (newKeys_any a b c d e f g h i j _).mono ?_
      rintro x w1 ⟨rfl, hK1, hb1⟩
      have hz1 := keep hz hb1
      have hB1 : Below w.heap.size w w1 := hbr.trans (hb1.mono hbr.size)
      have hKne : wr.heap.size + 1 ≠ B := by have := heap_lt hz; omega
      have hKlo : w.heap.size ≤ wr.heap.size + 1 := by have := hbr.size; omega
      obtain ⟨K, HK⟩ : ∃ K, Hid (K = wr.heap.size + 1) := ⟨_, rfl⟩
      rw [← HK.out] at hK1 hKne hKlo
      rw [← HK.out]
      clear x0 x1 x2 x3 x4 x5 x6 x7 x8 x9 hz hbr hb1
      go_wp2_with fail
      refine (zzNamed_any K _).mono ?_
      rintro x w2 ⟨rfl, hG2, hb2⟩
      have hz2 := keep hz1 hb2
      have hK2 := keep hK1 hb2
      have hB2 : Below w.heap.size w w2 := hB1.trans (hb2.mono hB1.size)
      obtain ⟨G, HG⟩ : ∃ G, Hid (G = w1.heap.size) := ⟨_, rfl⟩
      rw [← HG.out] at hG2
      rw [← HG.out]
      have g0 : w2.cell? ⟨G, 12, none⟩ = some (.string ⟨#[114, 101, 115, 101, 114, 118, 101, 100]⟩) := by rw [cell_of_row w2 _ _ _ _ _ hG2]; rfl
      have g1 : w2.cell? ⟨G, 13, none⟩ = some (.pointer (some ⟨K, 6, none⟩)) := by rw [cell_of_row w2 _ _ _ _ _ hG2]; rfl
      clear hz1 hK1 hB1 hb2
      go_wp2_with fail
      refine (name_any _ _ _).mono ?_
      rintro x w3 ⟨rfl, hb3⟩
      have hz3 := keep hz2 hb3
      have hK3 := keep hK2 hb3
      have hG3 := keep hG2 hb3
      have hB3 : Below w.heap.size w w3 := hB2.trans (hb3.mono hB2.size)
      clear g0 g1 hz2 hK2 hG2 hB2 hb3
      have g0 : w3.cell? ⟨G, 12, none⟩ = some (.string ⟨#[114, 101, 115, 101, 114, 118, 101, 100]⟩) := by rw [cell_of_row w3 _ _ _ _ _ hG3]; rfl
      have g1 : w3.cell? ⟨G, 13, none⟩ = some (.pointer (some ⟨K, 6, none⟩)) := by rw [cell_of_row w3 _ _ _ _ _ hG3]; rfl
      go_wp2_with fail
      refine (ptr_any _ _ _).mono ?_
      rintro x w4 ⟨rfl, hb4⟩
      have hz4 := keep hz3 hb4
      have hK4 := keep hK3 hb4
      have hB4 : Below w.heap.size w w4 := hB3.trans (hb4.mono hB3.size)
      clear g0 g1 hz3 hK3 hG3 hB3 hb4
      have q0 : w4.cell? ⟨K, 6, none⟩ = some (.string g) := by rw [cell_of_row w4 _ _ _ _ _ hK4]; rfl
      have q1 : w4.frozen? ⟨K, 6, none⟩ = false := frozen_of_row w4 _ _ _ _ hK4
      go_upto_region 19 with fail
      generalize g ++ ({ data := #[126] } : ByteArray) = nv
      have hK5 : (w4.setCell ⟨K, 6, none⟩ (.string nv)).heap[K]? = some (.cells (ten a b c d e f nv h i j) 39 (0, 0)) := by rw [heap_setCell_same w4 _ _ _ _ _ hK4]; rfl
      have hz5 : (w4.setCell ⟨K, 6, none⟩ (.string nv)).heap[B]? = some (.cells (ten a b c d e f g h i j) 24 (0, 0)) := by rw [Below.heap_setCell _ _ _ _ (fun e => hKne e.symm)]; exact hz4
      have hB5 : Below w.heap.size w (w4.setCell ⟨K, 6, none⟩ (.string nv)) := hB4.setCell hKlo _
      clear q0 q1 hz4 hK4 hB4
      generalize w4.setCell ⟨K, 6, none⟩ (.string nv) = w5 at *
      obtain ⟨x0, x1, x2, x3, x4, x5, x6, x7, x8, x9⟩ := ten_cells a b c d e f g h i j hz5
      go_wp2_with fail
      refine (set6 a b c d e f g h i j nv _).mono ?_
      rintro x w6 ⟨rfl, hb6⟩
      have hz6 := keep hz5 hb6
      have hK6 := keep hK5 hb6
      have hB6 : Below w.heap.size w w6 := hB5.trans (hb6.mono hB5.size)
      clear x0 x1 x2 x3 x4 x5 x6 x7 x8 x9 hz5 hK5 hB5 hb6
      unfold ten
      go_upto_region 22 with fail
      obtain ⟨T, HT⟩ : ∃ T, Hid (T = w6.heap.size) := ⟨_, rfl⟩
      have ha7 : Below w6.heap.size w6 (w6.alloc (.cells #[.string a, .string b, .string c, .string d, .string e, .string f, .string nv, .string h, .string i, .string j] 24)) := (Below.refl _ _).alloc (Nat.le_refl _) _
      have hz7 := keep hz6 ha7
      have hK7 := keep hK6 ha7
      have hB7 : Below w.heap.size w (w6.alloc (.cells #[.string a, .string b, .string c, .string d, .string e, .string f, .string nv, .string h, .string i, .string j] 24)) := hB6.trans (ha7.mono hB6.size)
      have hT7 : (w6.alloc (.cells #[.string a, .string b, .string c, .string d, .string e, .string f, .string nv, .string h, .string i, .string j] 24)).heap[T]? = some (.cells (ten a b c d e f nv h i j) 24 (0, 0)) := by rw [HT.out]; exact heap_alloc_new w6 _
      rw [← HT.out]
      clear ha7 hz6 hK6 hB6
      generalize w6.alloc (.cells #[.string a, .string b, .string c, .string d, .string e, .string f, .string nv, .string h, .string i, .string j] 24) = w7 at *
      go_cut [106] from 103 to 106 (fun v wx => v = .bool false ∧ wx.heap[B]? = some (.cells (ten a b c d e f g h i j) 24 (0, 0)) ∧ Below w.heap.size w wx)
      case first =>
        have hneq := fun wx => neq24 a b c d e f nv h i j wx
        obtain ⟨y0, y1, y2, y3, y4, y5, y6, y7, y8, y9⟩ := ten_cells a b c d e f nv h i j hT7
        go_region_with (go_at_call 13; refine (keysOf_any K a b c d e f nv h i j _ (by exact hK7)).mono ?_; rintro x w8 ⟨rfl, hb8⟩; have hT8 := keep (w := w7.drew) hT7 hb8; have hz8 := keep (w := w7.drew) hz7 hb8; have hB8 := hB7.drew.trans (hb8.mono hB7.drew.size); obtain ⟨u0, u1, u2, u3, u4, u5, u6, u7, u8, u9⟩ := ten_cells a b c d e f nv h i j hT8; unfold ten)
        all_goals
          go_wp2_with fail
          go_meet
          exact ⟨rfl, hz8, hB8⟩
      case rest =>
        obtain ⟨rfl, hz8, hB8⟩ := hcut
        go_wp2_with fail
        go_roundw
        case rel => exact ⟨7, by omega, rfl, hz8, hB8⟩
        case measure => simp [intOf]
    · obtain ⟨x0, x1, x2, x3, x4, x5, x6, x7, x8, x9⟩ := ten_cells a b c d e f g h i j hz
      go_wp2_with fail
      refine (newKeys_any a b c d e f g h i j _).mono ?_
      rintro x w1 ⟨rfl, hK1, hb1⟩
      have hz1 := keep hz hb1
      have hB1 : Below w.heap.size w w1 := hbr.trans (hb1.mono hbr.size)
      have hKne : wr.heap.size + 1 ≠ B := by have := heap_lt hz; omega
      have hKlo : w.heap.size ≤ wr.heap.size + 1 := by have := hbr.size; omega
      obtain ⟨K, HK⟩ : ∃ K, Hid (K = wr.heap.size + 1) := ⟨_, rfl⟩
      rw [← HK.out] at hK1 hKne hKlo
      rw [← HK.out]
      clear x0 x1 x2 x3 x4 x5 x6 x7 x8 x9 hz hbr hb1
      go_wp2_with fail
      refine (zzNamed_any K _).mono ?_
      rintro x w2 ⟨rfl, hG2, hb2⟩
      have hz2 := keep hz1 hb2
      have hK2 := keep hK1 hb2
      have hB2 : Below w.heap.size w w2 := hB1.trans (hb2.mono hB1.size)
      obtain ⟨G, HG⟩ : ∃ G, Hid (G = w1.heap.size) := ⟨_, rfl⟩
      rw [← HG.out] at hG2
      rw [← HG.out]
      have g0 : w2.cell? ⟨G, 14, none⟩ = some (.string ⟨#[100, 101, 97, 100]⟩) := by rw [cell_of_row w2 _ _ _ _ _ hG2]; rfl
      have g1 : w2.cell? ⟨G, 15, none⟩ = some (.pointer (some ⟨K, 7, none⟩)) := by rw [cell_of_row w2 _ _ _ _ _ hG2]; rfl
      clear hz1 hK1 hB1 hb2
      go_wp2_with fail
      refine (name_any _ _ _).mono ?_
      rintro x w3 ⟨rfl, hb3⟩
      have hz3 := keep hz2 hb3
      have hK3 := keep hK2 hb3
      have hG3 := keep hG2 hb3
      have hB3 : Below w.heap.size w w3 := hB2.trans (hb3.mono hB2.size)
      clear g0 g1 hz2 hK2 hG2 hB2 hb3
      have g0 : w3.cell? ⟨G, 14, none⟩ = some (.string ⟨#[100, 101, 97, 100]⟩) := by rw [cell_of_row w3 _ _ _ _ _ hG3]; rfl
      have g1 : w3.cell? ⟨G, 15, none⟩ = some (.pointer (some ⟨K, 7, none⟩)) := by rw [cell_of_row w3 _ _ _ _ _ hG3]; rfl
      go_wp2_with fail
      refine (ptr_any _ _ _).mono ?_
      rintro x w4 ⟨rfl, hb4⟩
      have hz4 := keep hz3 hb4
      have hK4 := keep hK3 hb4
      have hB4 : Below w.heap.size w w4 := hB3.trans (hb4.mono hB3.size)
      clear g0 g1 hz3 hK3 hG3 hB3 hb4
      have q0 : w4.cell? ⟨K, 7, none⟩ = some (.string h) := by rw [cell_of_row w4 _ _ _ _ _ hK4]; rfl
      have q1 : w4.frozen? ⟨K, 7, none⟩ = false := frozen_of_row w4 _ _ _ _ hK4
      go_upto_region 19 with fail
      generalize h ++ ({ data := #[126] } : ByteArray) = nv
      have hK5 : (w4.setCell ⟨K, 7, none⟩ (.string nv)).heap[K]? = some (.cells (ten a b c d e f g nv i j) 39 (0, 0)) := by rw [heap_setCell_same w4 _ _ _ _ _ hK4]; rfl
      have hz5 : (w4.setCell ⟨K, 7, none⟩ (.string nv)).heap[B]? = some (.cells (ten a b c d e f g h i j) 24 (0, 0)) := by rw [Below.heap_setCell _ _ _ _ (fun e => hKne e.symm)]; exact hz4
      have hB5 : Below w.heap.size w (w4.setCell ⟨K, 7, none⟩ (.string nv)) := hB4.setCell hKlo _
      clear q0 q1 hz4 hK4 hB4
      generalize w4.setCell ⟨K, 7, none⟩ (.string nv) = w5 at *
      obtain ⟨x0, x1, x2, x3, x4, x5, x6, x7, x8, x9⟩ := ten_cells a b c d e f g h i j hz5
      go_wp2_with fail
      refine (set7 a b c d e f g h i j nv _).mono ?_
      rintro x w6 ⟨rfl, hb6⟩
      have hz6 := keep hz5 hb6
      have hK6 := keep hK5 hb6
      have hB6 : Below w.heap.size w w6 := hB5.trans (hb6.mono hB5.size)
      clear x0 x1 x2 x3 x4 x5 x6 x7 x8 x9 hz5 hK5 hB5 hb6
      unfold ten
      go_upto_region 22 with fail
      obtain ⟨T, HT⟩ : ∃ T, Hid (T = w6.heap.size) := ⟨_, rfl⟩
      have ha7 : Below w6.heap.size w6 (w6.alloc (.cells #[.string a, .string b, .string c, .string d, .string e, .string f, .string g, .string nv, .string i, .string j] 24)) := (Below.refl _ _).alloc (Nat.le_refl _) _
      have hz7 := keep hz6 ha7
      have hK7 := keep hK6 ha7
      have hB7 : Below w.heap.size w (w6.alloc (.cells #[.string a, .string b, .string c, .string d, .string e, .string f, .string g, .string nv, .string i, .string j] 24)) := hB6.trans (ha7.mono hB6.size)
      have hT7 : (w6.alloc (.cells #[.string a, .string b, .string c, .string d, .string e, .string f, .string g, .string nv, .string i, .string j] 24)).heap[T]? = some (.cells (ten a b c d e f g nv i j) 24 (0, 0)) := by rw [HT.out]; exact heap_alloc_new w6 _
      rw [← HT.out]
      clear ha7 hz6 hK6 hB6
      generalize w6.alloc (.cells #[.string a, .string b, .string c, .string d, .string e, .string f, .string g, .string nv, .string i, .string j] 24) = w7 at *
      go_cut [106] from 103 to 106 (fun v wx => v = .bool false ∧ wx.heap[B]? = some (.cells (ten a b c d e f g h i j) 24 (0, 0)) ∧ Below w.heap.size w wx)
      case first =>
        have hneq := fun wx => neq24 a b c d e f g nv i j wx
        obtain ⟨y0, y1, y2, y3, y4, y5, y6, y7, y8, y9⟩ := ten_cells a b c d e f g nv i j hT7
        go_region_with (go_at_call 13; refine (keysOf_any K a b c d e f g nv i j _ (by exact hK7)).mono ?_; rintro x w8 ⟨rfl, hb8⟩; have hT8 := keep (w := w7.drew) hT7 hb8; have hz8 := keep (w := w7.drew) hz7 hb8; have hB8 := hB7.drew.trans (hb8.mono hB7.drew.size); obtain ⟨u0, u1, u2, u3, u4, u5, u6, u7, u8, u9⟩ := ten_cells a b c d e f g nv i j hT8; unfold ten)
        all_goals
          go_wp2_with fail
          go_meet
          exact ⟨rfl, hz8, hB8⟩
      case rest =>
        obtain ⟨rfl, hz8, hB8⟩ := hcut
        go_wp2_with fail
        go_roundw
        case rel => exact ⟨8, by omega, rfl, hz8, hB8⟩
        case measure => simp [intOf]
    · go_wp2_with fail
      go_ret
      exact ⟨rfl, hbr⟩
end Go.Proofs.Qxb6600439aMods
