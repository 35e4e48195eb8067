/- Plain lemmas on lists of strings: the frequent-items pass with two counters. No program in sight. -/
import Derived.Lib.SlicesS
namespace Go.Proofs.Qxb6600436aMods.Plain

/-! ### The byte order -/

theorem bl_irrefl : ∀ x : List UInt8, Op.bytesLess x x = false
  | [] => rfl
  | a :: x => by simp [Op.bytesLess, bl_irrefl x]

theorem bl_trans : ∀ x y z : List UInt8, Op.bytesLess x y = true → Op.bytesLess y z = true → Op.bytesLess x z = true
  | [], _, [], _, h => by cases ‹List UInt8› <;> simp [Op.bytesLess] at h
  | [], _, _ :: _, _, _ => rfl
  | _ :: _, [], _, h, _ => by simp [Op.bytesLess] at h
  | _ :: _, _ :: _, [], _, h => by simp [Op.bytesLess] at h
  | a :: x, b :: y, c :: z, h1, h2 => by
    simp only [Op.bytesLess, Bool.or_eq_true, decide_eq_true_eq, Bool.and_eq_true, beq_iff_eq] at h1 h2 ⊢
    rcases h1 with h1 | ⟨rfl, h1⟩
    · rcases h2 with h2 | ⟨rfl, h2⟩
      · exact .inl (UInt8.lt_trans h1 h2)
      · exact .inl h1
    · rcases h2 with h2 | ⟨rfl, h2⟩
      · exact .inl h2
      · exact .inr ⟨rfl, bl_trans x y z h1 h2⟩

theorem bl_total : ∀ x y : List UInt8, x ≠ y → Op.bytesLess x y = false → Op.bytesLess y x = true
  | [], [], h, _ => absurd rfl h
  | [], _ :: _, _, h => by simp [Op.bytesLess] at h
  | _ :: _, [], _, _ => rfl
  | a :: x, b :: y, h, h1 => by
    simp only [Op.bytesLess, Bool.or_eq_false_iff, decide_eq_false_iff_not, Bool.and_eq_false_iff, beq_eq_false_iff_ne] at h1
    simp only [Op.bytesLess, Bool.or_eq_true, decide_eq_true_eq, Bool.and_eq_true, beq_iff_eq]
    by_cases e : a = b
    · subst e
      refine .inr ⟨rfl, bl_total x y (fun e => h (by rw [e])) ?_⟩
      rcases h1.2 with h2 | h2
      · exact absurd rfl h2
      · exact h2
    · refine .inl ?_
      have h2 := h1.1
      rw [UInt8.lt_iff_toNat_lt] at h2 ⊢
      have : a.toNat ≠ b.toNat := fun e' => e (UInt8.toNat_inj.1 e')
      omega

def less (a b : ByteArray) : Bool := Op.bytesLess a.toList b.toList

theorem less_irrefl (a : ByteArray) : less a a = false := bl_irrefl _
theorem less_trans {a b c : ByteArray} (h : less a b = true) (g : less b c = true) : less a c = true := bl_trans _ _ _ h g
theorem less_total {a b : ByteArray} (h : a ≠ b) (g : less a b = false) : less b a = true := by
  refine bl_total _ _ (fun e => h ?_) g
  exact (Lib.bytes_beq_iff a b).1 (by rw [e]; simp)

/-! ### Counts -/

/-- How many of l are x. -/
def cnt (l : List ByteArray) (x : ByteArray) : Nat := l.countP (fun y => decide (y = x))
/-- How many of l carry a value. -/
def car (l : List ByteArray) : Nat := l.countP (fun y => !decide (y = ByteArray.empty))

theorem cnt_snoc (l : List ByteArray) (v x : ByteArray) : cnt (l ++ [v]) x = cnt l x + if v = x then 1 else 0 := by
  simp [cnt, List.countP_append, List.countP_cons]
theorem car_snoc (l : List ByteArray) (v : ByteArray) : car (l ++ [v]) = car l + if v = ByteArray.empty then 0 else 1 := by
  simp only [car, List.countP_append, List.countP_cons, List.countP_nil]
  by_cases h : v = ByteArray.empty <;> simp [h]
theorem cnt_append (l m : List ByteArray) (x : ByteArray) : cnt (l ++ m) x = cnt l x + cnt m x := by simp [cnt, List.countP_append]
theorem cnt_pos {l : List ByteArray} {x : ByteArray} : 0 < cnt l x ↔ x ∈ l := by
  simp [cnt, List.countP_pos_iff]
theorem cnt_le (l : List ByteArray) (x : ByteArray) : cnt l x ≤ l.length := List.countP_le_length
theorem car_le (l : List ByteArray) : car l ≤ l.length := List.countP_le_length
theorem car_pos {l : List ByteArray} : 0 < car l ↔ ∃ x ∈ l, x ≠ ByteArray.empty := by
  simp [car, List.countP_pos_iff]
theorem cnt_le_car {x : ByteArray} (h : x ≠ ByteArray.empty) : ∀ l, cnt l x ≤ car l
  | [] => Nat.le_refl _
  | y :: l => by
    have ih := cnt_le_car h l
    simp only [cnt, car, List.countP_cons] at ih ⊢
    by_cases e : y = x
    · subst e; simp [h]; exact ih
    · simp only [e, decide_false, Bool.false_eq_true, if_false, Nat.add_zero]
      split <;> omega

/-- Two different values do not come more often than there are messages that carry one. -/
theorem cnt_two {x y : ByteArray} (hx : x ≠ ByteArray.empty) (hy : y ≠ ByteArray.empty) (hxy : x ≠ y) : ∀ l, cnt l x + cnt l y ≤ car l
  | [] => Nat.le_refl _
  | z :: l => by
    have ih := cnt_two hx hy hxy l
    simp only [cnt, car, List.countP_cons] at ih ⊢
    by_cases e : z = x
    · subst e; simp [hx, hxy]; omega
    · by_cases e2 : z = y
      · subst e2; simp [hy, e]; omega
      · simp only [e, e2, decide_false, Bool.false_eq_true, if_false, Nat.add_zero]
        split <;> omega

/-! ### What is asked of an answer -/

/-- b is the most carried value; a tie goes to the smallest. -/
def Best (vals : List ByteArray) (b : ByteArray) : Prop :=
  b ≠ ByteArray.empty ∧ 0 < cnt vals b ∧ ∀ x, x ≠ ByteArray.empty → 0 < cnt vals x → cnt vals x < cnt vals b ∨ (cnt vals x = cnt vals b ∧ less x b = false)

def Good (vals : List ByteArray) (e : Nat) (v : ByteArray) (c : Nat) : Prop :=
  (car vals = 0 → v = ByteArray.empty ∧ c = 0) ∧
  (0 < car vals → v ≠ ByteArray.empty ∧ 0 < cnt vals v ∧ c ≤ cnt vals v ∧ min c e = min (cnt vals v) e ∧ ∀ b, Best vals b → car vals < 3 * cnt vals b → v = b)

/-- A value that more than half of the carrying messages carry is the answer. -/
theorem maj_best {vals : List ByteArray} {v b : ByteArray} (hv : v ≠ ByteArray.empty) (h : car vals < 2 * cnt vals v) (hb : Best vals b) : v = b := by
  by_cases e : v = b
  · exact e
  · have h1 := cnt_two hv hb.1 e vals
    rcases hb.2.2 v hv (by omega) with h2 | h2 <;> omega

theorem good_maj {vals : List ByteArray} {v : ByteArray} {c e : Nat} (hv : v ≠ ByteArray.empty) (h : car vals < 2 * cnt vals v) (h1 : c ≤ cnt vals v) (h2 : min c e = min (cnt vals v) e) : Good vals e v c := by
  have := cnt_le_car hv vals
  exact ⟨fun h0 => by omega, fun _ => ⟨hv, by omega, h1, h2, fun b hb _ => maj_best hv h hb⟩⟩

/-! ### The pass -/

structure Inv (p : List ByteArray) (v0 v1 : ByteArray) (c0 c1 s0 s1 can : Nat) : Prop where
  up : ∀ x, x ≠ ByteArray.empty → cnt p x ≤ (if x = v0 then c0 else if x = v1 then c1 else 0) + can
  sum : 3 * can + c0 + c1 = car p
  lo0 : v0 ≠ ByteArray.empty → c0 ≤ cnt p v0
  lo1 : v1 ≠ ByteArray.empty → c1 ≤ cnt p v1
  z0 : v0 = ByteArray.empty → c0 = 0
  z1 : v1 = ByteArray.empty → c1 = 0
  ex0 : s0 = 0 → v0 ≠ ByteArray.empty → cnt p v0 = c0 + can
  ex1 : s1 = 0 → v1 ≠ ByteArray.empty → cnt p v1 = c1 + can
  ne : v0 ≠ ByteArray.empty → v0 ≠ v1
  held : 0 < can → v0 ≠ ByteArray.empty ∧ v1 ≠ ByteArray.empty
  mem0 : v0 ≠ ByteArray.empty → 0 < cnt p v0
  mem1 : v1 ≠ ByteArray.empty → 0 < cnt p v1

theorem Inv.start : Inv [] ByteArray.empty ByteArray.empty 0 0 0 0 0 where
  up x _ := by simp [cnt]
  sum := rfl
  lo0 _ := Nat.zero_le _
  lo1 _ := Nat.zero_le _
  z0 _ := rfl
  z1 _ := rfl
  ex0 _ h := absurd rfl h
  ex1 _ h := absurd rfl h
  ne h := absurd rfl h
  held h := absurd h (Nat.lt_irrefl _)
  mem0 h := absurd rfl h
  mem1 h := absurd rfl h

variable {p : List ByteArray} {v0 v1 : ByteArray} {c0 c1 s0 s1 can : Nat}

theorem Inv.blank (h : Inv p v0 v1 c0 c1 s0 s1 can) : Inv (p ++ [ByteArray.empty]) v0 v1 c0 c1 s0 s1 can := by
  have hc : ∀ x, x ≠ ByteArray.empty → cnt (p ++ [ByteArray.empty]) x = cnt p x := fun x hx => by
    rw [cnt_snoc, if_neg (fun e => hx e.symm), Nat.add_zero]
  refine ⟨fun x hx => by rw [hc x hx]; exact h.up x hx, by rw [car_snoc, if_pos rfl]; exact h.sum, fun hx => by rw [hc _ hx]; exact h.lo0 hx, fun hx => by rw [hc _ hx]; exact h.lo1 hx, h.z0, h.z1,
    fun hs hx => by rw [hc _ hx]; exact h.ex0 hs hx, fun hs hx => by rw [hc _ hx]; exact h.ex1 hs hx, h.ne, h.held, fun hx => by rw [hc _ hx]; exact h.mem0 hx, fun hx => by rw [hc _ hx]; exact h.mem1 hx⟩

theorem Inv.hit0 (h : Inv p v0 v1 c0 c1 s0 s1 can) (hv : v0 ≠ ByteArray.empty) : Inv (p ++ [v0]) v0 v1 (c0 + 1) c1 s0 s1 can := by
  have hne := h.ne hv
  have c1' : cnt (p ++ [v0]) v1 = cnt p v1 := by rw [cnt_snoc, if_neg hne, Nat.add_zero]
  have c0' : cnt (p ++ [v0]) v0 = cnt p v0 + 1 := by rw [cnt_snoc, if_pos rfl]
  refine ⟨fun x hx => ?_, by rw [car_snoc, if_neg hv]; have := h.sum; omega, fun _ => by rw [c0']; have := h.lo0 hv; omega, fun hx => by rw [c1']; exact h.lo1 hx, fun e => absurd e hv, h.z1,
    fun hs _ => by rw [c0']; have := h.ex0 hs hv; omega, fun hs hx => by rw [c1']; exact h.ex1 hs hx, h.ne, h.held, fun _ => by rw [c0']; omega, fun hx => by rw [c1']; exact h.mem1 hx⟩
  have hu := h.up x hx
  rw [cnt_snoc]
  by_cases e : x = v0
  · subst e; simp only [if_pos] at hu ⊢; omega
  · simp only [if_neg e, if_neg (fun e' => e (Eq.symm e'))] at hu ⊢; omega

theorem Inv.hit1 (h : Inv p v0 v1 c0 c1 s0 s1 can) (hv : v1 ≠ ByteArray.empty) (hne : v1 ≠ v0) : Inv (p ++ [v1]) v0 v1 c0 (c1 + 1) s0 s1 can := by
  have c0' : cnt (p ++ [v1]) v0 = cnt p v0 := by rw [cnt_snoc, if_neg hne, Nat.add_zero]
  have c1' : cnt (p ++ [v1]) v1 = cnt p v1 + 1 := by rw [cnt_snoc, if_pos rfl]
  refine ⟨fun x hx => ?_, by rw [car_snoc, if_neg hv]; have := h.sum; omega, fun hx => by rw [c0']; exact h.lo0 hx, fun _ => by rw [c1']; have := h.lo1 hv; omega, h.z0, fun e => absurd e hv,
    fun hs hx => by rw [c0']; exact h.ex0 hs hx, fun hs _ => by rw [c1']; have := h.ex1 hs hv; omega, h.ne, h.held, fun hx => by rw [c0']; exact h.mem0 hx, fun _ => by rw [c1']; omega⟩
  have hu := h.up x hx
  rw [cnt_snoc]
  by_cases e : x = v1
  · subst e; simp only [if_neg hne, if_pos] at hu ⊢; omega
  · simp only [if_neg e, if_neg (fun e' => e (Eq.symm e'))] at hu ⊢; omega

theorem Inv.take0 {v : ByteArray} (h : Inv p v0 v1 0 c1 s0 s1 can) (hv : v ≠ ByteArray.empty) (h0 : v ≠ v0) (h1 : v ≠ v1) : Inv (p ++ [v]) v v1 1 c1 can s1 can := by
  have c1' : cnt (p ++ [v]) v1 = cnt p v1 := by rw [cnt_snoc, if_neg h1, Nat.add_zero]
  have c0' : cnt (p ++ [v]) v = cnt p v + 1 := by rw [cnt_snoc, if_pos rfl]
  have hu0 := h.up v hv
  rw [if_neg h0, if_neg h1] at hu0
  refine ⟨fun x hx => ?_, by rw [car_snoc, if_neg hv]; have := h.sum; omega, fun _ => by rw [c0']; omega, fun hx => by rw [c1']; exact h.lo1 hx, fun e => absurd e hv, h.z1,
    fun hs _ => by rw [c0']; omega, fun hs hx => by rw [c1']; exact h.ex1 hs hx, fun _ => h1, fun hc => ⟨hv, (h.held hc).2⟩, fun _ => by rw [c0']; omega, fun hx => by rw [c1']; exact h.mem1 hx⟩
  have hu := h.up x hx
  rw [cnt_snoc]
  by_cases e : x = v
  · subst e; simp only [if_pos]; omega
  · rw [if_neg (fun e' => e (Eq.symm e')), if_neg e]
    by_cases e0 : x = v0
    · rw [if_pos e0] at hu; split <;> omega
    · rw [if_neg e0] at hu; omega

theorem Inv.take1 {v : ByteArray} (h : Inv p v0 v1 c0 0 s0 s1 can) (hv : v ≠ ByteArray.empty) (h0 : v ≠ v0) (h1 : v ≠ v1) : Inv (p ++ [v]) v0 v c0 1 s0 can can := by
  have c0' : cnt (p ++ [v]) v0 = cnt p v0 := by rw [cnt_snoc, if_neg h0, Nat.add_zero]
  have c1' : cnt (p ++ [v]) v = cnt p v + 1 := by rw [cnt_snoc, if_pos rfl]
  have hu0 := h.up v hv
  rw [if_neg h0, if_neg h1] at hu0
  refine ⟨fun x hx => ?_, by rw [car_snoc, if_neg hv]; have := h.sum; omega, fun hx => by rw [c0']; exact h.lo0 hx, fun _ => by rw [c1']; omega, h.z0, fun e => absurd e hv,
    fun hs hx => by rw [c0']; exact h.ex0 hs hx, fun hs _ => by rw [c1']; omega, fun _ => fun e => h0 e.symm, fun hc => ⟨(h.held hc).1, hv⟩, fun hx => by rw [c0']; exact h.mem0 hx, fun _ => by rw [c1']; omega⟩
  have hu := h.up x hx
  rw [cnt_snoc]
  by_cases e : x = v
  · subst e; simp only [if_neg h0, if_pos]; omega
  · rw [if_neg (fun e' => e (Eq.symm e')), if_neg e]
    by_cases e0 : x = v0
    · rw [if_pos e0] at hu ⊢; omega
    · rw [if_neg e0] at hu ⊢
      split at hu <;> omega

theorem Inv.cancel {v : ByteArray} (h : Inv p v0 v1 (c0 + 1) (c1 + 1) s0 s1 can) (hv : v ≠ ByteArray.empty) (h0 : v ≠ v0) (h1 : v ≠ v1) : Inv (p ++ [v]) v0 v1 c0 c1 s0 s1 (can + 1) := by
  have n0 : v0 ≠ ByteArray.empty := fun e => by have := h.z0 e; omega
  have n1 : v1 ≠ ByteArray.empty := fun e => by have := h.z1 e; omega
  have c0' : cnt (p ++ [v]) v0 = cnt p v0 := by rw [cnt_snoc, if_neg h0, Nat.add_zero]
  have c1' : cnt (p ++ [v]) v1 = cnt p v1 := by rw [cnt_snoc, if_neg h1, Nat.add_zero]
  refine ⟨fun x hx => ?_, by rw [car_snoc, if_neg hv]; have := h.sum; omega, fun hx => by rw [c0']; have := h.lo0 hx; omega, fun hx => by rw [c1']; have := h.lo1 hx; omega, fun e => absurd e n0, fun e => absurd e n1,
    fun hs hx => by rw [c0']; have := h.ex0 hs hx; omega, fun hs hx => by rw [c1']; have := h.ex1 hs hx; omega, h.ne, fun _ => ⟨n0, n1⟩, fun hx => by rw [c0']; exact h.mem0 hx, fun hx => by rw [c1']; exact h.mem1 hx⟩
  have hu := h.up x hx
  rw [cnt_snoc]
  by_cases e : x = v
  · subst e; rw [if_neg h0, if_neg h1] at hu ⊢; rw [if_pos rfl]; omega
  · rw [if_neg (fun e' => e (Eq.symm e'))]
    by_cases e0 : x = v0
    · rw [if_pos e0] at hu ⊢; omega
    · rw [if_neg e0] at hu ⊢
      by_cases e1 : x = v1
      · rw [if_pos e1] at hu ⊢; omega
      · rw [if_neg e1] at hu ⊢; omega

/-! ### The ends -/

/-- A counter that knows its value's count has come to enough. -/
theorem early {vals rest : List ByteArray} {v : ByteArray} {e : Nat} (hs : p ++ rest = vals) (hv : v ≠ ByteArray.empty) (hc : cnt p v = e) (he : vals.length < 2 * e) : Good vals e v e := by
  have h1 : e ≤ cnt vals v := by rw [← hs, cnt_append]; omega
  have h2 := car_le vals
  exact good_maj hv (by omega) h1 (by omega)

theorem Inv.early0 {vals rest : List ByteArray} {e : Nat} (h : Inv p v0 v1 c0 c1 0 s1 can) (hs : p ++ rest = vals) (hv : v0 ≠ ByteArray.empty) (hc : c0 + can = e) (he : vals.length < 2 * e) : Good vals e v0 e :=
  early hs hv ((h.ex0 rfl hv).trans hc) he

theorem Inv.early1 {vals rest : List ByteArray} {e : Nat} (h : Inv p v0 v1 c0 c1 s0 0 can) (hs : p ++ rest = vals) (hv : v1 ≠ ByteArray.empty) (hc : c1 + can = e) (he : vals.length < 2 * e) : Good vals e v1 e :=
  early hs hv ((h.ex1 rfl hv).trans hc) he

theorem Inv.half0 {e : Nat} (h : Inv p v0 v1 c0 c1 0 s1 can) (hp : 0 < can) (hc : car p < 2 * (c0 + can)) : Good p e v0 (c0 + can) := by
  have hv := (h.held hp).1
  have hx := h.ex0 rfl hv
  exact good_maj hv (by omega) (by omega) (by rw [hx])

theorem Inv.half1 {e : Nat} (h : Inv p v0 v1 c0 c1 s0 0 can) (hp : 0 < can) (hc : car p < 2 * (c1 + can)) : Good p e v1 (c1 + can) := by
  have hv := (h.held hp).2
  have hx := h.ex1 rfl hv
  exact good_maj hv (by omega) (by omega) (by rw [hx])

/-- What the last lines choose between. -/
structure Pair (vals : List ByteArray) (v0 v1 : ByteArray) (d0 d1 : Nat) : Prop where
  is0 : v0 ≠ ByteArray.empty → d0 = cnt vals v0
  is1 : v1 ≠ ByteArray.empty → d1 = cnt vals v1
  z0 : v0 = ByteArray.empty → d0 = 0
  z1 : v1 = ByteArray.empty → d1 = 0
  ne : v0 ≠ ByteArray.empty → v0 ≠ v1
  pos : 0 < car vals → 0 < d0 + d1
  zero : car vals = 0 → v0 = ByteArray.empty ∧ v1 = ByteArray.empty
  maj : ∀ b, Best vals b → car vals < 3 * cnt vals b → b = v0 ∨ b = v1

theorem Pair.first {vals : List ByteArray} {d0 d1 e : Nat} (h : Pair vals v0 v1 d0 d1) (hc : d1 < d0 ∨ (d1 = d0 ∧ less v1 v0 = false)) : Good vals e v0 d0 := by
  refine ⟨fun h0 => ⟨(h.zero h0).1, h.z0 (h.zero h0).1⟩, fun hp => ?_⟩
  have hd := h.pos hp
  have hv : v0 ≠ ByteArray.empty := fun e0 => by have := h.z0 e0; omega
  have hx := h.is0 hv
  have hp0 : 0 < cnt vals v0 := by omega
  refine ⟨hv, hp0, by omega, by rw [hx], fun b hb h3 => ?_⟩
  rcases h.maj b hb h3 with rfl | rfl
  · rfl
  · exfalso
    have hx1 := h.is1 hb.1
    rcases hb.2.2 v0 hv hp0 with h4 | ⟨h4, h5⟩
    · omega
    · rcases hc with h6 | ⟨_, h6⟩
      · omega
      · have := less_total (h.ne hv) h5
        rw [h6] at this
        cases this

theorem Pair.second {vals : List ByteArray} {d0 d1 e : Nat} (h : Pair vals v0 v1 d0 d1) (hc : d0 < d1 ∨ (d1 = d0 ∧ less v1 v0 = true)) : Good vals e v1 d1 := by
  have hd : 0 < d1 := by
    rcases hc with h1 | ⟨h1, h2⟩
    · omega
    · by_cases hp : 0 < car vals
      · have := h.pos hp; omega
      · obtain ⟨rfl, rfl⟩ := h.zero (by omega)
        rw [less_irrefl] at h2
        cases h2
  have hv : v1 ≠ ByteArray.empty := fun e0 => by have := h.z1 e0; omega
  have hx := h.is1 hv
  have hp0 : 0 < cnt vals v1 := by omega
  refine ⟨fun h0 => by have := cnt_le_car hv vals; omega, fun hp => ⟨hv, hp0, by omega, by rw [hx], fun b hb h3 => ?_⟩⟩
  rcases h.maj b hb h3 with rfl | rfl
  · exfalso
    have hx0 := h.is0 hb.1
    rcases hb.2.2 v1 hv hp0 with h4 | ⟨h4, h5⟩
    · omega
    · rcases hc with h6 | ⟨_, h6⟩
      · omega
      · rw [h6] at h5
        cases h5
  · rfl

/-- Nothing was cancelled: the counters hold the counts. -/
theorem Inv.pair0 (h : Inv p v0 v1 c0 c1 s0 s1 0) : Pair p v0 v1 c0 c1 := by
  refine ⟨fun hv => ?_, fun hv => ?_, h.z0, h.z1, h.ne, fun hp => by have := h.sum; omega, fun h0 => ⟨?_, ?_⟩, fun b hb _ => ?_⟩
  · have h1 := h.lo0 hv
    have h2 := h.up v0 hv
    rw [if_pos rfl] at h2
    omega
  · have h1 := h.lo1 hv
    have h2 := h.up v1 hv
    by_cases e : v1 = v0
    · subst e; exact absurd rfl (h.ne hv)
    · rw [if_neg e, if_pos rfl] at h2
      omega
  · by_cases e : v0 = ByteArray.empty
    · exact e
    · have := h.mem0 e; have := cnt_le_car e p; omega
  · by_cases e : v1 = ByteArray.empty
    · exact e
    · have := h.mem1 e; have := cnt_le_car e p; omega
  · have h1 := h.up b hb.1
    have h2 := hb.2.1
    by_cases e0 : b = v0
    · exact .inl e0
    · by_cases e1 : b = v1
      · exact .inr e1
      · rw [if_neg e0, if_neg e1] at h1
        omega

/-- The second pass has counted the two values. -/
theorem Inv.pair2 (h : Inv p v0 v1 c0 c1 s0 s1 can) (hp : 0 < can) : Pair p v0 v1 (cnt p v0) (cnt p v1) := by
  obtain ⟨n0, n1⟩ := h.held hp
  refine ⟨fun _ => rfl, fun _ => rfl, fun e => absurd e n0, fun e => absurd e n1, h.ne, fun _ => by have := h.mem0 n0; omega, fun h0 => by have := h.mem0 n0; have := cnt_le_car n0 p; omega, fun b hb h3 => ?_⟩
  have h1 := h.up b hb.1
  have h2 := h.sum
  by_cases e0 : b = v0
  · exact .inl e0
  · by_cases e1 : b = v1
    · exact .inr e1
    · rw [if_neg e0, if_neg e1] at h1
      omega

/-! ### The law's own search for the most carried value -/

def BestTo (vals l : List ByteArray) (b : ByteArray) (m : Nat) : Prop :=
  (car l = 0 ∧ b = ByteArray.empty ∧ m = 0) ∨
  (0 < car l ∧ b ≠ ByteArray.empty ∧ 0 < cnt vals b ∧ m = cnt vals b ∧ ∀ x ∈ l, x ≠ ByteArray.empty → cnt vals x < m ∨ (cnt vals x = m ∧ less x b = false))

theorem BestTo.start (vals : List ByteArray) : BestTo vals [] ByteArray.empty 0 := .inl ⟨rfl, rfl, rfl⟩

theorem BestTo.blank {vals l : List ByteArray} {b : ByteArray} {m : Nat} (h : BestTo vals l b m) : BestTo vals (l ++ [ByteArray.empty]) b m := by
  have hc : car (l ++ [ByteArray.empty]) = car l := by rw [car_snoc, if_pos rfl, Nat.add_zero]
  rcases h with ⟨h1, h2, h3⟩ | ⟨h1, h2, h3, h4, h5⟩
  · exact .inl ⟨by rw [hc]; exact h1, h2, h3⟩
  · refine .inr ⟨by rw [hc]; exact h1, h2, h3, h4, fun x hx hne => ?_⟩
    rcases List.mem_append.1 hx with hx | hx
    · exact h5 x hx hne
    · simp at hx; exact absurd hx hne

theorem BestTo.more {vals l : List ByteArray} {b v : ByteArray} {m : Nat} (h : BestTo vals l b m) (hv : v ≠ ByteArray.empty) (hm : v ∈ vals) (hc : m < cnt vals v ∨ (cnt vals v = m ∧ less v b = true)) : BestTo vals (l ++ [v]) v (cnt vals v) := by
  have hp := cnt_pos.2 hm
  refine .inr ⟨by rw [car_snoc, if_neg hv]; omega, hv, hp, rfl, fun x hx hne => ?_⟩
  rcases List.mem_append.1 hx with hx | hx
  · rcases h with ⟨h1, h2, h3⟩ | ⟨h1, h2, h3, h4, h5⟩
    · exact absurd (car_pos.2 ⟨x, hx, hne⟩) (by omega)
    · rcases h5 x hx hne with h6 | ⟨h6, h7⟩
      · exact .inl (by omega)
      · rcases hc with h8 | ⟨h8, h9⟩
        · exact .inl (by omega)
        · refine .inr ⟨by omega, ?_⟩
          rw [Bool.eq_false_iff]
          intro h10
          have := less_trans h10 h9
          rw [h7] at this
          cases this
  · simp at hx; subst hx; exact .inr ⟨rfl, less_irrefl _⟩

theorem BestTo.less {vals l : List ByteArray} {b v : ByteArray} {m : Nat} (h : BestTo vals l b m) (hv : v ≠ ByteArray.empty) (hm : v ∈ vals) (hc : cnt vals v < m ∨ (cnt vals v = m ∧ less v b = false)) : BestTo vals (l ++ [v]) b m := by
  have hp := cnt_pos.2 hm
  rcases h with ⟨h1, h2, h3⟩ | ⟨h1, h2, h3, h4, h5⟩
  · omega
  · refine .inr ⟨by rw [car_snoc, if_neg hv]; omega, h2, h3, h4, fun x hx hne => ?_⟩
    rcases List.mem_append.1 hx with hx | hx
    · exact h5 x hx hne
    · simp at hx; subst hx; exact hc

theorem BestTo.best {vals : List ByteArray} {b : ByteArray} {m : Nat} (h : BestTo vals vals b m) (hp : 0 < car vals) : Best vals b ∧ m = cnt vals b := by
  rcases h with ⟨h1, _, _⟩ | ⟨h1, h2, h3, h4, h5⟩
  · omega
  · exact ⟨⟨h2, h3, fun x hx hc => by rw [← h4]; exact h5 x (cnt_pos.1 hc) hx⟩, h4⟩
end Go.Proofs.Qxb6600436aMods.Plain
