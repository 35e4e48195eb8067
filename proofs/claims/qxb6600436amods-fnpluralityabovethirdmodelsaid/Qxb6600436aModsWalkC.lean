import Derived.Test.Qxb6600436aModsWalkB
import Derived.OwnWalk
import Derived.Maps.AppendAt
namespace Go.Proofs.Qxb6600436aMods
open Go.RowKit

def decoy : ByteArray := ⟨#[100, 101, 99, 111, 121]⟩

/-- x points at a message that carries v in field 1. -/
def Msg (w : World) (x : Value) (v : ByteArray) : Prop :=
  ∃ m q cs, x = .pointer (some ⟨m, 0, none⟩) ∧ w.heap[m]? = some (.cells cs 40 (0, 0)) ∧ cs[3]? = some (.slice (some ⟨q, 0, none⟩) 2 2) ∧ w.heap[q]? = some (.cells #[.string decoy, .string v] 9 (0, 0))

theorem Msg.keep {w w' : World} {x : Value} {v : ByteArray} (h : Msg w x v) (hk : ∀ (k : Nat) (cs : Array Value) (t : TypeId), t ≠ 37 → w.heap[k]? = some (Obj.cells cs t (0, 0)) → w'.heap[k]? = some (Obj.cells cs t (0, 0))) : Msg w' x v := by
  obtain ⟨m, q, cs, hx, hm, hc, hq⟩ := h
  exact ⟨m, q, cs, hx, hk m cs 40 (by decide) hm, hc, hk q _ 9 (by decide) hq⟩

theorem lt_of_heap {w : World} {k : Nat} {o : Obj} (h : w.heap[k]? = some o) : k < w.heap.size := (Array.getElem?_eq_some_iff.1 h).1

theorem Msg.below {w w' : World} {x : Value} {v : ByteArray} (h : Msg w x v) (hb : Below w.heap.size w w') : Msg w' x v :=
  h.keep fun k _ _ _ hk => by rw [hb.block k (lt_of_heap hk)]; exact hk

theorem message_any (n : Int) (v : ByteArray) (w : World) :
    Calls Trym.prog 19 #[.int .i64 n, .string v] w fun e w' => e = .returned (.pointer (some ⟨w.heap.size + 1, 0, none⟩)) ∧ Msg w' (.pointer (some ⟨w.heap.size + 1, 0, none⟩)) v ∧ Below w.heap.size w w' := by
  go_enter Trym.func19, Trym.ntmps19
  go_wp2
  go_ret
  refine ⟨rfl, ⟨_, w.heap.size, #[Value.int IntKind.i64 n, Value.int IntKind.i64 1, Value.bool false, Value.slice (some ⟨w.heap.size, 0, none⟩) 2 2, Value.slice none 0 0, Value.slice none 0 0], rfl, ?_, rfl, ?_⟩, ((Below.refl _ _).alloc (Nat.le_refl _) _).alloc (by simp) _⟩
  · have := heap_alloc_new (w.alloc (Obj.cells #[Value.string { data := #[100, 101, 99, 111, 121] }, Value.string v] 9)) (Obj.cells
          #[Value.int IntKind.i64 n, Value.int IntKind.i64 1, Value.bool false,
            Value.slice (some { block := w.heap.size, off := 0 }) 2 2, Value.slice none 0 0, Value.slice none 0 0]
          40)
    simpa using this
  · rw [Below.heap_alloc _ _ _ (by simp)]
    exact heap_alloc_new w _

/-- The messages that have been built: the slice v owns a row of pointers, each to a message that carries its value. -/
def MsgsOwn (w : World) (B : Nat) (v : Value) (l : List ByteArray) : Prop :=
  ∃ xs, w.ownsRow B 37 1 v l.length xs ∧ ∀ j, j < l.length → ∃ x, xs[j]? = some x ∧ Msg w x (l.getD j ByteArray.empty)

theorem MsgsOwn.shape {w : World} {B : Nat} {v : Value} {l : List ByteArray} (h : MsgsOwn w B v l) : ∃ ao cap, v = .slice ao l.length cap := by
  obtain ⟨xs, ho, _⟩ := h
  rcases ho.2 with ⟨h', h0⟩ | ⟨g, cap, cur, h', _⟩
  · exact ⟨none, 0, by rw [h', h0]⟩
  · exact ⟨_, _, h'⟩

theorem below_grownBy {w w' : World} (hb : Below w.heap.size w w') : w.grownBy w' none := ⟨hb.os, hb.tape, hb.output, hb.size, fun k hk _ => hb.block k hk⟩

theorem MsgsOwn.below {w w' : World} {B : Nat} {v : Value} {l : List ByteArray} (h : MsgsOwn w B v l) (hb : Below w.heap.size w w') : MsgsOwn w' B v l := by
  obtain ⟨xs, ho, hm⟩ := h
  refine ⟨xs, ho.kept (below_grownBy hb) (by cases hv : v.ownBlock <;> simp), fun j hj => ?_⟩
  obtain ⟨x, hx, h1⟩ := hm j hj
  exact ⟨x, hx, h1.below hb⟩

theorem MsgsOwn.snoc {w w' : World} {B : Nat} {v v' ptr : Value} {l : List ByteArray} {s : ByteArray} {xs : List Value} (ho : w.ownsRow B 37 1 v l.length xs) (hm : ∀ j, j < l.length → ∃ x, xs[j]? = some x ∧ Msg w x (l.getD j ByteArray.empty))
    (hp : Msg w ptr s) (ho' : w'.ownsRow B 37 1 v' (l.length + 1) (xs ++ [ptr])) (hg : w.grownBy w' v.ownBlock) : MsgsOwn w' B v' (l ++ [s]) := by
  have hk : ∀ (k : Nat) (cs : Array Value) (t : TypeId), t ≠ 37 → w.heap[k]? = some (Obj.cells cs t (0, 0)) → w'.heap[k]? = some (Obj.cells cs t (0, 0)) := by
    intro k cs t ht hk
    rw [hg.block k (lt_of_heap hk) ?_]
    · exact hk
    · intro e
      rcases ho.2 with ⟨h', _⟩ | ⟨g, cap, cur, h', _, hgg, _⟩
      · rw [h'] at e; cases e
      · rw [h'] at e
        obtain rfl := Option.some.inj e
        rw [hgg] at hk
        injection hk with hk
        injection hk with _ hk
        exact ht hk.symm
  have hl : xs.length = l.length := by have := ho.1; omega
  refine ⟨xs ++ [ptr], by simpa using ho', fun j hj => ?_⟩
  simp at hj
  by_cases e : j < l.length
  · obtain ⟨x, hx, h1⟩ := hm j e
    refine ⟨x, by rw [List.getElem?_append_left (by omega)]; exact hx, ?_⟩
    have : (l ++ [s]).getD j ByteArray.empty = l.getD j ByteArray.empty := by simp [List.getD, List.getElem?_append_left e]
    rw [this]
    exact h1.keep hk
  · obtain rfl : j = l.length := by omega
    refine ⟨ptr, by rw [List.getElem?_append_right (by omega), hl]; simp, ?_⟩
    have : (l ++ [s]).getD l.length ByteArray.empty = s := by simp [List.getD]
    rw [this]
    exact hp.keep hk

theorem Trym.info37 : (Trym.prog.info? 37).map (fun i => (i.zero, i.size, i.bytes)) = some (some (.pointer none), 1, 8) := by kernel_rfl

set_option maxHeartbeats 1000000 in
theorem messages_any (ao : Option Addr) (len cap : Nat) (zs : List ByteArray) (w : World) (hr : IsRow w ao len zs) (hlen : len ≤ 4096) :
    Calls Trym.prog 9 #[.slice ao len cap, .slice none 0 0] w fun e w' => ∃ v, e = .returned v ∧ MsgsOwn w' w.heap.size v zs ∧ Below w.heap.size w w' := by
  have HL : Hid (zs.length = len) := hr.1
  obtain ⟨i0, hi, hz0, hz1, hz2⟩ := info_parts Trym.info37
  go_enter Trym.func9, Trym.ntmps9
  go_wp2_with fail
  go_loopw [5, 6] (fun v i wr => ∃ k : Nat, k ≤ len + 1 ∧ i = .int .i64 k ∧ MsgsOwn wr w.heap.size v (zs.take k) ∧ Below w.heap.size w wr) (fun _ i _ => len + 1 - (intOf i).toNat)
  case atStart => exact ⟨0, Nat.zero_le _, rfl, ⟨[], World.ownsRow_nil _ _ _ _, fun j hj => absurd hj (Nat.not_lt_zero _)⟩, Below.refl _ _⟩
  case round =>
    obtain ⟨k, hk, rfl, hown, hbr⟩ := hrel
    by_cases hlt : k < len
    · obtain ⟨b, off, rfl, hck⟩ := (hr.below hbr).at hlt
      obtain ⟨ao1, cap1, rfl⟩ := hown.shape
      have hkl : (zs.take k).length = k := by rw [List.length_take, HL.out]; omega
      obtain ⟨xs, ho, hm⟩ := hown
      have HK : Hid ((zs.take k).length = k) := hkl
      have HM : Hid (∀ j, j < (zs.take k).length → ∃ x, xs[j]? = some x ∧ Msg wr x ((zs.take k).getD j ByteArray.empty)) := hm
      rw [hkl] at ho
      rw [hkl]
      clear hkl hm
      go_wp2_with fail
      refine (message_any _ _ _).mono ?_
      rintro e w1 ⟨rfl, hp1, hb1⟩
      have ho1 := ho.kept (below_grownBy hb1) (by cases hv : Value.ownBlock (.slice ao1 k cap1) <;> simp)
      clear hck
      go_wp2_with (at_builtin; refine wpList_append_own _ rfl _ _ 25 rfl w.heap.size 37 i0 (.pointer none) 1 8 Trym.underlying25 hi hz0 hz1 hz2 rfl (by decide) _ _ _ rfl (ho1.alloc _) ⟨w1.heap.size, 0, none⟩ 1 1 [.pointer (some ⟨wr.heap.size + 1, 0, none⟩)] rfl rfl (cell_one_new _ _ _) ?c2 ?c3 ?c4 ?c5 ?_)
      case c2 => intro u hu; simp at hu; subst hu; rfl
      case c3 => unfold maxLen; omega
      case c4 => omega
      case c5 => have := hbr.size; have := hb1.size; simp; omega
      intro v' w3 ho3 hg3 _
      have hb2 : Below w.heap.size w w1 := hbr.trans (hb1.mono hbr.size)
      have ha : ∀ o, Below w1.heap.size w1 (w1.alloc o) := fun o => (Below.refl _ _).alloc (Nat.le_refl _) o
      have hnew : MsgsOwn w3 w.heap.size v' (zs.take (k + 1)) := by
        rw [take_snoc (by rw [HL.out]; exact hlt)]
        refine MsgsOwn.snoc (v := .slice ao1 k cap1) (xs := xs) ?_ ?_ (hp1.below (ha _)) ?_ hg3
        · rw [HK.out]; exact ho1.alloc _
        · intro j hj
          obtain ⟨x, hx, h1⟩ := HM.out j hj
          exact ⟨x, hx, (h1.below hb1).below (ha _)⟩
        · rw [HK.out]; exact ho3
      have hb3 : Below w.heap.size w w3 := (hb2.alloc hb2.size _).grown hg3 (by have := hb2.size; simp; omega) (fun g hg => (ho1.lt g hg).1)
      clear ho3 hg3 ha hb2 hp1 ho1 hb1 ho HM hi hz0 hz1 hz2
      go_wp2_with fail
      go_roundw
      case rel => exact ⟨k + 1, by omega, by go_num, hnew, hb3⟩
      case measure => simp [intOf]; omega
    · have hall : zs.take k = zs := List.take_of_length_le (by rw [HL.out]; omega)
      have HA : Hid (zs.take k = zs) := hall
      clear hall
      by_cases hle : k = len
      · have h1 : len ≤ k := by omega
        have h2 : k ≤ len := by omega
        clear hle
        go_wp2_with fail
        go_roundw
        case rel => exact ⟨k + 1, by omega, by go_num, by rw [List.take_of_length_le (by rw [HL.out]; omega)]; rw [HA.out] at hown; exact hown, hbr⟩
        case measure => simp [intOf]; omega
      · have h1 : len + 1 ≤ k := by omega
        clear hle
        rw [HA.out] at hown
        obtain ⟨ao1, cap1, rfl⟩ := hown.shape
        go_wp2_with fail
        go_ret
        exact ⟨_, rfl, hown, hbr⟩
end Go.Proofs.Qxb6600436aMods
