import Derived.Test.Qxb6600439aModsRows
import Derived.WalkKit
import Derived.WalkLawsBesides
import Derived.WalkSpells
import Derived.Below
import Derived.Outline
namespace Go.Proofs.Qxb6600439aMods
open Go.RowKit

def RetS (n : Nat) (e : Ending) : Prop := ∃ b, e = .returned (.bool b) ∧ (b = true → n ≤ 1048576)

set_option maxRecDepth 100000 in
set_option maxHeartbeats 2000000 in
theorem bytes_any (a b c d e f g h i j : ByteArray) (w : World) (ha : a.size ≤ 9223372036854775807) (hb : b.size ≤ 9223372036854775807) (hc : c.size ≤ 9223372036854775807) (hd : d.size ≤ 9223372036854775807) (he : e.size ≤ 9223372036854775807)
    (hf : f.size ≤ 9223372036854775807) (hg : g.size ≤ 9223372036854775807) (hh : h.size ≤ 9223372036854775807) (hi : i.size ≤ 9223372036854775807) (hj : j.size ≤ 9223372036854775807) :
    Calls Trym.prog 5 #[.string a, .string b, .string c, .string d, .string e, .string f, .string g, .string h, .string i, .string j] w
      fun x w' => RetS (a.size + b.size + c.size + d.size + e.size + f.size + g.size + h.size + i.size + j.size) x ∧ w' = w := by
  go_enter Trym.func5, Trym.ntmps5
  go_wp2_with fail
  all_goals
    go_ret
    exact ⟨⟨_, rfl, fun hx => by first | omega | cases hx⟩, rfl⟩

set_option maxRecDepth 100000 in
set_option maxHeartbeats 2000000 in
theorem tooBig_no (a b c d e f g h i j : ByteArray) (w : World) (hs : a.size + b.size + c.size + d.size + e.size + f.size + g.size + h.size + i.size + j.size ≤ 1048576) :
    Calls Trym.prog 6 #[.string a, .string b, .string c, .string d, .string e, .string f, .string g, .string h, .string i, .string j] w
      fun x w' => x = .returned (.bool false) ∧ w' = w := by
  have ha : (a.size : Int) ≤ 1048576 := by omega
  have hb : (b.size : Int) ≤ 1048576 := by omega
  have hc : (c.size : Int) ≤ 1048576 := by omega
  have hd : (d.size : Int) ≤ 1048576 := by omega
  have he : (e.size : Int) ≤ 1048576 := by omega
  have hf : (f.size : Int) ≤ 1048576 := by omega
  have hg : (g.size : Int) ≤ 1048576 := by omega
  have hh : (h.size : Int) ≤ 1048576 := by omega
  have hi : (i.size : Int) ≤ 1048576 := by omega
  have hj : (j.size : Int) ≤ 1048576 := by omega
  have hs' : (a.size : Int) + b.size + c.size + d.size + e.size + f.size + g.size + h.size + i.size + j.size ≤ 1048576 := by omega
  have ht : decide (1048576 < (a.size : Int) + b.size + c.size + d.size + e.size + f.size + g.size + h.size + i.size + j.size) = false := by simp; omega
  go_enter Trym.func6, Trym.ntmps6
  go_wp2_with fail
  go_ret
  exact ⟨rfl, rfl⟩
end Go.Proofs.Qxb6600439aMods
