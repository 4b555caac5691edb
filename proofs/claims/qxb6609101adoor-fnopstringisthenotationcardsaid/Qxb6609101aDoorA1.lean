/- The small callees: the tests on a kind, the bound on the lengths. -/
import Derived.Test.Qxb6609101aDoorS1
import Derived.WalkKit
import Derived.WalkSpells
import Derived.WalkLawsBesides
namespace Go.Proofs.Qxb6609101aDoor
open Go.RowKit

def isW (s : ByteArray) : Bool := s.toList == [119] || s.toList == [105]
def hasI (s : ByteArray) : Bool := s.toList == [114] || s.toList == [119] || s.toList == [105] || s.toList == [108] || s.toList == [115, 108] || s.toList == [120, 108] || s.toList == [117, 108] || s.toList == [117]

set_option maxHeartbeats 400000 in
theorem writes_any (s : ByteArray) (w : World) :
    Calls Tryd.prog 9 #[.string s] w fun e w' => e = .returned (.bool (isW s)) ∧ w' = w := by
  go_enter Tryd.func9, Tryd.ntmps9
  go_wp2
  all_goals (go_ret; exact ⟨by simp_all [isW], rfl⟩)

set_option maxHeartbeats 400000 in
theorem hasItem_any (s : ByteArray) (w : World) :
    Calls Tryd.prog 17 #[.string s] w fun e w' => e = .returned (.bool (hasI s)) ∧ w' = w := by
  go_enter Tryd.func17, Tryd.ntmps17
  go_wp2
  all_goals (go_ret; exact ⟨by simp_all [hasI], rfl⟩)

set_option maxHeartbeats 400000 in
theorem takesItem_any (s : ByteArray) (w : World) :
    Calls Tryd.prog 12 #[.string s] w fun e w' => e = .returned (.bool (hasI s)) ∧ w' = w := by
  go_enter Tryd.func12, Tryd.ntmps12
  go_wp2
  all_goals (go_ret; exact ⟨by simp_all [hasI], rfl⟩)

set_option maxHeartbeats 400000 in
/-- The bound on the total length: whether it answers true, the lengths fit. -/
theorem bytes6_any (k it : ByteArray) (t : Int) (w : World) (hk : k.size ≤ 9223372036854775807) (hi : it.size ≤ 9223372036854775807) :
    Calls Tryd.prog 6 #[.string k, .int .i64 t, .string it] w fun e w' => (∃ r : Bool, e = .returned (.bool r)) ∧ w' = w := by
  go_enter Tryd.func6, Tryd.ntmps6
  go_wp2
  all_goals (go_ret; exact ⟨⟨_, rfl⟩, rfl⟩)
end Go.Proofs.Qxb6609101aDoor
