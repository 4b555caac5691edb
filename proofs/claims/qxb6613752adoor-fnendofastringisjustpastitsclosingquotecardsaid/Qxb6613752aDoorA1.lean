/- The callees: the words' functions, the value's end. -/
import Derived.Test.Qxb6613752aDoorS1
import Derived.WalkKit
import Derived.WalkSpells
import Derived.WalkLawsBesides
import Derived.Deep.QuietTactic
import Derived.Deep.RegionHeld3
import Derived.BigQuiet
namespace Go.Proofs.Qxb6613752aDoor
open Go.RowKit

/-- What 'equal' answers, as the model reckons it. -/
def eqX (W c : Int) : Int := bits .xor .u64 W (72340172838076673 * c)
def eqV (W c : Int) : Int := bits .and .u64 (bits .andNot .u64 (IntKind.u64.wrap (eqX W c - 72340172838076673)) (eqX W c)) 9259542123273814144

theorem equal_any (W c : Int) (h0 : 0 ≤ c) (h1 : c ≤ 255) (w : World) :
    Calls Tryd.prog 37 #[.int .u64 W, .int .u8 c] w fun e w' => e = .returned (.int .u64 (eqV W c)) ∧ w' = w := by
  go_enter Tryd.func37, Tryd.ntmps37
  go_wp2
  go_ret
  exact ⟨rfl, rfl⟩

theorem quote_any (W : Int) (w : World) :
    Calls Tryd.prog 31 #[.int .u64 W] w fun e w' => e = .returned (.int .u64 (bits .or .u64 (eqV W 34) (eqV W 92))) ∧ w' = w := by
  have e1 := fun w => equal_any W 34 (by decide) (by decide) w
  have e2 := fun w => equal_any W 92 (by decide) (by decide) w
  generalize eqV W 34 = p at e1 ⊢
  generalize eqV W 92 = q at e2 ⊢
  have E1 : Hid _ := e1
  have E2 : Hid _ := e2
  clear e1 e2
  go_enter Tryd.func31, Tryd.ntmps31
  go_wp2_with (go_at_call 37; (first | (with_reducible refine (E1.out _).mono ?_) | (with_reducible refine (E2.out _).mono ?_)); rintro e wx ⟨rfl, hx⟩; obtain rfl := hx.symm)
  go_ret
  exact ⟨rfl, rfl⟩

theorem first_any (x : Nat) (hx : x < 18446744073709551616) (hx0 : x ≠ 0) (w : World) (hT : TabAt 1 Lib.deBruijn64tab w) :
    Calls Tryd.prog 33 #[.int .u64 x] w fun e w' => e = .returned (.int .i64 ((Lib.ctz 64 x / 8 : Nat) : Int)) ∧ w' = w := by
  have hc : Lib.ctz 64 x < 64 := (Lib.lowest_bit 64 x hx0 hx).2
  have HT : Hid (TabAt 1 Lib.deBruijn64tab w) := hT
  clear hT
  go_enter Tryd.func33, Tryd.ntmps33
  go_wp2_with (go_at_call 38; refine (tz64_any x hx hx0 _ HT.out).mono ?_; rintro e wx ⟨rfl, hx⟩; obtain rfl := hx.symm)
  go_ret
  exact ⟨by simp, rfl⟩

def IsBool (e : Ending) : Prop := ∃ r, e = .returned (.bool r)
theorem bytes5_any (a : Option Addr) (n cap : Nat) (o : Int) (w : World) (hn : n ≤ 9223372036854775807) :
    Calls Tryd.prog 5 #[.slice a n cap, .int .i64 o] w fun e w' => IsBool e ∧ w' = w := by
  go_enter Tryd.func5, Tryd.ntmps5
  go_wp2
  all_goals (go_ret; exact ⟨⟨_, rfl⟩, rfl⟩)
end Go.Proofs.Qxb6613752aDoor
