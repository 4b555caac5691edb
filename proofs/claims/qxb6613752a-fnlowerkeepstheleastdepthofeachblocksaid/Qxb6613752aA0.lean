/- The bit operations at 1 shifted by 15, on the uint16s. -/
import Derived.Test.Qxb6613752aRows
import Derived.WalkKit
namespace Go.Proofs.Qxb6613752a

def natOk (a : Nat) : Bool := Nat.beq (Nat.land a 32767) (a % 32768) && Nat.beq (Nat.land a 32768) (a / 32768 * 32768) && Nat.beq (Nat.xor a 32768) ((a + 32768) % 65536)
theorem nat_tab : ∀ a b : Fin 256, natOk (a.val * 256 + b.val) = true := by decide +kernel
theorem nat_all {a : Nat} (h : a < 65536) : (a &&& 32767) = a % 32768 ∧ (a &&& 32768) = a / 32768 * 32768 ∧ (a ^^^ 32768) = (a + 32768) % 65536 := by
  have h := nat_tab ⟨a / 256, by omega⟩ ⟨a % 256, by omega⟩
  have he : a / 256 * 256 + a % 256 = a := by omega
  rw [he] at h
  simp only [natOk, Bool.and_eq_true] at h
  exact ⟨Nat.eq_of_beq_eq_true h.1.1, Nat.eq_of_beq_eq_true h.1.2, Nat.eq_of_beq_eq_true h.2⟩

theorem of16 {a : Nat} (h : a < 65536) : (BitVec.ofInt 16 (a : Int)).toNat = a := by
  rw [BitVec.ofInt_natCast, BitVec.toNat_ofNat]; exact Nat.mod_eq_of_lt (by omega)
theorem wrap16 {a : Nat} (h : a < 65536) : IntKind.u16.wrap (a : Int) = a := by
  show ((a : Int)) % 65536 = a
  omega
theorem bits_and16 {a : Nat} (h : a < 65536) : bits .and .u16 (a : Int) 32768 = ((a / 32768 * 32768 : Nat) : Int) := by
  show IntKind.u16.wrap ((BitVec.ofInt 16 (a : Int) &&& BitVec.ofInt 16 (32768 : Int)).toNat : Int) = _
  rw [BitVec.toNat_and, of16 h, show (BitVec.ofInt 16 (32768 : Int)).toNat = 32768 from rfl, (nat_all h).2.1]
  exact wrap16 (by omega)
theorem bits_xor16 {a : Nat} (h : a < 65536) : bits .xor .u16 (a : Int) 32768 = (((a + 32768) % 65536 : Nat) : Int) := by
  show IntKind.u16.wrap ((BitVec.ofInt 16 (a : Int) ^^^ BitVec.ofInt 16 (32768 : Int)).toNat : Int) = _
  rw [BitVec.toNat_xor, of16 h, show (BitVec.ofInt 16 (32768 : Int)).toNat = 32768 from rfl, (nat_all h).2.2]
  exact wrap16 (by omega)
theorem bits_andNot16 {a : Nat} (h : a < 65536) : bits .andNot .u16 (a : Int) 32768 = ((a % 32768 : Nat) : Int) := by
  show IntKind.u16.wrap ((BitVec.ofInt 16 (a : Int) &&& ~~~ BitVec.ofInt 16 (32768 : Int)).toNat : Int) = _
  rw [BitVec.toNat_and, of16 h, show (~~~ BitVec.ofInt 16 (32768 : Int)).toNat = 32767 from rfl, (nat_all h).1]
  exact wrap16 (by omega)
end Go.Proofs.Qxb6613752a
