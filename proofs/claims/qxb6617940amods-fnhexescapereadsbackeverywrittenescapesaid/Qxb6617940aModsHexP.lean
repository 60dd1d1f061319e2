import Derived.Laws.BitsAllLaws
import Derived.RowKit
namespace Go.Proofs.Qxb6617940aMods
open Go.RowKit

/-- The byte x is the hex digit v, in lower or upper case. -/
def IsDig (x v : Int) : Prop := (48 ≤ x ∧ x ≤ 57 ∧ x - 48 = v) ∨ (97 ≤ x ∧ x ≤ 102 ∧ x - 87 = v) ∨ (65 ≤ x ∧ x ≤ 70 ∧ x - 55 = v)

/-- What has been read after k digits of c. -/
def acc (c : Int) : Nat → Int
  | 0 => 0
  | 1 => c / 4096
  | 2 => c / 256
  | 3 => c / 16
  | _ => c
/-- The k-th digit of c. -/
def dig (c : Int) : Nat → Int
  | 0 => c / 4096
  | 1 => c / 256 % 16
  | 2 => c / 16 % 16
  | _ => c % 16

theorem ofInt_i32 (a : Nat) (ha : a < 2147483648) : (BitVec.ofInt 32 (a : Int)).toNat = a := by
  rw [BitVec.ofInt_natCast, BitVec.toNat_ofNat]; exact Nat.mod_eq_of_lt (by omega)

theorem or16_nat (a v : Nat) (ha : a < 65536) (hv : v < 16) : bits .or .i32 ((a * 16 : Nat) : Int) (v : Int) = ((a * 16 + v : Nat) : Int) := by
  show IntKind.i32.wrap ((BitVec.ofInt 32 ((a * 16 : Nat) : Int) ||| BitVec.ofInt 32 (v : Int)).toNat : Int) = _
  rw [BitVec.toNat_or, ofInt_i32 _ (by omega), ofInt_i32 _ (by omega)]
  have e : a * 16 ||| v = a * 16 + v := by
    have := Nat.two_pow_add_eq_or_of_lt (i := 4) (b := v) (by omega) a
    rw [Nat.mul_comm a 16]; exact this.symm
  rw [e]
  simp only [IntKind.wrap, IntKind.bits, IntKind.signed]
  simp
  omega

theorem and15_nat (a : Nat) (ha : a < 65536) : bits .and .i32 (a : Int) 15 = ((a % 16 : Nat) : Int) := by
  show IntKind.i32.wrap ((BitVec.ofInt 32 (a : Int) &&& BitVec.ofInt 32 ((15 : Nat) : Int)).toNat : Int) = _
  rw [BitVec.toNat_and, ofInt_i32 _ (by omega), ofInt_i32 _ (by omega)]
  have e : a &&& 15 = a % 16 := Nat.and_two_pow_sub_one_eq_mod a 4
  rw [e]
  simp only [IntKind.wrap, IntKind.bits, IntKind.signed]
  simp
  omega

theorem and15 (a : Int) (h1 : 0 ≤ a) (h2 : a < 65536) : bits .and .i32 a 15 = a % 16 := by
  obtain ⟨A, rfl⟩ := Int.eq_ofNat_of_zero_le h1
  have := and15_nat A (by omega)
  simpa using this

theorem step_digit (c v : Int) (k : Nat) (hk : k < 4) (hc : 0 ≤ c ∧ c ≤ 65535) (hv : v = dig c k) : bits .or .i32 (wrap32 (acc c k * 16)) v = acc c (k + 1) := by
  have e1 : 0 ≤ acc c k ∧ acc c k < 65536 ∧ 0 ≤ dig c k ∧ dig c k < 16 ∧ acc c (k + 1) = acc c k * 16 + dig c k := by
    match k, hk with
    | 0, _ => simp only [acc, dig]; omega
    | 1, _ => simp only [acc, dig]; omega
    | 2, _ => simp only [acc, dig]; omega
    | 3, _ => simp only [acc, dig]; omega
  subst hv
  obtain ⟨g1, g2, g3, g4, g5⟩ := e1
  rw [g5]
  have e2 : wrap32 (acc c k * 16) = acc c k * 16 := by unfold wrap32; omega
  rw [e2]
  obtain ⟨A, hA⟩ := Int.eq_ofNat_of_zero_le g1
  obtain ⟨V, hV⟩ := Int.eq_ofNat_of_zero_le g3
  rw [hA, hV]
  have := or16_nat A V (by omega) (by omega)
  simpa using this
end Go.Proofs.Qxb6617940aMods
