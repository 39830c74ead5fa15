/-
  THE PLAIN LAW: clearing or setting the bit changes the last test alone.
-/
import Derived.Test.Qxb6625825aReceipt
import Derived.Laws.Bits64b
set_option linter.unusedVariables false
namespace Go.Proofs.Qxb6625825a
open Go.RowKit

theorem bits_u64 (x y : Int) :
    bits .and .u64 x y = ((BitVec.ofInt 64 x &&& BitVec.ofInt 64 y).toNat : Int) ∧ bits .or .u64 x y = ((BitVec.ofInt 64 x ||| BitVec.ofInt 64 y).toNat : Int) ∧ bits .andNot .u64 x y = ((BitVec.ofInt 64 x &&& ~~~ BitVec.ofInt 64 y).toNat : Int) := by
  have key : ∀ z : BitVec 64, IntKind.u64.wrap (z.toNat : Int) = (z.toNat : Int) := fun z => by
    have := z.isLt
    rw [IntKind.wrap_u64]
    omega
  exact ⟨key _, key _, key _⟩

theorem ofInt_toNat (z : BitVec 64) : BitVec.ofInt 64 (z.toNat : Int) = z := by simp

theorem cleared (x y : Int) : bits .and .u64 (bits .andNot .u64 x y) y = 0 := by
  rw [(bits_u64 _ _).1, (bits_u64 x y).2.2, ofInt_toNat, BitVec.and_assoc]
  simp

theorem and_set (x y : Int) : bits .and .u64 (bits .or .u64 x y) y = ((BitVec.ofInt 64 y).toNat : Int) := by
  rw [(bits_u64 _ _).1, (bits_u64 x y).2.1, ofInt_toNat]
  congr 1
  have : (BitVec.ofInt 64 x ||| BitVec.ofInt 64 y) &&& BitVec.ofInt 64 y = BitVec.ofInt 64 y := by
    ext i hi
    simp
    intro h
    exact Or.inr h
  rw [this]

theorem setted (x : Int) (y : Int) (h0 : 0 < y) (h1 : y < 18446744073709551616) : bits .and .u64 (bits .or .u64 x y) y ≠ 0 := by
  rw [and_set]
  intro h
  obtain ⟨n, rfl⟩ : ∃ n : Nat, y = (n : Int) := ⟨y.toNat, by omega⟩
  rw [BitVec.ofInt_natCast, BitVec.toNat_ofNat, Nat.mod_eq_of_lt (by omega)] at h
  omega

theorem nought (x : Int) : bits .andNot .u64 x 0 = bits .or .u64 x 0 := by
  rw [(bits_u64 x 0).2.1, (bits_u64 x 0).2.2]
  have h : BitVec.ofInt 64 x &&& ~~~ BitVec.ofInt 64 0 = BitVec.ofInt 64 x ||| BitVec.ofInt 64 0 := by
    have e : BitVec.ofInt 64 0 = 0#64 := rfl
    rw [e, BitVec.or_zero]
    have e2 : ~~~ (0#64) = BitVec.allOnes 64 := by decide
    rw [e2, BitVec.and_allOnes]
  rw [h]

theorem bit_at (v : Nat) (h : v < 64) : IntKind.u64.wrap (2 ^ min v 64) = 2 ^ v ∧ (0 : Int) < 2 ^ v ∧ (2 : Int) ^ v < 18446744073709551616 := by
  have h1 : (2 : Nat) ^ v < 2 ^ 64 := Nat.pow_lt_pow_right (by omega) h
  have h2 : (0 : Nat) < 2 ^ v := Nat.pow_pos (by omega)
  have e : (2 : Int) ^ v = ((2 ^ v : Nat) : Int) := by simp
  have e2 : min v 64 = v := by omega
  rw [e2, IntKind.wrap_u64, e]
  omega

end Go.Proofs.Qxb6625825a
