/-
  Packing bytes into a word of 32 or 64 bits, and its complement, as the model reckons them. No condition.
-/
import Derived.Test.YtfpihnfhmefeaaaGreatDoorLay
import Derived.Test.YtfpihnfhmefeaaaGreatDoorCode
import Derived.Laws.DeepNot64
namespace Go.Proofs.YtfpihnfhmefeaaaGreatDoor
open Go.RowKit

/-- The number fits into w bytes. -/
def Fits (w c : Nat) : Prop := c < 256 ^ w
theorem or_add (a b : Nat) (h : b < 256) : 256 * a ||| b = 256 * a + b := (Nat.two_pow_add_eq_or_of_lt (i := 8) h a).symm
theorem cx_or_u32 (c d : Nat) : bits .or .u32 ((c : Int) * 256 % 4294967296) (((d : Int) + 1) % 256) = ((c * 256 % 256 ^ 4 + (d + 1) % 256 : Nat) : Int) := by
  rw [show (c : Int) * 256 % 4294967296 = ((c * 256 % 4294967296 : Nat) : Int) by omega, show ((d : Int) + 1) % 256 = (((d + 1) % 256 : Nat) : Int) by omega, u32_or_nat _ _ (Nat.mod_lt _ (by omega)) (by omega)]
  rw [show c * 256 % 4294967296 = 256 * (c % 16777216) by omega, or_add _ _ (Nat.mod_lt _ (by omega))]
theorem cx_or_u64 (c d : Nat) : bits .or .u64 ((c : Int) * 256 % 18446744073709551616) (((d : Int) + 1) % 256) = ((c * 256 % 256 ^ 8 + (d + 1) % 256 : Nat) : Int) := by
  rw [show (c : Int) * 256 % 18446744073709551616 = ((c * 256 % 18446744073709551616 : Nat) : Int) by omega, show ((d : Int) + 1) % 256 = (((d + 1) % 256 : Nat) : Int) by omega, u64_or_nat _ _ (Nat.mod_lt _ (by omega)) (by omega)]
  rw [show c * 256 % 18446744073709551616 = 256 * (c % 72057594037927936) by omega, or_add _ _ (Nat.mod_lt _ (by omega))]
theorem cx_or_w64 (c d : Nat) : bits .or .u64 (IntKind.u64.wrap ((c : Int) * 256)) (((d : Int) + 1) % 256) = ((c * 256 % 256 ^ 8 + (d + 1) % 256 : Nat) : Int) := by
  rw [← cx_or_u64 c d]
  have : IntKind.u64.wrap ((c : Int) * 256) = (c : Int) * 256 % 18446744073709551616 := by simp [IntKind.wrap, IntKind.bits, IntKind.signed]
  rw [this]
theorem cx_not_u32 (c : Nat) (h : Fits 4 c) : bits .xor .u32 IntKind.u32.max (c : Int) = ((256 ^ 4 - 1 - c : Nat) : Int) := by
  have h' : c < 4294967296 := h
  show IntKind.u32.wrap ((BitVec.ofInt 32 IntKind.u32.max ^^^ BitVec.ofInt 32 (c : Int)).toNat : Int) = _
  have h1 : BitVec.ofInt 32 IntKind.u32.max = BitVec.allOnes 32 := by decide
  rw [h1, BitVec.allOnes_xor, BitVec.toNat_not, ofInt_u32 c h', IntKind.wrap_u32', show (256 : Nat) ^ 4 = 4294967296 by rfl]
  omega
theorem cx_not_u64 (c : Nat) (h : Fits 8 c) : bits .xor .u64 IntKind.u64.max (c : Int) = ((256 ^ 8 - 1 - c : Nat) : Int) := by
  have h' : c < 18446744073709551616 := h
  show IntKind.u64.wrap ((BitVec.ofInt 64 IntKind.u64.max ^^^ BitVec.ofInt 64 (c : Int)).toNat : Int) = _
  have h1 : BitVec.ofInt 64 IntKind.u64.max = BitVec.allOnes 64 := by decide
  rw [h1, BitVec.allOnes_xor, BitVec.toNat_not, ofInt_u64 c h', show (256 : Nat) ^ 8 = 18446744073709551616 by rfl]
  simp [IntKind.wrap, IntKind.bits, IntKind.signed]
  omega
theorem sg32 (d : Nat) (h : d < 256 ^ 4) : wrap32 (d : Int) % 4294967296 = (d : Int) := by
  rw [show (256 : Nat) ^ 4 = 4294967296 by rfl] at h
  unfold wrap32; omega
theorem sg64 (d : Nat) (h : d < 256 ^ 8) : wrap64 (d : Int) % 18446744073709551616 = (d : Int) := by
  rw [show (256 : Nat) ^ 8 = 18446744073709551616 by rfl] at h
  unfold wrap64; omega
theorem fits_next (w c d : Nat) (hw : 1 < w) : Fits w (c * 256 % 256 ^ w + (d + 1) % 256) := by
  unfold Fits
  obtain ⟨v, rfl⟩ : ∃ v, w = v + 1 := ⟨w - 1, by omega⟩
  have h1 : (256 : Nat) ^ (v + 1) = 256 ^ v * 256 := Nat.pow_succ ..
  have h2 : c * 256 % 256 ^ (v + 1) = 256 * (c % 256 ^ v) := by rw [h1, Nat.mul_mod_mul_right]; omega
  have h3 : c % 256 ^ v < 256 ^ v := Nat.mod_lt _ (Nat.pow_pos (by omega))
  have h4 : (d + 1) % 256 < 256 := Nat.mod_lt _ (by omega)
  omega
theorem fits_first (w d : Nat) (hw : 0 < w) : Fits w ((d + 1) % 256) := by
  unfold Fits
  have h4 : (d + 1) % 256 < 256 := Nat.mod_lt _ (by omega)
  have : (256 : Nat) ^ 1 ≤ 256 ^ w := Nat.pow_le_pow_right (by omega) hw
  omega

end Go.Proofs.YtfpihnfhmefeaaaGreatDoor

