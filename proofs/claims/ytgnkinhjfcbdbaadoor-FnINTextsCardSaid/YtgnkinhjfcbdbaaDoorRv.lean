/- proto.Reader: bytes, uvarints, lengths. -/
import Derived.Test.YtgnkinhjfcbdbaaDoorRd
import Derived.Test.YtgnkinhjfcbdbaaDoorUv
namespace Go.Proofs.YtgnkinhjfcbdbaaDoor
open Go.RowKit

/-! ### UVarInt -/
/-- The bytes are a beginning of something, and not all of it. -/
def Short (rest full : List UInt8) : Prop := ∃ t, t ≠ [] ∧ full = rest ++ t

theorem or_shift (acc n k : Nat) (ha : acc < 2 ^ (7 * k)) (hs : acc + n * 2 ^ (7 * k) < 18446744073709551616) :
    bits .or .u64 (acc : Int) (IntKind.u64.wrap ((n : Int) * 2 ^ (7 * k))) = ((acc + n * 2 ^ (7 * k) : Nat) : Int) := by
  have hc : ((n : Int) * 2 ^ (7 * k)) = ((n * 2 ^ (7 * k) : Nat) : Int) := by simp
  have hw : IntKind.u64.wrap ((n * 2 ^ (7 * k) : Nat) : Int) = ((n * 2 ^ (7 * k) : Nat) : Int) := by
    generalize n * 2 ^ (7 * k) = m at *
    simp [IntKind.wrap, IntKind.bits, IntKind.signed]
    omega
  have hwr : ∀ m : Int, 0 ≤ m → m < 2 ^ 64 → IntKind.u64.wrap m = m := by
    intro m h0 h1
    simp [IntKind.wrap, IntKind.bits, IntKind.signed]
    omega
  rw [hc, hw, (bits_nat .u64 64 (by decide) hwr acc (n * 2 ^ (7 * k)) (by omega) (by omega)).2]
  congr 1
  rw [Nat.or_comm, Nat.mul_comm n, ← Nat.two_pow_add_eq_or_of_lt ha n, Nat.add_comm]

theorem and127 (bt : UInt8) (n : Nat) (h : bt.toNat = n + 128) (hn : n < 128) : IntKind.u64.wrap (bits .and .u8 (bt.toNat : Int) 127) = (n : Int) := by
  have h1 := bits_mask .u8 8 (by decide) wraps_u8 7 (by decide) (bt.toNat : Int) (by omega) (by omega)
  simp only [show ((2 : Int) ^ 7) = 128 by decide, show ((128 : Int) - 1) = 127 by decide] at h1
  rw [h1, h]
  simp [IntKind.wrap, IntKind.bits, IntKind.signed]
  omega

end Go.Proofs.YtgnkinhjfcbdbaaDoor
