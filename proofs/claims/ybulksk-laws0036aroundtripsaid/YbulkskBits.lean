/-
  Bits of bytes, as the walk spells them.
-/
import Derived.Laws.BitsAllLaws
import Derived.WalkKit
namespace Go.Proofs.Ybulksk
open Go.RowKit

theorem or_i64 (N c : Int) (h1 : -36028797018963968 ≤ N) (h2 : N < 36028797018963968) (hc1 : 0 ≤ c) (hc2 : c ≤ 255) : bits .or .i64 (N * 256) c = N * 256 + c := by
  have ha : (BitVec.ofInt 64 (N * 256)).toNat = ((N * 256) % 18446744073709551616).toNat := by
    rw [BitVec.toNat_ofInt]; rfl
  have hb : (BitVec.ofInt 64 c).toNat = c.toNat := by
    rw [BitVec.toNat_ofInt]
    show (c % 18446744073709551616).toNat = c.toNat
    rw [Int.emod_eq_of_lt hc1 (by omega)]
  show IntKind.i64.wrap ((BitVec.ofInt 64 (N * 256) ||| BitVec.ofInt 64 c).toNat : Int) = _
  rw [BitVec.toNat_or, ha, hb, nat_join8 _ _ (by omega) (by omega), IntKind.wrap_i64]
  omega

theorem i8_wrap (b : Int) (h1 : 0 ≤ b) (h2 : b ≤ 255) : IntKind.i8.wrap b = if b < 128 then b else b - 256 := by
  simp [IntKind.wrap, IntKind.bits, IntKind.signed]
  split <;> omega

theorem and31 (b : Int) (h1 : 0 ≤ b) (h2 : b ≤ 255) : bits .and .u8 b 31 = b % 32 := by
  rw [u8_and b 31 h1 (by omega) (by omega) (by omega)]
  rw [show (31 : Int).toNat = 31 from rfl, nat_mask5]
  omega

theorem and128 (b : Int) (h1 : 0 ≤ b) (h2 : b ≤ 255) : bits .and .u8 b 128 = if b < 128 then 0 else 128 := by
  rw [u8_and b 128 h1 (by omega) (by omega) (by omega)]
  rw [show (128 : Int).toNat = 2 ^ 7 from rfl, nat_bit]
  split <;> omega

theorem and128_u64 (b : Int) (h1 : 0 ≤ b) (h2 : b ≤ 255) : bits .and .u64 b 128 = if b < 128 then 0 else 128 := by
  rw [u64_and b 128 h1 (by omega) (by omega) (by omega)]
  rw [show (128 : Int).toNat = 2 ^ 7 from rfl, nat_bit]
  split <;> omega

theorem and127_u64 (b : Int) (h1 : 0 ≤ b) (h2 : b ≤ 255) : bits .and .u64 b 127 = b % 128 := by
  rw [u64_and b 127 h1 (by omega) (by omega) (by omega)]
  rw [show (127 : Int).toNat = 127 from rfl, nat_mask7]
  omega

theorem or_u64_zero (c : Int) (h1 : 0 ≤ c) (h2 : c ≤ 255) : bits .or .u64 0 c = c := by
  rw [u64_or 0 c (by omega) (by omega) h1 (by omega)]
  simp
  omega

end Go.Proofs.Ybulksk
