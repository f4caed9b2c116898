/- PROVED: plain facts on bits (no program in sight): complement, or with 1, shifts by one with the wraps that the walk writes. Conditions: the numbers' own kinds. -/
import Derived.Test.YtleddjhlpgemjaaDoorPlain
import Derived.WalkKit
namespace Go.Proofs.YtleddjhlpgemjaaDoor
open Go.RowKit

theorem u64_not (a : Int) (h0 : 0 ≤ a) (h1 : a < 18446744073709551616) : bits .xor .u64 IntKind.u64.max a = 18446744073709551615 - a := by
  obtain ⟨n, rfl⟩ := Int.eq_ofNat_of_zero_le h0
  show IntKind.u64.wrap ((BitVec.ofInt 64 IntKind.u64.max ^^^ BitVec.ofInt 64 (n : Int)).toNat : Int) = _
  have h : BitVec.ofInt 64 IntKind.u64.max = BitVec.allOnes 64 := by decide
  rw [h, BitVec.allOnes_xor, BitVec.toNat_not, ofInt_u64 n (by omega), IntKind.wrap_u64]
  omega

theorem i64_not' (a : Int) (h0 : -9223372036854775808 ≤ a) (h1 : a ≤ 9223372036854775807) : bits .xor .i64 (-1) a = -1 - a := by
  show IntKind.i64.wrap ((BitVec.ofInt 64 (-1) ^^^ BitVec.ofInt 64 a).toNat : Int) = _
  have h : BitVec.ofInt 64 (-1) = BitVec.allOnes 64 := by decide
  rw [h, BitVec.allOnes_xor, BitVec.toNat_not, BitVec.toNat_ofInt, IntKind.wrap_i64]
  omega

theorem u64_or1 (x : Int) (h0 : 0 ≤ x) (h1 : x < 18446744073709551616) (he : x % 2 = 0) : bits .or .u64 x 1 = x + 1 := by
  rw [u64_or x 1 h0 h1 (by omega) (by omega), nat_join 1 _ _ (by omega) (by decide)]
  omega

theorem fold_spec (a : Int) (h0 : -9223372036854775808 ≤ a) (h1 : a < 0) :
    bits .or .u64 (IntKind.u64.wrap (bits .xor .u64 IntKind.u64.max (IntKind.u64.wrap a) * 2)) 1 = -2 * a - 1 := by
  rw [IntKind.wrap_u64 a, u64_not _ (by omega) (by omega), IntKind.wrap_u64, u64_or1 _ (by omega) (by omega) (by omega)]
  omega

theorem fold_code (a : Int) (h0 : -9223372036854775808 ≤ a) (h1 : a < 0) :
    bits .or .u64 (IntKind.u64.wrap (wrap64 (bits .xor .i64 (-1) a * 2))) 1 = -2 * a - 1 := by
  rw [i64_not' a h0 (by omega)]
  unfold wrap64
  rw [IntKind.wrap_u64, u64_or1 _ (by omega) (by omega) (by omega)]
  omega

theorem fold_code_pos (a : Int) (h0 : 0 ≤ a) (h1 : a ≤ 9223372036854775807) : IntKind.u64.wrap (wrap64 (a * 2)) = 2 * a := by
  unfold wrap64
  rw [IntKind.wrap_u64]
  omega
end Go.Proofs.YtleddjhlpgemjaaDoor
