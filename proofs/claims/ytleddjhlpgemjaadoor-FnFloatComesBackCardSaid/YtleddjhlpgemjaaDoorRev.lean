/- PROVED: plain facts on the turning round of eight bytes (no program in sight). Conditions: the numbers' own kinds. -/
import Derived.Test.YtleddjhlpgemjaaDoorBits
namespace Go.Proofs.YtleddjhlpgemjaaDoor
open Go.RowKit

/-- The eight bytes of x the other way round. -/
def turn (x : Int) : Int :=
  x % 256 * 72057594037927936 + x / 256 % 256 * 281474976710656 + x / 65536 % 256 * 1099511627776 + x / 16777216 % 256 * 4294967296 + x / 4294967296 % 256 * 16777216 + x / 1099511627776 % 256 * 65536 + x / 281474976710656 % 256 * 256 + x / 72057594037927936 % 256

theorem turn_range (x : Int) : 0 ≤ turn x ∧ turn x ≤ 18446744073709551615 := by
  unfold turn
  omega

theorem and_lane (k a b c d : Nat) (ha : a < 2 ^ k) (hc : c < 2 ^ k) : (2 ^ k * b + a) &&& (2 ^ k * d + c) = 2 ^ k * (b &&& d) + (a &&& c) := by
  apply Nat.eq_of_testBit_eq
  intro i
  have hac : a &&& c < 2 ^ k := Nat.and_lt_two_pow _ hc
  rw [Nat.testBit_and, Nat.testBit_two_pow_mul_add _ ha, Nat.testBit_two_pow_mul_add _ hc, Nat.testBit_two_pow_mul_add _ hac]
  split <;> rw [Nat.testBit_and]

theorem or_lane (k a b c d : Nat) (ha : a < 2 ^ k) (hc : c < 2 ^ k) : (2 ^ k * b + a) ||| (2 ^ k * d + c) = 2 ^ k * (b ||| d) + (a ||| c) := by
  apply Nat.eq_of_testBit_eq
  intro i
  have hac : a ||| c < 2 ^ k := Nat.or_lt_two_pow ha hc
  rw [Nat.testBit_or, Nat.testBit_two_pow_mul_add _ ha, Nat.testBit_two_pow_mul_add _ hc, Nat.testBit_two_pow_mul_add _ hac]
  split <;> rw [Nat.testBit_or]

theorem and255 (x : Nat) : x &&& 255 = x % 256 := Nat.and_two_pow_sub_one_eq_mod x 8
theorem and65535 (x : Nat) : x &&& 65535 = x % 65536 := Nat.and_two_pow_sub_one_eq_mod x 16

theorem and_m3 (n : Nat) (h : n < 18446744073709551616) :
    n &&& 71777214294589695 = n % 256 + n / 65536 % 256 * 65536 + n / 4294967296 % 256 * 4294967296 + n / 281474976710656 % 256 * 281474976710656 := by
  have e1 : n = 2 ^ 16 * (2 ^ 16 * (2 ^ 16 * (n / 281474976710656) + n / 4294967296 % 65536) + n / 65536 % 65536) + n % 65536 := by omega
  have e2 : 71777214294589695 = 2 ^ 16 * (2 ^ 16 * (2 ^ 16 * 255 + 255) + 255) + 255 := by decide
  rw [e2]
  conv => lhs; rw [e1]
  rw [and_lane 16 _ _ _ _ (by omega) (by omega), and_lane 16 _ _ _ _ (by omega) (by omega), and_lane 16 _ _ _ _ (by omega) (by omega), and255, and255, and255, and255]
  omega

theorem and_m4 (n : Nat) : n &&& 281470681808895 = n % 65536 + n / 4294967296 % 65536 * 4294967296 := by
  have e1 : n = 2 ^ 32 * (n / 4294967296) + n % 4294967296 := by omega
  have e2 : 281470681808895 = 2 ^ 32 * 65535 + 65535 := by decide
  rw [e2]
  conv => lhs; rw [e1]
  rw [and_lane 32 _ _ _ _ (by omega) (by omega), and65535, and65535]
  omega

theorem or_bytes (a0 a1 a2 a3 b0 b1 b2 b3 : Nat) (h0 : a0 < 256) (h1 : a1 < 256) (h2 : a2 < 256) (h3 : a3 < 256) (g0 : b0 < 256) (g1 : b1 < 256) (g2 : b2 < 256) (_g3 : b3 < 256) :
    (a0 + a1 * 65536 + a2 * 4294967296 + a3 * 281474976710656) ||| (b0 * 256 + b1 * 16777216 + b2 * 1099511627776 + b3 * 72057594037927936) =
      a0 + b0 * 256 + a1 * 65536 + b1 * 16777216 + a2 * 4294967296 + b2 * 1099511627776 + a3 * 281474976710656 + b3 * 72057594037927936 := by
  have e1 : a0 + a1 * 65536 + a2 * 4294967296 + a3 * 281474976710656 = 2 ^ 16 * (2 ^ 16 * (2 ^ 16 * a3 + a2) + a1) + a0 := by omega
  have e2 : b0 * 256 + b1 * 16777216 + b2 * 1099511627776 + b3 * 72057594037927936 = 2 ^ 16 * (2 ^ 16 * (2 ^ 16 * (b3 * 256) + b2 * 256) + b1 * 256) + b0 * 256 := by omega
  have j : ∀ a b : Nat, a < 256 → a ||| b * 256 = b * 256 + a := fun a b ha => by
    rw [Nat.or_comm]; exact nat_join 8 _ _ (by omega) (by omega)
  rw [e1, e2, or_lane 16 _ _ _ _ (by omega) (by omega), or_lane 16 _ _ _ _ (by omega) (by omega), or_lane 16 _ _ _ _ (by omega) (by omega), j _ _ h0, j _ _ h1, j _ _ h2, j _ _ h3]
  omega

theorem or_pairs (a0 a1 b0 b1 : Nat) (h0 : a0 < 65536) (h1 : a1 < 65536) (g0 : b0 < 65536) (_g1 : b1 < 65536) :
    (a0 + a1 * 4294967296) ||| (b0 * 65536 + b1 * 281474976710656) = a0 + b0 * 65536 + a1 * 4294967296 + b1 * 281474976710656 := by
  have e1 : a0 + a1 * 4294967296 = 2 ^ 32 * a1 + a0 := by omega
  have e2 : b0 * 65536 + b1 * 281474976710656 = 2 ^ 32 * (b1 * 65536) + b0 * 65536 := by omega
  have j : ∀ a b : Nat, a < 65536 → a ||| b * 65536 = b * 65536 + a := fun a b ha => by
    rw [Nat.or_comm]; exact nat_join 16 _ _ (by omega) (by omega)
  rw [e1, e2, or_lane 32 _ _ _ _ (by omega) (by omega), j _ _ h0, j _ _ h1]
  omega

theorem mul256 (a b c d : Nat) (ha : a < 256) (hb : b < 256) (hc : c < 256) (hd : d < 256) :
    ((a + b * 65536 + c * 4294967296 + d * 281474976710656 : Nat) : Int) * 256 % 18446744073709551616 = ((a * 256 + b * 16777216 + c * 1099511627776 + d * 72057594037927936 : Nat) : Int) := by omega

theorem swap1 (x : Int) (h0 : 0 ≤ x) (h1 : x ≤ 18446744073709551615) :
    bits .or .u64 (bits .and .u64 (x / 256) 71777214294589695) (IntKind.u64.wrap (bits .and .u64 x 71777214294589695 * 256)) =
      x / 256 % 256 + x % 256 * 256 + x / 16777216 % 256 * 65536 + x / 65536 % 256 * 16777216 + x / 1099511627776 % 256 * 4294967296 + x / 4294967296 % 256 * 1099511627776 + x / 72057594037927936 % 256 * 281474976710656 + x / 281474976710656 % 256 * 72057594037927936 := by
  obtain ⟨n, rfl⟩ := Int.eq_ofNat_of_zero_le h0
  have ea : bits .and .u64 ((n : Int) / 256) 71777214294589695 = ((n / 256 &&& 71777214294589695 : Nat) : Int) := by
    rw [show (n : Int) / 256 = ((n / 256 : Nat) : Int) by omega]
    exact u64_and_nat (n / 256) 71777214294589695 (by omega) (by omega)
  have eb : bits .and .u64 (n : Int) 71777214294589695 = ((n &&& 71777214294589695 : Nat) : Int) := u64_and_nat n 71777214294589695 (by omega) (by omega)
  have hm : ∀ a : Nat, a % 256 < 256 := fun a => Nat.mod_lt _ (by decide)
  rw [ea, eb, and_m3 _ (by omega), and_m3 _ (by omega), IntKind.wrap_u64, mul256 _ _ _ _ (hm _) (hm _) (hm _) (hm _)]
  simp only [Nat.div_div_eq_div_mul, Nat.reduceMul]
  have c0 := hm n
  have c1 := hm (n / 65536)
  have c2 := hm (n / 4294967296)
  have c3 := hm (n / 281474976710656)
  have d0 := hm (n / 256)
  have d1 := hm (n / 16777216)
  have d2 := hm (n / 1099511627776)
  have d3 := hm (n / 72057594037927936)
  have g0 : (n : Int) % 256 = ((n % 256 : Nat) : Int) := by omega
  have g1 : (n : Int) / 65536 % 256 = ((n / 65536 % 256 : Nat) : Int) := by omega
  have g2 : (n : Int) / 4294967296 % 256 = ((n / 4294967296 % 256 : Nat) : Int) := by omega
  have g3 : (n : Int) / 281474976710656 % 256 = ((n / 281474976710656 % 256 : Nat) : Int) := by omega
  have g4 : (n : Int) / 256 % 256 = ((n / 256 % 256 : Nat) : Int) := by omega
  have g5 : (n : Int) / 16777216 % 256 = ((n / 16777216 % 256 : Nat) : Int) := by omega
  have g6 : (n : Int) / 1099511627776 % 256 = ((n / 1099511627776 % 256 : Nat) : Int) := by omega
  have g7 : (n : Int) / 72057594037927936 % 256 = ((n / 72057594037927936 % 256 : Nat) : Int) := by omega
  rw [g0, g1, g2, g3, g4, g5, g6, g7]
  clear g0 g1 g2 g3 g4 g5 g6 g7 ea eb h0 h1 hm
  generalize n % 256 = a0 at *
  generalize n / 65536 % 256 = a1 at *
  generalize n / 4294967296 % 256 = a2 at *
  generalize n / 281474976710656 % 256 = a3 at *
  generalize n / 256 % 256 = b0 at *
  generalize n / 16777216 % 256 = b1 at *
  generalize n / 1099511627776 % 256 = b2 at *
  generalize n / 72057594037927936 % 256 = b3 at *
  rw [u64_or_nat _ _ (by omega) (by omega), or_bytes b0 b1 b2 b3 a0 a1 a2 a3 d0 d1 d2 d3 c0 c1 c2 c3]
  omega

theorem swap2 (x : Int) (h0 : 0 ≤ x) (h1 : x ≤ 18446744073709551615) :
    bits .or .u64 (bits .and .u64 (x / 65536) 281470681808895) (IntKind.u64.wrap (bits .and .u64 x 281470681808895 * 65536)) =
      x / 65536 % 65536 + x % 65536 * 65536 + x / 281474976710656 % 65536 * 4294967296 + x / 4294967296 % 65536 * 281474976710656 := by
  obtain ⟨n, rfl⟩ := Int.eq_ofNat_of_zero_le h0
  have ea : bits .and .u64 ((n : Int) / 65536) 281470681808895 = ((n / 65536 &&& 281470681808895 : Nat) : Int) := by
    rw [show (n : Int) / 65536 = ((n / 65536 : Nat) : Int) by omega]
    exact u64_and_nat (n / 65536) 281470681808895 (by omega) (by omega)
  have eb : bits .and .u64 (n : Int) 281470681808895 = ((n &&& 281470681808895 : Nat) : Int) := u64_and_nat n 281470681808895 (by omega) (by omega)
  rw [ea, eb, and_m4, and_m4, IntKind.wrap_u64]
  have ec : (((n % 65536 + n / 4294967296 % 65536 * 4294967296 : Nat) : Int) * 65536) % 18446744073709551616 = ((n % 65536 * 65536 + n / 4294967296 % 65536 * 281474976710656 : Nat) : Int) := by omega
  rw [ec, u64_or_nat _ _ (by omega) (by omega), or_pairs _ _ _ _ (by omega) (by omega) (by omega) (by omega)]
  omega

theorem swap3 (x : Int) (h0 : 0 ≤ x) (h1 : x ≤ 18446744073709551615) :
    bits .or .u64 (x / 4294967296) (IntKind.u64.wrap (x * 4294967296)) = x / 4294967296 + x % 4294967296 * 4294967296 := by
  obtain ⟨n, rfl⟩ := Int.eq_ofNat_of_zero_le h0
  rw [IntKind.wrap_u64, show (n : Int) / 4294967296 = ((n / 4294967296 : Nat) : Int) by omega, show ((n : Int) * 4294967296) % 18446744073709551616 = ((n % 4294967296 * 4294967296 : Nat) : Int) by omega,
    u64_or_nat _ _ (by omega) (by omega), Nat.or_comm, nat_join 32 _ _ (by omega) (by omega)]
  omega

theorem swaps_bytes (b0 b1 b2 b3 b4 b5 b6 b7 y z : Int) (h0 : 0 ≤ b0 ∧ b0 < 256) (h1 : 0 ≤ b1 ∧ b1 < 256) (h2 : 0 ≤ b2 ∧ b2 < 256) (h3 : 0 ≤ b3 ∧ b3 < 256) (h4 : 0 ≤ b4 ∧ b4 < 256) (h5 : 0 ≤ b5 ∧ b5 < 256) (h6 : 0 ≤ b6 ∧ b6 < 256) (h7 : 0 ≤ b7 ∧ b7 < 256)
    (hy : y = b1 + b0 * 256 + b3 * 65536 + b2 * 16777216 + b5 * 4294967296 + b4 * 1099511627776 + b7 * 281474976710656 + b6 * 72057594037927936)
    (hz : z = y / 65536 % 65536 + y % 65536 * 65536 + y / 281474976710656 % 65536 * 4294967296 + y / 4294967296 % 65536 * 281474976710656) :
    z / 4294967296 + z % 4294967296 * 4294967296 = b0 * 72057594037927936 + b1 * 281474976710656 + b2 * 1099511627776 + b3 * 4294967296 + b4 * 16777216 + b5 * 65536 + b6 * 256 + b7 := by
  have e0 : y % 65536 = b1 + b0 * 256 := by omega
  have e1 : y / 65536 % 65536 = b3 + b2 * 256 := by omega
  have e2 : y / 4294967296 % 65536 = b5 + b4 * 256 := by omega
  have e3 : y / 281474976710656 % 65536 = b7 + b6 * 256 := by omega
  rw [e0, e1, e2, e3] at hz
  clear e0 e1 e2 e3 hy
  omega

theorem mod_bd (x : Int) : 0 ≤ x % 256 ∧ x % 256 < 256 := by omega

theorem turn_swaps (x y z : Int)
    (hy : y = x / 256 % 256 + x % 256 * 256 + x / 16777216 % 256 * 65536 + x / 65536 % 256 * 16777216 + x / 1099511627776 % 256 * 4294967296 + x / 4294967296 % 256 * 1099511627776 + x / 72057594037927936 % 256 * 281474976710656 + x / 281474976710656 % 256 * 72057594037927936)
    (hz : z = y / 65536 % 65536 + y % 65536 * 65536 + y / 281474976710656 % 65536 * 4294967296 + y / 4294967296 % 65536 * 281474976710656) :
    z / 4294967296 + z % 4294967296 * 4294967296 = turn x :=
  swaps_bytes (x % 256) (x / 256 % 256) (x / 65536 % 256) (x / 16777216 % 256) (x / 4294967296 % 256) (x / 1099511627776 % 256) (x / 281474976710656 % 256) (x / 72057594037927936 % 256) y z
    (mod_bd _) (mod_bd _) (mod_bd _) (mod_bd _) (mod_bd _) (mod_bd _) (mod_bd _) (mod_bd _) hy hz

theorem rev_value (x : Int) (h0 : 0 ≤ x) (h1 : x ≤ 18446744073709551615) (y z : Int)
    (hy : y = bits .or .u64 (bits .and .u64 (x / 256) 71777214294589695) (IntKind.u64.wrap (bits .and .u64 x 71777214294589695 * 256)))
    (hz : z = bits .or .u64 (bits .and .u64 (y / 65536) 281470681808895) (IntKind.u64.wrap (bits .and .u64 y 281470681808895 * 65536))) :
    bits .or .u64 (z / 4294967296) (IntKind.u64.wrap (z * 4294967296)) = turn x := by
  rw [swap1 x h0 h1] at hy
  have hy0 : 0 ≤ y := by omega
  have hy1 : y ≤ 18446744073709551615 := by omega
  rw [swap2 y hy0 hy1] at hz
  have hz0 : 0 ≤ z := by omega
  have hz1 : z ≤ 18446744073709551615 := by omega
  rw [swap3 z hz0 hz1, turn_swaps x y z hy hz]

/-- The first k rounds of spec.Turned. -/
def turnK : Nat → Int → Int
  | 0, _ => 0
  | k + 1, x => turnK k x * 256 + x / 256 ^ k % 256

theorem turnK_range : ∀ (k : Nat) (x : Int), 0 ≤ turnK k x ∧ turnK k x < 256 ^ k
  | 0, _ => by simp [turnK]
  | k + 1, x => by
    have := turnK_range k x
    rw [turnK, Int.pow_succ]
    omega

theorem turnK_8 (x : Int) : turnK 8 x = turn x := by
  simp only [turnK, turn, Int.pow_zero, p256_1, p256_2, p256_3, p256_4, p256_5, p256_6, p256_7, Int.ediv_one]
  omega

theorem turn_step (o y : Int) (h0 : 0 ≤ o) (h1 : o < 72057594037927936) (g0 : 0 ≤ y) (g1 : y ≤ 18446744073709551615) :
    bits .or .u64 (o * 256) (bits .and .u64 y 255) = o * 256 + y % 256 := by
  obtain ⟨n, rfl⟩ := Int.eq_ofNat_of_zero_le g0
  obtain ⟨m, rfl⟩ := Int.eq_ofNat_of_zero_le h0
  have ea : bits .and .u64 (n : Int) 255 = ((n &&& 255 : Nat) : Int) := u64_and_nat n 255 (by omega) (by omega)
  rw [ea, and255, show (m : Int) * 256 = ((m * 256 : Nat) : Int) by omega, u64_or_nat _ _ (by omega) (by omega), nat_join 8 _ _ (by omega) (by omega)]
  omega

theorem div_succ (x : Int) (k : Nat) : x / 256 ^ k / 256 = x / 256 ^ (k + 1) := by
  rw [Int.ediv_ediv_of_nonneg (Int.le_of_lt (p256_pos k)), Int.pow_succ]

theorem div_range (x : Int) (k : Nat) (h0 : 0 ≤ x) (h1 : x ≤ 18446744073709551615) : 0 ≤ x / 256 ^ k ∧ x / 256 ^ k ≤ 18446744073709551615 := by
  have hp := p256_pos k
  have h := Int.ediv_nonneg h0 (Int.le_of_lt hp)
  have h2 := Int.ediv_le_self (256 ^ k) h0
  omega

end Go.Proofs.YtleddjhlpgemjaaDoor
