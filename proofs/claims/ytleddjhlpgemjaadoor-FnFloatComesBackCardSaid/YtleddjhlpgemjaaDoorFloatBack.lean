/- PROVED: FloatBits and FromBits of the package and of the thin package turn the eight bytes round. Condition: an uint64. -/
import Derived.Test.YtleddjhlpgemjaaDoorFloat
namespace Go.Proofs.YtleddjhlpgemjaaDoor
open Go.RowKit

theorem byte_at (P A b r : Int) (hP : 0 < P) (hr0 : 0 ≤ r) (hr1 : r < P) (hb : 0 ≤ b ∧ b < 256) : ((A * 256 + b) * P + r) / P % 256 = b := by
  rw [Int.add_comm, Int.add_mul_ediv_right _ _ (by omega), Int.ediv_eq_zero_of_lt hr0 hr1]
  omega

theorem turn_bytes (b0 b1 b2 b3 b4 b5 b6 b7 : Int) (h0 : 0 ≤ b0 ∧ b0 < 256) (h1 : 0 ≤ b1 ∧ b1 < 256) (h2 : 0 ≤ b2 ∧ b2 < 256) (h3 : 0 ≤ b3 ∧ b3 < 256) (h4 : 0 ≤ b4 ∧ b4 < 256) (h5 : 0 ≤ b5 ∧ b5 < 256) (h6 : 0 ≤ b6 ∧ b6 < 256) (h7 : 0 ≤ b7 ∧ b7 < 256) :
    turn (b0 * 72057594037927936 + b1 * 281474976710656 + b2 * 1099511627776 + b3 * 4294967296 + b4 * 16777216 + b5 * 65536 + b6 * 256 + b7) =
      b7 * 72057594037927936 + b6 * 281474976710656 + b5 * 1099511627776 + b4 * 4294967296 + b3 * 16777216 + b2 * 65536 + b1 * 256 + b0 := by
  obtain ⟨z, hz⟩ : ∃ z, z = b0 * 72057594037927936 + b1 * 281474976710656 + b2 * 1099511627776 + b3 * 4294967296 + b4 * 16777216 + b5 * 65536 + b6 * 256 + b7 := ⟨_, rfl⟩
  rw [← hz]
  have e7 : z % 256 = b7 := by have := byte_at 1 (b0 * 281474976710656 + b1 * 1099511627776 + b2 * 4294967296 + b3 * 16777216 + b4 * 65536 + b5 * 256 + b6 * 1) b7 0 (by omega) (by omega) (by omega) h7; rw [← this, Int.ediv_one]; congr 1; omega
  have e6 : z / 256 % 256 = b6 := by rw [show z = ((b0 * 1099511627776 + b1 * 4294967296 + b2 * 16777216 + b3 * 65536 + b4 * 256 + b5 * 1) * 256 + b6) * 256 + (b7 * 1) by omega]; exact byte_at _ _ _ _ (by omega) (by omega) (by omega) h6
  have e5 : z / 65536 % 256 = b5 := by rw [show z = ((b0 * 4294967296 + b1 * 16777216 + b2 * 65536 + b3 * 256 + b4 * 1) * 256 + b5) * 65536 + (b6 * 256 + b7 * 1) by omega]; exact byte_at _ _ _ _ (by omega) (by omega) (by omega) h5
  have e4 : z / 16777216 % 256 = b4 := by rw [show z = ((b0 * 16777216 + b1 * 65536 + b2 * 256 + b3 * 1) * 256 + b4) * 16777216 + (b5 * 65536 + b6 * 256 + b7 * 1) by omega]; exact byte_at _ _ _ _ (by omega) (by omega) (by omega) h4
  have e3 : z / 4294967296 % 256 = b3 := by rw [show z = ((b0 * 65536 + b1 * 256 + b2 * 1) * 256 + b3) * 4294967296 + (b4 * 16777216 + b5 * 65536 + b6 * 256 + b7 * 1) by omega]; exact byte_at _ _ _ _ (by omega) (by omega) (by omega) h3
  have e2 : z / 1099511627776 % 256 = b2 := by rw [show z = ((b0 * 256 + b1 * 1) * 256 + b2) * 1099511627776 + (b3 * 4294967296 + b4 * 16777216 + b5 * 65536 + b6 * 256 + b7 * 1) by omega]; exact byte_at _ _ _ _ (by omega) (by omega) (by omega) h2
  have e1 : z / 281474976710656 % 256 = b1 := by rw [show z = ((b0 * 1) * 256 + b1) * 281474976710656 + (b2 * 1099511627776 + b3 * 4294967296 + b4 * 16777216 + b5 * 65536 + b6 * 256 + b7 * 1) by omega]; exact byte_at _ _ _ _ (by omega) (by omega) (by omega) h1
  have e0 : z / 72057594037927936 % 256 = b0 := by rw [show z = ((0) * 256 + b0) * 72057594037927936 + (b1 * 281474976710656 + b2 * 1099511627776 + b3 * 4294967296 + b4 * 16777216 + b5 * 65536 + b6 * 256 + b7 * 1) by omega]; exact byte_at _ _ _ _ (by omega) (by omega) (by omega) h0
  unfold turn
  rw [e7, e6, e5, e4, e3, e2, e1, e0]

theorem split_byte (y P : Int) (h0 : 0 ≤ y) (h1 : y < P * 256) : ∃ q b : Int, y = q * 256 + b ∧ 0 ≤ q ∧ q < P ∧ 0 ≤ b ∧ b < 256 :=
  ⟨y / 256, y % 256, by omega, by omega, by omega, by omega, by omega⟩

theorem turn_turn (x : Int) (h0 : 0 ≤ x) (h1 : x ≤ 18446744073709551615) : turn (turn x) = x := by
  obtain ⟨x1, b7, e7, l1, m1, l7, m7⟩ := split_byte x 72057594037927936 h0 (by omega)
  obtain ⟨x2, b6, e6, l2, m2, l6, m6⟩ := split_byte x1 281474976710656 l1 (by omega)
  obtain ⟨x3, b5, e5, l3, m3, l5, m5⟩ := split_byte x2 1099511627776 l2 (by omega)
  obtain ⟨x4, b4, e4, l4, m4, l4', m4'⟩ := split_byte x3 4294967296 l3 (by omega)
  obtain ⟨x5, b3, e3, l5', m5', l3', m3'⟩ := split_byte x4 16777216 l4 (by omega)
  obtain ⟨x6, b2, e2, l6', m6', l2', m2'⟩ := split_byte x5 65536 l5' (by omega)
  obtain ⟨b0, b1, e1, l7', m7', l1', m1'⟩ := split_byte x6 256 l6' (by omega)
  rw [show x = b0 * 72057594037927936 + b1 * 281474976710656 + b2 * 1099511627776 + b3 * 4294967296 + b4 * 16777216 + b5 * 65536 + b6 * 256 + b7 by omega,
    turn_bytes b0 b1 b2 b3 b4 b5 b6 b7 ⟨l7', m7'⟩ ⟨l1', m1'⟩ ⟨l2', m2'⟩ ⟨l3', m3'⟩ ⟨l4', m4'⟩ ⟨l5, m5⟩ ⟨l6, m6⟩ ⟨l7, m7⟩,
    turn_bytes b7 b6 b5 b4 b3 b2 b1 b0 ⟨l7, m7⟩ ⟨l6, m6⟩ ⟨l5, m5⟩ ⟨l4', m4'⟩ ⟨l3', m3'⟩ ⟨l2', m2'⟩ ⟨l1', m1'⟩ ⟨l7', m7'⟩]

theorem gFloatBits_any (x : Int) (w : World) (h0 : 0 ≤ x) (h1 : x ≤ 18446744073709551615) :
    Calls Tryd.prog 37 #[.int .u64 x] w fun e w' => e = .returned (.int .u64 (turn x)) ∧ w' = w := by
  have hfb := fun W => f64from_run x h0 W
  go_enter Tryd.func37, Tryd.ntmps37
  go_wp2_with fail
  refine (floatBits_any x.toNat w (by omega)).mono ?_
  rintro e w' ⟨rfl, rfl⟩
  rw [Int.toNat_of_nonneg h0]
  go_wp2_with fail
  go_ret
  exact ⟨rfl, rfl⟩

theorem iFloatBits_any (x : Int) (w : World) (h0 : 0 ≤ x) (h1 : x ≤ 18446744073709551615) :
    Calls Tryd.prog 25 #[.int .u64 x] w fun e w' => e = .returned (.int .u64 (turn x)) ∧ w' = w := by
  go_enter Tryd.func25, Tryd.ntmps25
  go_wp2_with fail
  refine (gFloatBits_any x w h0 h1).mono ?_
  rintro e w' ⟨rfl, rfl⟩
  go_wp2_with fail
  go_ret
  exact ⟨rfl, rfl⟩

theorem f64FromBits_any (x : Int) (n : Nat) (hn : turn x = n) (w : World) (h0 : 0 ≤ x) (h1 : x ≤ 18446744073709551615) :
    Calls Tryd.prog 53 #[.int .u64 x] w fun e w' => e = .returned (.float .f64 n) ∧ w' = w := by
  have hfb := fun W => f64from_run (n : Int) (by omega) W
  go_enter Tryd.func53, Tryd.ntmps53
  go_wp2_with fail
  refine (rev_any x w h0 h1).mono ?_
  rintro e w' ⟨rfl, rfl⟩
  rw [hn]
  go_wp2_with fail
  go_ret
  exact ⟨rfl, rfl⟩

theorem gFromBits_any (x : Int) (w : World) (h0 : 0 ≤ x) (h1 : x ≤ 18446744073709551615) :
    Calls Tryd.prog 36 #[.int .u64 x] w fun e w' => e = .returned (.int .u64 (turn x)) ∧ w' = w := by
  obtain ⟨n, hn⟩ : ∃ n : Nat, turn x = n := ⟨(turn x).toNat, (Int.toNat_of_nonneg (turn_range x).1).symm⟩
  rw [hn]
  have hfb := fun W => f64bits_run n W
  go_enter Tryd.func36, Tryd.ntmps36
  go_wp2_with fail
  refine (f64FromBits_any x n hn w h0 h1).mono ?_
  rintro e w' ⟨rfl, rfl⟩
  go_wp2_with fail
  go_ret
  exact ⟨rfl, rfl⟩

theorem iFromBits_any (x : Int) (w : World) (h0 : 0 ≤ x) (h1 : x ≤ 18446744073709551615) :
    Calls Tryd.prog 24 #[.int .u64 x] w fun e w' => e = .returned (.int .u64 (turn x)) ∧ w' = w := by
  go_enter Tryd.func24, Tryd.ntmps24
  go_wp2_with fail
  refine (gFromBits_any x w h0 h1).mono ?_
  rintro e w' ⟨rfl, rfl⟩
  go_wp2_with fail
  go_ret
  exact ⟨rfl, rfl⟩
end Go.Proofs.YtleddjhlpgemjaaDoor
