/- PROVED: plain facts on what bytes begin with (no program in sight): what is written is read, none begins another, the order. Conditions: the numbers' own kinds. -/
import Derived.Test.YtleddjhlpgemjaaDoorPlain
namespace Go.Proofs.YtleddjhlpgemjaaDoor
open Go.RowKit

/-- The number of some bytes, the high one first. -/
def val (l : List Int) : Int := l.foldl (fun a b => a * 256 + b) 0

/-- The unsigned integer at the beginning of bytes, and how many bytes it has. -/
def rd : List Int → Option (Int × Nat)
  | [] => none
  | b :: r => if b < 128 then some (b, 1) else if 8 < (256 - b).toNat ∨ r.length < (256 - b).toNat then none else some (val (r.take (256 - b).toNat), (256 - b).toNat + 1)

theorem emod_mul256 (x P : Int) (hp : 0 < P) : x % (P * 256) = x / P % 256 * P + x % P := by
  have h1 := Int.mul_ediv_add_emod x P
  have h2 := Int.mul_ediv_add_emod (x / P) 256
  have h3 := Int.emod_lt_of_pos x hp
  have h4 := Int.emod_nonneg x (Int.ne_of_gt hp)
  have h5 : 0 ≤ x / P % 256 ∧ x / P % 256 ≤ 255 := by omega
  have h6 := Int.mul_le_mul_of_nonneg_right h5.2 (Int.le_of_lt hp)
  have h7 := Int.mul_nonneg h5.1 (Int.le_of_lt hp)
  have hx : x = (x / P % 256 * P + x % P) + (P * 256) * (x / P / 256) := by
    conv => lhs; rw [← h1]
    conv => lhs; arg 1; rw [← h2]
    rw [Int.mul_add, Int.mul_assoc P 256, Int.mul_comm P (x / P % 256)]
    omega
  conv => lhs; rw [hx]
  rw [Int.add_mul_emod_self_left]
  exact Int.emod_eq_of_lt (by omega) (by omega)

theorem foldl_be (n : Nat) : ∀ (x a : Int), 0 ≤ x → (be n x).foldl (fun a b => a * 256 + b) a = a * 256 ^ n + x % 256 ^ n := by
  induction n with
  | zero => intro x a _; simp [be, Int.emod_one]
  | succ n ih =>
    intro x a hx
    have hp := p256_pos n
    rw [be, List.foldl_cons, ih x _ hx]
    have e : x % 256 ^ (n + 1) = x / 256 ^ n % 256 * 256 ^ n + x % 256 ^ n := by
      rw [Int.pow_succ, emod_mul256 x _ hp]
    rw [e, Int.pow_succ, Int.add_mul, Int.mul_assoc a 256 (256 ^ n), Int.mul_comm 256 (256 ^ n)]
    omega

theorem val_be (n : Nat) (x : Int) (h0 : 0 ≤ x) (h1 : x < 256 ^ n) : val (be n x) = x := by
  unfold val
  rw [foldl_be n x 0 h0, Int.zero_mul, Int.zero_add, Int.emod_eq_of_lt h0 h1]

theorem rd_enc (x : Int) (t : List Int) (h0 : 0 ≤ x) (h1 : x ≤ 18446744073709551615) : rd (enc x ++ t) = some (x, (enc x).length) := by
  by_cases c : x < 128
  · rw [enc_small x c]; simp [rd, c]
  · have hn := nb_range x
    have hl := nb_lt x h1
    rw [enc_large x c, List.cons_append, rd, if_neg (by omega), if_neg (by rw [List.length_append, be_length]; omega)]
    rw [show (256 - (256 - (nb x : Int))).toNat = nb x by omega, List.take_append_of_le_length (by rw [be_length]; exact Nat.le_refl _), List.take_of_length_le (by rw [be_length]; exact Nat.le_refl _), val_be _ _ h0 hl]
    simp [be_length]

theorem enc_prefix (x y : Int) (t : List Int) (hx0 : 0 ≤ x) (hx1 : x ≤ 18446744073709551615) (hy0 : 0 ≤ y) (hy1 : y ≤ 18446744073709551615) (h : enc x = enc y ++ t) : x = y := by
  have a := rd_enc x [] hx0 hx1
  have b := rd_enc y t hy0 hy1
  rw [List.append_nil, h, b] at a
  simp only [Option.some.injEq, Prod.mk.injEq] at a
  exact a.1.symm

end Go.Proofs.YtleddjhlpgemjaaDoor
