/- PROVED: plain facts on numbers as bytes (no program in sight). No condition. -/
import Derived.Below
import Derived.Laws.IdiomCopy
import Derived.Lib.BitFns
namespace Go.Proofs.YtleddjhlpgemjaaDoor
open Go.RowKit

theorem hid {p : Prop} (h : p) : Hid p := h

/-- The low 'n' bytes of x, the high one first. -/
def be : Nat → Int → List Int
  | 0, _ => []
  | n + 1, x => x / 256 ^ n % 256 :: be n x

theorem be_length : ∀ (n : Nat) (x : Int), (be n x).length = n
  | 0, _ => rfl
  | n + 1, x => by simp [be, be_length n x]

theorem be_get : ∀ (n : Nat) (x : Int) (j : Nat), j < n → (be n x)[j]? = some (x / 256 ^ (n - 1 - j) % 256)
  | 0, _, _, h => by omega
  | n + 1, x, 0, _ => by simp [be]
  | n + 1, x, j + 1, h => by
    simp only [be, List.getElem?_cons_succ]
    rw [be_get n x j (by omega)]
    congr 3
    congr 1
    omega

theorem be_range : ∀ (n : Nat) (x : Int), ∀ b ∈ be n x, 0 ≤ b ∧ b < 256
  | 0, _, _, h => by simp [be] at h
  | n + 1, x, b, h => by
    simp only [be, List.mem_cons] at h
    rcases h with rfl | h
    · constructor <;> omega
    · exact be_range n x b h

theorem be_drop (n k : Nat) (x : Int) : (be (n + k) x).drop k = be n x := by
  induction k with
  | zero => rfl
  | succ k ih => rw [show n + (k + 1) = (n + k) + 1 by omega]; simpa [be] using ih

/-- a list of bytes as the cells that hold them -/
def u8s (l : List Int) : List Value := l.map (Value.int .u8)
theorem u8s_length (l : List Int) : (u8s l).length = l.length := by simp [u8s]
theorem u8s_append (a b : List Int) : u8s (a ++ b) = u8s a ++ u8s b := by simp [u8s]
theorem u8s_get (l : List Int) (j : Nat) : (u8s l)[j]? = (l[j]?).map (Value.int .u8) := by simp [u8s]
theorem u8s_oneCell (l : List Int) : ∀ u ∈ u8s l, u.oneCell' = true := by
  intro u hu
  simp only [u8s, List.mem_map] at hu
  obtain ⟨a, _, rfl⟩ := hu
  rfl

theorem pow2_256 (m : Nat) : (2 : Int) ^ (8 * m) = 256 ^ m := by
  rw [Int.pow_mul]; rfl

theorem shr_byte (x : Int) (k : Nat) (hk : k < 8) : x / 2 ^ (56 - 8 * k) % 256 = x / 256 ^ (7 - k) % 256 := by
  rw [show 56 - 8 * k = 8 * (7 - k) by omega, pow2_256]

theorem be_take_succ (n : Nat) (x : Int) (m : Nat) (hm : 1 ≤ m) (hmn : m ≤ n) : (be n x).take (n - (m - 1)) = (be n x).take (n - m) ++ [x / 2 ^ (8 * (m - 1)) % 256] := by
  rw [show n - (m - 1) = (n - m) + 1 by omega, List.take_succ_eq_append_getElem (by rw [be_length]; omega)]
  congr 1
  have h := be_get n x (n - m) (by omega)
  rw [List.getElem?_eq_some_iff] at h
  obtain ⟨_, h⟩ := h
  rw [h, pow2_256, show n - 1 - (n - m) = m - 1 by omega]

/-- What setCells gives, one value more. -/
theorem setCells_snoc (b : Nat) (v : Value) : ∀ (vs : List Value) (o : Nat) (w : World), w.setCells b o (vs ++ [v]) = (w.setCells b o vs).setCell ⟨b, o + vs.length, none⟩ v
  | [], o, w => by simp [World.setCells]
  | u :: r, o, w => by
    simp only [List.cons_append, World.setCells, List.length_cons]
    rw [setCells_snoc b v r (o + 1) _, show o + 1 + r.length = o + (r.length + 1) by omega]

theorem u8s_take_succ (n : Nat) (x : Int) (k : Nat) (hk : k < n) : (u8s (be n x)).take (k + 1) = (u8s (be n x)).take k ++ [Value.int .u8 (x / 256 ^ (n - 1 - k) % 256)] := by
  rw [List.take_succ_eq_append_getElem (by simpa [u8s_length, be_length] using hk)]
  congr 1
  have h := be_get n x k hk
  have h2 : (u8s (be n x))[k]? = some (Value.int .u8 (x / 256 ^ (n - 1 - k) % 256)) := by rw [u8s_get, h]; rfl
  rw [List.getElem?_eq_some_iff] at h2
  obtain ⟨_, h2⟩ := h2
  rw [h2]

/-- How many bytes hold x (below 2^64), at least one. -/
def nb (x : Int) : Nat :=
  if x < 256 then 1 else if x < 65536 then 2 else if x < 16777216 then 3 else if x < 4294967296 then 4 else if x < 1099511627776 then 5 else if x < 281474976710656 then 6 else if x < 72057594037927936 then 7 else 8

theorem nb_range (x : Int) : 1 ≤ nb x ∧ nb x ≤ 8 := by
  unfold nb
  (repeat' split) <;> omega

theorem lz_nb (x : Int) (h0 : 128 ≤ x) (h1 : x ≤ 18446744073709551615) : ∃ z : Int, (64 : Int) - (Lib.bitLen x.toNat : Int) = z ∧ 0 ≤ z ∧ z ≤ 64 ∧ z / 8 = 8 - (nb x : Int) := by
  refine ⟨_, rfl, ?_⟩
  have hh : ∀ y : Nat, 1 ≤ y → y < 18446744073709551616 → 1 ≤ Lib.bitLen y := fun y a b => by rw [Lib.bitLen_half y (by omega) b]; omega
  obtain ⟨y, rfl⟩ := Int.eq_ofNat_of_zero_le (show 0 ≤ x by omega)
  rw [Int.toNat_natCast]
  have h2 := hh y (by omega) (by omega)
  unfold nb
  by_cases c1 : y < 256
  · have := Lib.bitLen_le8' (y : Int) (by omega) (by omega)
    rw [Int.toNat_natCast] at this
    rw [if_pos (by omega)]; omega
  by_cases c2 : y < 65536
  · have a := Lib.bitLen_le8' (y / 256 : Nat) (by omega) (by omega)
    have b := hh (y / 256) (by omega) (by omega)
    have s := Lib.bitLen_shift8 y (by omega) (by omega)
    rw [Int.toNat_natCast] at a
    rw [if_neg (by omega), if_pos (by omega)]; omega
  by_cases c3 : y < 16777216
  · have a := Lib.bitLen_le8' (y / 65536 : Nat) (by omega) (by omega)
    have b := hh (y / 65536) (by omega) (by omega)
    have s := Lib.bitLen_shift16 y (by omega) (by omega)
    rw [Int.toNat_natCast] at a
    rw [if_neg (by omega), if_neg (by omega), if_pos (by omega)]; omega
  by_cases c4 : y < 4294967296
  · have a := Lib.bitLen_le8' (y / 16777216 : Nat) (by omega) (by omega)
    have b := hh (y / 16777216) (by omega) (by omega)
    have s := Lib.bitLen_shift24 y (by omega) (by omega)
    rw [Int.toNat_natCast] at a
    rw [if_neg (by omega), if_neg (by omega), if_neg (by omega), if_pos (by omega)]; omega
  by_cases c5 : y < 1099511627776
  · have a := Lib.bitLen_le8' (y / 4294967296 : Nat) (by omega) (by omega)
    have b := hh (y / 4294967296) (by omega) (by omega)
    have s := Lib.bitLen_shift32 y (by omega) (by omega)
    rw [Int.toNat_natCast] at a
    rw [if_neg (by omega), if_neg (by omega), if_neg (by omega), if_neg (by omega), if_pos (by omega)]; omega
  by_cases c6 : y < 281474976710656
  · have a := Lib.bitLen_le8' (y / 1099511627776 : Nat) (by omega) (by omega)
    have b := hh (y / 1099511627776) (by omega) (by omega)
    have s := Lib.bitLen_shift40 y (by omega) (by omega)
    rw [Int.toNat_natCast] at a
    rw [if_neg (by omega), if_neg (by omega), if_neg (by omega), if_neg (by omega), if_neg (by omega), if_pos (by omega)]; omega
  by_cases c7 : y < 72057594037927936
  · have a := Lib.bitLen_le8' (y / 281474976710656 : Nat) (by omega) (by omega)
    have b := hh (y / 281474976710656) (by omega) (by omega)
    have s := Lib.bitLen_shift48 y (by omega) (by omega)
    rw [Int.toNat_natCast] at a
    rw [if_neg (by omega), if_neg (by omega), if_neg (by omega), if_neg (by omega), if_neg (by omega), if_neg (by omega), if_pos (by omega)]; omega
  · have a := Lib.bitLen_le8' (y / 72057594037927936 : Nat) (by omega) (by omega)
    have b := hh (y / 72057594037927936) (by omega) (by omega)
    have s := Lib.bitLen_shift56 y (by omega) (by omega)
    rw [Int.toNat_natCast] at a
    rw [if_neg (by omega), if_neg (by omega), if_neg (by omega), if_neg (by omega), if_neg (by omega), if_neg (by omega), if_neg (by omega)]; omega

theorem p256_1 : (256 : Int) ^ 1 = 256 := rfl
theorem p256_2 : (256 : Int) ^ 2 = 65536 := rfl
theorem p256_3 : (256 : Int) ^ 3 = 16777216 := rfl
theorem p256_4 : (256 : Int) ^ 4 = 4294967296 := rfl
theorem p256_5 : (256 : Int) ^ 5 = 1099511627776 := rfl
theorem p256_6 : (256 : Int) ^ 6 = 281474976710656 := rfl
theorem p256_7 : (256 : Int) ^ 7 = 72057594037927936 := rfl
theorem p256_8 : (256 : Int) ^ 8 = 18446744073709551616 := by decide

theorem nb_lt (x : Int) (h1 : x ≤ 18446744073709551615) : x < 256 ^ (nb x) := by
  unfold nb
  (repeat' split) <;> simp only [p256_1, p256_2, p256_3, p256_4, p256_5, p256_6, p256_7, p256_8] <;> omega

theorem nb_ge (x : Int) (h0 : 1 ≤ x) : 256 ^ (nb x - 1) ≤ x := by
  unfold nb
  (repeat' split) <;> simp only [Nat.sub_self, Int.pow_zero, p256_1, p256_2, p256_3, p256_4, p256_5, p256_6, p256_7, show 2 - 1 = 1 from rfl, show 3 - 1 = 2 from rfl, show 4 - 1 = 3 from rfl, show 5 - 1 = 4 from rfl, show 6 - 1 = 5 from rfl, show 7 - 1 = 6 from rfl, show 8 - 1 = 7 from rfl] <;> omega

theorem p256_pos (m : Nat) : (0 : Int) < 256 ^ m := Int.pow_pos (by omega)
theorem p256_mono {a b : Nat} (h : a ≤ b) : (256 : Int) ^ a ≤ 256 ^ b := by
  obtain ⟨c, rfl⟩ := Nat.exists_eq_add_of_le h
  rw [Int.pow_add]
  have h1 := p256_pos a
  have h2 := p256_pos c
  have : (256 : Int) ^ a * 1 ≤ 256 ^ a * 256 ^ c := Int.mul_le_mul_of_nonneg_left (by omega) (by omega)
  omega

/-- The test of spec.Uint's first loop. -/
theorem shr_zero (x : Int) (h0 : 1 ≤ x) (h1 : x ≤ 18446744073709551615) (m : Nat) : (x / 2 ^ (8 * m) == 0) = decide (nb x ≤ m) := by
  rw [pow2_256]
  by_cases h : nb x ≤ m
  · have := nb_lt x h1
    have := p256_mono h
    rw [decide_eq_true h, Int.ediv_eq_zero_of_lt (by omega) (by omega)]
    rfl
  · have ha := nb_ge x h0
    have hb := p256_mono (a := m) (b := nb x - 1) (by omega)
    have hp := p256_pos m
    rw [decide_eq_false h, beq_eq_false_iff_ne]
    have : 1 ≤ x / 256 ^ m := (Int.le_ediv_iff_mul_le hp).2 (by omega)
    omega

/-- An unsigned integer as it is written. -/
def enc (x : Int) : List Int := if x < 128 then [x] else (256 - (nb x : Int)) :: be (nb x) x

theorem enc_small (x : Int) (h : x < 128) : enc x = [x] := if_pos h
theorem enc_large (x : Int) (h : ¬ x < 128) : enc x = (256 - (nb x : Int)) :: be (nb x) x := if_neg h

theorem enc_length (x : Int) : 1 ≤ (enc x).length ∧ (enc x).length ≤ 9 := by
  unfold enc
  have := nb_range x
  split <;> simp [be_length] <;> omega

theorem enc_range (x : Int) (hx : 0 ≤ x) : ∀ b ∈ enc x, 0 ≤ b ∧ b < 256 := by
  unfold enc
  have h := nb_range x
  split
  · intro b hb; simp at hb; omega
  · intro b hb
    simp only [List.mem_cons] at hb
    rcases hb with rfl | hb
    · omega
    · exact be_range _ _ b hb

/-- The unsigned integer in which a signed one is written. -/
def fold (a : Int) : Int := if a < 0 then -2 * a - 1 else 2 * a

theorem fold_range (a : Int) (h0 : -9223372036854775808 ≤ a) (h1 : a ≤ 9223372036854775807) : 0 ≤ fold a ∧ fold a ≤ 18446744073709551615 := by
  unfold fold; split <;> omega

theorem fold_neg (a : Int) (h : a < 0) : fold a = -2 * a - 1 := if_pos h
theorem fold_pos (a : Int) (h : ¬ a < 0) : fold a = 2 * a := if_neg h

end Go.Proofs.YtleddjhlpgemjaaDoor
