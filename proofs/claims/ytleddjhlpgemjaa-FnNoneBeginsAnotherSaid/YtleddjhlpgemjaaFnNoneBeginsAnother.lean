/- PROVED: laws.FnNoneBeginsAnother returns true for every two uint64. No condition. -/
import Derived.Test.YtleddjhlpgemjaaCmp
import Derived.Test.YtleddjhlpgemjaaUint
namespace Go.Proofs.Ytleddjhlpgemjaa
open Go.RowKit

theorem none_same (x : Int) (w : World) (h0 : 0 ≤ x) (h1 : x ≤ 18446744073709551615) :
    Calls Try.prog 6 #[.int .u64 x, .int .u64 x] w fun e w' => e = .returned (.bool true) ∧ Below w.heap.size w w' := by
  have hel := (enc_length x).1
  go_enter Try.func6, Try.ntmps6
  go_wp2_with fail
  refine (iUint_any x w h0 h1).mono ?_
  rintro e w1 ⟨v1, rfl, ho1, hb1⟩
  have Ho1 := hid ho1
  clear ho1
  go_wp2_with fail
  refine (iUint_any x w1 h0 h1).mono ?_
  rintro e w2 ⟨v2, rfl, ho2, hb2⟩
  have hh1 := (Ho1.out.below hb2 (Nat.le_refl _)).holds
  obtain ⟨ad1, cap1, rfl, _⟩ := hh1.shape
  have Hh1 := hid hh1
  have Hh2 := hid ho2.holds
  have hpos : 0 < (enc x).length := by omega
  clear ho2 Ho1 hh1
  go_wp2_with fail
  refine (equal_same _ v2 _ w2 Hh1.out Hh2.out).mono ?_
  rintro e w' ⟨rfl, rfl⟩
  go_wp2_with fail
  go_ret
  exact ⟨rfl, hb1.trans (hb2.mono hb1.size)⟩

theorem none_lt (x y : Int) (w : World) (x0 : 0 ≤ x) (x1 : x ≤ 18446744073709551615) (y0 : 0 ≤ y) (y1 : y ≤ 18446744073709551615) (hlt : x < y) :
    Calls Try.prog 6 #[.int .u64 x, .int .u64 y] w fun e w' => e = .returned (.bool true) ∧ Below w.heap.size w w' := by
  have hne : (x == y) = false := by rw [beq_eq_false_iff_ne]; omega
  have p1 : Hid (∀ t, enc x ≠ enc y ++ t) := fun t h => absurd (enc_prefix x y t x0 x1 y0 y1 h) (by omega)
  have p2 : Hid (∀ t, enc y ≠ enc x ++ t) := fun t h => absurd (enc_prefix y x t y0 y1 x0 x1 h) (by omega)
  have ho := enc_order x y x0 y1 hlt
  go_enter Try.func6, Try.ntmps6
  go_wp2_with fail
  refine (iUint_any x w x0 x1).mono ?_
  rintro e w1 ⟨v1, rfl, ho1, hb1⟩
  have Ho1 := hid ho1
  clear ho1
  go_wp2_with fail
  refine (iUint_any y w1 y0 y1).mono ?_
  rintro e w2 ⟨v2, rfl, ho2, hb2⟩
  have hh1 := (Ho1.out.below hb2 (Nat.le_refl _)).holds
  have hh2 := ho2.holds
  obtain ⟨ad1, cap1, rfl, _⟩ := hh1.shape
  obtain ⟨ad2, cap2, rfl, _⟩ := hh2.shape
  have Hh1 := hid hh1
  have Hh2 := hid hh2
  clear ho2 Ho1 hh1 hh2
  go_wp2_with fail
  refine (hasPrefix_no _ _ _ _ w2 Hh1.out Hh2.out (enc_range x x0) (enc_range y y0) p1.out).mono ?_
  rintro e w3 ⟨rfl, rfl⟩
  go_wp2_with fail
  refine (hasPrefix_no _ _ _ _ w3 Hh2.out Hh1.out (enc_range y y0) (enc_range x x0) p2.out).mono ?_
  rintro e w4 ⟨rfl, rfl⟩
  rcases ho with ho | ⟨ho, hc, _⟩
  · have hl : decide ((enc x).length < (enc y).length) = true := decide_eq_true ho
    clear p1 p2 ho
    go_wp2_with fail
    go_ret
    exact ⟨rfl, hb1.trans (hb2.mono hb1.size)⟩
  · have hl : decide ((enc x).length < (enc y).length) = false := decide_eq_false (by omega)
    have he : (((enc x).length : Int) == ((enc y).length : Int)) = true := by rw [ho]; simp
    have Hc := hid hc
    clear p1 p2 ho hc
    go_wp2_with fail
    refine (compare_any _ _ _ _ w4 Hh1.out Hh2.out (-1) Hc.out).mono ?_
    rintro e w5 ⟨rfl, rfl⟩
    go_wp2_with fail
    go_ret
    exact ⟨rfl, hb1.trans (hb2.mono hb1.size)⟩
theorem none_gt (x y : Int) (w : World) (x0 : 0 ≤ x) (x1 : x ≤ 18446744073709551615) (y0 : 0 ≤ y) (y1 : y ≤ 18446744073709551615) (hgt : y < x) :
    Calls Try.prog 6 #[.int .u64 x, .int .u64 y] w fun e w' => e = .returned (.bool true) ∧ Below w.heap.size w w' := by
  have hne : (x == y) = false := by rw [beq_eq_false_iff_ne]; omega
  have p1 : Hid (∀ t, enc x ≠ enc y ++ t) := fun t h => absurd (enc_prefix x y t x0 x1 y0 y1 h) (by omega)
  have p2 : Hid (∀ t, enc y ≠ enc x ++ t) := fun t h => absurd (enc_prefix y x t y0 y1 x0 x1 h) (by omega)
  have ho := enc_order y x y0 x1 hgt
  go_enter Try.func6, Try.ntmps6
  go_wp2_with fail
  refine (iUint_any x w x0 x1).mono ?_
  rintro e w1 ⟨v1, rfl, ho1, hb1⟩
  have Ho1 := hid ho1
  clear ho1
  go_wp2_with fail
  refine (iUint_any y w1 y0 y1).mono ?_
  rintro e w2 ⟨v2, rfl, ho2, hb2⟩
  have hh1 := (Ho1.out.below hb2 (Nat.le_refl _)).holds
  have hh2 := ho2.holds
  obtain ⟨ad1, cap1, rfl, _⟩ := hh1.shape
  obtain ⟨ad2, cap2, rfl, _⟩ := hh2.shape
  have Hh1 := hid hh1
  have Hh2 := hid hh2
  clear ho2 Ho1 hh1 hh2
  go_wp2_with fail
  refine (hasPrefix_no _ _ _ _ w2 Hh1.out Hh2.out (enc_range x x0) (enc_range y y0) p1.out).mono ?_
  rintro e w3 ⟨rfl, rfl⟩
  go_wp2_with fail
  refine (hasPrefix_no _ _ _ _ w3 Hh2.out Hh1.out (enc_range y y0) (enc_range x x0) p2.out).mono ?_
  rintro e w4 ⟨rfl, rfl⟩
  rcases ho with ho | ⟨ho, _, hc⟩
  · have hl : decide ((enc x).length < (enc y).length) = false := decide_eq_false (by omega)
    have he : (((enc x).length : Int) == ((enc y).length : Int)) = false := by rw [beq_eq_false_iff_ne]; omega
    clear p1 p2 ho
    go_wp2_with fail
    go_ret
    refine ⟨?_, hb1.trans (hb2.mono hb1.size)⟩
    show Ending.returned (.bool (!decide (x < y))) = _
    rw [decide_eq_false (by omega)]
    rfl
  · have hl : decide ((enc x).length < (enc y).length) = false := decide_eq_false (by omega)
    have he : (((enc x).length : Int) == ((enc y).length : Int)) = true := by rw [ho]; simp
    have Hc := hid hc
    clear p1 p2 ho hc
    go_wp2_with fail
    refine (compare_any _ _ _ _ w4 Hh1.out Hh2.out 1 Hc.out).mono ?_
    rintro e w5 ⟨rfl, rfl⟩
    go_wp2_with fail
    go_ret
    refine ⟨?_, hb1.trans (hb2.mono hb1.size)⟩
    show Ending.returned (.bool (!decide (x < y))) = _
    rw [decide_eq_false (by omega)]
    rfl

theorem fnNoneBeginsAnother_walk (a0 a1 : Int) (w : World) (h0 : 0 ≤ a0) (h1 : a0 ≤ 18446744073709551615) (g0 : 0 ≤ a1) (g1 : a1 ≤ 18446744073709551615) :
    Calls Try.prog 6 #[.int .u64 a0, .int .u64 a1] w fun e w' => e = .returned (.bool true) ∧ Below w.heap.size w w' := by
  rcases Int.lt_trichotomy a0 a1 with h | h | h
  · exact none_lt a0 a1 w h0 h1 g0 g1 h
  · subst h
    exact none_same a0 w h0 h1
  · exact none_gt a0 a1 w h0 h1 g0 g1 h
end Go.Proofs.Ytleddjhlpgemjaa
