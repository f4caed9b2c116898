/- PROVED: laws.FnFloat returns true for every uint64. No condition. -/
import Derived.Test.YtleddjhlpgemjaaBytes
import Derived.Test.YtleddjhlpgemjaaSUint
import Derived.Test.YtleddjhlpgemjaaFloat
namespace Go.Proofs.Ytleddjhlpgemjaa
open Go.RowKit

theorem fnFloat_walk (a0 : Int) (w : World) (h0 : 0 ≤ a0) (h1 : a0 ≤ 18446744073709551615) :
    Calls Try.prog 8 #[.int .u64 a0] w fun e w' => e = .returned (.bool true) ∧ Below w.heap.size w w' := by
  go_enter Try.func8, Try.ntmps8
  go_wp2_with fail
  refine (sNaN_any a0 w).mono ?_
  rintro e w0 ⟨⟨b, rfl⟩, rfl⟩
  cases b with
  | true =>
    go_wp2_with fail
    go_ret
    exact ⟨rfl, Below.refl _ _⟩
  | false =>
    go_wp2_with fail
    refine (iFloat_any a0 w0 h0 h1).mono ?_
    rintro e w1 ⟨v1, rfl, ho1, hb1⟩
    have Ho1 := hid ho1
    clear ho1
    go_wp2_with fail
    refine (turned_any a0 w1 h0 h1).mono ?_
    rintro e w' ⟨rfl, rfl⟩
    have htr := turn_range a0
    go_wp2_with fail
    refine (sUint_any (turn a0) w' htr.1 htr.2).mono ?_
    rintro e w2 ⟨v2, rfl, ho2, hb2⟩
    have Hh1 := hid (Ho1.out.below hb2 (Nat.le_refl _)).holds
    have Hh2 := hid ho2.holds
    clear ho2 Ho1
    go_wp2_with fail
    refine (equal_same v1 v2 _ w2 Hh1.out Hh2.out).mono ?_
    rintro e w' ⟨rfl, rfl⟩
    go_wp2_with fail
    go_ret
    exact ⟨rfl, hb1.trans (hb2.mono hb1.size)⟩
end Go.Proofs.Ytleddjhlpgemjaa
