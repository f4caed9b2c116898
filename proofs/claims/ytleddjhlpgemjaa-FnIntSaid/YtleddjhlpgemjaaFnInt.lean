/- PROVED: laws.FnInt returns true for every int64. No condition. -/
import Derived.Test.YtleddjhlpgemjaaBytes
import Derived.Test.YtleddjhlpgemjaaSUint
import Derived.Test.YtleddjhlpgemjaaInt
namespace Go.Proofs.Ytleddjhlpgemjaa
open Go.RowKit

theorem fnInt_walk (a0 : Int) (w : World) (h0 : -9223372036854775808 ≤ a0) (h1 : a0 ≤ 9223372036854775807) :
    Calls Try.prog 7 #[.int .i64 a0] w fun e w' => e = .returned (.bool true) ∧ Below w.heap.size w w' := by
  go_enter Try.func7, Try.ntmps7
  go_wp2_with fail
  refine (iInt_any a0 w h0 h1).mono ?_
  rintro e w1 ⟨v1, rfl, ho1, hb1⟩
  have Ho1 := hid ho1
  clear ho1
  go_wp2_with fail
  have hfr := fold_range a0 h0 h1
  refine (sFold_any a0 w1 h0 h1).mono ?_
  rintro e w' ⟨rfl, rfl⟩
  go_wp2_with fail
  refine (sUint_any (fold a0) w' hfr.1 hfr.2).mono ?_
  rintro e w2 ⟨v2, rfl, ho2, hb2⟩
  have Hh1 := hid (Ho1.out.below hb2 (Nat.le_refl _)).holds
  have Hh2 := hid ho2.holds
  clear ho2 Ho1
  go_wp2_with fail
  refine (equal_same v1 v2 _ w2 Hh1.out Hh2.out).mono ?_
  rintro e w' ⟨rfl, rfl⟩
  go_wp2_with fail
  go_ret
  exact ⟨rfl, hb1.trans (hb2.mono hb1.size)⟩
end Go.Proofs.Ytleddjhlpgemjaa
