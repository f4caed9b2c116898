/- PROVED: laws.FnSmallAreShort returns true for every int64. No condition. -/
import Derived.Test.YtleddjhlpgemjaaBytes
import Derived.Test.YtleddjhlpgemjaaInt
namespace Go.Proofs.Ytleddjhlpgemjaa
open Go.RowKit

theorem fnSmallAreShort_walk (a0 : Int) (w : World) (h0 : -9223372036854775808 ≤ a0) (h1 : a0 ≤ 9223372036854775807) :
    Calls Try.prog 5 #[.int .i64 a0] w fun e w' => e = .returned (.bool true) ∧ Below w.heap.size w w' := by
  have hel := enc_length (fold a0)
  by_cases c : -64 ≤ a0 ∧ a0 ≤ 63
  · have hl : (enc (fold a0)).length = 1 := by
      rw [enc_small _ (by unfold fold; split <;> omega)]; rfl
    obtain ⟨c1, c2⟩ := c
    go_enter Try.func5, Try.ntmps5
    go_wp2_with fail
    refine (iInt_any a0 w h0 h1).mono ?_
    rintro e w1 ⟨v1, rfl, ho1, hb1⟩
    obtain ⟨ad, cap, rfl, _⟩ := ho1.holds.shape
    rw [hl]
    clear ho1 hl hel
    go_wp2
    go_ret
    exact ⟨rfl, hb1⟩
  · have hl : 2 ≤ (enc (fold a0)).length := by
      rw [enc_large _ (by unfold fold; split <;> omega)]
      have := nb_range (fold a0)
      simp [be_length]; omega
    rcases (show a0 < -64 ∨ (-64 ≤ a0 ∧ 63 < a0) by omega) with c1 | ⟨c1, c2⟩
    all_goals
      clear c
      go_enter Try.func5, Try.ntmps5
      go_wp2_with fail
      refine (iInt_any a0 w h0 h1).mono ?_
      rintro e w1 ⟨v1, rfl, ho1, hb1⟩
      obtain ⟨ad, cap, rfl, _⟩ := ho1.holds.shape
      obtain ⟨n, hn⟩ : ∃ n, n = (enc (fold a0)).length := ⟨_, rfl⟩
      rw [← hn] at hl hel ⊢
      have hne : ((n : Int) == 1) = false := by rw [beq_eq_false_iff_ne]; omega
      clear ho1 hn
      go_wp2
      go_ret
      refine ⟨?_, hb1⟩
      first | rfl | (show Ending.returned (.bool (!decide (a0 ≤ 63))) = _; rw [decide_eq_false (by omega)]; rfl)
end Go.Proofs.Ytleddjhlpgemjaa
