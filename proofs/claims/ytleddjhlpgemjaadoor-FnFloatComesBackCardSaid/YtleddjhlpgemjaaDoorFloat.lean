/- PROVED: what the functions of floating-point bits compute, in the package and in the reference. Condition: the bits are a uint64. -/
import Derived.Test.YtleddjhlpgemjaaDoorUint
import Derived.Test.YtleddjhlpgemjaaDoorRev
namespace Go.Proofs.YtleddjhlpgemjaaDoor
open Go.RowKit

theorem rev_any (x : Int) (w : World) (h0 : 0 ≤ x) (h1 : x ≤ 18446744073709551615) :
    Calls Tryd.prog 63 #[.int .u64 x] w fun e w' => e = .returned (.int .u64 (turn x)) ∧ w' = w := by
  have Hv := hid (rev_value x h0 h1 _ _ rfl rfl)
  go_enter Tryd.func63, Tryd.ntmps63
  go_wp2
  go_ret
  refine ⟨?_, rfl⟩
  rw [← Hv.out]
  rfl

theorem turned_any (x : Int) (w : World) (h0 : 0 ≤ x) (h1 : x ≤ 18446744073709551615) :
    Calls Tryd.prog 26 #[.int .u64 x] w fun e w' => e = .returned (.int .u64 (turn x)) ∧ w' = w := by
  go_enter Tryd.func26, Tryd.ntmps26
  go_wp2
  go_loop [0, 3, 4] (fun y o i => ∃ k : Nat, k ≤ 8 ∧ i = .int .i64 k ∧ ∃ ny no : Int, y = .int .u64 ny ∧ o = .int .u64 no ∧ Hid (ny = x / 256 ^ k) ∧ Hid (no = turnK k x)) (fun _ _ i => 8 - (intOf i).toNat)
  case atStart => exact ⟨0, by omega, rfl, x, 0, rfl, rfl, hid (by rw [Int.pow_zero, Int.ediv_one]), hid rfl⟩
  case round =>
    obtain ⟨k, hk, rfl, ny, no, rfl, rfl, hny, hno⟩ := hrel
    have hy := div_range x k h0 h1
    rw [← hny.out] at hy
    have ho := turnK_range k x
    rw [← hno.out] at ho
    obtain ⟨hy0, hy1⟩ := hy
    have ho0 := ho.1
    by_cases hlt : k < 8
    · have ho1 : no < 72057594037927936 := by
        have := p256_mono (a := k) (b := 7) (by omega)
        rw [p256_7] at this
        omega
      have Hs := hid (turn_step no ny ho0 ho1 hy0 hy1)
      clear ho
      go_wp2
      go_round
      case rel =>
        refine ⟨k + 1, by omega, by go_num, _, _, rfl, rfl, hid ?_, hid ?_⟩
        · rw [hny.out, div_succ]
        · rw [Hs.out, turnK, hno.out, hny.out]
      case measure => simp [intOf]; omega
    · obtain rfl : k = 8 := by omega
      clear ho
      go_wp2
      go_ret
      refine ⟨?_, rfl⟩
      rw [← turnK_8, ← hno.out]
      rfl
theorem f64bits_run (b : Nat) (w : World) : (callFunc 52 #[.float .f64 b]).run Tryd.prog w = .ok (.value (.int .u64 b)) w :=
  run_callFunc_extern (e := Extern.MathFloatBits.float64bits) Tryd.func52 (by kernel_rfl) (by kernel_rfl) (by kernel_rfl) (by kernel_rfl) _ w

theorem f64from_run (x : Int) (_h0 : 0 ≤ x) (w : World) : (callFunc 51 #[.int .u64 x]).run Tryd.prog w = .ok (.value (.float .f64 x.toNat)) w :=
  run_callFunc_extern (e := Extern.MathFloatBits.float64frombits) Tryd.func51 (by kernel_rfl) (by kernel_rfl) (by kernel_rfl) (by kernel_rfl) _ w

theorem floatBits_any (b : Nat) (w : World) (h1 : b ≤ 18446744073709551615) :
    Calls Tryd.prog 50 #[.float .f64 b] w fun e w' => e = .returned (.int .u64 (turn (b : Int))) ∧ w' = w := by
  have hfb := fun W => f64bits_run b W
  go_enter Tryd.func50, Tryd.ntmps50
  go_wp2_with fail
  refine (rev_any (b : Int) w (by omega) (by omega)).mono ?_
  rintro e w' ⟨rfl, rfl⟩
  go_wp2_with fail
  go_ret
  exact ⟨rfl, rfl⟩

theorem gFloat_any (x : Int) (w : World) (h0 : 0 ≤ x) (h1 : x ≤ 18446744073709551615) :
    Calls Tryd.prog 35 #[.int .u64 x] w fun e w' => ∃ v, e = .returned v ∧ Own w' w.heap.size v (enc (turn x)) ∧ Below w.heap.size w w' := by
  obtain ⟨i0, hi, hz0, hz1, hz2⟩ := info_parts Tryd.infoU8
  have hel := enc_length (turn x)
  have hfb := fun W => f64from_run x h0 W
  go_enter Tryd.func35, Tryd.ntmps35
  go_wp2_with fail
  refine (newEnc_any w).mono ?_
  rintro e w1 ⟨rfl, he1, hb1⟩
  have He1 := hid he1
  clear he1
  go_wp2_with fail
  refine (floatBits_any x.toNat w1 (by omega)).mono ?_
  rintro e w' ⟨rfl, rfl⟩
  rw [Int.toNat_of_nonneg h0]
  have htr := turn_range x
  go_wp2_with fail
  refine (encU_any w.heap.size [] (turn x) w' He1.out htr.1 htr.2 (by simp)).mono ?_
  rintro e w2 ⟨rfl, he2, hb2⟩
  obtain ⟨hbk, ad, cap, hd, hv⟩ := he2
  have hst := hbk.st
  have Hbk := hid hbk
  obtain ⟨a, rfl, hcells⟩ := hv.cells
  have Hc := hid hcells
  clear hbk hv hcells
  go_wp2_with fail
  refine (ebytes_any w.heap.size _ w2 hd).mono ?_
  rintro e w' ⟨rfl, rfl⟩
  have hbsz := Hbk.out.size
  go_wp2_with (at_builtin; refine wpList_append_own _ rfl _ _ 22 rfl w.heap.size 5 i0 (.int .u8 0) 1 1 Tryd.underlying22 hi hz0 hz1 hz2 rfl (by decide) _ 0 [] rfl (World.ownsRow_nil _ _ _ _) a _ cap (u8s (enc (turn x))) rfl ?c1 Hc.out (u8s_oneCell _) ?c2 ?c3 (by omega) ?_)
  case c1 => omega
  case c2 => simp only [u8s_length]; unfold maxLen; omega
  case c3 => simp only [u8s_length]; omega
  intro v' w3 hown hgrow _
  have Hown : Hid (Own w3 w.heap.size v' (enc (turn x))) := by rw [u8s_length] at hown; exact hown
  have Hbel := hid ((hb1.trans hb2).grown hgrow (by omega) (fun k hk => by simp [Value.ownBlock] at hk))
  clear hown hgrow
  go_wp2_with fail
  go_ret
  exact ⟨_, rfl, Hown.out, Hbel.out⟩

theorem iFloat_any (x : Int) (w : World) (h0 : 0 ≤ x) (h1 : x ≤ 18446744073709551615) :
    Calls Tryd.prog 23 #[.int .u64 x] w fun e w' => ∃ v, e = .returned v ∧ Own w' w.heap.size v (enc (turn x)) ∧ Below w.heap.size w w' := by
  go_enter Tryd.func23, Tryd.ntmps23
  go_wp2_with fail
  refine (gFloat_any x w h0 h1).mono ?_
  rintro e w1 ⟨v, rfl, ho, hb⟩
  have Ho := hid ho
  clear ho
  go_wp2_with fail
  go_ret
  exact ⟨_, rfl, Ho.out, hb⟩

/-- spec.IsNaN: of bits that are a number it is false; else some bool. -/
theorem sNaN_any (x : Int) (w : World) :
    Calls Tryd.prog 22 #[.int .u64 x] w fun e w' => (∃ b, e = .returned (.bool b)) ∧ w' = w := by
  go_enter Tryd.func22, Tryd.ntmps22
  go_wp2
  go_ret
  exact ⟨⟨_, rfl⟩, rfl⟩
end Go.Proofs.YtleddjhlpgemjaaDoor
