/- PROVED: the reference's Uint hands back a new slice of the bytes 'enc x'. Condition: x is a uint64. -/
import Derived.Test.YtleddjhlpgemjaaDoorUint
namespace Go.Proofs.YtleddjhlpgemjaaDoor
open Go.RowKit

theorem sUint_small (x : Int) (w : World) (h0 : 0 ≤ x) (h1 : x < 128) :
    Calls Tryd.prog 29 #[.int .u64 x] w fun e w' => ∃ v, e = .returned v ∧ Own w' w.heap.size v (enc x) ∧ Below w.heap.size w w' := by
  go_enter Tryd.func29, Tryd.ntmps29
  go_wp2
  go_ret
  refine ⟨_, rfl, ?_, (Below.refl _ _).alloc (Nat.le_refl _) _⟩
  rw [enc_small x h1]
  exact ⟨by simp [u8s], .inr ⟨w.heap.size, 1, #[.int .u8 x], rfl, Nat.le_refl _, heap_alloc_new w _, by simp, by unfold maxLen; omega, by simp, by simp [u8s]⟩⟩

set_option maxRecDepth 100000 in
theorem sUint_large (x : Int) (w : World) (h0 : 128 ≤ x) (h1 : x ≤ 18446744073709551615) :
    Calls Tryd.prog 29 #[.int .u64 x] w fun e w' => ∃ v, e = .returned v ∧ Own w' w.heap.size v (enc x) ∧ Below w.heap.size w w' := by
  obtain ⟨i0, hi, hz0, hz1, hz2⟩ := info_parts Tryd.infoU8
  have hel := enc_length x
  obtain ⟨nx, hnx⟩ : ∃ nx, nx = nb x := ⟨_, rfl⟩
  have hnr := nb_range x
  rw [← hnx] at hnr
  have Hnx := hid hnx
  clear hnx
  go_enter Tryd.func29, Tryd.ntmps29
  go_wp2
  go_loop [3] (fun i => ∃ k : Nat, nx ≤ k ∧ k ≤ 8 ∧ i = .int .i64 k) (fun i => (intOf i).toNat)
  case atStart => exact ⟨8, by omega, by omega, rfl⟩
  case round =>
    obtain ⟨k, hk, hk8, rfl⟩ := hrel
    by_cases hlt : nx < k
    · have ht : (x / 2 ^ (8 * (k - 1)) == 0) = true := by rw [shr_zero x (by omega) h1, ← Hnx.out, decide_eq_true (by omega)]
      go_wp2
      go_round
      case rel => exact ⟨k - 1, by omega, by omega, by go_num⟩
      case measure => simp [intOf]; omega
    · have ht : (x / 2 ^ (8 * (k - 1)) == 0) = false := by rw [shr_zero x (by omega) h1, ← Hnx.out, decide_eq_false (by omega)]
      obtain rfl : nx = k := by omega
      go_wp2
      go_loopw [4, 5] (fun v i wr => ∃ m : Nat, m ≤ nx ∧ i = .int .i64 ((m : Int) - 1) ∧ wr.ownsRow w.heap.size 5 1 v (1 + (nx - m)) (u8s ((256 - (nx : Int)) :: (be nx x).take (nx - m))) ∧ Below w.heap.size w wr) (fun _ i _ => (intOf i + 1).toNat)
      case atStart =>
        refine ⟨nx, by omega, rfl, ?_, (Below.refl _ _).alloc (Nat.le_refl _) _⟩
        exact ⟨by simp [u8s], .inr ⟨w.heap.size, 1, #[.int .u8 (256 - (nx : Int))], by simp, Nat.le_refl _, heap_alloc_new w _, by omega, by unfold maxLen; omega, by simp, by simp [u8s]⟩⟩
      case round =>
        obtain ⟨m, hm, rfl, hown, hbel⟩ := hrel
        have hsz := hbel.size
        by_cases hm1 : 1 ≤ m
        · have Hbel := hid hbel
          clear hbel ht
          go_wp2_with (at_builtin; refine wpList_append_own _ rfl _ _ 22 rfl w.heap.size 5 i0 (.int .u8 0) 1 1 Tryd.underlying22 hi hz0 hz1 hz2 rfl (by decide) _ _ _ rfl (hown.alloc _) ⟨wr.heap.size, 0, none⟩ 1 1 [.int .u8 (x / 2 ^ (8 * (m - 1)) % 256)] rfl rfl ?c1 ?c2 ?c3 ?c4 ?c5 ?_)
          case c1 => exact cell_alloc_one wr _ _
          case c2 => intro u hu; simp at hu; subst hu; rfl
          case c3 => unfold maxLen; omega
          case c4 => omega
          case c5 => simp; omega
          intro v' w' hown' hgrow _
          have Hown : Hid (w'.ownsRow w.heap.size 5 1 v' (1 + (nx - (m - 1))) (u8s ((256 - (nx : Int)) :: (be nx x).take (nx - (m - 1))))) := by
            rw [be_take_succ nx x m hm1 hm, show 1 + (nx - (m - 1)) = 1 + (nx - m) + 1 by omega]
            rw [← List.cons_append, u8s_append]
            exact hown'
          have Hbel2 := hid ((Hbel.out.alloc hsz _).grown hgrow (by simp; omega) (fun k hk => (hown.lt k hk).1))
          clear hown' hgrow hown
          go_wp2
          go_roundw
          case rel => exact ⟨m - 1, by omega, by go_num, Hown.out, Hbel2.out⟩
          case measure => simp [intOf]; omega
        · obtain rfl : m = 0 := by omega
          go_wp2
          go_ret
          refine ⟨_, rfl, ?_, hbel⟩
          have e : enc x = (256 - (nx : Int)) :: (be nx x).take (nx - 0) := by
            rw [enc_large x (by omega), ← Hnx.out, List.take_of_length_le (by rw [be_length]; omega)]
          unfold Own
          rw [e]
          have el : ((256 - (nx : Int)) :: (be nx x).take (nx - 0)).length = 1 + (nx - 0) := by simp [be_length]; omega
          rw [el]
          exact hown

theorem sUint_any (x : Int) (w : World) (h0 : 0 ≤ x) (h1 : x ≤ 18446744073709551615) :
    Calls Tryd.prog 29 #[.int .u64 x] w fun e w' => ∃ v, e = .returned v ∧ Own w' w.heap.size v (enc x) ∧ Below w.heap.size w w' := by
  by_cases c : x < 128
  · exact sUint_small x w h0 c
  · exact sUint_large x w (by omega) h1
end Go.Proofs.YtleddjhlpgemjaaDoor
