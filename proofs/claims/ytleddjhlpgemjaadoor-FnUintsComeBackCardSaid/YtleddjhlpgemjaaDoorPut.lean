/- PROVED: what putUint64 writes: the eight bytes of a number, the high one first. Condition: there are eight cells to write. -/
import Derived.Test.YtleddjhlpgemjaaDoorProg
import Derived.Test.YtleddjhlpgemjaaDoorPlain
import Derived.WalkKit
import Derived.WalkSmall
import Derived.WalkLawsBesides
namespace Go.Proofs.YtleddjhlpgemjaaDoor
open Go.RowKit

theorem put_any (s o n c : Nat) (x : Int) (w : World) (hn : 8 ≤ n) (hnc : n ≤ 1000)
    (hc : ∀ j, j < 8 → (w.cell? ⟨s, o + j, none⟩).isSome = true) (hf : ∀ j, j < 8 → w.frozen? ⟨s, o + j, none⟩ = false) :
    Calls Tryd.prog 60 #[.slice (some ⟨s, o, none⟩) n c, .int .u64 x] w fun e w' => e = .returned (.tuple #[]) ∧ w' = w.setCells s o (u8s (be 8 x)) := by
  have Hc := hid hc; clear hc
  have Hf := hid hf; clear hf
  go_enter Tryd.func60, Tryd.ntmps60
  go_wp2
  go_loopw [4] (fun i wr => ∃ k : Nat, k ≤ 8 ∧ i = .int .i64 k ∧ Hid (wr = w.setCells s o ((u8s (be 8 x)).take k))) (fun i _ => 8 - (intOf i).toNat)
  case atStart => exact ⟨0, by omega, rfl, rfl⟩
  case round =>
    obtain ⟨k, hk, rfl, hw⟩ := hrel
    by_cases hlt : k < 8
    · have hfr : wr.frozen? ⟨s, o + k, none⟩ = false := by rw [hw.out, World.frozen?_setCells]; exact Hf.out k hlt
      obtain ⟨u, hu⟩ : ∃ u, wr.cell? ⟨s, o + k, none⟩ = some u := by
        rw [hw.out, World.cell?_setCells_out s _ _ _ _ (fun _ _ => Or.inr (by simp [u8s_length, be_length]; omega))]
        exact Option.isSome_iff_exists.1 (Hc.out k hlt)
      go_wp2
      go_roundw
      case rel =>
        refine ⟨k + 1, by omega, by go_num, hid ?_⟩
        rw [u8s_take_succ 8 x k hlt, setCells_snoc, hw.out, shr_byte x k hlt]
        simp [u8s_length, be_length, Nat.min_eq_left hk]
      case measure => simp [intOf]; omega
    · have : k = 8 := by omega
      subst this
      go_wp2
      go_end0
      refine ⟨rfl, ?_⟩
      rw [hw.out, List.take_of_length_le (by simp [u8s_length, be_length])]
end Go.Proofs.YtleddjhlpgemjaaDoor
