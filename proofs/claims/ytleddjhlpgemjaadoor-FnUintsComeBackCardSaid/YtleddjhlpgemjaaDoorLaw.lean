/- PROVED: plain facts that the laws on reading share. Conditions: bytes. -/
import Derived.Test.YtleddjhlpgemjaaDoorSRead
import Derived.Test.YtleddjhlpgemjaaDoorSlices
import Derived.OpenShut
namespace Go.Proofs.YtleddjhlpgemjaaDoor
open Go.RowKit

theorem rd_bounds (l : List Int) (x : Int) (n : Nat) (hr : ∀ b ∈ l, 0 ≤ b ∧ b < 256) (h : rd l = some (x, n)) : 1 ≤ n ∧ n ≤ 9 ∧ n ≤ l.length ∧ 0 ≤ x ∧ x ≤ 18446744073709551615 := by
  cases l with
  | nil => simp [rd] at h
  | cons b t =>
    have hb := hr b (by simp)
    by_cases c1 : b < 128
    · rw [rd, if_pos c1] at h
      simp only [Option.some.injEq, Prod.mk.injEq] at h
      obtain ⟨rfl, rfl⟩ := h
      exact ⟨by omega, by omega, by simp, by omega, by omega⟩
    · rw [rd, if_neg c1] at h
      by_cases c2 : 8 < (256 - b).toNat ∨ t.length < (256 - b).toNat
      · rw [if_pos c2] at h; cases h
      · rw [if_neg c2] at h
        simp only [Option.some.injEq, Prod.mk.injEq] at h
        obtain ⟨rfl, rfl⟩ := h
        have hv := val_range (t.take (256 - b).toNat) (fun x hx => hr x (List.mem_cons_of_mem _ (List.mem_of_mem_take hx)))
        rw [List.length_take, Nat.min_eq_left (by omega)] at hv
        have := p256_mono (a := (256 - b).toNat) (b := 8) (by omega)
        rw [p256_8] at this
        rw [List.length_cons]
        exact ⟨by omega, by omega, by omega, by omega, by omega⟩

theorem bytes_of_wf {zs : List Int} (h : ∀ n ∈ zs, (Lit.int .u8 n).wf = true) : ∀ x ∈ zs, 0 ≤ x ∧ x < 256 :=
  fun x hx => by have := bounds_u8 (h x hx); omega

theorem IsRow.range {k : IntKind} {w : World} {a : Option Addr} {len cap : Nat} {zs : List Int} (h : IsRow k w a len cap zs) : ∀ n ∈ zs.take len, (Lit.int k n).wf = true := by
  rcases h with ⟨_, _, _, rfl⟩ | ⟨x, _, _, _, _, _, hw⟩
  · intro n hn; simp at hn
  · exact fun n hn => hw n (List.mem_of_mem_take hn)

theorem IsRow.length {k : IntKind} {w : World} {a : Option Addr} {len cap : Nat} {zs : List Int} (h : IsRow k w a len cap zs) : (zs.take len).length = len := by
  rcases h with ⟨_, rfl, _, rfl⟩ | ⟨x, _, _, _, _, _, _⟩
  · rfl
  · rw [List.length_take]; omega
end Go.Proofs.YtleddjhlpgemjaaDoor
