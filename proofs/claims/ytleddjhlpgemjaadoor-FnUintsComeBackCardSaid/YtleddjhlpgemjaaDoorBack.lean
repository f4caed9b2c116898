/- PROVED: plain facts on what was written and read back. -/
import Derived.Test.YtleddjhlpgemjaaDoorAppend
import Derived.Test.YtleddjhlpgemjaaDoorUint
import Derived.Test.YtleddjhlpgemjaaDoorRd
namespace Go.Proofs.YtleddjhlpgemjaaDoor
open Go.RowKit

theorem own_shape {w : World} {B : Nat} {v : Value} {l : List Int} (h : Own w B v l) : ∃ ad cap, v = .slice ad l.length cap ∧ ∀ k, v.ownBlock = some k → B ≤ k := by
  rcases h.2 with ⟨h1, h2⟩ | ⟨g, cap, cur, h1, h2, _⟩
  · exact ⟨none, 0, by rw [h1, h2], fun k hk => by rw [h1] at hk; simp [Value.ownBlock] at hk⟩
  · exact ⟨some ⟨g, 0, none⟩, cap, h1, fun k hk => by rw [h1] at hk; simp [Value.ownBlock] at hk; omega⟩

theorem own_append {w : World} {B : Nat} {v : Value} {xs l : List Int} (h : w.ownsRow B 5 1 v ((u8s xs).length + (u8s l).length) (u8s xs ++ u8s l)) : Own w B v (xs ++ l) := by
  rw [u8s_length, u8s_length] at h
  unfold Own
  rw [List.length_append, u8s_append]
  exact h

theorem own_row {w : World} {B : Nat} {v : Value} {l : List Int} (h : Own w B v l) : w.ownsRow B 5 1 v (u8s l).length (u8s l) := by
  rw [u8s_length]; exact h

theorem own_src {w : World} {B : Nat} {v : Value} {l : List Int} (h : Own w B v l) : Src w v (u8s l) := Src.of_owns (own_row h)
end Go.Proofs.YtleddjhlpgemjaaDoor
