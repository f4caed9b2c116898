/- PROVED: bytes.Equal of two slices of known bytes. Condition: the bytes are from 0 to 255. -/
import Derived.Test.YtleddjhlpgemjaaDoorUint
import Derived.Laws.BytesArg
namespace Go.Proofs.YtleddjhlpgemjaaDoor
open Go.RowKit

/-- v is a slice of the bytes l, wherever it lies; nil, or whatever address, if there are none. -/
def Holds (w : World) (v : Value) (l : List Int) : Prop :=
  ∃ ad cap, v = .slice ad l.length cap ∧ l.length ≤ cap ∧ (l = [] ∨ ∃ b o, ad = some ⟨b, o, none⟩ ∧ ∀ j, j < l.length → w.cell? ⟨b, o + j, none⟩ = some (.int .u8 (l.getD j 0)))

theorem u8s_getD (l : List Int) (j : Nat) (hj : j < l.length) : (u8s l)[j]? = some (.int .u8 (l.getD j 0)) := by
  rw [u8s_get, List.getD, List.getElem?_eq_getElem hj]; rfl

theorem Own.holds {w : World} {B : Nat} {v : Value} {l : List Int} (h : Own w B v l) : Holds w v l := by
  have h0 := h
  rcases h.2 with ⟨rfl, hn⟩ | ⟨g, cap, cur, rfl, _, _, hle, _⟩
  · exact ⟨none, 0, by rw [hn], by omega, .inl (List.eq_nil_of_length_eq_zero hn)⟩
  · refine ⟨_, cap, rfl, hle, .inr ⟨g, 0, rfl, fun j hj => ?_⟩⟩
    have := h0.cells (g := g) rfl j _ (u8s_getD l j hj)
    rwa [Addr.add_lit] at this

/-- what is below B, or owned from B on, is not touched by what happens above. -/
theorem Holds.below {w w' : World} {B : Nat} {v : Value} {l : List Int} (h : Holds w v l) (hb : Below B w w') (hB : ∀ a n c, v = .slice (some a) n c → a.block < B) : Holds w' v l := by
  obtain ⟨ad, cap, rfl, hle, h | ⟨b, o, rfl, hc⟩⟩ := h
  · exact ⟨ad, cap, rfl, hle, .inl h⟩
  · exact ⟨_, cap, rfl, hle, .inr ⟨b, o, rfl, fun j hj => (hb.cell (p := ⟨b, o + j, none⟩) (hB _ _ _ rfl : (⟨b, o, none⟩ : Addr).block < B)).trans (hc j hj)⟩⟩

theorem Own.below {w w' : World} {B B' : Nat} {v : Value} {l : List Int} (h : Own w B v l) (hb : Below B' w w') (hB : w.heap.size ≤ B') : Own w' B v l := by
  refine ⟨h.1, h.2.imp id fun ⟨g, cap, cur, h1, h2, h3, h4⟩ => ⟨g, cap, cur, h1, h2, ?_, h4⟩⟩
  rw [hb.block g (Nat.lt_of_lt_of_le (Array.getElem?_eq_some_iff.1 h3).1 hB)]
  exact h3

theorem Holds.conv {w : World} {ad : Option Addr} {n cap : Nat} {l : List Int} (h : Holds w (.slice ad n cap) l) : (convert 22 9 (.slice ad n cap)).run Tryd.prog w = .ok (.string (strOfNums l)) w := by
  obtain ⟨ad', cap', hv, hle, h⟩ := h
  simp only [Value.slice.injEq] at hv
  obtain ⟨rfl, rfl, rfl⟩ := hv
  rcases h with rfl | ⟨b, o, rfl, hc⟩
  · cases ad with
    | none => exact run_convert_bytes_nil w _ _ Tryd.underlying22 Tryd.underlying5 _ _ _ Tryd.underlying9
    | some a =>
      rw [List.length_nil, run_convert_bytes_string w _ _ _ _ _ _ Tryd.underlying22 Tryd.underlying5 Tryd.underlying9, run_bytesToString w a 0 cap [] (by simpa using run_loadCells_list (P := Tryd.prog) w a [] (by simp))]
      rfl
  · exact run_convert_bytes_arg w _ _ Tryd.underlying22 Tryd.underlying5 b o _ cap l rfl hc _ Tryd.underlying9

theorem Holds.shape {w : World} {v : Value} {l : List Int} (h : Holds w v l) : ∃ ad cap, v = .slice ad l.length cap ∧ l.length ≤ cap := by
  obtain ⟨ad, cap, hv, hle, _⟩ := h
  exact ⟨ad, cap, hv, hle⟩

theorem strOfNums_inj {l m : List Int} (hl : ∀ b ∈ l, 0 ≤ b ∧ b < 256) (hm : ∀ b ∈ m, 0 ≤ b ∧ b < 256) (h : strOfNums l = strOfNums m) : l = m := by
  have h2 : l.map (fun n => UInt8.ofNat n.toNat) = m.map (fun n => UInt8.ofNat n.toNat) := by
    have := congrArg (fun s : ByteArray => s.data.toList) h
    simpa [strOfNums] using this
  clear h
  induction l generalizing m with
  | nil => cases m with
    | nil => rfl
    | cons b m => simp at h2
  | cons a l ih => cases m with
    | nil => simp at h2
    | cons b m =>
      simp only [List.map_cons, List.cons.injEq] at h2
      have ha := hl a (by simp)
      have hb := hm b (by simp)
      have e : a = b := by
        have := congrArg UInt8.toNat h2.1
        simp only [UInt8.toNat_ofNat'] at this
        omega
      rw [e, ih (fun x hx => hl x (by simp [hx])) (fun x hx => hm x (by simp [hx])) h2.2]

end Go.Proofs.YtleddjhlpgemjaaDoor
