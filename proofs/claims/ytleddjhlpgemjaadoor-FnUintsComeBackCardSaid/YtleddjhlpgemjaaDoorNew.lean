/- PROVED: newEncoder makes an encoder that has written nothing. No condition. -/
import Derived.Test.YtleddjhlpgemjaaDoorEncU
namespace Go.Proofs.YtleddjhlpgemjaaDoor
open Go.RowKit

def zBuf : Array Value := #[.slice none 0 0] ++ Array.replicate 64 (.int .u8 0)
theorem zBuf_size : zBuf.size = 65 := by kernel_rfl
theorem zBuf_head : zBuf[0]? = some (.slice none 0 0) := by kernel_rfl
theorem zero_encBuf (w : World) : (zeroValue 92).run Tryd.prog w = .ok (.agg zBuf) w := by kernel_rfl
theorem zero_encSt (w : World) : (zeroValue 72).run Tryd.prog w = .ok (.agg #[.pointer none, .bool false, .int .i64 0, .int .u8 0, .int .u8 0, .int .u8 0, .int .u8 0, .int .u8 0, .int .u8 0, .int .u8 0, .int .u8 0, .int .u8 0, .pointer none]) w := by kernel_rfl

/-- the cells of the state's block, b the buffer -/
def stCells (b : Nat) : Array Value := #[.pointer (some ⟨b, 0, none⟩), .bool false, .int .i64 0, .int .u8 0, .int .u8 0, .int .u8 0, .int .u8 0, .int .u8 0, .int .u8 0, .int .u8 0, .int .u8 0, .int .u8 0, .pointer none]

theorem zBuf_tail : ∀ j, j < 64 → zBuf[1 + j]? = some (.int .u8 0) := by
  intro j hj
  unfold zBuf
  rw [Array.getElem?_append_right (by simp), Array.getElem?_replicate, if_pos (by simp; omega)]

theorem enc_start (w : World) : EncAt ((w.alloc (.cells (zBuf.setIfInBounds 0 (.slice (some ⟨w.heap.size, 1, none⟩) 0 64)) 92)).alloc (.cells (stCells w.heap.size) 72)) w.heap.size [] := by
  have hs : (w.alloc (.cells (zBuf.setIfInBounds 0 (.slice (some ⟨w.heap.size, 1, none⟩) 0 64)) 92)).heap.size = w.heap.size + 1 := World.size_alloc _ _
  have c0 : ∀ i, ((w.alloc (.cells (zBuf.setIfInBounds 0 (.slice (some ⟨w.heap.size, 1, none⟩) 0 64)) 92)).alloc (.cells (stCells w.heap.size) 72)).cell? ⟨w.heap.size, i, none⟩ = (zBuf.setIfInBounds 0 (.slice (some ⟨w.heap.size, 1, none⟩) 0 64))[i]? := fun i => by
    rw [World.cell?_alloc_past _ w.heap.size i (by omega), World.cell?_alloc_at _ _ _ _ rfl]
  have c1 : ∀ i, ((w.alloc (.cells (zBuf.setIfInBounds 0 (.slice (some ⟨w.heap.size, 1, none⟩) 0 64)) 92)).alloc (.cells (stCells w.heap.size) 72)).cell? ⟨w.heap.size + 1, i, none⟩ = (stCells w.heap.size)[i]? := fun i => by
    rw [World.cell?_alloc_at _ _ _ _ hs.symm]
  have f0 : ∀ i, ((w.alloc (.cells (zBuf.setIfInBounds 0 (.slice (some ⟨w.heap.size, 1, none⟩) 0 64)) 92)).alloc (.cells (stCells w.heap.size) 72)).frozen? ⟨w.heap.size, i, none⟩ = false := fun i => by
    rw [World.frozen?_alloc_past _ w.heap.size i (by omega), World.frozen?_alloc_at _ _ _ _ rfl]
  have f1 : ∀ i, ((w.alloc (.cells (zBuf.setIfInBounds 0 (.slice (some ⟨w.heap.size, 1, none⟩) 0 64)) 92)).alloc (.cells (stCells w.heap.size) 72)).frozen? ⟨w.heap.size + 1, i, none⟩ = false := fun i => by
    rw [World.frozen?_alloc_at _ _ _ _ hs.symm]
  refine ⟨⟨by rw [World.size_alloc, hs]; omega, f0 0, fun j hj => ⟨?_, f0 _⟩, by rw [c1]; rfl, fun j hj => ⟨?_, f1 _⟩⟩, some ⟨w.heap.size, 1, none⟩, 64, ?_, .inl ⟨by simp, rfl, fun j hj => by simp at hj⟩⟩
  · rw [c0, Array.getElem?_setIfInBounds_ne (by omega), zBuf_tail j hj]; rfl
  · rw [c1]
    have : j = 0 ∨ j = 1 ∨ j = 2 ∨ j = 3 ∨ j = 4 ∨ j = 5 ∨ j = 6 ∨ j = 7 ∨ j = 8 := by omega
    rcases this with rfl | rfl | rfl | rfl | rfl | rfl | rfl | rfl | rfl <;> rfl
  · rw [c0, Array.getElem?_setIfInBounds_self_of_lt (by rw [zBuf_size]; omega)]; rfl

theorem newEnc_any (w : World) :
    Calls Tryd.prog 46 #[] w fun e w' => e = .returned (.pointer (some ⟨w.heap.size + 1, 0, none⟩)) ∧ EncAt w' w.heap.size [] ∧ Below w.heap.size w w' := by
  have hz := zero_encBuf
  have hc : (w.alloc (.cells zBuf 92)).cell? ⟨w.heap.size, 0, none⟩ = some (.slice none 0 0) := by
    have h := heap_alloc_new w (.cells zBuf 92)
    unfold World.cell?
    simp only [h]
    exact zBuf_head
  have hf : (w.alloc (.cells zBuf 92)).frozen? ⟨w.heap.size, 0, none⟩ = false := by
    have h := heap_alloc_new w (.cells zBuf 92)
    unfold World.frozen?
    simp only [h]
    rfl
  go_enter Tryd.func46, Tryd.ntmps46
  go_wp2
  go_ret
  exact ⟨rfl, enc_start w, ((Below.refl _ _).alloc (Nat.le_refl _) _).alloc (by simp) _⟩
end Go.Proofs.YtleddjhlpgemjaaDoor
