/- PROVED: what bytes.Reader's functions do to a reader of known bytes. Conditions: the reader and the buffer lie as 'RS' says, and io.EOF holds an error. -/
import Derived.Test.YtleddjhlpgemjaaDoorSlices
import Derived.Deep.QuietTactic
import Derived.BigQuiet
namespace Go.Proofs.YtleddjhlpgemjaaDoor
open Go.RowKit

/-- A reader (block R) of the bytes l, i of them read, and a buffer of nine bytes (block R + 1). -/
structure RS (w : World) (R : Nat) (ad : Option Addr) (cap : Nat) (l : List Int) (i : Nat) : Prop where
  size : R + 2 ≤ w.heap.size
  hcap : l.length ≤ cap
  s : w.cell? ⟨R, 0, none⟩ = some (.slice ad l.length cap)
  i : w.cell? ⟨R, 1, none⟩ = some (.int .i64 i)
  p : (w.cell? ⟨R, 2, none⟩).isSome = true
  fi : w.frozen? ⟨R, 1, none⟩ = false
  fp : w.frozen? ⟨R, 2, none⟩ = false
  buf : ∀ j, j < 9 → (w.cell? ⟨R + 1, j, none⟩).isSome = true ∧ w.frozen? ⟨R + 1, j, none⟩ = false
  data : 0 < l.length → ∃ b o, ad = some ⟨b, o, none⟩ ∧ b < R ∧ ∀ j, j < l.length → w.cell? ⟨b, o + j, none⟩ = some (.int .u8 (l.getD j 0))

theorem two_draws (w : World) (a b : Nat) : ∃ q, (w.drewN a).drewN b = w.drewN q := ⟨a + b, by rw [World.drewN_drewN]⟩

theorem newReader_any (v : Value) (ad : Option Addr) (n cap : Nat) (hv : v = .slice ad n cap) (w : World) :
    Calls Tryd.prog 39 #[v] w fun e w' => e = .returned (.pointer (some ⟨w.heap.size, 0, none⟩)) ∧ w' = w.alloc (.cells #[v, .int .i64 0, .int .i64 (-1)] 79) := by
  subst hv
  go_enter Tryd.func39, Tryd.ntmps39
  go_wp2
  go_ret
  exact ⟨rfl, rfl⟩

theorem rLen_any (R : Nat) (ad : Option Addr) (cap : Nat) (l : List Int) (i : Nat) (w : World) (hs : w.cell? ⟨R, 0, none⟩ = some (.slice ad l.length cap)) (hi : w.cell? ⟨R, 1, none⟩ = some (.int .i64 i)) (hil : i ≤ l.length) (hl : l.length ≤ 3000000000) :
    Calls Tryd.prog 41 #[.pointer (some ⟨R, 0, none⟩)] w fun e w' => e = .returned (.int .i64 ((l.length - i : Nat) : Int)) ∧ ∃ q, w' = w.drewN q := by
  by_cases c : i < l.length
  · go_enter Tryd.func41, Tryd.ntmps41
    go_wp2
    go_quiet (fail)
    go_wp2
    go_quiet (fail)
    go_wp2
    go_ret
    refine ⟨?_, two_draws _ _ _⟩
    show Ending.returned (.int .i64 ((l.length : Int) - i)) = _
    congr 2
    omega
  · obtain rfl : i = l.length := by omega
    go_enter Tryd.func41, Tryd.ntmps41
    go_wp2
    go_quiet (fail)
    go_wp2
    go_ret
    refine ⟨?_, _, rfl⟩
    rw [Nat.sub_self]
    rfl

/-- Read where all has been read. -/
theorem rRead_end (R : Nat) (ad : Option Addr) (cap : Nat) (l : List Int) (w : World) (p : Value) (aE : Addr) (hs : RS w R ad cap l l.length) (hE : w.cell? ⟨1, 0, none⟩ = some (.iface 107 (.pointer (some aE)))) :
    Calls Tryd.prog 87 #[.pointer (some ⟨R, 0, none⟩), p] w fun e w' => e = .returned (.tuple #[.int .i64 0, .iface 107 (.pointer (some aE))]) ∧ ∃ q, w' = w.drewN q := by
  have c0 := hs.s
  have c1 := hs.i
  have Hs := hid hs
  clear hs
  go_enter Tryd.func87, Tryd.ntmps87
  go_wp2
  go_quiet (fail)
  go_wp2
  go_quiet (fail)
  go_wp2
  go_ret2
  exact ⟨rfl, two_draws _ _ _⟩

/-- the copy of the bytes read -/
theorem run_rd_copy (W : World) (R b o cap : Nat) (l : List Int) (i off m c : Nat) (hi : i < l.length) (hbuf : ∀ j, j < 9 → (W.cell? ⟨R + 1, j, none⟩).isSome = true ∧ W.frozen? ⟨R + 1, j, none⟩ = false) (hdata : ∀ j, j < l.length → W.cell? ⟨b, o + j, none⟩ = some (.int .u8 (l.getD j 0))) (hm9 : off + m ≤ 9) (ty : TypeId) :
    (Builtin.copy_ #[22, 22] ty #[.slice (some ⟨R + 1, off, none⟩) m c, .slice (some ⟨b, o + i, none⟩) (l.length - i) (cap - i)]).run Tryd.prog W = .ok (.int .i64 ((min m (l.length - i) : Nat) : Int)) (W.setCells (R + 1) off (u8s ((l.drop i).take m))) := by
  have hlen : (u8s ((l.drop i).take m)).length = min m (l.length - i) := by rw [u8s_length, List.length_take, List.length_drop]
  have h := run_copy_cells (P := Tryd.prog) W 22 22 ty 5 (R + 1) off m c ⟨b, o + i, none⟩ (l.length - i) (cap - i) (u8s ((l.drop i).take m)) Tryd.underlying22 (by kernel_rfl) (by rw [hlen]; exact Nat.min_comm _ _)
    (fun j v hj => by
      have hlt : j < min m (l.length - i) := by rw [← hlen]; exact (List.getElem?_eq_some_iff.1 hj).1
      rw [Addr.add_lit, Nat.add_assoc, hdata (i + j) (by omega), ← hj, u8s_get, List.getElem?_take, if_pos (by omega), List.getElem?_drop, List.getD, List.getElem?_eq_getElem (by omega)]
      rfl)
    (fun j hj => by rw [hlen] at hj; exact (hbuf (off + j) (by omega)).1) (fun j hj => by rw [hlen] at hj; exact (hbuf (off + j) (by omega)).2) (u8s_oneCell _)
  rw [hlen] at h
  exact h

/-- What a Read that reads leaves. -/
theorem rs_read {w : World} {R b o cap : Nat} {l : List Int} {i : Nat} (hs : RS w R (some ⟨b, o, none⟩) cap l i) (hi : i < l.length) (off m : Nat) (hm9 : off + m ≤ 9) (nq : Nat) (W W2 w' : World)
    (hW : W = (w.drewN nq).setCell ⟨R, 2, none⟩ (.int .i64 (-1))) (hW2 : W2 = W.drew.setCells (R + 1) off (u8s ((l.drop i).take m))) (v : Value) (hv : v = .int .i64 ((i + min m (l.length - i) : Nat) : Int)) (hw' : w' = W2.setCell ⟨R, 1, none⟩ v) :
    RS w' R (some ⟨b, o, none⟩) cap l (i + min m (l.length - i)) ∧ (∀ j, j < min m (l.length - i) → w'.cell? ⟨R + 1, off + j, none⟩ = some (.int .u8 (l.getD (i + j) 0))) ∧ (∀ j, j < off → w'.cell? ⟨R + 1, j, none⟩ = w.cell? ⟨R + 1, j, none⟩) ∧ Below R w w' := by
  have hlen : (u8s ((l.drop i).take m)).length = min m (l.length - i) := by rw [u8s_length, List.length_take, List.length_drop]
  obtain ⟨b', o', hbo, hbR, hdat⟩ := hs.data (by omega)
  simp only [Option.some.injEq, Addr.mk.injEq] at hbo
  obtain ⟨rfl, rfl, _⟩ := hbo
  have hbel : Below R w w' := by
    rw [hw', hW2, hW]
    exact ((below_setCells _ _ ((below_drewN (Below.refl R w) nq).setCell (p := ⟨R, 2, none⟩) (Nat.le_refl R) _).drew (by omega)).setCell (p := ⟨R, 1, none⟩) (Nat.le_refl R) _)
  have hfr : ∀ x, w'.frozen? x = w.frozen? x := fun x => by
    rw [hw', World.frozen?_setCell, hW2, World.frozen?_setCells]
    show W.frozen? x = _
    rw [hW, World.frozen?_setCell]
    rfl
  have hR : ∀ j, j ≠ 1 → j ≠ 2 → w'.cell? ⟨R, j, none⟩ = w.cell? ⟨R, j, none⟩ := fun j j1 j2 => by
    rw [hw', World.cell?_setCell_other _ _ _ _ (by simp only [ne_eq, Addr.mk.injEq]; omega), hW2, World.cell?_setCells_out (R + 1) _ _ _ _ (fun e => by simp at e)]
    show W.cell? _ = _
    rw [hW, World.cell?_setCell_other _ _ _ _ (by simp only [ne_eq, Addr.mk.injEq]; omega)]
    rfl
  have hW2buf : ∀ j, w'.cell? ⟨R + 1, j, none⟩ = (W.drew.setCells (R + 1) off (u8s ((l.drop i).take m))).cell? ⟨R + 1, j, none⟩ := fun j => by
    rw [hw', World.cell?_setCell_other _ _ _ _ (by simp only [ne_eq, Addr.mk.injEq]; omega), hW2]
  have hWbuf : ∀ j, W.drew.cell? ⟨R + 1, j, none⟩ = w.cell? ⟨R + 1, j, none⟩ := fun j => by
    show W.cell? _ = _
    rw [hW, World.cell?_setCell_other _ _ _ _ (by simp only [ne_eq, Addr.mk.injEq]; omega)]
    rfl
  have hin : ∀ j, j < min m (l.length - i) → w'.cell? ⟨R + 1, off + j, none⟩ = some (.int .u8 (l.getD (i + j) 0)) := fun j hj => by
    have h := World.cell?_setCells_in (R + 1) (u8s ((l.drop i).take m)) off W.drew (fun i' hi' => by rw [hlen] at hi'; rw [hWbuf]; exact (hs.buf _ (by omega)).1) j (by rw [hlen]; exact hj)
    rw [hW2buf, h, ← List.getElem?_eq_getElem, u8s_get, List.getElem?_take, if_pos (by omega), List.getElem?_drop, List.getD, List.getElem?_eq_getElem (by omega)]
    rfl
  have hout : ∀ j, (j < off ∨ off + min m (l.length - i) ≤ j) → w'.cell? ⟨R + 1, j, none⟩ = w.cell? ⟨R + 1, j, none⟩ := fun j hj => by
    rw [hW2buf, World.cell?_setCells_out (R + 1) _ _ _ _ (fun _ _ => by rw [hlen]; exact hj), hWbuf]
  refine ⟨⟨Nat.le_trans hs.size hbel.size, hs.hcap, ?_, ?_, ?_, ?_, ?_, ?_, ?_⟩, hin, fun j hj => hout j (Or.inl hj), hbel⟩
  · rw [hR 0 (by omega) (by omega)]; exact hs.s
  · have h1 : W2.cell? ⟨R, 1, none⟩ = some (.int .i64 i) := by
      rw [hW2, World.cell?_setCells_out (R + 1) _ _ _ _ (fun e => by simp at e)]
      show W.cell? _ = _
      rw [hW, World.cell?_setCell_other _ _ _ _ (by simp)]
      exact hs.i
    rw [hw', World.cell?_setCell_same _ _ _ h1, hv]
  · rw [hw']
    refine isSome_setCell ?_
    rw [hW2, World.cell?_setCells_out (R + 1) _ _ _ _ (fun e => by simp at e)]
    show (W.cell? _).isSome = true
    rw [hW]
    exact isSome_setCell hs.p
  · rw [hfr]; exact hs.fi
  · rw [hfr]; exact hs.fp
  · intro j hj
    refine ⟨?_, by rw [hfr]; exact (hs.buf j hj).2⟩
    by_cases hjo : j < off ∨ off + min m (l.length - i) ≤ j
    · rw [hout j hjo]; exact (hs.buf j hj).1
    · have := hin (j - off) (by omega)
      rw [show off + (j - off) = j by omega] at this
      rw [this]; rfl
  · intro _
    exact ⟨b, o, rfl, hbR, fun j hj => (hbel.cell (p := ⟨b, o + j, none⟩) hbR).trans (hdat j hj)⟩

theorem rRead_some (R : Nat) (b o cap : Nat) (l : List Int) (i : Nat) (w : World) (off m c : Nat) (hs : RS w R (some ⟨b, o, none⟩) cap l i) (hi : i < l.length) (hl : l.length ≤ 3000000000) (hm : 1 ≤ m) (hm9 : off + m ≤ 9) :
    Calls Tryd.prog 87 #[.pointer (some ⟨R, 0, none⟩), .slice (some ⟨R + 1, off, none⟩) m c] w fun e w' => e = .returned (.tuple #[.int .i64 ((min m (l.length - i) : Nat) : Int), .nilIface]) ∧ RS w' R (some ⟨b, o, none⟩) cap l (i + min m (l.length - i)) ∧
      (∀ j, j < min m (l.length - i) → w'.cell? ⟨R + 1, off + j, none⟩ = some (.int .u8 (l.getD (i + j) 0))) ∧ (∀ j, j < off → w'.cell? ⟨R + 1, j, none⟩ = w.cell? ⟨R + 1, j, none⟩) ∧ Below R w w' := by
  have c0 := hs.s
  have c1 := hs.i
  obtain ⟨pv, c2⟩ := Option.isSome_iff_exists.1 hs.p
  have f1 := hs.fi
  have f2 := hs.fp
  have hcap := hs.hcap
  have Hs := hid hs
  clear hs
  go_enter Tryd.func87, Tryd.ntmps87
  go_wp2
  go_quiet (fail)
  go_wp2
  obtain ⟨W, hW⟩ : ∃ W : World, W = (w.drewN nq).setCell ⟨R, 2, none⟩ (.int .i64 (-1)) := ⟨_, rfl⟩
  rw [← hW]
  have c0' : W.cell? ⟨R, 0, none⟩ = some (.slice (some ⟨b, o, none⟩) l.length cap) := by rw [hW, World.cell?_setCell_other _ _ _ _ (by simp)]; exact c0
  have c1' : W.cell? ⟨R, 1, none⟩ = some (.int .i64 i) := by rw [hW, World.cell?_setCell_other _ _ _ _ (by simp)]; exact c1
  have hbuf' : ∀ j, j < 9 → (W.cell? ⟨R + 1, j, none⟩).isSome = true ∧ W.frozen? ⟨R + 1, j, none⟩ = false := fun j hj => by
    rw [hW, World.frozen?_setCell, World.cell?_setCell_other _ _ _ _ (by simp)]; exact Hs.out.buf j hj
  obtain ⟨b', o', hbo, hbR, hdat⟩ := Hs.out.data (by omega)
  simp only [Option.some.injEq, Addr.mk.injEq] at hbo
  obtain ⟨rfl, rfl, _⟩ := hbo
  have hdata' : ∀ j, j < l.length → W.cell? ⟨b, o + j, none⟩ = some (.int .u8 (l.getD j 0)) := fun j hj => by
    rw [hW, World.cell?_setCell_other _ _ _ _ (by simp only [ne_eq, Addr.mk.injEq]; omega)]; exact hdat j hj
  have hcopy := fun ty => run_rd_copy W.drew R b o cap l i off m c hi hbuf' hdata' hm9 ty
  have HW := hid hW
  have Hbuf := hid hbuf'
  have Hdat := hid hdata'
  clear c0 c1 c2 f2 hW hbuf' hdata' hdat
  go_region
  obtain ⟨W2, hW2⟩ : ∃ W2 : World, W2 = W.drew.setCells (R + 1) off (u8s ((l.drop i).take m)) := ⟨_, rfl⟩
  rw [← hW2]
  have d1 : W2.cell? ⟨R, 1, none⟩ = some (.int .i64 i) := by
    rw [hW2, World.cell?_setCells_out (R + 1) _ _ _ _ (fun e => by simp at e)]; exact c1'
  have f1' : W2.frozen? ⟨R, 1, none⟩ = false := by
    rw [hW2, World.frozen?_setCells]
    show W.frozen? ⟨R, 1, none⟩ = false
    rw [HW.out, World.frozen?_setCell]; exact f1
  have HW2 := hid hW2
  clear hW2 hcopy c0' c1' f1
  go_wp2
  go_ret2
  exact ⟨rfl, rs_read Hs.out hi off m hm9 _ W W2 _ HW.out HW2.out _ rfl rfl⟩
end Go.Proofs.YtleddjhlpgemjaaDoor
