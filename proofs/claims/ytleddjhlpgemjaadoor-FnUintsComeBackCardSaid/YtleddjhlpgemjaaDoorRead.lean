/- PROVED: what ReadUint of the package and of the thin package answers: what 'rd' reads, or that there is no number. Conditions: bytes, fewer than 3000000000; io.EOF and errBadUint hold errors. -/
import Derived.Test.YtleddjhlpgemjaaDoorDecU
import Derived.Test.YtleddjhlpgemjaaDoorSlices
import Derived.Defers
import Derived.Recover
namespace Go.Proofs.YtleddjhlpgemjaaDoor
open Go.RowKit

theorem ta_gob (v : Value) (w : World) : (Instr.typeAssert (.iface 99 v) 20 99 true).run Tryd.prog w = .ok (.tuple #[v, .bool true]) w := by kernel_rfl

set_option maxRecDepth 100000 in
theorem catch_panicking (E : Nat) (t : TypeId) (x : Value) (w : World) (hE : E < w.heap.size) (hc : w.cell? ⟨E, 0, none⟩ = some .nilIface) (hz : w.frozen? ⟨E, 0, none⟩ = false) :
    CallsD Tryd.prog 56 #[.pointer (some ⟨E, 0, none⟩)] (.panicking [{ v := .iface 99 (.agg #[.iface t x]), recovered := false }]) w fun e u' w' =>
      e = .returned (.tuple #[]) ∧ u' = .panicking [{ v := .iface 99 (.agg #[.iface t x]), recovered := true }] ∧ w' = (w.setCell ⟨E, 0, none⟩ (.iface t x)).alloc (.cells #[.iface t x] 99) := by
  have hta := ta_gob
  refine callsD_of_wpS Tryd.func56 rfl fun c₀ cs hu => ?_
  apply wpS_seq
  apply wpS_region
  simp [wpOpsS, go_sem, recoverD, hu, Tryd.ntmps56, Exit.thenS]
  refine wpS_of_wp ?_
  simp only [Array.replicate_succ, Array.replicate_zero, List.push_toArray, List.nil_append, List.cons_append, List.setIfInBounds_toArray, List.set_cons_succ, List.set_cons_zero, List.append_toArray]
  go_wp2
  exact ⟨rfl, _, rfl, _, results_none rfl _ _ _, rfl, rfl, rfl⟩

theorem catch_idle (p : Addr) (w : World) :
    CallsD Tryd.prog 56 #[.pointer (some p)] .returning w fun e u' w' => e = .returned (.tuple #[]) ∧ u' = .returning ∧ w' = w := by
  refine callsD_of_wpS Tryd.func56 rfl fun c₀ cs hu => ?_
  apply wpS_seq
  apply wpS_region
  simp [wpOpsS, go_sem, recoverD, hu, Tryd.ntmps56, Exit.thenS]
  refine wpS_of_wp ?_
  simp only [Array.replicate_succ, Array.replicate_zero, List.push_toArray, List.nil_append, List.cons_append, List.setIfInBounds_toArray, List.set_cons_succ, List.set_cons_zero, List.append_toArray]
  go_wp2
  exact ⟨rfl, .returning, by cases c₀; simp_all, _, results_none rfl _ _ _, rfl, rfl, rfl⟩
/-- the decoder's cells lie as before where only fresh blocks have come -/
theorem DS.alloc {w : World} {B D S : Nat} {ad : Option Addr} {cap : Nat} {l : List Int} {i : Nat} (h : DS w B D S ad cap l i) (o : Obj) : DS (w.alloc o) B D S ad cap l i where
  bD := h.bD
  bS := h.bS
  ne := h.ne
  hcap := h.hcap
  hi := h.hi
  st := by rw [World.cell?_alloc_past _ S 0 (World.block_lt_of_cell? _ _ h.st)]; exact h.st
  s := by rw [World.cell?_alloc_past _ D 0 (World.block_lt_of_cell? _ _ h.s)]; exact h.s
  i := by rw [World.cell?_alloc_past _ D 1 (World.block_lt_of_cell? _ _ h.i)]; exact h.i
  f := by rw [World.frozen?_alloc_past _ D 1 (World.block_lt_of_cell? _ _ h.i)]; exact h.f
  data := fun hp => by
    obtain ⟨b, o, ha, hb, hc⟩ := h.data hp
    refine ⟨b, o, ha, hb, fun j hj => ?_⟩
    rw [World.cell?_alloc_past _ b (o + j) (World.block_lt_of_cell? _ _ (hc j hj))]
    exact hc j hj

/-- a cell of another block stored -/
theorem DS.setOther {w : World} {B D S : Nat} {ad : Option Addr} {cap : Nat} {l : List Int} {i : Nat} (h : DS w B D S ad cap l i) (E : Nat) (v : Value) (hD : E ≠ D) (hS : E ≠ S) (hd : 0 < l.length → ∀ b o, ad = some ⟨b, o, none⟩ → E ≠ b) : DS (w.setCell ⟨E, 0, none⟩ v) B D S ad cap l i where
  bD := h.bD
  bS := h.bS
  ne := h.ne
  hcap := h.hcap
  hi := h.hi
  st := by rw [World.cell?_setCell_other _ _ _ _ (by simp only [ne_eq, Addr.mk.injEq]; omega)]; exact h.st
  s := by rw [World.cell?_setCell_other _ _ _ _ (by simp only [ne_eq, Addr.mk.injEq]; omega)]; exact h.s
  i := by rw [World.cell?_setCell_other _ _ _ _ (by simp only [ne_eq, Addr.mk.injEq]; omega)]; exact h.i
  f := by rw [World.frozen?_setCell]; exact h.f
  data := fun hp => by
    obtain ⟨b, o, ha, hb, hc⟩ := h.data hp
    have := hd hp b o ha
    refine ⟨b, o, ha, hb, fun j hj => ?_⟩
    rw [World.cell?_setCell_other _ _ _ _ (by simp only [ne_eq, Addr.mk.injEq]; omega)]
    exact hc j hj

theorem Only.fresh {D : Nat} {a b : World} (h : Only D a b) (E : Nat) (hE : a.heap.size ≤ E) (v : Value) : Only D a (b.setCell ⟨E, 0, none⟩ v) := by
  have h1 := (Below.refl E b).setCell (p := ⟨E, 0, none⟩) (Nat.le_refl E) v
  exact ⟨h1.os.trans h.os, h1.tape.trans h.tape, h1.output.trans h.output, Nat.le_trans h.size h1.size, fun k hk hd => (h1.block k (by omega)).trans (h.block k hk hd)⟩

theorem Only.alloc {D : Nat} {a b : World} (h : Only D a b) (o : Obj) : Only D a (b.alloc o) :=
  h.trans (Only.of_below ((Below.refl _ _).alloc (Nat.le_refl _) _))

/-- a block made behind the decoder's is none of them -/
theorem DS.far {w : World} {B D S : Nat} {ad : Option Addr} {cap : Nat} {l : List Int} {i : Nat} (h : DS w B D S ad cap l i) (E : Nat) (hE : w.heap.size ≤ E) : E ≠ D ∧ E ≠ S ∧ (0 < l.length → ∀ b o, ad = some ⟨b, o, none⟩ → E ≠ b) := by
  have h1 := World.block_lt_of_cell? _ _ h.s
  have h2 := World.block_lt_of_cell? _ _ h.st
  simp only at h1 h2
  refine ⟨by omega, by omega, fun hp b o ha => ?_⟩
  obtain ⟨b', o', ha', _, hc⟩ := h.data hp
  rw [ha] at ha'
  simp only [Option.some.injEq, Addr.mk.injEq] at ha'
  have h3 := World.block_lt_of_cell? _ _ (hc 0 hp)
  simp only at h3
  omega

theorem read_ok (B D S : Nat) (ad : Option Addr) (cap : Nat) (l : List Int) (i : Nat) (w : World) (x : Int) (n : Nat) (hs : DS w B D S ad cap l i) (hl : l.length ≤ 3000000000) (hr : ∀ x ∈ l, 0 ≤ x ∧ x < 256) (hrd : rd (l.drop i) = some (x, n)) :
    Calls Tryd.prog 43 #[.pointer (some ⟨S, 0, none⟩)] w fun e w' => e = .returned (.tuple #[.int .u64 x, .nilIface]) ∧ DS w' B D S ad cap l (i + n) ∧ Only D w w' := by
  have Hs := hid hs
  have hcall := hid (decU_ok B D S ad cap l i (w.alloc (.cells #[.nilIface] 52)) x n (hs.alloc _) hl hr hrd)
  have hD : D < w.heap.size := World.block_lt_of_cell? _ _ hs.s
  have hS : S < w.heap.size := World.block_lt_of_cell? _ _ hs.st
  clear hs hr hrd
  go_enter_defers Tryd.func43, Tryd.ntmps43
  go_wp2_with fail
  refine hcall.out.mono ?_
  rintro e w1 ⟨rfl, hs1, ho1⟩
  have c1 : w1.cell? ⟨w.heap.size, 0, none⟩ = some .nilIface := ho1.cell (p := ⟨w.heap.size, 0, none⟩) (by show w.heap.size ≠ D; omega) (by rw [World.cell?_alloc_at _ _ _ _ rfl]; rfl)
  have z1 : w1.frozen? ⟨w.heap.size, 0, none⟩ = false := (ho1.frozen (p := ⟨w.heap.size, 0, none⟩) (by show w.heap.size ≠ D; omega) (by rw [World.size_alloc]; exact Nat.lt_succ_self _)).trans (World.frozen?_alloc_at _ _ _ _ rfl)
  have Hs1 := hid hs1
  have Ho1 := hid ho1
  clear hs1 ho1 hcall
  go_wp2_with fail
  refine leaves_cons (f := 56) (args := #[.pointer (some ⟨w.heap.size, 0, none⟩)]) (by simp) (by simp [go_sem]) ?_
  refine (catch_idle ⟨w.heap.size, 0, none⟩ _).mono ?_
  rintro e u' w'' ⟨rfl, rfl, rfl⟩
  have c2 : (w1.setCell ⟨w.heap.size, 0, none⟩ .nilIface).cell? ⟨w.heap.size, 0, none⟩ = some .nilIface := World.cell?_setCell_same _ _ _ c1
  obtain ⟨f1, f2, f3⟩ := Hs.out.far w.heap.size (Nat.le_refl _)
  have hE := Hs1.out.setOther w.heap.size .nilIface f1 f2 f3
  have hO := (((Only.refl D w).alloc (.cells #[.nilIface] 52)).trans Ho1.out).fresh w.heap.size (Nat.le_refl _) .nilIface
  simp [Leaves, settle, results, Tryd.results43, go_sem, c2]
  exact ⟨hE, hO⟩

theorem read_none (B D S : Nat) (ad : Option Addr) (cap : Nat) (l : List Int) (i : Nat) (w : World) (aE aB : Addr) (hs : DS w B D S ad cap l i) (hl : l.length ≤ 3000000000) (hr : ∀ x ∈ l, 0 ≤ x ∧ x < 256) (hrd : rd (l.drop i) = none)
    (hE : w.cell? ⟨1, 0, none⟩ = some (.iface 107 (.pointer (some aE)))) (hB : w.cell? ⟨0, 0, none⟩ = some (.iface 107 (.pointer (some aB)))) (hgB : 0 < B) :
    Calls Tryd.prog 43 #[.pointer (some ⟨S, 0, none⟩)] w fun e w' => (∃ a, e = .returned (.tuple #[.int .u64 0, .iface 107 (.pointer (some a))])) ∧ Only D w w' := by
  have hpast : ∀ (k i : Nat) (v : Value), w.cell? ⟨k, i, none⟩ = some v → (w.alloc (.cells #[.nilIface] 52)).cell? ⟨k, i, none⟩ = some v := fun k i v h => by
    rw [World.cell?_alloc_past _ k i (World.block_lt_of_cell? _ _ h)]; exact h
  have hcall := hid (decU_none B D S ad cap l i (w.alloc (.cells #[.nilIface] 52)) aE aB (hs.alloc _) hl hr hrd (hpast _ _ _ hE) (hpast _ _ _ hB) hgB)
  have hD : D < w.heap.size := World.block_lt_of_cell? _ _ hs.s
  clear hs hr hrd hE hB hpast
  go_enter_defers Tryd.func43, Tryd.ntmps43
  go_wp2_with fail
  refine hcall.out.mono ?_
  rintro e w1 ⟨⟨a, rfl⟩, ho1⟩
  have c1 : w1.cell? ⟨w.heap.size, 0, none⟩ = some .nilIface := ho1.cell (p := ⟨w.heap.size, 0, none⟩) (by show w.heap.size ≠ D; omega) (by rw [World.cell?_alloc_at _ _ _ _ rfl]; rfl)
  have z1 : w1.frozen? ⟨w.heap.size, 0, none⟩ = false := (ho1.frozen (p := ⟨w.heap.size, 0, none⟩) (by show w.heap.size ≠ D; omega) (by rw [World.size_alloc]; exact Nat.lt_succ_self _)).trans (World.frozen?_alloc_at _ _ _ _ rfl)
  have Ho1 := hid ho1
  clear ho1 hcall
  go_wp2_with fail
  refine leaves_cons (f := 56) (args := #[.pointer (some ⟨w.heap.size, 0, none⟩)]) (by simp) (by simp [go_sem]) ?_
  refine (catch_panicking w.heap.size 107 (.pointer (some a)) w1 (by have := World.block_lt_of_cell? _ _ c1; exact this) c1 z1).mono ?_
  rintro e u' w'' ⟨rfl, rfl, rfl⟩
  have c2 : ((w1.setCell ⟨w.heap.size, 0, none⟩ (.iface 107 (.pointer (some a)))).alloc (.cells #[.iface 107 (.pointer (some a))] 99)).cell? ⟨w.heap.size, 0, none⟩ = some (.iface 107 (.pointer (some a))) := by
    have c3 := World.cell?_setCell_same w1 ⟨w.heap.size, 0, none⟩ (.iface 107 (.pointer (some a))) c1
    rw [World.cell?_alloc_past _ w.heap.size 0 (World.block_lt_of_cell? _ _ c3)]
    exact c3
  have hO := ((((Only.refl D w).alloc (.cells #[.nilIface] 52)).trans Ho1.out).fresh w.heap.size (Nat.le_refl _) (.iface 107 (.pointer (some a)))).alloc (.cells #[.iface 107 (.pointer (some a))] 99)
  simp [Leaves, settle, results, Tryd.results43, go_sem, c2]
  exact hO
theorem zero_decBuf (w : World) : (zeroValue 84).run Tryd.prog w = .ok (.agg #[.slice none 0 0, .int .i64 0]) w := by kernel_rfl
theorem zero_decSt (w : World) : (zeroValue 64).run Tryd.prog w = .ok (.agg #[.pointer none, .int .i64 0, .pointer none]) w := by kernel_rfl

theorem setBytes_any (D : Nat) (ad : Option Addr) (len cap : Nat) (w : World) (u0 u1 : Value) (c0 : w.cell? ⟨D, 0, none⟩ = some u0) (c1 : w.cell? ⟨D, 1, none⟩ = some u1) (f0 : w.frozen? ⟨D, 0, none⟩ = false) (f1 : w.frozen? ⟨D, 1, none⟩ = false) :
    Calls Tryd.prog 55 #[.pointer (some ⟨D, 0, none⟩), .slice ad len cap] w fun e w' => e = .returned (.tuple #[]) ∧ w' = (w.setCell ⟨D, 0, none⟩ (.slice ad len cap)).setCell ⟨D, 1, none⟩ (.int .i64 0) := by
  go_enter Tryd.func55, Tryd.ntmps55
  go_wp2
  exact bodyPost_end (results_none rfl _ _ _) rfl ⟨rfl, rfl⟩

def D0 : Obj := .cells #[.slice none 0 0, .int .i64 0] 84

theorem ds_start (w w1 : World) (ad : Option Addr) (cap : Nat) (l : List Int) (ho : w1.ownsRow (w.heap.size + 1) 5 1 (.slice ad l.length cap) l.length (u8s l)) (hb : Below (w.heap.size + 1) (w.alloc D0) w1) :
    DS (((w1.setCell ⟨w.heap.size, 0, none⟩ (.slice ad l.length cap)).setCell ⟨w.heap.size, 1, none⟩ (.int .i64 0)).alloc (.cells #[.pointer (some ⟨w.heap.size, 0, none⟩), .int .i64 0, .pointer none] 64)) w.heap.size w.heap.size w1.heap.size ad cap l 0 ∧
    Below w.heap.size w (((w1.setCell ⟨w.heap.size, 0, none⟩ (.slice ad l.length cap)).setCell ⟨w.heap.size, 1, none⟩ (.int .i64 0)).alloc (.cells #[.pointer (some ⟨w.heap.size, 0, none⟩), .int .i64 0, .pointer none] 64)) := by
  have hs1 : w.heap.size + 1 ≤ w1.heap.size := by have := hb.size; rw [World.size_alloc] at this; exact this
  have c0 : w1.cell? ⟨w.heap.size, 0, none⟩ = some (.slice none 0 0) := by rw [hb.cell (p := ⟨w.heap.size, 0, none⟩) (Nat.lt_succ_self _), D0, World.cell?_alloc_at _ _ _ _ rfl]; rfl
  have c1 : w1.cell? ⟨w.heap.size, 1, none⟩ = some (.int .i64 0) := by rw [hb.cell (p := ⟨w.heap.size, 1, none⟩) (Nat.lt_succ_self _), D0, World.cell?_alloc_at _ _ _ _ rfl]; rfl
  have f1 : w1.frozen? ⟨w.heap.size, 1, none⟩ = false := by rw [hb.frozen (p := ⟨w.heap.size, 1, none⟩) (Nat.lt_succ_self _), D0, World.frozen?_alloc_at _ _ _ _ rfl]
  obtain ⟨W, hW⟩ : ∃ W, W = (w1.setCell ⟨w.heap.size, 0, none⟩ (.slice ad l.length cap)).setCell ⟨w.heap.size, 1, none⟩ (.int .i64 0) := ⟨_, rfl⟩
  rw [← hW]
  have hWs : W.heap.size = w1.heap.size := by rw [hW]; simp [World.setCell]
  have d0 : W.cell? ⟨w.heap.size, 0, none⟩ = some (.slice ad l.length cap) := by
    rw [hW, World.cell?_setCell_other _ _ _ _ (by simp)]; exact World.cell?_setCell_same _ _ _ c0
  have d1 : W.cell? ⟨w.heap.size, 1, none⟩ = some (.int .i64 0) := by
    rw [hW]; refine World.cell?_setCell_same _ _ _ (u := .int .i64 0) ?_; rw [World.cell?_setCell_other _ _ _ _ (by simp)]; exact c1
  have g1 : W.frozen? ⟨w.heap.size, 1, none⟩ = false := by rw [hW, World.frozen?_setCell, World.frozen?_setCell]; exact f1
  have hold : ∀ k i, k ≠ w.heap.size → W.cell? ⟨k, i, none⟩ = w1.cell? ⟨k, i, none⟩ := fun k i hk => by
    rw [hW, World.cell?_setCell_other _ _ _ _ (by simp only [ne_eq, Addr.mk.injEq]; omega), World.cell?_setCell_other _ _ _ _ (by simp only [ne_eq, Addr.mk.injEq]; omega)]
  have hle : l.length ≤ cap := by
    rcases ho.2 with ⟨h1, h2⟩ | ⟨g, cap', _, h1, _, _, h2, _⟩
    · simp only [Value.slice.injEq] at h1; omega
    · simp only [Value.slice.injEq] at h1; omega
  refine ⟨⟨Nat.le_refl _, by omega, by omega, hle, Nat.zero_le _, ?_, ?_, ?_, ?_, fun hp => ?_⟩, ?_⟩
  · rw [World.cell?_alloc_at _ _ _ _ hWs.symm]; rfl
  · rw [World.cell?_alloc_past _ _ _ (by omega)]; exact d0
  · rw [World.cell?_alloc_past _ _ _ (by omega)]; exact d1
  · rw [World.frozen?_alloc_past _ _ _ (by omega)]; exact g1
  · have ho0 := ho
    rcases ho.2 with ⟨_, h2⟩ | ⟨g, cap', hg1, h1, _, hg, _⟩
    · omega
    · simp only [Value.slice.injEq] at h1
      obtain ⟨rfl, _, rfl⟩ := h1
      have hlt : g < w1.heap.size := (Array.getElem?_eq_some_iff.1 hg).1
      refine ⟨g, 0, rfl, by omega, fun j hj => ?_⟩
      have := ho0.cells (g := g) rfl j _ (u8s_getD l j hj)
      rw [Addr.add_lit] at this
      rw [World.cell?_alloc_past _ g (0 + j) (by omega), hold _ _ (by omega)]
      exact this
  · have hb0 : Below w.heap.size w w1 := ((Below.refl w.heap.size w).alloc (Nat.le_refl _) D0).trans (hb.mono (by omega))
    have hbW : Below w.heap.size w W := by
      rw [hW]
      exact (hb0.setCell (p := ⟨w.heap.size, 0, none⟩) (Nat.le_refl _) _).setCell (p := ⟨w.heap.size, 1, none⟩) (Nat.le_refl _) _
    exact hbW.alloc (by omega) _

theorem newDec_any (v : Value) (l : List Int) (w : World) (hsrc : Src w v (u8s l)) (hl : l.length ≤ 3000000000) :
    Calls Tryd.prog 42 #[v] w fun e w' => ∃ D S ad cap, e = .returned (.pointer (some ⟨S, 0, none⟩)) ∧ DS w' w.heap.size D S ad cap l 0 ∧ Below w.heap.size w w' := by
  obtain ⟨i0, hi, hz0, hz1, hz2⟩ := info_parts Tryd.infoU8
  obtain ⟨ad, cap, rfl, _⟩ := hsrc.shape
  have Hsrc := hid (hsrc.below ((Below.refl w.heap.size w).alloc (Nat.le_refl _) (.cells #[.slice none 0 0, .int .i64 0] 84)) (Nat.le_refl _))
  have hzb := zero_decBuf
  have hzs := zero_decSt
  clear hsrc
  rw [u8s_length] at Hsrc ⊢
  go_enter Tryd.func42, Tryd.ntmps42
  go_wp2_with (at_builtin; refine wpList_append_copy rfl _ _ 22 rfl 5 i0 (.int .u8 0) 1 Tryd.underlying22 hi hz0 hz1 hz2 rfl rfl _ (u8s l) rfl Hsrc.out (u8s_oneCell _) ?c1 ?c2 ?_)
  case c1 => rw [u8s_length]; unfold maxLen; omega
  case c2 => rw [u8s_length]; omega
  intro v1 w1 hown hgrow
  rw [u8s_length] at hown
  have hb1 : Below (w.heap.size + 1) (w.alloc D0) w1 := (Below.refl (w.heap.size + 1) (w.alloc D0)).grown hgrow (by rw [World.size_alloc]; exact Nat.le_refl _) (fun k hk => by simp at hk)
  obtain ⟨ad1, cap1, rfl, _⟩ := (show Own w1 (w.heap.size + 1) v1 l from hown).holds.shape
  have c0 : w1.cell? ⟨w.heap.size, 0, none⟩ = some (.slice none 0 0) := by rw [hb1.cell (p := ⟨w.heap.size, 0, none⟩) (Nat.lt_succ_self _), D0, World.cell?_alloc_at _ _ _ _ rfl]; rfl
  have c1 : w1.cell? ⟨w.heap.size, 1, none⟩ = some (.int .i64 0) := by rw [hb1.cell (p := ⟨w.heap.size, 1, none⟩) (Nat.lt_succ_self _), D0, World.cell?_alloc_at _ _ _ _ rfl]; rfl
  have f0 : w1.frozen? ⟨w.heap.size, 0, none⟩ = false := by rw [hb1.frozen (p := ⟨w.heap.size, 0, none⟩) (Nat.lt_succ_self _), D0, World.frozen?_alloc_at _ _ _ _ rfl]
  have f1 : w1.frozen? ⟨w.heap.size, 1, none⟩ = false := by rw [hb1.frozen (p := ⟨w.heap.size, 1, none⟩) (Nat.lt_succ_self _), D0, World.frozen?_alloc_at _ _ _ _ rfl]
  have hend := hid (ds_start w w1 ad1 cap1 l hown hb1)
  have hset := hid (setBytes_any w.heap.size ad1 l.length cap1 w1 _ _ c0 c1 f0 f1)
  clear hown hgrow hb1 c0 c1 f0 f1 Hsrc
  go_wp2_with fail
  refine hset.out.mono ?_
  rintro e w2 ⟨rfl, rfl⟩
  go_wp2_with fail
  go_ret
  refine ⟨w.heap.size, w1.heap.size, ad1, cap1, ?_, hend.out⟩
  simp [go_sem]
/-- what the fast road answers of the bytes l -/
def Reads (l : List Int) (x rest : Int) (ok : Bool) : Prop :=
  match rd l with
  | some (y, n) => x = y ∧ rest = (l.length : Int) - n ∧ ok = true
  | none => ok = false

/-- the variables that the fast road reads hold errors -/
structure ErrsF (w : World) (aE aB : Addr) : Prop where
  eof : w.cell? ⟨1, 0, none⟩ = some (.iface 107 (.pointer (some aE)))
  bad : w.cell? ⟨0, 0, none⟩ = some (.iface 107 (.pointer (some aB)))

theorem ErrsF.below {w w' : World} {aE aB : Addr} (h : ErrsF w aE aB) (hb : Below w.heap.size w w') : ErrsF w' aE aB :=
  ⟨(hb.cell (p := ⟨1, 0, none⟩) (World.block_lt_of_cell? _ _ h.eof)).trans h.eof, (hb.cell (p := ⟨0, 0, none⟩) (World.block_lt_of_cell? _ _ h.bad)).trans h.bad⟩

theorem gRead_any (v : Value) (l : List Int) (w : World) (aE aB : Addr) (hsrc : Src w v (u8s l)) (he : ErrsF w aE aB) (hl : l.length ≤ 3000000000) (hr : ∀ x ∈ l, 0 ≤ x ∧ x < 256) :
    Calls Tryd.prog 30 #[v] w fun e w' => ∃ (x rest : Int) (ok : Bool), e = .returned (.tuple #[.int .u64 x, .int .i64 rest, .bool ok]) ∧ Reads l x rest ok ∧ Below w.heap.size w w' := by
  have hg : 0 < w.heap.size := World.block_lt_of_cell? _ _ he.bad
  obtain ⟨ad, cap, rfl, _⟩ := hsrc.shape
  have hcall := hid (newDec_any _ l w hsrc hl)
  have Hr := hid hr
  have He := hid he
  clear hr hsrc he
  rw [u8s_length] at hcall ⊢
  go_enter Tryd.func30, Tryd.ntmps30
  go_wp2_with fail
  refine hcall.out.mono ?_
  rintro e w1 ⟨D, S, ad1, cap1, rfl, hs1, hb1⟩
  have He1 := hid (He.out.below hb1)
  have hbD := hs1.bD
  have Hs1 := hid hs1
  have Hb1 := hid hb1
  clear hs1 hb1 hcall He
  go_wp2_with fail
  cases hrd : rd l with
  | some p =>
    obtain ⟨x, n⟩ := p
    refine (read_ok w.heap.size D S ad1 cap1 l 0 w1 x n Hs1.out hl Hr.out (by rw [List.drop_zero]; exact hrd)).mono ?_
    rintro e w2 ⟨rfl, hs2, ho2⟩
    rw [Nat.zero_add] at hs2
    have c0 := hs2.st
    have hn := hs2.hi
    have Hb2 := hid (Hb1.out.trans (ho2.below hbD Hb1.out.size))
    have hlen := hid (dLen_any w.heap.size D S ad1 cap1 l n w2 hs2 hl)
    have Hrd := hid hrd
    clear ho2 hs2 Hs1 He1 Hb1 hrd
    go_wp2_with fail
    refine hlen.out.mono ?_
    rintro e w3 ⟨rfl, q, hw⟩
    obtain rfl := hw
    go_wp2_with fail
    exact bodyPost_ret (v := .tuple #[.int .u64 x, .int .i64 ((l.length : Int) - n), .bool true]) (by simp [results, Tryd.results30, go_sem]) rfl ⟨x, _, true, rfl, by unfold Reads; rw [Hrd.out]; exact ⟨rfl, rfl, rfl⟩, below_drewN Hb2.out q⟩
  | none =>
    refine (read_none w.heap.size D S ad1 cap1 l 0 w1 aE aB Hs1.out hl Hr.out (by rw [List.drop_zero]; exact hrd) He1.out.eof He1.out.bad hg).mono ?_
    rintro e w2 ⟨⟨a, rfl⟩, ho2⟩
    have Hb2 := hid (Hb1.out.trans (ho2.below hbD Hb1.out.size))
    have Hrd := hid hrd
    clear ho2 Hs1 He1 Hb1 hrd
    go_wp2_with fail
    exact bodyPost_ret (v := .tuple #[.int .u64 0, .int .i64 0, .bool false]) (by simp [results, Tryd.results30, go_sem]) rfl ⟨0, 0, false, rfl, by unfold Reads; rw [Hrd.out], Hb2.out⟩

theorem iRead_any (v : Value) (l : List Int) (w : World) (aE aB : Addr) (hsrc : Src w v (u8s l)) (he : ErrsF w aE aB) (hl : l.length ≤ 3000000000) (hr : ∀ x ∈ l, 0 ≤ x ∧ x < 256) :
    Calls Tryd.prog 15 #[v] w fun e w' => ∃ (x rest : Int) (ok : Bool), e = .returned (.tuple #[.int .u64 x, .int .i64 rest, .bool ok]) ∧ Reads l x rest ok ∧ Below w.heap.size w w' := by
  obtain ⟨i0, hi, hz0, hz1, hz2⟩ := info_parts Tryd.infoU8
  obtain ⟨ad, cap, rfl, _⟩ := hsrc.shape
  have Hsrc := hid hsrc
  have Hr := hid hr
  have He := hid he
  clear hr hsrc he
  rw [u8s_length] at Hsrc ⊢
  go_enter Tryd.func15, Tryd.ntmps15
  go_wp2_with (at_builtin; refine wpList_append_copy rfl _ _ 22 rfl 5 i0 (.int .u8 0) 1 Tryd.underlying22 hi hz0 hz1 hz2 rfl rfl _ (u8s l) rfl Hsrc.out (u8s_oneCell _) ?c1 ?c2 ?_)
  case c1 => rw [u8s_length]; unfold maxLen; omega
  case c2 => rw [u8s_length]; omega
  intro v1 w1 hown hgrow
  have Hs1 := hid (Src.of_owns hown)
  have hb1 := (Below.refl w.heap.size w).grown hgrow (Nat.le_refl _) (fun k hk => by simp at hk)
  have He1 := hid (He.out.below hb1)
  clear hown hgrow
  go_wp2_with fail
  refine (gRead_any v1 l w1 aE aB Hs1.out He1.out hl Hr.out).mono ?_
  rintro e w2 ⟨x, rest, ok, rfl, ht, hb2⟩
  have Ht := hid ht
  clear ht
  go_wp2_with fail
  exact bodyPost_ret (v := .tuple #[.int .u64 x, .int .i64 rest, .bool ok]) (by simp [results, Tryd.results15, go_sem]) rfl ⟨x, rest, ok, rfl, Ht.out, hb1.trans (hb2.mono hb1.size)⟩

/-- the law's own bytes [7] are read -/
theorem wakes_any (w : World) (aE aB : Addr) (he : ErrsF w aE aB) :
    Calls Tryd.prog 17 #[] w fun e w' => e = .returned (.bool true) ∧ Below w.heap.size w w' := by
  have Hw : Hid (w = w) := rfl
  have He := hid he
  clear he
  go_enter Tryd.func17, Tryd.ntmps17
  go_wp2_with fail
  have hb1 : Below w.heap.size w (w.alloc (.cells #[.int .u8 7] 5)) := (Below.refl _ _).alloc (Nat.le_refl _) _
  refine (iRead_any _ [7] _ aE aB ?src (He.out.below hb1) (by decide) (by intro x hx; simp at hx; omega)).mono ?_
  case src =>
    refine .inr ⟨⟨w.heap.size, 0, none⟩, 1, rfl, by decide, .inr ⟨w.heap.size, 0, rfl, fun j u hj => ?_⟩⟩
    rw [World.cell?_alloc_at _ _ _ _ rfl]
    match j with
    | 0 => simpa [u8s] using hj
    | j + 1 => simp [u8s] at hj
  rintro e w2 ⟨x, rest, ok, rfl, ht, hb2⟩
  have h7 : x = 7 ∧ rest = 0 ∧ ok = true := ht
  obtain ⟨rfl, rfl, rfl⟩ := h7
  have Hb2 := hid (hb1.trans (hb2.mono (by rw [World.size_alloc]; omega)))
  clear ht hb1 hb2
  go_wp2_with fail
  go_ret
  exact ⟨rfl, Hb2.out⟩
end Go.Proofs.YtleddjhlpgemjaaDoor
