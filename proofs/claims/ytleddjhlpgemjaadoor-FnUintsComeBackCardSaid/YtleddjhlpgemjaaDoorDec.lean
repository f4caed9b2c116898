/- PROVED: what the decoder's small functions do. Conditions: the decoder lies as 'DS' says; io.EOF and errBadUint hold errors. -/
import Derived.Test.YtleddjhlpgemjaaDoorSRead
import Derived.Deep.QuietTactic
import Derived.BigQuiet
namespace Go.Proofs.YtleddjhlpgemjaaDoor
open Go.RowKit

/-- A decoder (block S, its buffer block D, both from B on) of the bytes l, i of them read. -/
structure DS (w : World) (B D S : Nat) (ad : Option Addr) (cap : Nat) (l : List Int) (i : Nat) : Prop where
  bD : B ≤ D
  bS : B ≤ S
  ne : D ≠ S
  hcap : l.length ≤ cap
  hi : i ≤ l.length
  st : w.cell? ⟨S, 0, none⟩ = some (.pointer (some ⟨D, 0, none⟩))
  s : w.cell? ⟨D, 0, none⟩ = some (.slice ad l.length cap)
  i : w.cell? ⟨D, 1, none⟩ = some (.int .i64 i)
  f : w.frozen? ⟨D, 1, none⟩ = false
  data : 0 < l.length → ∃ b o, ad = some ⟨b, o, none⟩ ∧ b ≠ D ∧ ∀ j, j < l.length → w.cell? ⟨b, o + j, none⟩ = some (.int .u8 (l.getD j 0))

theorem two_draws' (w : World) (a b : Nat) : ∃ q, (w.drewN a).drewN b = w.drewN q := ⟨a + b, by rw [World.drewN_drewN]⟩

theorem DS.drewN {w : World} {B D S : Nat} {ad : Option Addr} {cap : Nat} {l : List Int} {i : Nat} (h : DS w B D S ad cap l i) (q : Nat) : DS (w.drewN q) B D S ad cap l i :=
  ⟨h.bD, h.bS, h.ne, h.hcap, h.hi, h.st, h.s, h.i, h.f, h.data⟩

/-- nothing but block D and fresh blocks has changed -/
structure Only (D : Nat) (w w' : World) : Prop where
  os : w'.os = w.os
  tape : w'.tape = w.tape
  output : w'.output = w.output
  size : w.heap.size ≤ w'.heap.size
  block : ∀ k, k < w.heap.size → k ≠ D → w'.heap[k]? = w.heap[k]?

theorem Only.refl (D : Nat) (w : World) : Only D w w := ⟨rfl, rfl, rfl, Nat.le_refl _, fun _ _ _ => rfl⟩

theorem Only.trans {D : Nat} {a b c : World} (h : Only D a b) (k : Only D b c) : Only D a c :=
  ⟨k.os.trans h.os, k.tape.trans h.tape, k.output.trans h.output, Nat.le_trans h.size k.size, fun i hi hd => (k.block i (Nat.lt_of_lt_of_le hi h.size) hd).trans (h.block i hi hd)⟩

theorem Only.of_below {D : Nat} {a b : World} (h : Below a.heap.size a b) : Only D a b := ⟨h.os, h.tape, h.output, h.size, fun k hk _ => h.block k hk⟩

theorem Only.drewN {D : Nat} {a b : World} (h : Only D a b) (q : Nat) : Only D a (b.drewN q) := h.trans (Only.of_below (below_drewN (Below.refl _ _) q))

theorem Only.setCell {D : Nat} {a b : World} (h : Only D a b) (i : Nat) (v : Value) : Only D a (b.setCell ⟨D, i, none⟩ v) :=
  h.trans (by
    have := (Below.refl D b).setCell (p := ⟨D, i, none⟩) (Nat.le_refl D) v
    exact ⟨this.os, this.tape, this.output, this.size, fun k _ hd => Below.heap_setCell b ⟨D, i, none⟩ v k hd⟩)

theorem Only.below {D B : Nat} {a b : World} (h : Only D a b) (hB : B ≤ D) (hs : B ≤ a.heap.size) : Below B a b :=
  ⟨h.os, h.tape, h.output, h.size, fun k hk => h.block k (by omega) (by omega)⟩

theorem Only.cell {D : Nat} {a b : World} (h : Only D a b) {p : Addr} {v : Value} (hp : p.block ≠ D) (hc : a.cell? p = some v) : b.cell? p = some v :=
  (World.cell?_of_block (w := a) (h.block p.block (World.block_lt_of_cell? _ _ hc) hp)).trans hc

theorem Only.frozen {D : Nat} {a b : World} (h : Only D a b) {p : Addr} (hp : p.block ≠ D) (hs : p.block < a.heap.size) : b.frozen? p = a.frozen? p :=
  World.frozen?_of_block (w := a) (h.block p.block hs hp)

/-- the offset stored -/
theorem DS.setOff {w : World} {B D S : Nat} {ad : Option Addr} {cap : Nat} {l : List Int} {i : Nat} (h : DS w B D S ad cap l i) (k : Nat) (hk : k ≤ l.length) (v : Value) (hv : v = .int .i64 k) : DS (w.setCell ⟨D, 1, none⟩ v) B D S ad cap l k where
  bD := h.bD
  bS := h.bS
  ne := h.ne
  hcap := h.hcap
  hi := hk
  st := by rw [World.cell?_setCell_other _ _ _ _ (by simp only [ne_eq, Addr.mk.injEq]; have := h.ne; omega)]; exact h.st
  s := by rw [World.cell?_setCell_other _ _ _ _ (by simp)]; exact h.s
  i := by rw [World.cell?_setCell_same _ _ _ h.i, hv]
  f := by rw [World.frozen?_setCell]; exact h.f
  data := fun hp => by
    obtain ⟨b, o, ha, hb, hc⟩ := h.data hp
    refine ⟨b, o, ha, hb, fun j hj => ?_⟩
    rw [World.cell?_setCell_other _ _ _ _ (by simp only [ne_eq, Addr.mk.injEq]; omega)]
    exact hc j hj

theorem err_any (t : TypeId) (x : Value) (w : World) : Calls Tryd.prog 66 #[.iface t x] w fun e w' => e = .panicked [{ v := .iface 99 (.agg #[.iface t x]), recovered := false }] ∧ w' = w := by
  go_enter Tryd.func66, Tryd.ntmps66
  go_wp2
  exact ⟨rfl, rfl, rfl⟩

theorem errNew_any (s : ByteArray) (w : World) : Calls Tryd.prog 71 #[.string s] w fun e w' => e = .returned (.iface 107 (.pointer (some ⟨w.heap.size, 0, none⟩))) ∧ w' = w.alloc (.cells #[.string s] 109) := by
  go_enter Tryd.func71, Tryd.ntmps71
  go_wp2
  go_ret
  exact ⟨rfl, rfl⟩

theorem errf_any (s : ByteArray) (hs : s.size ≤ 1000) (w : World) : Calls Tryd.prog 68 #[.string s] w fun e w' => (∃ a, e = .panicked [{ v := .iface 99 (.agg #[.iface 107 (.pointer (some a))]), recovered := false }]) ∧ Below w.heap.size w w' := by
  go_enter Tryd.func68, Tryd.ntmps68
  go_wp2_with fail
  refine (errNew_any _ w).mono ?_
  rintro e w1 ⟨rfl, hw⟩
  have Hw := hid hw
  clear hw
  go_wp2_with fail
  refine (err_any _ _ w1).mono ?_
  rintro e w2 ⟨rfl, rfl⟩
  go_wp2_with fail
  exact ⟨rfl, ⟨_, rfl⟩, by rw [Hw.out]; exact (Below.refl _ _).alloc (Nat.le_refl _) _⟩

theorem dLen_any (B D S : Nat) (ad : Option Addr) (cap : Nat) (l : List Int) (i : Nat) (w : World) (hs : DS w B D S ad cap l i) (hl : l.length ≤ 3000000000) :
    Calls Tryd.prog 44 #[.pointer (some ⟨D, 0, none⟩)] w fun e w' => e = .returned (.int .i64 ((l.length : Int) - i)) ∧ ∃ q, w' = w.drewN q := by
  have c0 := hs.s
  have c1 := hs.i
  have hi := hs.hi
  clear hs
  go_enter Tryd.func44, Tryd.ntmps44
  go_wp2
  go_quiet (fail)
  go_wp2
  go_ret
  exact ⟨rfl, _, rfl⟩

theorem dBytes_any (B D S : Nat) (b o cap : Nat) (l : List Int) (i : Nat) (w : World) (hs : DS w B D S (some ⟨b, o, none⟩) cap l i) (hi : i < l.length) :
    Calls Tryd.prog 67 #[.pointer (some ⟨D, 0, none⟩)] w fun e w' => e = .returned (.slice (some ⟨b, o + i, none⟩) (l.length - i) (cap - i)) ∧ ∃ q, w' = w.drewN q := by
  have c0 := hs.s
  have c1 := hs.i
  have hc := hs.hcap
  clear hs
  go_enter Tryd.func67, Tryd.ntmps67
  go_wp2
  go_quiet (fail)
  go_wp2
  go_ret
  exact ⟨rfl, _, rfl⟩

theorem dBytes_end (B D S : Nat) (b o cap : Nat) (l : List Int) (w : World) (hs : DS w B D S (some ⟨b, o, none⟩) cap l l.length) :
    Calls Tryd.prog 67 #[.pointer (some ⟨D, 0, none⟩)] w fun e w' => (∃ a c, e = .returned (.slice (some a) 0 c)) ∧ ∃ q, w' = w.drewN q := by
  have c0 := hs.s
  have c1 := hs.i
  have hc := hs.hcap
  clear hs
  by_cases h1 : l.length < cap
  · go_enter Tryd.func67, Tryd.ntmps67
    go_wp2
    go_quiet (fail)
    go_wp2
    go_ret
    exact ⟨⟨⟨b, o + l.length, none⟩, _, by simp [go_sem]; rfl⟩, _, rfl⟩
  · obtain rfl : cap = l.length := by omega
    clear hc h1
    go_enter Tryd.func67, Tryd.ntmps67
    go_wp2
    go_quiet (fail)
    go_wp2
    go_ret
    exact ⟨⟨⟨b, o, none⟩, 0, by simp [go_sem]⟩, _, rfl⟩

theorem readByte_end (B D S : Nat) (ad : Option Addr) (cap : Nat) (l : List Int) (w : World) (aE : Addr) (hs : DS w B D S ad cap l l.length) (hE : w.cell? ⟨1, 0, none⟩ = some (.iface 107 (.pointer (some aE)))) :
    Calls Tryd.prog 65 #[.pointer (some ⟨D, 0, none⟩)] w fun e w' => e = .returned (.tuple #[.int .u8 0, .iface 107 (.pointer (some aE))]) ∧ ∃ q, w' = w.drewN q := by
  have c0 := hs.s
  have c1 := hs.i
  clear hs
  go_enter Tryd.func65, Tryd.ntmps65
  go_wp2
  go_quiet (fail)
  go_wp2
  go_quiet (fail)
  go_wp2
  go_ret2
  exact ⟨rfl, two_draws' _ _ _⟩

theorem readByte_any (B D S : Nat) (b o cap : Nat) (l : List Int) (i : Nat) (w : World) (hs : DS w B D S (some ⟨b, o, none⟩) cap l i) (hi : i < l.length) (hl : l.length ≤ 3000000000) :
    Calls Tryd.prog 65 #[.pointer (some ⟨D, 0, none⟩)] w fun e w' => e = .returned (.tuple #[.int .u8 (l.getD i 0), .nilIface]) ∧ DS w' B D S (some ⟨b, o, none⟩) cap l (i + 1) ∧ Only D w w' := by
  have c0 := hs.s
  have c1 := hs.i
  have f1 := hs.f
  obtain ⟨b', o', hbo, hbR, hdat⟩ := hs.data (by omega)
  simp only [Option.some.injEq, Addr.mk.injEq] at hbo
  obtain ⟨rfl, rfl, _⟩ := hbo
  have c2 := hdat i hi
  have Hs := hid hs
  clear hs hdat
  go_enter Tryd.func65, Tryd.ntmps65
  go_wp2
  go_quiet (fail)
  go_wp2
  go_quiet (fail)
  go_wp2
  go_ret2
  refine ⟨by simp [go_sem, hi], ?_, ?_⟩
  · exact (Hs.out.drewN _).setOff (i + 1) (by omega) _ (by rfl)
  · exact ((Only.refl _ _).drewN _).setCell _ _

theorem drop_any (B D S : Nat) (ad : Option Addr) (cap : Nat) (l : List Int) (i n : Nat) (w : World) (hs : DS w B D S ad cap l i) (hi : i + n ≤ l.length) (hl : l.length ≤ 3000000000) :
    Calls Tryd.prog 69 #[.pointer (some ⟨D, 0, none⟩), .int .i64 n] w fun e w' => e = .returned (.tuple #[]) ∧ DS w' B D S ad cap l (i + n) ∧ Only D w w' := by
  have hcall := hid (dLen_any B D S ad cap l i w hs hl)
  have c1 := hs.i
  have f1 := hs.f
  have Hs := hid hs
  clear hs
  go_enter Tryd.func69, Tryd.ntmps69
  go_wp2_with fail
  refine hcall.out.mono ?_
  rintro e w1 ⟨rfl, q, hw⟩
  obtain rfl := hw
  go_wp2
  exact bodyPost_end (results_none rfl _ _ _) rfl ⟨rfl, (Hs.out.drewN q).setOff (i + n) (by omega) _ (by go_num), ((Only.refl _ _).drewN q).setCell _ _⟩
end Go.Proofs.YtleddjhlpgemjaaDoor
