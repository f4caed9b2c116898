/- PROVED: what io.ReadAtLeast and io.ReadFull read of a reader of known bytes. Conditions: the reader and the buffer lie as 'RS' says; io's variables hold errors. -/
import Derived.Test.YtleddjhlpgemjaaDoorReader
import Derived.LaidEql
import Derived.Deep.RegionWith
namespace Go.Proofs.YtleddjhlpgemjaaDoor
open Go.RowKit

/-- The variables io.EOF, io.ErrUnexpectedEOF and errBadUint hold three errors, the first two different. All lies below block R. -/
structure Errs (w : World) (R : Nat) (aE aU aB : Addr) : Prop where
  five : 5 ≤ R
  eof : w.cell? ⟨1, 0, none⟩ = some (.iface 107 (.pointer (some aE)))
  unexp : w.cell? ⟨2, 0, none⟩ = some (.iface 107 (.pointer (some aU)))
  bad : w.cell? ⟨0, 0, none⟩ = some (.iface 107 (.pointer (some aB)))
  ne : aU ≠ aE
  ltE : aE.block < R
  ltU : aU.block < R
  hE : ∃ c t, w.heap[aE.block]? = some (.cells c t (0, 0))
  hU : ∃ c t, w.heap[aU.block]? = some (.cells c t (0, 0))

theorem Errs.below {w w' : World} {R : Nat} {aE aU aB : Addr} (h : Errs w R aE aU aB) (hb : Below R w w') : Errs w' R aE aU aB where
  five := h.five
  eof := (hb.cell (p := ⟨1, 0, none⟩) (by have := h.five; show 1 < R; omega)).trans h.eof
  unexp := (hb.cell (p := ⟨2, 0, none⟩) (by have := h.five; show 2 < R; omega)).trans h.unexp
  bad := (hb.cell (p := ⟨0, 0, none⟩) (by have := h.five; show 0 < R; omega)).trans h.bad
  ne := h.ne
  ltE := h.ltE
  ltU := h.ltU
  hE := by rw [hb.block _ h.ltE]; exact h.hE
  hU := by rw [hb.block _ h.ltU]; exact h.hU

theorem Errs.mono {w : World} {R R' : Nat} {aE aU aB : Addr} (h : Errs w R aE aU aB) (hR : R ≤ R') : Errs w R' aE aU aB :=
  ⟨by have := h.five; omega, h.eof, h.unexp, h.bad, h.ne, Nat.lt_of_lt_of_le h.ltE hR, Nat.lt_of_lt_of_le h.ltU hR, h.hE, h.hU⟩

theorem Tryd.compErr : (Tryd.prog.info? 107).map (·.comparable) = some true := by kernel_rfl
theorem Tryd.sizeErr : (Tryd.prog.info? 109).map (·.size) = some 1 := by kernel_rfl

theorem eql_err_same (a : Addr) (w : World) : (binOp .eql 52 (.iface 107 (.pointer (some a))) (.iface 107 (.pointer (some a)))).run Tryd.prog w = .ok (.bool true) w := by
  obtain ⟨i, hi, hc⟩ := Option.map_eq_some_iff.1 Tryd.compErr
  obtain ⟨j, hj, _⟩ := Option.map_eq_some_iff.1 Tryd.sizeErr
  exact run_eql_iface_ptr_same w a Tryd.underlying52 Tryd.underlying107 hi hc hj

theorem eql_err_other {a b : Addr} (w : World) (hne : a ≠ b) (ha : ∃ c t, w.heap[a.block]? = some (.cells c t (0, 0))) (hb : ∃ c t, w.heap[b.block]? = some (.cells c t (0, 0))) :
    (binOp .eql 52 (.iface 107 (.pointer (some a))) (.iface 107 (.pointer (some b)))).run Tryd.prog w = .ok (.bool false) w := by
  obtain ⟨i, hi, hc⟩ := Option.map_eq_some_iff.1 Tryd.compErr
  obtain ⟨j, hj, hs⟩ := Option.map_eq_some_iff.1 Tryd.sizeErr
  obtain ⟨_, _, ha⟩ := ha
  obtain ⟨_, _, hb⟩ := hb
  exact run_eql_iface_ptr_other w Tryd.underlying52 Tryd.underlying107 hi hc hj (by rw [hs]; decide) hne ha hb

theorem nil_ahead (a : Addr) (w : World) : (nilAhead 226 48 (.pointer (some a)) "Read").run Tryd.prog w = .ok (some false) w := by kernel_rfl
theorem method_read (a : Addr) (w : World) : (method 226 48 (.pointer (some a)) "Read").run Tryd.prog w = .ok (87, .pointer (some a)) w := by kernel_rfl

theorem RS.drew {w : World} {R : Nat} {ad : Option Addr} {cap : Nat} {l : List Int} {i : Nat} (h : RS w R ad cap l i) : RS w.drew R ad cap l i := ⟨h.size, h.hcap, h.s, h.i, h.p, h.fi, h.fp, h.buf, h.data⟩
theorem RS.drewN {w : World} {R : Nat} {ad : Option Addr} {cap : Nat} {l : List Int} {i : Nat} (h : RS w R ad cap l i) (q : Nat) : RS (w.drewN q) R ad cap l i := ⟨h.size, h.hcap, h.s, h.i, h.p, h.fi, h.fp, h.buf, h.data⟩

/-- A Read that reads k bytes. -/
theorem rRead_k (R : Nat) (b o cap : Nat) (l : List Int) (i : Nat) (w : World) (off m c k : Nat) (hs : RS w R (some ⟨b, o, none⟩) cap l i) (hi : i < l.length) (hl : l.length ≤ 3000000000) (hm : 1 ≤ m) (hm9 : off + m ≤ 9) (hk : k = min m (l.length - i)) :
    Calls Tryd.prog 87 #[.pointer (some ⟨R, 0, none⟩), .slice (some ⟨R + 1, off, none⟩) m c] w fun e w' => e = .returned (.tuple #[.int .i64 k, .nilIface]) ∧ RS w' R (some ⟨b, o, none⟩) cap l (i + k) ∧
      (∀ j, j < k → w'.cell? ⟨R + 1, off + j, none⟩ = some (.int .u8 (l.getD (i + j) 0))) ∧ (∀ j, j < off → w'.cell? ⟨R + 1, j, none⟩ = w.cell? ⟨R + 1, j, none⟩) ∧ Below R w w' := by
  subst hk
  exact rRead_some R b o cap l i w off m c hs hi hl hm hm9

set_option maxRecDepth 100000 in
theorem rAL_full (R : Nat) (b o cap : Nat) (l : List Int) (i : Nat) (w : World) (m c : Nat) (hs : RS w R (some ⟨b, o, none⟩) cap l i) (hl : l.length ≤ 3000000000) (hm : 1 ≤ m) (hm9 : m ≤ 9) (him : i + m ≤ l.length) :
    Calls Tryd.prog 64 #[.iface 48 (.pointer (some ⟨R, 0, none⟩)), .slice (some ⟨R + 1, 0, none⟩) m c, .int .i64 m] w fun e w' => e = .returned (.tuple #[.int .i64 m, .nilIface]) ∧ RS w' R (some ⟨b, o, none⟩) cap l (i + m) ∧
      (∀ j, j < m → w'.cell? ⟨R + 1, j, none⟩ = some (.int .u8 (l.getD (i + j) 0))) ∧ Below R w w' := by
  have hna := nil_ahead
  have hmr := method_read
  have hcall := hid (rRead_k R b o cap l i w.drew 0 m c m hs.drew (by omega) hl hm (by omega) (by omega))
  clear hs
  go_enter Tryd.func64, Tryd.ntmps64
  go_wp2_with fail
  refine wp_loop_rounds 2 ?_
  rw [rounds_succ]
  go_wp2_with fail
  go_region_with (go_at_call 87; refine hcall.out.mono ?_; rintro e w1 ⟨rfl, hs1, hc1, _, hb1⟩)
  have Hs1 := hid hs1
  have Hc1 := hid hc1
  have Hb1 := hid hb1
  clear hs1 hc1 hb1 hcall
  go_wp2_with fail
  rw [rounds_succ]
  go_wp2_with fail
  go_ret2
  exact ⟨rfl, Hs1.out, fun j hj => by have := Hc1.out j hj; rwa [Nat.zero_add] at this, (Below.refl R w).drew.trans Hb1.out⟩

set_option maxRecDepth 100000 in
theorem rAL_none (R : Nat) (ad : Option Addr) (cap : Nat) (l : List Int) (w : World) (m c : Nat) (aE aU aB : Addr) (hs : RS w R ad cap l l.length) (he : Errs w R aE aU aB) (hm : 1 ≤ m) (hm9 : m ≤ 9) :
    Calls Tryd.prog 64 #[.iface 48 (.pointer (some ⟨R, 0, none⟩)), .slice (some ⟨R + 1, 0, none⟩) m c, .int .i64 m] w fun e w' => e = .returned (.tuple #[.int .i64 0, .iface 107 (.pointer (some aE))]) ∧ ∃ q, w' = w.drewN q := by
  have hna := nil_ahead
  have hmr := method_read
  have heq := eql_err_same
  have hcall := hid (rRead_end R ad cap l w.drew (.slice (some ⟨R + 1, 0, none⟩) m c) aE hs.drew he.eof)
  have hE := he.eof
  have hU := he.unexp
  clear hs he
  go_enter Tryd.func64, Tryd.ntmps64
  go_wp2_with fail
  refine wp_loop_rounds 2 ?_
  rw [rounds_succ]
  go_wp2_with fail
  go_region_with (go_at_call 87; refine hcall.out.mono ?_; rintro e w1 ⟨rfl, q, hw1⟩; obtain rfl := hw1)
  clear hcall
  go_wp2_with fail
  rw [rounds_succ]
  go_wp2_with fail
  go_ret2
  exact ⟨rfl, _, rfl⟩

set_option maxRecDepth 100000 in
theorem rAL_part (R : Nat) (b o cap : Nat) (l : List Int) (i : Nat) (w : World) (m c : Nat) (aE aU aB : Addr) (hs : RS w R (some ⟨b, o, none⟩) cap l i) (he : Errs w R aE aU aB) (hl : l.length ≤ 3000000000) (hi : i < l.length) (hm : 1 ≤ m) (hm9 : m ≤ 9) (hc : m ≤ c) (him : l.length < i + m) :
    Calls Tryd.prog 64 #[.iface 48 (.pointer (some ⟨R, 0, none⟩)), .slice (some ⟨R + 1, 0, none⟩) m c, .int .i64 m] w fun e w' => (∃ k : Nat, 1 ≤ k ∧ k ≤ m ∧ e = .returned (.tuple #[.int .i64 k, .iface 107 (.pointer (some aU))])) ∧ RS w' R (some ⟨b, o, none⟩) cap l l.length ∧ Below R w w' := by
  have hna := nil_ahead
  have hmr := method_read
  have heq := eql_err_same
  obtain ⟨k, hk⟩ : ∃ k, k = min m (l.length - i) := ⟨_, rfl⟩
  have hk1 : 1 ≤ k := by omega
  have hkm : k < m := by omega
  have hik : i + k = l.length := by omega
  have hcall := hid (rRead_k R b o cap l i w.drew 0 m c k hs.drew (by omega) hl hm (by omega) (by omega))
  have He := hid he
  have Hik := hid hik
  clear hs he hk hik
  go_enter Tryd.func64, Tryd.ntmps64
  go_wp2_with fail
  refine wp_loop_rounds 3 ?_
  rw [rounds_succ]
  go_wp2_with fail
  go_region_with (go_at_call 87; refine hcall.out.mono ?_; rintro e w1 ⟨rfl, hs1, _, _, hb1⟩)
  rw [Hik.out] at hs1
  have he1 := (He.out.below (Below.refl R w).drew).below hb1
  have Hs1 := hid hs1
  have Hb1 := hid ((Below.refl R w).drew.trans hb1)
  have hcall2 := hid (rRead_end R (some ⟨b, o, none⟩) cap l w1.drew (.slice (some ⟨R + 1, k, none⟩) (m - k) (c - k)) aE hs1.drew he1.eof)
  have hE := he1.eof
  have hU := he1.unexp
  clear hs1 hb1 hcall he1
  go_wp2_with fail
  rw [rounds_succ]
  go_wp2_with fail
  go_region_with (go_at_call 87; refine hcall2.out.mono ?_; rintro e w2 ⟨rfl, q, hw2⟩; obtain rfl := hw2)
  all_goals
    clear hcall2
    go_wp2_with fail
    rw [rounds_succ]
    go_wp2_with fail
    go_ret2
    exact ⟨⟨k, hk1, by omega, rfl⟩, Hs1.out.drewN _, below_drewN Hb1.out _⟩

theorem rF_full (R : Nat) (b o cap : Nat) (l : List Int) (i : Nat) (w : World) (m c : Nat) (hs : RS w R (some ⟨b, o, none⟩) cap l i) (hl : l.length ≤ 3000000000) (hm : 1 ≤ m) (hm9 : m ≤ 9) (him : i + m ≤ l.length) :
    Calls Tryd.prog 54 #[.iface 48 (.pointer (some ⟨R, 0, none⟩)), .slice (some ⟨R + 1, 0, none⟩) m c] w fun e w' => e = .returned (.tuple #[.int .i64 m, .nilIface]) ∧ RS w' R (some ⟨b, o, none⟩) cap l (i + m) ∧
      (∀ j, j < m → w'.cell? ⟨R + 1, j, none⟩ = some (.int .u8 (l.getD (i + j) 0))) ∧ Below R w w' := by
  have hcall := hid (rAL_full R b o cap l i w m c hs hl hm hm9 him)
  clear hs
  go_enter Tryd.func54, Tryd.ntmps54
  go_wp2_with fail
  refine hcall.out.mono ?_
  rintro e w1 ⟨rfl, h⟩
  have H := hid h
  clear h
  go_wp2_with fail
  go_ret2
  exact ⟨rfl, H.out⟩

theorem rF_none (R : Nat) (ad : Option Addr) (cap : Nat) (l : List Int) (w : World) (m c : Nat) (aE aU aB : Addr) (hs : RS w R ad cap l l.length) (he : Errs w R aE aU aB) (hm : 1 ≤ m) (hm9 : m ≤ 9) :
    Calls Tryd.prog 54 #[.iface 48 (.pointer (some ⟨R, 0, none⟩)), .slice (some ⟨R + 1, 0, none⟩) m c] w fun e w' => e = .returned (.tuple #[.int .i64 0, .iface 107 (.pointer (some aE))]) ∧ ∃ q, w' = w.drewN q := by
  have hcall := hid (rAL_none R ad cap l w m c aE aU aB hs he hm hm9)
  clear hs he
  go_enter Tryd.func54, Tryd.ntmps54
  go_wp2_with fail
  refine hcall.out.mono ?_
  rintro e w1 ⟨rfl, h⟩
  have H := hid h
  clear h
  go_wp2_with fail
  go_ret2
  exact ⟨rfl, H.out⟩

theorem rF_part (R : Nat) (b o cap : Nat) (l : List Int) (i : Nat) (w : World) (m c : Nat) (aE aU aB : Addr) (hs : RS w R (some ⟨b, o, none⟩) cap l i) (he : Errs w R aE aU aB) (hl : l.length ≤ 3000000000) (hi : i < l.length) (hm : 1 ≤ m) (hm9 : m ≤ 9) (hc : m ≤ c) (him : l.length < i + m) :
    Calls Tryd.prog 54 #[.iface 48 (.pointer (some ⟨R, 0, none⟩)), .slice (some ⟨R + 1, 0, none⟩) m c] w fun e w' => (∃ k : Nat, 1 ≤ k ∧ k ≤ m ∧ e = .returned (.tuple #[.int .i64 k, .iface 107 (.pointer (some aU))])) ∧ RS w' R (some ⟨b, o, none⟩) cap l l.length ∧ Below R w w' := by
  have hcall := hid (rAL_part R b o cap l i w m c aE aU aB hs he hl hi hm hm9 hc him)
  clear hs he
  go_enter Tryd.func54, Tryd.ntmps54
  go_wp2_with fail
  refine hcall.out.mono ?_
  rintro e w1 ⟨⟨k, hk1, hkm, rfl⟩, h⟩
  have H := hid h
  clear h
  go_wp2_with fail
  go_ret2
  exact ⟨⟨k, hk1, hkm, rfl⟩, H.out⟩
end Go.Proofs.YtleddjhlpgemjaaDoor
