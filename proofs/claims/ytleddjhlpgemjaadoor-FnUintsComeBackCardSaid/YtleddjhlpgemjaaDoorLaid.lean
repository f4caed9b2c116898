/- PROVED: what the rows' lists of variables give: the variables hold errors. -/
import Derived.Test.YtleddjhlpgemjaaDoorRows
import Derived.Test.YtleddjhlpgemjaaDoorFull
import Derived.ProofKit
import Derived.LaidMore
import Derived.LaidLaws
import Derived.OpenShut
import Derived.Stop.Joined
namespace Go.Proofs.YtleddjhlpgemjaaDoor
open Go.ChangeShapes Go.WideShapes Go.ChangeAt Go.RowKit

theorem Tryd.own : ownKnob Tryd.prog.godebug = none := by kernel_rfl
theorem Tryd.laidOut : laidOutB Tryd.prog = true := by kernel_rfl
theorem Tryd.gShort : Tryd.prog.globalNamed "io.ErrShortBuffer" = some 4 := by kernel_rfl
theorem Tryd.gEOF : Tryd.prog.globalNamed "io.EOF" = some 1 := by kernel_rfl
theorem Tryd.gUnexp : Tryd.prog.globalNamed "io.ErrUnexpectedEOF" = some 2 := by kernel_rfl
theorem Tryd.gBad : Tryd.prog.globalNamed "gobnumbers/pub/gobnumbers.errBadUint" = some 0 := by kernel_rfl
theorem Tryd.tShort : (Tryd.prog.globals[4]?).map (·.type) = some 52 := by kernel_rfl
theorem Tryd.tEOF : (Tryd.prog.globals[1]?).map (·.type) = some 52 := by kernel_rfl
theorem Tryd.tUnexp : (Tryd.prog.globals[2]?).map (·.type) = some 52 := by kernel_rfl
theorem Tryd.tBad : (Tryd.prog.globals[0]?).map (·.type) = some 52 := by kernel_rfl
theorem Tryd.cellsErrStr : Tryd.prog.cellsOf 109 = 1 := by kernel_rfl
theorem Tryd.cellsString : Tryd.prog.cellsOf 9 = 1 := by kernel_rfl
theorem Tryd.star : "*" ++ "errors.errorString" = "*errors.errorString" := by decide
theorem Tryd.rowErr (u : TypeId) (h : Tryd.prog.typeName? 3 u = some "*errors.errorString") : u = 107 :=
  typeName_ptr_named (nm := "errors.errorString") (by rw [Tryd.star]; kernel_rfl) (by kernel_rfl) (by decide) u (by rw [Tryd.star]; exact h)

/-- The four variables of the rows that read of a reader. -/
def laid4 : List (String × DataW Unit) := [("io.ErrShortBuffer", Rows.laid_io_ErrShortBuffer), ("io.EOF", Rows.laid_io_EOF), ("io.ErrUnexpectedEOF", Rows.laid_io_ErrUnexpectedEOF), ("gobnumbers/pub/gobnumbers.errBadUint", Rows.laid_gobnumbers_pub_gobnumbers_errBadUint)]
/-- The two variables of the other rows. -/
def laid2 : List (String × DataW Unit) := [("io.EOF", Rows.laid_io_EOF), ("gobnumbers/pub/gobnumbers.errBadUint", Rows.laid_gobnumbers_pub_gobnumbers_errBadUint)]

set_option maxRecDepth 100000 in
theorem errs_of_laid4 {W : World} (h : laidMetH Tryd.prog laid4 W) : ∃ aE aU aB, Errs W W.heap.size aE aU aB := by
  rw [MakeChecks.laidMetH_plain _ _ _ (by kernel_rfl)] at h
  obtain ⟨ps, ⟨g0, t0, cs0, f0, p0, q0, hg0, ht0, hv0, hd0, ⟨g1, t1, cs1, f1, p1, q1, hg1, ht1, hv1, hd1, ⟨g2, t2, cs2, f2, p2, q2, hg2, ht2, hv2, hd2, ⟨g3, t3, cs3, f3, p3, q3, hg3, ht3, hv3, hd3, hq3, e3⟩, e2⟩, e1⟩, e0⟩, hnd, hrows⟩ := h
  obtain rfl := Option.some.inj (Tryd.gShort.symm.trans hg0)
  obtain rfl := Option.some.inj (Tryd.gEOF.symm.trans hg1)
  obtain rfl := Option.some.inj (Tryd.gUnexp.symm.trans hg2)
  obtain rfl := Option.some.inj (Tryd.gBad.symm.trans hg3)
  obtain rfl := Option.some.inj (Tryd.tShort.symm.trans ht0)
  obtain rfl := Option.some.inj (Tryd.tEOF.symm.trans ht1)
  obtain rfl := Option.some.inj (Tryd.tUnexp.symm.trans ht2)
  obtain rfl := Option.some.inj (Tryd.tBad.symm.trans ht3)
  have hq3' : q3 = [] := hq3
  subst hq3'
  subst e3
  subst e2
  subst e1
  subst e0
  obtain ⟨l0⟩ := cs0
  obtain ⟨l1⟩ := cs1
  obtain ⟨l2⟩ := cs2
  obtain ⟨l3⟩ := cs3
  have ok0 : ∀ u v, l0 = [.iface u v] → Value.okWide Tryd.prog W .any 0 u v := fun u v e => by
    subst e
    exact (hrows 4 0 (by simp [MemPlace.row])).2 u v (by simpa using World.var?_cell hg0 hv0 0)
  have ok1 : ∀ u v, l1 = [.iface u v] → Value.okWide Tryd.prog W .any 0 u v := fun u v e => by
    subst e
    exact (hrows 1 0 (by simp [MemPlace.row])).2 u v (by simpa using World.var?_cell hg1 hv1 0)
  have ok2 : ∀ u v, l2 = [.iface u v] → Value.okWide Tryd.prog W .any 0 u v := fun u v e => by
    subst e
    exact (hrows 2 0 (by simp [MemPlace.row])).2 u v (by simpa using World.var?_cell hg2 hv2 0)
  have ok3 : ∀ u v, l3 = [.iface u v] → Value.okWide Tryd.prog W .any 0 u v := fun u v e => by
    subst e
    exact (hrows 0 0 (by simp [MemPlace.row])).2 u v (by simpa using World.var?_cell hg3 hv3 0)
  obtain ⟨a0, s0, rfl, hc0, hs0, hz0, rfl⟩ := errorString_of_trod Tryd.underlying52 Tryd.rowErr Tryd.underlying107 Tryd.underlying109 rfl rfl Tryd.underlying9 Tryd.cellsErrStr Tryd.cellsString hd0 ok0
  obtain ⟨a1, s1, rfl, hc1, hs1, hz1, rfl⟩ := errorString_of_trod Tryd.underlying52 Tryd.rowErr Tryd.underlying107 Tryd.underlying109 rfl rfl Tryd.underlying9 Tryd.cellsErrStr Tryd.cellsString hd1 ok1
  obtain ⟨a2, s2, rfl, hc2, hs2, hz2, rfl⟩ := errorString_of_trod Tryd.underlying52 Tryd.rowErr Tryd.underlying107 Tryd.underlying109 rfl rfl Tryd.underlying9 Tryd.cellsErrStr Tryd.cellsString hd2 ok2
  obtain ⟨a3, s3, rfl, hc3, hs3, hz3, rfl⟩ := errorString_of_trod Tryd.underlying52 Tryd.rowErr Tryd.underlying107 Tryd.underlying109 rfl rfl Tryd.underlying9 Tryd.cellsErrStr Tryd.cellsString hd3 ok3
  have hE := (hrows a1.block a1.off (by simp [MemPlace.row])).1
  have hU := (hrows a2.block a2.off (by simp [MemPlace.row])).1
  have v0 : W.cell? ⟨4, 0, none⟩ = some (.iface 107 (.pointer (some a0))) := by simpa using World.var?_cell hg0 hv0 0
  have v1 : W.cell? ⟨1, 0, none⟩ = some (.iface 107 (.pointer (some a1))) := by simpa using World.var?_cell hg1 hv1 0
  have v2 : W.cell? ⟨2, 0, none⟩ = some (.iface 107 (.pointer (some a2))) := by simpa using World.var?_cell hg2 hv2 0
  have v3 : W.cell? ⟨0, 0, none⟩ = some (.iface 107 (.pointer (some a3))) := by simpa using World.var?_cell hg3 hv3 0
  refine ⟨a1, a2, a3, World.block_lt_of_cell? W _ v0, v1, v2, v3, ?_, World.block_lt_of_cell? W _ hc1, World.block_lt_of_cell? W _ hc2, hE, hU⟩
  rintro rfl
  simp [MemPlace.row] at hnd

set_option maxRecDepth 100000 in
theorem errs_of_laid2 {W : World} (h : laidMetH Tryd.prog laid2 W) : ∃ aE aB, W.cell? ⟨1, 0, none⟩ = some (.iface 107 (.pointer (some aE))) ∧ W.cell? ⟨0, 0, none⟩ = some (.iface 107 (.pointer (some aB))) := by
  rw [MakeChecks.laidMetH_plain _ _ _ (by kernel_rfl)] at h
  obtain ⟨ps, ⟨g1, t1, cs1, f1, p1, q1, hg1, ht1, hv1, hd1, ⟨g3, t3, cs3, f3, p3, q3, hg3, ht3, hv3, hd3, hq3, e3⟩, e1⟩, hnd, hrows⟩ := h
  obtain rfl := Option.some.inj (Tryd.gEOF.symm.trans hg1)
  obtain rfl := Option.some.inj (Tryd.gBad.symm.trans hg3)
  obtain rfl := Option.some.inj (Tryd.tEOF.symm.trans ht1)
  obtain rfl := Option.some.inj (Tryd.tBad.symm.trans ht3)
  have hq3' : q3 = [] := hq3
  subst hq3'
  subst e3
  subst e1
  obtain ⟨l1⟩ := cs1
  obtain ⟨l3⟩ := cs3
  have ok1 : ∀ u v, l1 = [.iface u v] → Value.okWide Tryd.prog W .any 0 u v := fun u v e => by
    subst e
    exact (hrows 1 0 (by simp [MemPlace.row])).2 u v (by simpa using World.var?_cell hg1 hv1 0)
  have ok3 : ∀ u v, l3 = [.iface u v] → Value.okWide Tryd.prog W .any 0 u v := fun u v e => by
    subst e
    exact (hrows 0 0 (by simp [MemPlace.row])).2 u v (by simpa using World.var?_cell hg3 hv3 0)
  obtain ⟨a1, s1, rfl, hc1, hs1, hz1, rfl⟩ := errorString_of_trod Tryd.underlying52 Tryd.rowErr Tryd.underlying107 Tryd.underlying109 rfl rfl Tryd.underlying9 Tryd.cellsErrStr Tryd.cellsString hd1 ok1
  obtain ⟨a3, s3, rfl, hc3, hs3, hz3, rfl⟩ := errorString_of_trod Tryd.underlying52 Tryd.rowErr Tryd.underlying107 Tryd.underlying109 rfl rfl Tryd.underlying9 Tryd.cellsErrStr Tryd.cellsString hd3 ok3
  exact ⟨a1, a3, by simpa using World.var?_cell hg1 hv1 0, by simpa using World.var?_cell hg3 hv3 0⟩

/-- The door's own heap meets the conditions. -/
theorem door_met4 (os : Os) (args : Array Value) : laidMetH Tryd.prog laid4 ((World.doorLaid Tryd.prog 400 os).forCall (fun _ _ => 0) ⟨#[], args, []⟩).memory :=
  laidMetH_of_parts3 (fuel := 8) (laidMet_of_run' 8 (by kernel_rfl) (by kernel_rfl)) (by kernel_rfl) (by kernel_rfl)
theorem door_met2 (os : Os) (args : Array Value) : laidMetH Tryd.prog laid2 ((World.doorLaid Tryd.prog 400 os).forCall (fun _ _ => 0) ⟨#[], args, []⟩).memory :=
  laidMetH_of_parts3 (fuel := 8) (laidMet_of_run' 8 (by kernel_rfl) (by kernel_rfl)) (by kernel_rfl) (by kernel_rfl)
end Go.Proofs.YtleddjhlpgemjaaDoor
