/- PROVED: laws.FnBothReadAlike returns true of every bytes, where the listed variables hold errors. -/
import Derived.Test.YtleddjhlpgemjaaDoorRead
import Derived.Test.YtleddjhlpgemjaaDoorSlow
import Derived.Test.YtleddjhlpgemjaaDoorLaw
import Derived.OpenShut
namespace Go.Proofs.YtleddjhlpgemjaaDoor
open Go.RowKit

theorem both_large (v : Value) (w : World) (ad : Option Addr) (len cap : Nat) (hv : v = .slice ad len cap) (hl : 2147483647 < len) :
    Calls Tryd.prog 6 #[v] w fun e w' => e = .returned (.bool true) ∧ Below w.heap.size w w' := by
  subst hv
  have hl' : (2147483647 : Int) < len := by omega
  go_enter Tryd.func6, Tryd.ntmps6
  go_wp2
  go_ret
  exact ⟨rfl, Below.refl _ _⟩

theorem both_law (v : Value) (l : List Int) (w : World) (aE aU aB : Addr) (hsrc : Src w v (u8s l)) (he : Errs w w.heap.size aE aU aB) (hl : l.length ≤ 2147483647) (hr : ∀ x ∈ l, 0 ≤ x ∧ x < 256) :
    Calls Tryd.prog 6 #[v] w fun e w' => e = .returned (.bool true) ∧ Below w.heap.size w w' := by
  obtain ⟨ad, cap, rfl, _⟩ := hsrc.shape
  have Hsrc := hid hsrc
  have Hr := hid hr
  have He := hid he
  have HeF := hid (show ErrsF w aE aB from ⟨he.eof, he.bad⟩)
  have hli : (l.length : Int) ≤ 2147483647 := by omega
  clear hr hsrc he
  rw [u8s_length] at Hsrc ⊢
  go_enter Tryd.func6, Tryd.ntmps6
  go_wp2_with fail
  refine (iRead_any _ l w aE aB Hsrc.out HeF.out (by omega) Hr.out).mono ?_
  rintro e w1 ⟨x, rest, ok, rfl, ht, hb1⟩
  have Ht := hid ht
  have Hs1 := hid (Hsrc.out.below hb1 (Nat.le_refl _))
  have He1 := hid ((He.out.below hb1).mono hb1.size)
  have HeF1 := hid (HeF.out.below hb1)
  clear ht
  go_wp2_with fail
  refine (iReadSlow_any _ l w1 aE aU aB Hs1.out He1.out (by omega) Hr.out).mono ?_
  rintro e w2 ⟨y, wd, left, fine, rfl, ht2, hb2⟩
  have Ht2 := hid ht2
  have HeF2 := hid (HeF1.out.below hb2)
  have Hb := hid (hb1.trans (hb2.mono hb1.size))
  clear ht2 hb1 hb2 Hs1 Hsrc He He1 HeF HeF1
  cases hrd : rd l with
  | none =>
    have hok : ok = false := by have := Ht.out; unfold Reads at this; rw [hrd] at this; exact this
    have hf : fine = false := by have := Ht2.out; unfold Tells at this; rw [hrd] at this; exact this
    subst hok
    subst hf
    clear hrd Ht Ht2
    go_wp2_with fail
    refine (wakes_any w2 aE aB HeF2.out).mono ?_
    rintro e w3 ⟨rfl, hb3⟩
    have Hb3 := hid (Hb.out.trans (hb3.mono Hb.out.size))
    clear hb3
    go_wp2_with fail
    go_ret
    exact ⟨rfl, Hb3.out⟩
  | some p =>
    obtain ⟨z, n⟩ := p
    have hb := rd_bounds l z n Hr.out hrd
    have hT : x = z ∧ rest = (l.length : Int) - n ∧ ok = true := by
      have := Ht.out; unfold Reads at this; rw [hrd] at this
      exact this
    have hT2 : y = z ∧ left = (l.length : Int) - n ∧ fine = true := by
      have := Ht2.out; unfold Tells at this; rw [hrd] at this
      exact ⟨this.1, by have := this.2.2.1; omega, this.2.2.2⟩
    obtain ⟨rfl, rfl, rfl⟩ := hT
    obtain ⟨rfl, rfl, rfl⟩ := hT2
    clear hrd Ht Ht2
    go_wp2_with fail
    refine (wakes_any w2 aE aB HeF2.out).mono ?_
    rintro e w3 ⟨rfl, hb3⟩
    have Hb3 := hid (Hb.out.trans (hb3.mono Hb.out.size))
    clear hb3
    go_wp2_with fail
    go_ret
    exact ⟨rfl, Hb3.out⟩

theorem fnBothReadAlike_walk (a0 : Option Addr) (len0 cap0 : Nat) (z0 : List Int) (w : World) (w0 : IsRow .u8 w a0 len0 cap0 z0) (aE aU aB : Addr) (he : Errs w w.heap.size aE aU aB) :
    Calls Tryd.prog 6 #[.slice a0 len0 cap0] w fun e w' => e = .returned (.bool true) ∧ Below w.heap.size w w' := by
  by_cases hl : 2147483647 < len0
  · exact both_large _ w a0 len0 cap0 rfl hl
  · exact both_law _ (z0.take len0) w aE aU aB (Src.of_row w0) he (by rw [w0.length]; omega) (bytes_of_wf w0.range)
end Go.Proofs.YtleddjhlpgemjaaDoor
