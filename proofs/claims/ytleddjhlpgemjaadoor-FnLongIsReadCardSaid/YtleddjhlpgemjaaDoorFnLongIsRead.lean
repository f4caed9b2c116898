/- PROVED: laws.FnLongIsRead returns true of every bytes, where the listed variables hold errors. -/
import Derived.Test.YtleddjhlpgemjaaDoorRead
import Derived.Test.YtleddjhlpgemjaaDoorSlow
import Derived.Test.YtleddjhlpgemjaaDoorLaw
import Derived.OpenShut
namespace Go.Proofs.YtleddjhlpgemjaaDoor
open Go.RowKit

theorem long_large (v : Value) (w : World) (ad : Option Addr) (len cap : Nat) (hv : v = .slice ad len cap) (hl : 2147483647 < len) :
    Calls Tryd.prog 7 #[v] w fun e w' => e = .returned (.bool true) ∧ Below w.heap.size w w' := by
  subst hv
  have hl' : (2147483647 : Int) < len := by omega
  go_enter Tryd.func7, Tryd.ntmps7
  go_wp2
  go_ret
  exact ⟨rfl, Below.refl _ _⟩

theorem long_law (v : Value) (l : List Int) (w : World) (aE aU aB : Addr) (hsrc : Src w v (u8s l)) (he : Errs w w.heap.size aE aU aB) (hl : l.length ≤ 2147483647) (hr : ∀ x ∈ l, 0 ≤ x ∧ x < 256) :
    Calls Tryd.prog 7 #[v] w fun e w' => e = .returned (.bool true) ∧ Below w.heap.size w w' := by
  obtain ⟨ad, cap, rfl, _⟩ := hsrc.shape
  have Hsrc := hid hsrc
  have Hr := hid hr
  have He := hid he
  have HeF := hid (show ErrsF w aE aB from ⟨he.eof, he.bad⟩)
  have hli : (l.length : Int) ≤ 2147483647 := by omega
  clear hr hsrc he
  rw [u8s_length] at Hsrc ⊢
  go_enter Tryd.func7, Tryd.ntmps7
  go_wp2_with fail
  refine (sRead_any _ l w Hsrc.out Hr.out hl).mono ?_
  rintro e w1 ⟨rfl, hb1⟩
  have Hs1 := hid (Hsrc.out.below hb1 (Nat.le_refl _))
  have He1 := hid ((He.out.below hb1).mono hb1.size)
  have HeF1 := hid (HeF.out.below hb1)
  have Hb1 := hid hb1
  clear hb1 Hsrc He HeF
  obtain ⟨tl, htl⟩ : ∃ tl, tl = told l := ⟨_, rfl⟩
  rw [← htl]
  cases hrd : rd l with
  | none =>
    have h3 : tl = (0, 0, 2) := by rw [htl]; unfold told; rw [hrd]
    subst h3
    clear htl hrd
    go_wp2_with fail
    go_ret
    exact ⟨rfl, Hb1.out⟩
  | some p =>
    obtain ⟨z, n⟩ := p
    have hb := rd_bounds l z n Hr.out hrd
    have h3 : tl = (z, (n : Int), if (enc z).length = n then 0 else 1) := by rw [htl]; unfold told; rw [hrd]
    subst h3
    have Hrd := hid hrd
    clear htl hrd
    by_cases c : (enc z).length = n
    · rw [if_pos c]
      clear c
      go_wp2_with fail
      go_ret
      exact ⟨rfl, Hb1.out⟩
    · rw [if_neg c]
      clear c
      go_wp2_with fail
      refine (iRead_any _ l w1 aE aB Hs1.out HeF1.out (by omega) Hr.out).mono ?_
      rintro e w2 ⟨x, rest, ok, rfl, ht, hb2⟩
      have hT : x = z ∧ rest = (l.length : Int) - n ∧ ok = true := by
        have := ht; unfold Reads at this; rw [Hrd.out] at this
        exact this
      obtain ⟨rfl, rfl, rfl⟩ := hT
      have Hs2 := hid (Hs1.out.below hb2 (Nat.le_refl _))
      have He2 := hid ((He1.out.below hb2).mono hb2.size)
      have Hb2 := hid (Hb1.out.trans (hb2.mono Hb1.out.size))
      clear ht hb2 Hs1 He1 HeF1
      go_wp2_with fail
      refine (iReadSlow_any _ l w2 aE aU aB Hs2.out He2.out (by omega) Hr.out).mono ?_
      rintro e w3 ⟨y, wd, left, fine, rfl, ht2, hb3⟩
      have hT2 : y = x ∧ wd = (n : Int) ∧ left = (l.length : Int) - n ∧ fine = true := by
        have := ht2; unfold Tells at this; rw [Hrd.out] at this
        exact ⟨this.1, this.2.1, by have := this.2.2.1; omega, this.2.2.2⟩
      obtain ⟨rfl, rfl, rfl, rfl⟩ := hT2
      have Hb3 := hid (Hb2.out.trans (hb3.mono Hb2.out.size))
      clear ht2 hb3 Hs2 He2
      go_wp2_with fail
      go_ret
      exact ⟨rfl, Hb3.out⟩

theorem fnLongIsRead_walk (a0 : Option Addr) (len0 cap0 : Nat) (z0 : List Int) (w : World) (w0 : IsRow .u8 w a0 len0 cap0 z0) (aE aU aB : Addr) (he : Errs w w.heap.size aE aU aB) :
    Calls Tryd.prog 7 #[.slice a0 len0 cap0] w fun e w' => e = .returned (.bool true) ∧ Below w.heap.size w w' := by
  by_cases hl : 2147483647 < len0
  · exact long_large _ w a0 len0 cap0 rfl hl
  · exact long_law _ (z0.take len0) w aE aU aB (Src.of_row w0) he (by rw [w0.length]; omega) (bytes_of_wf w0.range)
end Go.Proofs.YtleddjhlpgemjaaDoor
