/- PROVED: laws.FnRead returns true of every bytes, where the listed variables hold errors. -/
import Derived.Test.YtleddjhlpgemjaaDoorRead
import Derived.Test.YtleddjhlpgemjaaDoorLaw
import Derived.OpenShut
namespace Go.Proofs.YtleddjhlpgemjaaDoor
open Go.RowKit

theorem read_large (v : Value) (w : World) (ad : Option Addr) (len cap : Nat) (hv : v = .slice ad len cap) (hl : 2147483647 < len) :
    Calls Tryd.prog 4 #[v] w fun e w' => e = .returned (.bool true) ∧ Below w.heap.size w w' := by
  subst hv
  have hl' : (2147483647 : Int) < len := by omega
  go_enter Tryd.func4, Tryd.ntmps4
  go_wp2
  go_ret
  exact ⟨rfl, Below.refl _ _⟩

theorem read_law (v : Value) (l : List Int) (w : World) (aE aB : Addr) (hsrc : Src w v (u8s l)) (he : ErrsF w aE aB) (hl : l.length ≤ 2147483647) (hr : ∀ x ∈ l, 0 ≤ x ∧ x < 256) :
    Calls Tryd.prog 4 #[v] w fun e w' => e = .returned (.bool true) ∧ Below w.heap.size w w' := by
  obtain ⟨ad, cap, rfl, _⟩ := hsrc.shape
  have Hsrc := hid hsrc
  have Hr := hid hr
  have He := hid he
  have hli : (l.length : Int) ≤ 2147483647 := by omega
  clear hr hsrc he
  rw [u8s_length] at Hsrc ⊢
  go_enter Tryd.func4, Tryd.ntmps4
  go_wp2_with fail
  refine (iRead_any _ l w aE aB Hsrc.out He.out (by omega) Hr.out).mono ?_
  rintro e w1 ⟨x, rest, ok, rfl, ht, hb1⟩
  have Ht := hid ht
  have Hs1 := hid (Hsrc.out.below hb1 (Nat.le_refl _))
  clear ht
  go_wp2_with fail
  refine (sRead_any _ l w1 Hs1.out Hr.out hl).mono ?_
  rintro e w2 ⟨rfl, hb2⟩
  have Hb := hid (hb1.trans (hb2.mono hb1.size))
  clear hb1 hb2 Hs1 Hsrc He
  obtain ⟨tl, htl⟩ : ∃ tl, tl = told l := ⟨_, rfl⟩
  rw [← htl]
  cases hrd : rd l with
  | none =>
    have hok : ok = false := by have := Ht.out; unfold Reads at this; rw [hrd] at this; exact this
    have h3 : tl = (0, 0, 2) := by rw [htl]; unfold told; rw [hrd]
    subst hok
    subst h3
    clear htl hrd Ht
    go_wp2_with fail
    go_ret
    exact ⟨rfl, Hb.out⟩
  | some p =>
    obtain ⟨y, n⟩ := p
    have hb := rd_bounds l y n Hr.out hrd
    have hT : x = y ∧ rest = (l.length : Int) - n ∧ ok = true := by
      have := Ht.out; unfold Reads at this; rw [hrd] at this
      exact this
    obtain ⟨rfl, rfl, rfl⟩ := hT
    have h3 : tl = (x, (n : Int), if (enc x).length = n then 0 else 1) := by rw [htl]; unfold told; rw [hrd]
    subst h3
    clear htl hrd Ht
    by_cases c : (enc x).length = n
    · rw [if_pos c]
      clear c
      go_wp2_with fail
      go_ret
      exact ⟨rfl, Hb.out⟩
    · rw [if_neg c]
      clear c
      go_wp2_with fail
      go_ret
      exact ⟨rfl, Hb.out⟩

theorem fnRead_walk (a0 : Option Addr) (len0 cap0 : Nat) (z0 : List Int) (w : World) (w0 : IsRow .u8 w a0 len0 cap0 z0) (aE aB : Addr) (hE : w.cell? ⟨1, 0, none⟩ = some (.iface 107 (.pointer (some aE)))) (hB : w.cell? ⟨0, 0, none⟩ = some (.iface 107 (.pointer (some aB)))) :
    Calls Tryd.prog 4 #[.slice a0 len0 cap0] w fun e w' => e = .returned (.bool true) ∧ Below w.heap.size w w' := by
  by_cases hl : 2147483647 < len0
  · exact read_large _ w a0 len0 cap0 rfl hl
  · exact read_law _ (z0.take len0) w aE aB (Src.of_row w0) ⟨hE, hB⟩ (by rw [w0.length]; omega) (bytes_of_wf w0.range)
end Go.Proofs.YtleddjhlpgemjaaDoor
