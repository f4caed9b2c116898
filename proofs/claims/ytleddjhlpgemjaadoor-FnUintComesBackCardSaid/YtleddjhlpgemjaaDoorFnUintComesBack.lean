/- PROVED: laws.FnUintComesBack returns true of every number and bytes, where the listed variables hold errors. -/
import Derived.Test.YtleddjhlpgemjaaDoorRead
import Derived.Test.YtleddjhlpgemjaaDoorSlow
import Derived.Test.YtleddjhlpgemjaaDoorLaw
import Derived.Test.YtleddjhlpgemjaaDoorBack
import Derived.OpenShut
namespace Go.Proofs.YtleddjhlpgemjaaDoor
open Go.RowKit

theorem uback_large (x : Int) (v : Value) (w : World) (ad : Option Addr) (len cap : Nat) (hv : v = .slice ad len cap) (hl : 2147483647 < len) :
    Calls Tryd.prog 12 #[.int .u64 x, v] w fun e w' => e = .returned (.bool true) ∧ Below w.heap.size w w' := by
  subst hv
  have hl' : (2147483647 : Int) < len := by omega
  go_enter Tryd.func12, Tryd.ntmps12
  go_wp2
  go_ret
  exact ⟨rfl, Below.refl _ _⟩

set_option maxRecDepth 100000 in
theorem uback_law (x : Int) (v : Value) (l : List Int) (w : World) (h0 : 0 ≤ x) (h1 : x ≤ 18446744073709551615) (aE aU aB : Addr) (hsrc : Src w v (u8s l)) (he : Errs w w.heap.size aE aU aB) (hl : l.length ≤ 2147483647) (hr : ∀ x ∈ l, 0 ≤ x ∧ x < 256) :
    Calls Tryd.prog 12 #[.int .u64 x, v] w fun e w' => e = .returned (.bool true) ∧ Below w.heap.size w w' := by
  obtain ⟨i0, hi, hz0, hz1, hz2⟩ := info_parts Tryd.infoU8
  obtain ⟨ad, cap, rfl, _⟩ := hsrc.shape
  have hel := enc_length x
  have Hrd := hid (rd_enc x l h0 h1)
  have Hall : Hid (∀ b ∈ enc x ++ l, 0 ≤ b ∧ b < 256) := fun b hb => by
    rcases List.mem_append.1 hb with hb | hb
    · exact enc_range x h0 b hb
    · exact hr b hb
  obtain ⟨m, hm⟩ : ∃ m, m = (enc x).length := ⟨_, rfl⟩
  have hlen : (enc x ++ l).length = m + l.length := by rw [List.length_append, hm]
  have hli : (l.length : Int) ≤ 2147483647 := by omega
  rw [← hm] at hel
  have Hm := hid hm
  have Hlen := hid hlen
  have Hsrc := hid hsrc
  have He := hid he
  have HeF := hid (show ErrsF w aE aB from ⟨he.eof, he.bad⟩)
  clear hr hsrc he hm hlen
  rw [u8s_length] at Hsrc ⊢
  go_enter Tryd.func12, Tryd.ntmps12
  go_wp2_with fail
  refine (iUint_any x w h0 h1).mono ?_
  rintro e w1 ⟨v1, rfl, ho1, hb1⟩
  obtain ⟨ad1, cap1, hv1, hk1⟩ := own_shape ho1
  have Ho1 := hid ho1
  have Hs1 := hid (Hsrc.out.below hb1 (Nat.le_refl _))
  have Hb1 := hid hb1
  clear ho1 hv1
  go_wp2_with (at_builtin; refine wpList_append_src rfl _ _ 22 rfl w.heap.size 5 i0 (.int .u8 0) 1 Tryd.underlying22 hi hz0 hz1 hz2 rfl _ (u8s (enc x)) rfl (own_row Ho1.out) _ (u8s l) rfl Hs1.out (u8s_oneCell _) ?c1 ?c2 Hb1.out.size ?_)
  case c1 => rw [u8s_length, u8s_length, ← Hm.out]; unfold maxLen; omega
  case c2 => rw [u8s_length, u8s_length, ← Hm.out]; omega
  intro v2 w2 ho2 hg2
  have Ho2 := hid (own_append ho2)
  have Hb2 := hid (Hb1.out.grown hg2 Hb1.out.size hk1)
  have HeF2 := hid (HeF.out.below Hb2.out)
  have He2 := hid ((He.out.below Hb2.out).mono Hb2.out.size)
  have Hs2 := hid (Hsrc.out.below Hb2.out (Nat.le_refl _))
  clear ho2 hg2 hk1 Ho1 Hs1 hb1 Hb1 HeF He Hsrc
  go_wp2_with fail
  refine (iRead_any v2 (enc x ++ l) w2 aE aB (own_src Ho2.out) HeF2.out (by rw [Hlen.out]; omega) Hall.out).mono ?_
  rintro e w3 ⟨y, rest, ok, rfl, ht, hb3⟩
  have hT : y = x ∧ rest = (l.length : Int) ∧ ok = true := by
    have h2 := ht; unfold Reads at h2; rw [Hrd.out, Hlen.out, ← Hm.out] at h2
    exact ⟨h2.1, by have := h2.2.1; omega, h2.2.2⟩
  obtain ⟨rfl, rfl, rfl⟩ := hT
  have Hb3 := hid (Hb2.out.trans (hb3.mono Hb2.out.size))
  have He3 := hid ((He2.out.below hb3).mono hb3.size)
  have Hs3 := hid (Hs2.out.below hb3 (Nat.le_refl _))
  clear ht hb3 Hb2 He2 HeF2 Hs2 Ho2
  go_wp2_with fail
  refine (iUint_any y w3 h0 h1).mono ?_
  rintro e w4 ⟨v4, rfl, ho4, hb4⟩
  obtain ⟨ad4, cap4, hv4, hk4⟩ := own_shape ho4
  have Ho4 := hid ho4
  have Hs4 := hid (Hs3.out.below hb4 (Nat.le_refl _))
  have Hb4 := hid hb4
  clear ho4 hv4 hb4
  go_wp2_with (at_builtin; refine wpList_append_src rfl _ _ 22 rfl w3.heap.size 5 i0 (.int .u8 0) 1 Tryd.underlying22 hi hz0 hz1 hz2 rfl _ (u8s (enc y)) rfl (own_row Ho4.out) _ (u8s l) rfl Hs4.out (u8s_oneCell _) ?c1 ?c2 Hb4.out.size ?_)
  case c1 => rw [u8s_length, u8s_length, ← Hm.out]; unfold maxLen; omega
  case c2 => rw [u8s_length, u8s_length, ← Hm.out]; omega
  intro v5 w5 ho5 hg5
  have Ho5 := hid (own_append ho5)
  have hb5 := Hb4.out.grown hg5 Hb4.out.size hk4
  have He5 := hid ((He3.out.below hb5).mono hb5.size)
  have Hb5 := hid (Hb3.out.trans (hb5.mono Hb3.out.size))
  clear ho5 hg5 hk4 Ho4 Hs4 Hb4 He3 Hb3 Hs3 hb5
  go_wp2_with fail
  refine (iReadSlow_any v5 (enc y ++ l) w5 aE aU aB (own_src Ho5.out) He5.out (by rw [Hlen.out]; omega) Hall.out).mono ?_
  rintro e w6 ⟨z, wd, left, fine, rfl, ht, hb6⟩
  have hT : z = y ∧ wd = (m : Int) ∧ left = (l.length : Int) ∧ fine = true := by
    have h2 := ht; unfold Tells at h2; rw [Hrd.out, Hlen.out, ← Hm.out] at h2
    exact ⟨h2.1, h2.2.1, by have := h2.2.2.1; omega, h2.2.2.2⟩
  obtain ⟨rfl, rfl, rfl, rfl⟩ := hT
  have Hb6 := hid (Hb5.out.trans (hb6.mono Hb5.out.size))
  clear ht hb6 Hb5 He5 Ho5
  go_wp2_with fail
  refine (iUint_any z w6 h0 h1).mono ?_
  rintro e w7 ⟨v7, rfl, ho7, hb7⟩
  obtain ⟨ad7, cap7, rfl, _⟩ := own_shape ho7
  rw [← Hm.out]
  have Hb7 := hid (Hb6.out.trans (hb7.mono Hb6.out.size))
  clear ho7 hb7
  go_wp2_with fail
  go_ret
  exact ⟨rfl, Hb7.out⟩

theorem fnUintComesBack_walk (x : Int) (a0 : Option Addr) (len0 cap0 : Nat) (z0 : List Int) (w : World) (h0 : 0 ≤ x) (h1 : x ≤ 18446744073709551615) (w0 : IsRow .u8 w a0 len0 cap0 z0) (aE aU aB : Addr) (he : Errs w w.heap.size aE aU aB) :
    Calls Tryd.prog 12 #[.int .u64 x, .slice a0 len0 cap0] w fun e w' => e = .returned (.bool true) ∧ Below w.heap.size w w' := by
  by_cases hl : 2147483647 < len0
  · exact uback_large x _ w a0 len0 cap0 rfl hl
  · exact uback_law x _ (z0.take len0) w h0 h1 aE aU aB (Src.of_row w0) he (by rw [w0.length]; omega) (bytes_of_wf w0.range)
end Go.Proofs.YtleddjhlpgemjaaDoor
