/- PROVED: laws.FnIntComesBack returns true of every number and bytes, where the listed variables hold errors. -/
import Derived.Test.YtleddjhlpgemjaaDoorRead
import Derived.Test.YtleddjhlpgemjaaDoorReadI
import Derived.Test.YtleddjhlpgemjaaDoorInt
import Derived.Test.YtleddjhlpgemjaaDoorLaw
import Derived.Test.YtleddjhlpgemjaaDoorBack
import Derived.OpenShut
namespace Go.Proofs.YtleddjhlpgemjaaDoor
open Go.RowKit

theorem iback_large (x : Int) (v : Value) (w : World) (ad : Option Addr) (len cap : Nat) (hv : v = .slice ad len cap) (hl : 2147483647 < len) :
    Calls Tryd.prog 9 #[.int .i64 x, v] w fun e w' => e = .returned (.bool true) ∧ Below w.heap.size w w' := by
  subst hv
  have hl' : (2147483647 : Int) < len := by omega
  go_enter Tryd.func9, Tryd.ntmps9
  go_wp2
  go_ret
  exact ⟨rfl, Below.refl _ _⟩

set_option maxRecDepth 100000 in
theorem iback_law (x : Int) (v : Value) (l : List Int) (w : World) (h0 : -9223372036854775808 ≤ x) (h1 : x ≤ 9223372036854775807) (aE aB : Addr) (hsrc : Src w v (u8s l)) (he : ErrsF w aE aB) (hl : l.length ≤ 2147483647) (hr : ∀ x ∈ l, 0 ≤ x ∧ x < 256) :
    Calls Tryd.prog 9 #[.int .i64 x, v] w fun e w' => e = .returned (.bool true) ∧ Below w.heap.size w w' := by
  obtain ⟨i0, hi, hz0, hz1, hz2⟩ := info_parts Tryd.infoU8
  obtain ⟨ad, cap, rfl, _⟩ := hsrc.shape
  have hfr := fold_range x h0 h1
  have Huf := hid (unf_fold x)
  have hel := enc_length (fold x)
  have Hrd := hid (rd_enc (fold x) l hfr.1 hfr.2)
  have Hall : Hid (∀ b ∈ enc (fold x) ++ l, 0 ≤ b ∧ b < 256) := fun b hb => by
    rcases List.mem_append.1 hb with hb | hb
    · exact enc_range (fold x) hfr.1 b hb
    · exact hr b hb
  obtain ⟨m, hm⟩ : ∃ m, m = (enc (fold x)).length := ⟨_, rfl⟩
  have hlen : (enc (fold x) ++ l).length = m + l.length := by rw [List.length_append, hm]
  have hli : (l.length : Int) ≤ 2147483647 := by omega
  rw [← hm] at hel
  have Hm := hid hm
  have Hlen := hid hlen
  have Hsrc := hid hsrc
  have HeF := hid he
  clear hr hsrc he hm hlen
  rw [u8s_length] at Hsrc ⊢
  go_enter Tryd.func9, Tryd.ntmps9
  go_wp2_with fail
  refine (iInt_any x w h0 h1).mono ?_
  rintro e w1 ⟨v1, rfl, ho1, hb1⟩
  obtain ⟨ad1, cap1, hv1, hk1⟩ := own_shape ho1
  have Ho1 := hid ho1
  have Hs1 := hid (Hsrc.out.below hb1 (Nat.le_refl _))
  have Hb1 := hid hb1
  clear ho1 hv1
  go_wp2_with (at_builtin; refine wpList_append_src rfl _ _ 22 rfl w.heap.size 5 i0 (.int .u8 0) 1 Tryd.underlying22 hi hz0 hz1 hz2 rfl _ (u8s (enc (fold x))) rfl (own_row Ho1.out) _ (u8s l) rfl Hs1.out (u8s_oneCell _) ?c1 ?c2 Hb1.out.size ?_)
  case c1 => rw [u8s_length, u8s_length, ← Hm.out]; unfold maxLen; omega
  case c2 => rw [u8s_length, u8s_length, ← Hm.out]; omega
  intro v2 w2 ho2 hg2
  have Ho2 := hid (own_append ho2)
  have Hb2 := hid (Hb1.out.grown hg2 Hb1.out.size hk1)
  have HeF2 := hid (HeF.out.below Hb2.out)
  have Hs2 := hid (Hsrc.out.below Hb2.out (Nat.le_refl _))
  clear ho2 hg2 hk1 Ho1 Hs1 hb1 Hb1 HeF Hsrc
  go_wp2_with fail
  refine (iReadI_any v2 (enc (fold x) ++ l) w2 aE aB (own_src Ho2.out) HeF2.out (by rw [Hlen.out]; omega) Hall.out).mono ?_
  rintro e w3 ⟨y, rest, ok, rfl, ht, hb3⟩
  have hT : y = x ∧ rest = (l.length : Int) ∧ ok = true := by
    have h2 := ht; unfold ReadsI at h2; rw [Hrd.out, Hlen.out, ← Hm.out] at h2
    exact ⟨h2.1.trans Huf.out, by have := h2.2.1; omega, h2.2.2⟩
  obtain ⟨rfl, rfl, rfl⟩ := hT
  have Hb3 := hid (Hb2.out.trans (hb3.mono Hb2.out.size))
  have Hs3 := hid (Hs2.out.below hb3 (Nat.le_refl _))
  clear ht hb3 Hb2 HeF2 Hs2 Ho2
  go_wp2_with fail
  go_ret
  exact ⟨rfl, Hb3.out⟩

theorem fnIntComesBack_walk (x : Int) (a0 : Option Addr) (len0 cap0 : Nat) (z0 : List Int) (w : World) (h0 : -9223372036854775808 ≤ x) (h1 : x ≤ 9223372036854775807) (w0 : IsRow .u8 w a0 len0 cap0 z0) (aE aB : Addr) (hE : w.cell? ⟨1, 0, none⟩ = some (.iface 107 (.pointer (some aE)))) (hB : w.cell? ⟨0, 0, none⟩ = some (.iface 107 (.pointer (some aB)))) :
    Calls Tryd.prog 9 #[.int .i64 x, .slice a0 len0 cap0] w fun e w' => e = .returned (.bool true) ∧ Below w.heap.size w w' := by
  by_cases hl : 2147483647 < len0
  · exact iback_large x _ w a0 len0 cap0 rfl hl
  · exact iback_law x _ (z0.take len0) w h0 h1 aE aB (Src.of_row w0) ⟨hE, hB⟩ (by rw [w0.length]; omega) (bytes_of_wf w0.range)
end Go.Proofs.YtleddjhlpgemjaaDoor
