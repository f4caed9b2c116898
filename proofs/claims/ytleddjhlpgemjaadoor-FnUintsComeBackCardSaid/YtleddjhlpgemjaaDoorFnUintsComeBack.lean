/- PROVED: laws.FnUintsComeBack returns true of every numbers and bytes, where the listed variables hold errors. -/
import Derived.Test.YtleddjhlpgemjaaDoorReads
import Derived.Test.YtleddjhlpgemjaaDoorUints
import Derived.Test.YtleddjhlpgemjaaDoorLaw
import Derived.Test.YtleddjhlpgemjaaDoorBack
import Derived.OpenShut
namespace Go.Proofs.YtleddjhlpgemjaaDoor
open Go.RowKit

theorem encs_range (l : List Int) (h : ∀ x ∈ l, 0 ≤ x) : ∀ b ∈ encs l, 0 ≤ b ∧ b < 256 := by
  intro b hb
  unfold encs at hb
  rw [List.mem_flatMap] at hb
  obtain ⟨x, hx, hb⟩ := hb
  exact enc_range x (h x hx) b hb

theorem usback_large (v u : Value) (w : World) (ad ad2 : Option Addr) (len cap len2 cap2 : Nat) (hv : v = .slice ad len cap) (hu : u = .slice ad2 len2 cap2) (hl : 65536 < len ∨ 2147483647 < len2) :
    Calls Tryd.prog 8 #[v, u] w fun e w' => e = .returned (.bool true) ∧ Below w.heap.size w w' := by
  subst hv
  subst hu
  by_cases c : (2147483647 : Int) < len
  · clear hl
    go_enter Tryd.func8, Tryd.ntmps8
    go_wp2
    go_ret
    exact ⟨rfl, Below.refl _ _⟩
  · by_cases c2 : (2147483647 : Int) < len2
    · clear hl
      go_enter Tryd.func8, Tryd.ntmps8
      go_wp2
      go_ret
      exact ⟨rfl, Below.refl _ _⟩
    · have c3 : (65536 : Int) < len := by omega
      clear hl
      go_enter Tryd.func8, Tryd.ntmps8
      go_wp2
      go_ret
      exact ⟨rfl, Below.refl _ _⟩

set_option maxRecDepth 100000 in
theorem usback_law (v u : Value) (xs t : List Int) (w : World) (hv : Src w v (u64s xs)) (hu : Src w u (u8s t)) (hx : ∀ x ∈ xs, 0 ≤ x ∧ x ≤ 18446744073709551615) (ht : ∀ b ∈ t, 0 ≤ b ∧ b < 256) (hn : xs.length ≤ 65536) (hl : t.length ≤ 2147483647) :
    Calls Tryd.prog 8 #[v, u] w fun e w' => e = .returned (.bool true) ∧ Below w.heap.size w w' := by
  obtain ⟨i0, hi, hz0, hz1, hz2⟩ := info_parts Tryd.infoU8
  obtain ⟨ad, cap, rfl, _⟩ := hv.shape
  obtain ⟨ad2, cap2, rfl, _⟩ := hu.shape
  have hni : (xs.length : Int) ≤ 65536 := by omega
  have hli : (t.length : Int) ≤ 2147483647 := by omega
  have Hel := hid (encs_length xs)
  have Hall : Hid (∀ b ∈ encs xs ++ t, 0 ≤ b ∧ b < 256) := fun b hb => by
    rcases List.mem_append.1 hb with hb | hb
    · exact encs_range xs (fun x h => (hx x h).1) b hb
    · exact ht b hb
  have Hv := hid hv
  have Hu := hid hu
  have Hx := hid hx
  clear hv hu hx ht
  rw [u64s_length] at Hv ⊢
  rw [u8s_length] at Hu ⊢
  go_enter Tryd.func8, Tryd.ntmps8
  go_wp2_with fail
  refine (iUints_any _ xs w Hv.out Hx.out (by omega)).mono ?_
  rintro e w1 ⟨v1, rfl, ho1, hb1⟩
  obtain ⟨ad1, cap1, hv1, hk1⟩ := own_shape ho1
  have Ho1 := hid ho1
  have Hu1 := hid (Hu.out.below hb1 (Nat.le_refl _))
  have Hb1 := hid hb1
  clear ho1 hv1 hb1
  go_wp2_with (at_builtin; refine wpList_append_src rfl _ _ 22 rfl w.heap.size 5 i0 (.int .u8 0) 1 Tryd.underlying22 hi hz0 hz1 hz2 rfl _ (u8s (encs xs)) rfl (own_row Ho1.out) _ (u8s t) rfl Hu1.out (u8s_oneCell _) ?c1 ?c2 Hb1.out.size ?_)
  case c1 => have := Hel.out; rw [u8s_length, u8s_length]; unfold maxLen; omega
  case c2 => have := Hel.out; rw [u8s_length, u8s_length]; omega
  intro v2 w2 ho2 hg2
  have Ho2 := hid (own_append ho2)
  have Hb2 := hid (Hb1.out.grown hg2 Hb1.out.size hk1)
  have Hv2 := hid (Hv.out.below Hb2.out (Nat.le_refl _))
  clear ho2 hg2 hk1 Ho1 Hu1 Hb1
  go_wp2_with fail
  refine (iReads_any v2 xs t w2 (own_src Ho2.out) Hx.out Hall.out (by have := Hel.out; rw [List.length_append]; omega) hn).mono ?_
  rintro e w3 ⟨v3, rfl, hs3, hb3⟩
  obtain ⟨ad3, cap3, rfl, _⟩ := hs3.shape
  have Hs3 := hid hs3
  rw [u64s_length] at Hs3 ⊢
  have Hv3 := hid (Hv2.out.below hb3 (Nat.le_refl _))
  have Hb3 := hid (Hb2.out.trans (hb3.mono Hb2.out.size))
  clear hs3 hb3 Hv2 Hb2 Ho2
  go_wp2_with fail
  go_loopw [48] (fun i wr => ∃ k : Nat, k ≤ xs.length ∧ i = .int .i64 k ∧ ∃ q, Hid (wr = w3.drewN q)) (fun i _ => xs.length - (intOf i).toNat)
  case atStart => exact ⟨0, by omega, rfl, 0, rfl⟩
  case round =>
    obtain ⟨k, hk, rfl, q, hq⟩ := hrel
    have hq' := hq.out
    subst hq'
    by_cases hlt : k < xs.length
    · have hne : xs ≠ [] := fun h => by rw [h] at hlt; simp at hlt
      obtain ⟨b, o, c, h1, hc1, hd⟩ := Src.cellsU Hv3.out hne
      obtain ⟨b3, o3, c3, h3, hc3, hd3⟩ := Src.cellsU Hs3.out hne
      simp only [Value.slice.injEq, true_and] at h1 h3
      obtain ⟨rfl, rfl⟩ := h1
      obtain ⟨rfl, rfl⟩ := h3
      have e1 : w3.cell? ⟨b, o + k, none⟩ = some (.int .u64 (xs.getD k 0)) := hd k hlt
      have e3 : w3.cell? ⟨b3, o3 + k, none⟩ = some (.int .u64 (xs.getD k 0)) := hd3 k hlt
      obtain ⟨x, hxe⟩ : ∃ x, x = xs.getD k 0 := ⟨_, rfl⟩
      rw [← hxe] at e1 e3
      clear hd hd3 hxe hq
      go_wp2
      go_quiet (fail)
      go_wp2
      go_roundw
      case rel => exact ⟨k + 1, by omega, by go_num, _, rfl⟩
      case measure => simp [intOf]; omega
    · obtain rfl : k = xs.length := by omega
      go_wp2
      go_ret
      exact ⟨rfl, below_drewN Hb3.out q⟩

theorem range_of_wf {zs : List Int} (h : ∀ n ∈ zs, (Lit.int .u64 n).wf = true) : ∀ x ∈ zs, 0 ≤ x ∧ x ≤ 18446744073709551615 :=
  fun x hx => bounds_u64 (h x hx)

theorem fnUintsComeBack_walk (a0 : Option Addr) (len0 cap0 : Nat) (z0 : List Int) (a1 : Option Addr) (len1 cap1 : Nat) (z1 : List Int) (w : World) (w0 : IsRow .u64 w a0 len0 cap0 z0) (w1 : IsRow .u8 w a1 len1 cap1 z1) (aE aB : Addr) (_hE : w.cell? ⟨1, 0, none⟩ = some (.iface 107 (.pointer (some aE)))) (_hB : w.cell? ⟨0, 0, none⟩ = some (.iface 107 (.pointer (some aB)))) :
    Calls Tryd.prog 8 #[.slice a0 len0 cap0, .slice a1 len1 cap1] w fun e w' => e = .returned (.bool true) ∧ Below w.heap.size w w' := by
  by_cases hl : 65536 < len0 ∨ 2147483647 < len1
  · exact usback_large _ _ w a0 a1 len0 cap0 len1 cap1 rfl rfl hl
  · exact usback_law _ _ (z0.take len0) (z1.take len1) w (Src.of_row w0) (Src.of_row w1) (range_of_wf w0.range) (bytes_of_wf w1.range) (by rw [w0.length]; omega) (by rw [w1.length]; omega)
end Go.Proofs.YtleddjhlpgemjaaDoor
