/- PROVED: laws.FnCutIsTold returns true of every number and place, where the listed variables hold errors. -/
import Derived.Test.YtleddjhlpgemjaaDoorRead
import Derived.Test.YtleddjhlpgemjaaDoorSlow
import Derived.Test.YtleddjhlpgemjaaDoorLaw
import Derived.OpenShut
namespace Go.Proofs.YtleddjhlpgemjaaDoor
open Go.RowKit

theorem rd_cut (x : Int) (k : Nat) (hk : k < (enc x).length) : rd ((enc x).take k) = none := by
  by_cases c : x < 128
  · rw [enc_small x c] at hk ⊢
    simp only [List.length_cons, List.length_nil] at hk
    obtain rfl : k = 0 := by omega
    rfl
  · have hn := nb_range x
    rw [enc_large x c] at hk ⊢
    rw [List.length_cons, be_length] at hk
    match k with
    | 0 => rfl
    | k + 1 =>
      rw [List.take_succ_cons, rd, if_neg (by omega), if_pos]
      right
      rw [List.length_take, be_length]
      omega

theorem Src.take {w : World} {ad : Option Addr} {len cap : Nat} {l : List Int} (h : Src w (.slice ad len cap) (u8s l)) (k : Nat) (hk : k ≤ len) (hp : 0 < len) : Src w (.slice ad k cap) (u8s (l.take k)) := by
  rcases h with ⟨h, _⟩ | ⟨a, c, h, hc, hd⟩
  · simp only [Value.slice.injEq] at h; omega
  · simp only [Value.slice.injEq] at h
    obtain ⟨rfl, hl, rfl⟩ := h
    rw [u8s_length] at hl hc
    refine .inr ⟨a, cap, by rw [u8s_length, List.length_take, Nat.min_eq_left (by omega)], by rw [u8s_length, List.length_take]; omega, ?_⟩
    rcases hd with hd | ⟨b, o, rfl, hd⟩
    · exfalso
      have := congrArg List.length hd
      rw [u8s_length] at this
      have h9 : l.length = 0 := this
      omega
    · refine .inr ⟨b, o, rfl, fun j u hj => hd j u ?_⟩
      rw [u8s_get] at hj ⊢
      rw [List.getElem?_take] at hj
      by_cases c : j < k
      · rw [if_pos c] at hj; exact hj
      · rw [if_neg c] at hj; simp at hj

theorem fnCutIsTold_walk (x at_ : Int) (w : World) (h0 : 0 ≤ x) (h1 : x ≤ 18446744073709551615) (g0 : -9223372036854775808 ≤ at_) (g1 : at_ ≤ 9223372036854775807) (aE aU aB : Addr) (he : Errs w w.heap.size aE aU aB) :
    Calls Tryd.prog 11 #[.int .u64 x, .int .i64 at_] w fun e w' => e = .returned (.bool true) ∧ Below w.heap.size w w' := by
  have He := hid he
  have HeF := hid (show ErrsF w aE aB from ⟨he.eof, he.bad⟩)
  have hel := enc_length x
  have Her := hid (enc_range x h0)
  have Hcut := hid (rd_cut x)
  obtain ⟨m, hm⟩ : ∃ m, m = (enc x).length := ⟨_, rfl⟩
  clear he
  go_enter Tryd.func11, Tryd.ntmps11
  go_wp2_with fail
  refine (iUint_any x w h0 h1).mono ?_
  rintro e w1 ⟨v, rfl, ho, hb1⟩
  obtain ⟨ad, cap, rfl, hcap⟩ := ho.holds.shape
  have Hs := hid (show Src w1 (.slice ad (enc x).length cap) (u8s (enc x)) from Src.of_owns (l := u8s (enc x)) (by rw [u8s_length]; exact ho))
  have He1 := hid ((He.out.below hb1).mono hb1.size)
  have HeF1 := hid (HeF.out.below hb1)
  have Hb1 := hid hb1
  clear ho hb1 He HeF
  rw [← hm] at hel Hs hcap ⊢
  have Hm := hid hm
  clear hm
  by_cases c0 : at_ < 0
  · go_wp2_with fail
    go_ret
    exact ⟨rfl, Hb1.out⟩
  · obtain ⟨k, rfl⟩ := Int.eq_ofNat_of_zero_le (by omega : 0 ≤ at_)
    by_cases c1 : m ≤ k
    · go_wp2_with fail
      go_ret
      exact ⟨rfl, Hb1.out⟩
    · have Hk := hid (Hs.out.take k (by omega) (by omega))
      have hkl : ((enc x).take k).length ≤ 9 := by rw [List.length_take]; omega
      have hkr : Hid (∀ b ∈ (enc x).take k, 0 ≤ b ∧ b < 256) := fun b hb => Her.out b (List.mem_of_mem_take hb)
      have Hnone := hid (Hcut.out k (by rw [← Hm.out]; omega))
      clear c0
      go_wp2_with fail
      refine (iRead_any _ ((enc x).take k) w1 aE aB Hk.out HeF1.out (by omega) hkr.out).mono ?_
      rintro e w2 ⟨y, rest, ok, rfl, ht, hb2⟩
      have hT : ok = false := by have h2 := ht; unfold Reads at h2; rw [Hnone.out] at h2; exact h2
      subst hT
      have Hk2 := hid (Hk.out.below hb2 (Nat.le_refl _))
      have He2 := hid ((He1.out.below hb2).mono hb2.size)
      have Hb2 := hid (Hb1.out.trans (hb2.mono Hb1.out.size))
      clear ht hb2 Hb1 He1 HeF1 Hk
      go_wp2_with fail
      refine (iReadSlow_any _ ((enc x).take k) w2 aE aU aB Hk2.out He2.out (by omega) hkr.out).mono ?_
      rintro e w3 ⟨z, wd, left, fine, rfl, ht, hb3⟩
      have hT : fine = false := by have h2 := ht; unfold Tells at h2; rw [Hnone.out] at h2; exact h2
      subst hT
      have Hb3 := hid (Hb2.out.trans (hb3.mono Hb2.out.size))
      clear ht hb3 Hb2 He2 Hk2
      go_wp2_with fail
      go_ret
      exact ⟨rfl, Hb3.out⟩
end Go.Proofs.YtleddjhlpgemjaaDoor
