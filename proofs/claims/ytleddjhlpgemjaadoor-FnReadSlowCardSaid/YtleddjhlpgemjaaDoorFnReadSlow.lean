/- PROVED: laws.FnReadSlow returns true of every bytes, where the listed variables hold errors. -/
import Derived.Test.YtleddjhlpgemjaaDoorSlow
import Derived.OpenShut
namespace Go.Proofs.YtleddjhlpgemjaaDoor
open Go.RowKit

theorem rd_bounds (l : List Int) (x : Int) (n : Nat) (hr : ∀ b ∈ l, 0 ≤ b ∧ b < 256) (h : rd l = some (x, n)) : 1 ≤ n ∧ n ≤ 9 ∧ n ≤ l.length ∧ 0 ≤ x ∧ x ≤ 18446744073709551615 := by
  cases l with
  | nil => simp [rd] at h
  | cons b t =>
    have hb := hr b (by simp)
    by_cases c1 : b < 128
    · rw [rd, if_pos c1] at h
      simp only [Option.some.injEq, Prod.mk.injEq] at h
      obtain ⟨rfl, rfl⟩ := h
      exact ⟨by omega, by omega, by simp, by omega, by omega⟩
    · rw [rd, if_neg c1] at h
      by_cases c2 : 8 < (256 - b).toNat ∨ t.length < (256 - b).toNat
      · rw [if_pos c2] at h; cases h
      · rw [if_neg c2] at h
        simp only [Option.some.injEq, Prod.mk.injEq] at h
        obtain ⟨rfl, rfl⟩ := h
        have hv := val_range (t.take (256 - b).toNat) (fun x hx => hr x (List.mem_cons_of_mem _ (List.mem_of_mem_take hx)))
        rw [List.length_take, Nat.min_eq_left (by omega)] at hv
        have := p256_mono (a := (256 - b).toNat) (b := 8) (by omega)
        rw [p256_8] at this
        rw [List.length_cons]
        exact ⟨by omega, by omega, by omega, by omega, by omega⟩

theorem slow_large (v : Value) (w : World) (ad : Option Addr) (len cap : Nat) (hv : v = .slice ad len cap) (hl : 2147483647 < len) :
    Calls Tryd.prog 3 #[v] w fun e w' => e = .returned (.bool true) ∧ Below w.heap.size w w' := by
  subst hv
  have hl' : (2147483647 : Int) < len := by omega
  go_enter Tryd.func3, Tryd.ntmps3
  go_wp2
  go_ret
  exact ⟨rfl, Below.refl _ _⟩

theorem slow_small (v : Value) (l : List Int) (w : World) (aE aU aB : Addr) (hsrc : Src w v (u8s l)) (he : Errs w w.heap.size aE aU aB) (hl : l.length ≤ 2147483647) (hr : ∀ x ∈ l, 0 ≤ x ∧ x < 256) :
    Calls Tryd.prog 3 #[v] w fun e w' => e = .returned (.bool true) ∧ Below w.heap.size w w' := by
  obtain ⟨ad, cap, rfl, _⟩ := hsrc.shape
  have Hsrc := hid hsrc
  have Hr := hid hr
  have He := hid he
  have hli : (l.length : Int) ≤ 2147483647 := by omega
  clear hr hsrc he
  rw [u8s_length] at Hsrc ⊢
  go_enter Tryd.func3, Tryd.ntmps3
  go_wp2_with fail
  refine (iReadSlow_any _ l w aE aU aB Hsrc.out He.out hl Hr.out).mono ?_
  rintro e w1 ⟨x, wd, rest, ok, rfl, ht, hb1⟩
  have Ht := hid ht
  have Hs1 := hid (Hsrc.out.below hb1 (Nat.le_refl _))
  clear ht
  go_wp2_with fail
  refine (sRead_any _ l w1 Hs1.out Hr.out hl).mono ?_
  rintro e w2 ⟨rfl, hb2⟩
  have Hb := hid (hb1.trans (hb2.mono hb1.size))
  clear hb1 hb2 Hs1 Hsrc He
  obtain ⟨tl, htl⟩ : ∃ tl, tl = told l := ⟨_, rfl⟩
  rw [← htl]
  cases hrd : rd l with
  | none =>
    have hok : ok = false := by have := Ht.out; unfold Tells at this; rw [hrd] at this; exact this
    have h3 : tl = (0, 0, 2) := by rw [htl]; unfold told; rw [hrd]
    subst hok
    subst h3
    clear htl hrd Ht
    go_wp2_with fail
    go_ret
    exact ⟨rfl, Hb.out⟩
  | some p =>
    obtain ⟨y, n⟩ := p
    have hb := rd_bounds l y n Hr.out hrd
    have hT : x = y ∧ wd = (n : Int) ∧ rest = (l.length : Int) - n ∧ ok = true := by
      have := Ht.out; unfold Tells at this; rw [hrd] at this
      exact ⟨this.1, this.2.1, by have := this.2.2.1; omega, this.2.2.2⟩
    obtain ⟨rfl, rfl, rfl, rfl⟩ := hT
    have h3 : tl = (x, (n : Int), if (enc x).length = n then 0 else 1) := by rw [htl]; unfold told; rw [hrd]
    subst h3
    clear htl hrd Ht
    by_cases c : (enc x).length = n
    · rw [if_pos c]
      clear c
      go_wp2_with fail
      go_ret
      exact ⟨rfl, Hb.out⟩
    · rw [if_neg c]
      clear c
      go_wp2_with fail
      go_ret
      exact ⟨rfl, Hb.out⟩

theorem bytes_of_wf {zs : List Int} (h : ∀ n ∈ zs, (Lit.int .u8 n).wf = true) : ∀ x ∈ zs, 0 ≤ x ∧ x < 256 :=
  fun x hx => by have := bounds_u8 (h x hx); omega

theorem IsRow.range {k : IntKind} {w : World} {a : Option Addr} {len cap : Nat} {zs : List Int} (h : IsRow k w a len cap zs) : ∀ n ∈ zs.take len, (Lit.int k n).wf = true := by
  rcases h with ⟨_, _, _, rfl⟩ | ⟨x, _, _, _, _, _, hw⟩
  · intro n hn; simp at hn
  · exact fun n hn => hw n (List.mem_of_mem_take hn)

theorem IsRow.length {k : IntKind} {w : World} {a : Option Addr} {len cap : Nat} {zs : List Int} (h : IsRow k w a len cap zs) : (zs.take len).length = len := by
  rcases h with ⟨_, rfl, _, rfl⟩ | ⟨x, _, _, _, _, _, _⟩
  · rfl
  · rw [List.length_take]; omega

theorem fnReadSlow_walk (a0 : Option Addr) (len0 cap0 : Nat) (z0 : List Int) (w : World) (w0 : IsRow .u8 w a0 len0 cap0 z0) (aE aU aB : Addr) (he : Errs w w.heap.size aE aU aB) :
    Calls Tryd.prog 3 #[.slice a0 len0 cap0] w fun e w' => e = .returned (.bool true) ∧ Below w.heap.size w w' := by
  by_cases hl : 2147483647 < len0
  · exact slow_large _ w a0 len0 cap0 rfl hl
  · exact slow_small _ (z0.take len0) w aE aU aB (Src.of_row w0) he (by rw [w0.length]; omega) (bytes_of_wf w0.range)
end Go.Proofs.YtleddjhlpgemjaaDoor
