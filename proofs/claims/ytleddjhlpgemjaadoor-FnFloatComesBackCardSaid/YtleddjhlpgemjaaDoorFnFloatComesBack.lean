/- PROVED: laws.FnFloatComesBack returns true of every bits, where the listed variables hold errors. -/
import Derived.Test.YtleddjhlpgemjaaDoorRead
import Derived.Test.YtleddjhlpgemjaaDoorFloatBack
import Derived.Test.YtleddjhlpgemjaaDoorLaw
import Derived.OpenShut
namespace Go.Proofs.YtleddjhlpgemjaaDoor
open Go.RowKit

theorem Own.src {w : World} {B : Nat} {v : Value} {l : List Int} (h : Own w B v l) : Src w v (u8s l) := Src.of_owns (l := u8s l) (by rw [u8s_length]; exact h)

theorem fnFloatComesBack_walk (x : Int) (w : World) (h0 : 0 ≤ x) (h1 : x ≤ 18446744073709551615) (aE aB : Addr) (hE : w.cell? ⟨1, 0, none⟩ = some (.iface 107 (.pointer (some aE)))) (hB : w.cell? ⟨0, 0, none⟩ = some (.iface 107 (.pointer (some aB)))) :
    Calls Tryd.prog 10 #[.int .u64 x] w fun e w' => e = .returned (.bool true) ∧ Below w.heap.size w w' := by
  have htr := turn_range x
  have He := hid (show ErrsF w aE aB from ⟨hE, hB⟩)
  have Htt := hid (turn_turn x h0 h1)
  have hel := enc_length (turn x)
  have Her := hid (enc_range (turn x) htr.1)
  have Hrd := hid (rd_enc (turn x) [] htr.1 htr.2)
  clear hE hB
  go_enter Tryd.func10, Tryd.ntmps10
  go_wp2_with fail
  refine (sNaN_any x w).mono ?_
  rintro e w' ⟨⟨b, rfl⟩, rfl⟩
  cases b with
  | true =>
    go_wp2_with fail
    go_ret
    exact ⟨rfl, Below.refl _ _⟩
  | false =>
    go_wp2_with fail
    refine (iFloat_any x w' h0 h1).mono ?_
    rintro e w1 ⟨v, rfl, ho, hb1⟩
    have Ho := hid ho
    have He1 := hid (He.out.below hb1)
    have Hb1 := hid hb1
    clear ho hb1 He
    go_wp2_with fail
    refine (iRead_any v (enc (turn x)) w1 aE aB Ho.out.src He1.out (by omega) Her.out).mono ?_
    rintro e w2 ⟨y, rest, ok, rfl, ht, hb2⟩
    have hT : y = turn x ∧ rest = 0 ∧ ok = true := by
      have h2 := ht; unfold Reads at h2; have h3 := Hrd.out; rw [List.append_nil] at h3; rw [h3] at h2
      exact ⟨h2.1, by have := h2.2.1; omega, h2.2.2⟩
    obtain ⟨rfl, rfl, rfl⟩ := hT
    have Hb2 := hid (Hb1.out.trans (hb2.mono Hb1.out.size))
    clear ht hb2 Hb1 He1 Ho
    go_wp2_with fail
    refine (iFloatBits_any x w2 h0 h1).mono ?_
    rintro e w' ⟨rfl, rfl⟩
    go_wp2_with fail
    refine (iFromBits_any (turn x) _ htr.1 htr.2).mono ?_
    rintro e w' ⟨rfl, rfl⟩
    rw [Htt.out]
    go_wp2_with fail
    refine (iFloatBits_any x _ h0 h1).mono ?_
    rintro e w' ⟨rfl, rfl⟩
    go_wp2_with fail
    refine (turned_any x _ h0 h1).mono ?_
    rintro e w' ⟨rfl, rfl⟩
    go_wp2_with fail
    refine (iFloatBits_any x _ h0 h1).mono ?_
    rintro e w' ⟨rfl, rfl⟩
    go_wp2_with fail
    refine (iFromBits_any (turn x) _ htr.1 htr.2).mono ?_
    rintro e w' ⟨rfl, rfl⟩
    rw [Htt.out]
    go_wp2_with fail
    go_ret
    exact ⟨rfl, Hb2.out⟩
end Go.Proofs.YtleddjhlpgemjaaDoor
