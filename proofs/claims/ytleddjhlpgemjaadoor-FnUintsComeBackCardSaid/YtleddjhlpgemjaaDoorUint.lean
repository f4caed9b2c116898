/- PROVED: Uint of the package and of the thin package hands back a new slice of the bytes 'enc x'. Condition: x is a uint64. -/
import Derived.Test.YtleddjhlpgemjaaDoorNew
namespace Go.Proofs.YtleddjhlpgemjaaDoor
open Go.RowKit

/-- v is a slice of the bytes l in memory from block B on (nil if there are none). -/
def Own (w : World) (B : Nat) (v : Value) (l : List Int) : Prop := w.ownsRow B 5 1 v l.length (u8s l)

theorem ebytes_any (h : Nat) (v : Value) (w : World) (hd : w.cell? ⟨h, 0, none⟩ = some v) :
    Calls Tryd.prog 48 #[.pointer (some ⟨h, 0, none⟩)] w fun e w' => e = .returned v ∧ w' = w := by
  go_enter Tryd.func48, Tryd.ntmps48
  go_wp2
  go_ret
  exact ⟨rfl, rfl⟩

theorem gUint_any (x : Int) (w : World) (h0 : 0 ≤ x) (h1 : x ≤ 18446744073709551615) :
    Calls Tryd.prog 38 #[.int .u64 x] w fun e w' => ∃ v, e = .returned v ∧ Own w' w.heap.size v (enc x) ∧ Below w.heap.size w w' := by
  obtain ⟨i0, hi, hz0, hz1, hz2⟩ := info_parts Tryd.infoU8
  have hel := enc_length x
  go_enter Tryd.func38, Tryd.ntmps38
  go_wp2_with fail
  refine (newEnc_any w).mono ?_
  rintro e w1 ⟨rfl, he1, hb1⟩
  have He1 := hid he1
  clear he1
  go_wp2_with fail
  refine (encU_any w.heap.size [] x w1 He1.out h0 h1 (by simp)).mono ?_
  rintro e w2 ⟨rfl, he2, hb2⟩
  obtain ⟨hbk, ad, cap, hd, hv⟩ := he2
  have hst := hbk.st
  have Hbk := hid hbk
  obtain ⟨a, rfl, hcells⟩ := hv.cells
  have Hc := hid hcells
  clear hbk hv hcells
  go_wp2_with fail
  refine (ebytes_any w.heap.size _ w2 hd).mono ?_
  rintro e w' ⟨rfl, rfl⟩
  have hbsz := Hbk.out.size
  go_wp2_with (at_builtin; refine wpList_append_own _ rfl _ _ 22 rfl w.heap.size 5 i0 (.int .u8 0) 1 1 Tryd.underlying22 hi hz0 hz1 hz2 rfl (by decide) _ 0 [] rfl (World.ownsRow_nil _ _ _ _) a _ cap (u8s (enc x)) rfl ?c1 Hc.out (u8s_oneCell _) ?c2 ?c3 (by omega) ?_)
  case c1 => omega
  case c2 => simp only [u8s_length]; unfold maxLen; omega
  case c3 => simp only [u8s_length]; omega
  intro v' w3 hown hgrow _
  have Hown : Hid (Own w3 w.heap.size v' (enc x)) := by rw [u8s_length] at hown; exact hown
  have Hbel := hid ((hb1.trans hb2).grown hgrow (by omega) (fun k hk => by simp [Value.ownBlock] at hk))
  clear hown hgrow
  go_wp2_with fail
  go_ret
  exact ⟨_, rfl, Hown.out, Hbel.out⟩

theorem iUint_any (x : Int) (w : World) (h0 : 0 ≤ x) (h1 : x ≤ 18446744073709551615) :
    Calls Tryd.prog 27 #[.int .u64 x] w fun e w' => ∃ v, e = .returned v ∧ Own w' w.heap.size v (enc x) ∧ Below w.heap.size w w' := by
  go_enter Tryd.func27, Tryd.ntmps27
  go_wp2_with fail
  refine (gUint_any x w h0 h1).mono ?_
  rintro e w1 ⟨v, rfl, ho, hb⟩
  have Ho := hid ho
  clear ho
  go_wp2_with fail
  go_ret
  exact ⟨_, rfl, Ho.out, hb⟩
end Go.Proofs.YtleddjhlpgemjaaDoor
