/- PROVED: Int of the package and of the thin package hands back a new slice of the bytes of the folded number; the reference's Fold. Condition: a is an int64. -/
import Derived.Test.YtleddjhlpgemjaaDoorUint
import Derived.Test.YtleddjhlpgemjaaDoorBits
namespace Go.Proofs.YtleddjhlpgemjaaDoor
open Go.RowKit

theorem encI_any (eb : Nat) (ks : List Value) (a : Int) (w : World) (he : EncAt w eb ks) (h0 : -9223372036854775808 ≤ a) (h1 : a ≤ 9223372036854775807) (hlen : ks.length + 9 ≤ 140737488355328) :
    Calls Tryd.prog 49 #[.pointer (some ⟨eb + 1, 0, none⟩), .int .i64 a] w fun e w' => e = .returned (.tuple #[]) ∧ EncAt w' eb (ks ++ u8s (enc (fold a))) ∧ Below eb w w' := by
  have hfr := fold_range a h0 h1
  have He := hid he
  clear he
  by_cases c : a < 0
  · have hid1 := hid (fold_neg a c)
    go_enter Tryd.func49, Tryd.ntmps49
    go_wp2_with fail
    rw [fold_code a h0 c, ← hid1.out]
    refine (encU_any eb ks (fold a) w He.out (by omega) (by omega) hlen).mono ?_
    rintro e w' ⟨rfl, he', hb'⟩
    have He' := hid he'
    clear he'
    go_wp2_with fail
    go_end0
    exact ⟨rfl, He'.out, hb'⟩
  · have hid1 := hid (fold_pos a c)
    go_enter Tryd.func49, Tryd.ntmps49
    go_wp2_with fail
    rw [fold_code_pos a (by omega) h1, ← hid1.out]
    refine (encU_any eb ks (fold a) w He.out (by omega) (by omega) hlen).mono ?_
    rintro e w' ⟨rfl, he', hb'⟩
    have He' := hid he'
    clear he'
    go_wp2_with fail
    go_end0
    exact ⟨rfl, He'.out, hb'⟩

theorem gInt_any (a : Int) (w : World) (h0 : -9223372036854775808 ≤ a) (h1 : a ≤ 9223372036854775807) :
    Calls Tryd.prog 34 #[.int .i64 a] w fun e w' => ∃ v, e = .returned v ∧ Own w' w.heap.size v (enc (fold a)) ∧ Below w.heap.size w w' := by
  obtain ⟨i0, hi, hz0, hz1, hz2⟩ := info_parts Tryd.infoU8
  have hel := enc_length (fold a)
  go_enter Tryd.func34, Tryd.ntmps34
  go_wp2_with fail
  refine (newEnc_any w).mono ?_
  rintro e w1 ⟨rfl, he1, hb1⟩
  have He1 := hid he1
  clear he1
  go_wp2_with fail
  refine (encI_any w.heap.size [] a w1 He1.out h0 h1 (by simp)).mono ?_
  rintro e w2 ⟨rfl, he2, hb2⟩
  obtain ⟨hbk, ad, cap, hd, hv⟩ := he2
  have hst := hbk.st
  have Hbk := hid hbk
  obtain ⟨ea, rfl, hcells⟩ := hv.cells
  have Hc := hid hcells
  clear hbk hv hcells
  go_wp2_with fail
  refine (ebytes_any w.heap.size _ w2 hd).mono ?_
  rintro e w' ⟨rfl, rfl⟩
  have hbsz := Hbk.out.size
  go_wp2_with (at_builtin; refine wpList_append_own _ rfl _ _ 22 rfl w.heap.size 5 i0 (.int .u8 0) 1 1 Tryd.underlying22 hi hz0 hz1 hz2 rfl (by decide) _ 0 [] rfl (World.ownsRow_nil _ _ _ _) ea _ cap (u8s (enc (fold a))) rfl ?c1 Hc.out (u8s_oneCell _) ?c2 ?c3 (by omega) ?_)
  case c1 => omega
  case c2 => simp only [u8s_length]; unfold maxLen; omega
  case c3 => simp only [u8s_length]; omega
  intro v' w3 hown hgrow _
  have Hown : Hid (Own w3 w.heap.size v' (enc (fold a))) := by rw [u8s_length] at hown; exact hown
  have Hbel := hid ((hb1.trans hb2).grown hgrow (by omega) (fun k hk => by simp [Value.ownBlock] at hk))
  clear hown hgrow
  go_wp2_with fail
  go_ret
  exact ⟨_, rfl, Hown.out, Hbel.out⟩


theorem iInt_any (a : Int) (w : World) (h0 : -9223372036854775808 ≤ a) (h1 : a ≤ 9223372036854775807) :
    Calls Tryd.prog 21 #[.int .i64 a] w fun e w' => ∃ v, e = .returned v ∧ Own w' w.heap.size v (enc (fold a)) ∧ Below w.heap.size w w' := by
  go_enter Tryd.func21, Tryd.ntmps21
  go_wp2_with fail
  refine (gInt_any a w h0 h1).mono ?_
  rintro e w1 ⟨v, rfl, ho, hb⟩
  have Ho := hid ho
  clear ho
  go_wp2_with fail
  go_ret
  exact ⟨_, rfl, Ho.out, hb⟩
end Go.Proofs.YtleddjhlpgemjaaDoor
