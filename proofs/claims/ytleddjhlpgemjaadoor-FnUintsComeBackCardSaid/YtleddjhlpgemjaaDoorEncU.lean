/- PROVED: encodeUint writes 'enc x' behind what the encoder has written. Conditions: x is a uint64, and the sum of the bytes is below 2^47. -/
import Derived.Test.YtleddjhlpgemjaaDoorWrite
import Derived.Test.YtleddjhlpgemjaaDoorPut
import Derived.Test.YtleddjhlpgemjaaDoorLen
import Derived.Deep.RegionWith
namespace Go.Proofs.YtleddjhlpgemjaaDoor
open Go.RowKit

theorem len64_z (x : Int) (w : World) (h0 : 128 ≤ x) (h1 : x ≤ 18446744073709551615) :
    Calls Tryd.prog 70 #[.int .u64 x] w fun e w' => ∃ z : Int, e = .returned (.int .i64 (64 - z)) ∧ 0 ≤ z ∧ z ≤ 64 ∧ z / 8 = ((8 - nb x : Nat) : Int) ∧ w' = w := by
  obtain ⟨z, hz, hz0, hz1, hz8⟩ := lz_nb x h0 h1
  have hnb := nb_range x
  refine (len64_any x w (by omega) h1).mono fun e w' ⟨he, hw⟩ => ⟨z, ?_, hz0, hz1, by omega, hw⟩
  rw [he, ← hz]
  congr 2
  omega

theorem lz_any (x : Int) (w : World) (h0 : 128 ≤ x) (h1 : x ≤ 18446744073709551615) :
    Calls Tryd.prog 61 #[.int .u64 x] w fun e w' => ∃ z : Int, e = .returned (.int .i64 z) ∧ 0 ≤ z ∧ z ≤ 64 ∧ z / 8 = ((8 - nb x : Nat) : Int) ∧ w' = w := by
  go_enter Tryd.func61, Tryd.ntmps61
  go_wp2_with (go_at_call 70; refine (len64_z x _ (by omega) (by omega)).mono ?_; rintro e w' ⟨z, rfl, hz0, hz1, hz8, rfl⟩; have Hz8 := hid hz8; clear hz8)
  go_ret
  refine ⟨z, ?_, hz0, hz1, Hz8.out, rfl⟩
  show Ending.returned (.int .i64 (64 - (64 - z))) = _
  congr 2
  omega

theorem Vals.setCell_st {w : World} {h : Nat} {v : Value} {ks : List Value} (hv : Vals w h v ks) (o : Nat) (u : Value) : Vals (w.setCell ⟨h + 1, o, none⟩ u) h v ks := by
  rcases hv with ⟨hle, rfl, hc⟩ | ⟨hne, hown⟩
  · refine .inl ⟨hle, rfl, fun j hj => ?_⟩
    rw [World.cell?_setCell_other _ _ _ _ (by simp only [ne_eq, Addr.mk.injEq]; omega)]
    exact hc j hj
  · exact .inr ⟨hne, ownsRow_setCell_below hown (a := ⟨h + 1, o, none⟩) (by show h + 1 < h + 2; omega) u⟩

theorem EncAt.setCell_st {w : World} {h : Nat} {ks : List Value} (he : EncAt w h ks) (o : Nat) (ho : 0 < o) (u : Value) : EncAt (w.setCell ⟨h + 1, o, none⟩ u) h ks := by
  obtain ⟨hb, ad, cap, hd, hv⟩ := he
  refine ⟨hb.setCell _ _ (by simp only [ne_eq, Addr.mk.injEq]; omega), ad, cap, ?_, hv.setCell_st o u⟩
  rw [World.cell?_setCell_other _ _ _ _ (by simp only [ne_eq, Addr.mk.injEq]; omega)]
  exact hd

theorem EncAt.setCells_st {h : Nat} {ks : List Value} : ∀ (vs : List Value) (o : Nat) {w : World}, EncAt w h ks → 0 < o → EncAt (w.setCells (h + 1) o vs) h ks
  | [], _, _, he, _ => he
  | v :: r, o, w, he, ho => by
    rw [World.setCells]
    exact EncAt.setCells_st r (o + 1) (he.setCell_st o ho v) (by omega)

theorem slice_a9 (b n : Nat) (hn : n ≤ 7) (W : World) :
    (Instr.sliceAt 50 (.pointer (some ⟨b, 3, none⟩)) (some (.int .i64 (n : Int))) (some (.int .i64 9)) none).run Tryd.prog W = .ok (.slice (some ⟨b, 3 + n, none⟩) (9 - n) (9 - n)) W := by
  have hlen : Tryd.prog.arrayLen 50 = 9 := by kernel_rfl
  have hel : (sizeOf (Tryd.prog.elem 50)).run Tryd.prog W = .ok 1 W := by kernel_rfl
  rw [run_sliceAt_array_lh W 50 ⟨b, 3, none⟩ (by kernel_rfl) .i64 .i64 n 9 (by omega) (by omega) (by rw [hlen]; omega), hel]
  simp only [Result.andThen_ok, slicedAt, hlen, Int.toNat_natCast]
  rw [if_neg (by omega)]
  simp [Addr.add]

/-- Where encodeUint has laid the bytes that it writes. -/
theorem laid_enc {w : World} {h : Nat} (hb : Blk w h) (x : Int) (hx : ¬ x < 128) (n : Nat) (hn : n = 8 - nb x) (v : Value) (hv : v = .int .u8 (256 - (nb x : Int))) :
    ∀ j u, (u8s (enc x))[j]? = some u → (((w.setCells (h + 1) 4 (u8s (be 8 x))).setCell ⟨h + 1, 3 + n, none⟩ v).cell? ((⟨h + 1, 3 + n, none⟩ : Addr).add j)) = some u := by
  intro j u hj
  have hr := nb_range x
  rw [enc_large x hx] at hj
  rw [Addr.add_lit]
  cases j with
  | zero =>
    simp [u8s] at hj
    show (((w.setCells (h + 1) 4 (u8s (be 8 x))).setCell ⟨h + 1, 3 + n, none⟩ v).cell? ⟨h + 1, 3 + n, none⟩) = some u
    obtain ⟨z, hz⟩ := Option.isSome_iff_exists.1 ((Blk.setCells (b := h + 1) (u8s (be 8 x)) 4 hb (by omega)).buf n (by omega)).1
    rw [World.cell?_setCell_same _ _ _ hz, hv, hj]
  | succ j =>
    have hj' : (u8s (be (nb x) x))[j]? = some u := by simpa [u8s] using hj
    rw [World.cell?_setCell_other _ _ _ _ (by simp only [ne_eq, Addr.mk.injEq]; omega)]
    have hlt : j < nb x := by simpa [u8s_length, be_length] using (List.getElem?_eq_some_iff.1 hj').1
    have hin := World.cell?_setCells_in (h + 1) (u8s (be 8 x)) 4 w (fun i hi => by
      have := (hb.buf (1 + i) (by simp [u8s_length, be_length] at hi; omega)).1
      rwa [show 3 + (1 + i) = 4 + i by omega] at this) (n + j) (by simp [u8s_length, be_length]; omega)
    rw [show 3 + n + (j + 1) = 4 + (n + j) by omega, hin, ← hj', ← List.getElem?_eq_getElem]
    have hd := be_drop (nb x) n x
    rw [show nb x + n = 8 by omega] at hd
    rw [← hd]
    simp [u8s]

theorem encU_small (h : Nat) (ks : List Value) (x : Int) (w : World) (he : EncAt w h ks) (h0 : 0 ≤ x) (h1 : x < 128) (hlen : ks.length + 9 ≤ 140737488355328) :
    Calls Tryd.prog 47 #[.pointer (some ⟨h + 1, 0, none⟩), .int .u64 x] w fun e w' => e = .returned (.tuple #[]) ∧ EncAt w' h (ks ++ u8s (enc x)) ∧ Below h w w' := by
  have hst := he.1.st
  rw [enc_small x h1]
  go_enter Tryd.func47, Tryd.ntmps47
  go_wp2_with (go_at_call 59; refine (writeByte_any h ks x w he (by omega)).mono ?_; rintro e w' ⟨rfl, hen, hbel⟩)
  refine bodyPost_ret (results_none rfl _ _ _) rfl ?_
  exact ⟨rfl, hen, hbel⟩

theorem encU_large (h : Nat) (ks : List Value) (x : Int) (w : World) (he : EncAt w h ks) (h0 : 128 ≤ x) (h1 : x ≤ 18446744073709551615) (hlen : ks.length + 9 ≤ 140737488355328) :
    Calls Tryd.prog 47 #[.pointer (some ⟨h + 1, 0, none⟩), .int .u64 x] w fun e w' => e = .returned (.tuple #[]) ∧ EncAt w' h (ks ++ u8s (enc x)) ∧ Below h w w' := by
  have hst := he.1.st
  have Hc1 := hid (fun j (hj : j < 8) => (show 3 + (1 + j) = 4 + j by omega) ▸ (he.1.buf (1 + j) (by omega)).1)
  have Hc2 := hid (fun j (hj : j < 8) => (show 3 + (1 + j) = 4 + j by omega) ▸ (he.1.buf (1 + j) (by omega)).2)
  have He1 := hid (EncAt.setCells_st (u8s (be 8 x)) 4 he (by omega))
  go_enter Tryd.func47, Tryd.ntmps47
  go_wp2_with fail
  refine (put_any (h + 1) 4 8 8 x w (by omega) (by omega) Hc1.out Hc2.out).mono ?_
  rintro e w1 ⟨rfl, hw⟩
  have Hw := hid hw
  have He2 : Hid (EncAt w1 h ks) := by rw [hw]; exact He1
  clear hw
  have hst1 := He2.out.1.st
  go_wp2_with fail
  refine (lz_any x _ h0 h1).mono ?_
  rintro e w' ⟨z, rfl, hz0, hz1, hz8, rfl⟩
  obtain ⟨n, hn⟩ : ∃ n : Nat, n = 8 - nb x := ⟨_, rfl⟩
  rw [← hn] at hz8
  have hnr := nb_range x
  have hn7 : n ≤ 7 := by omega
  have Hn := hid hn
  clear hn hnr
  have hcb := He2.out.1.buf n (by omega)
  obtain ⟨u0, hu0⟩ := Option.isSome_iff_exists.1 hcb.1
  have hfr0 := hcb.2
  clear hcb
  have Hv := hid (show Value.int .u8 (((n : Int) - 8) % 256) = .int .u8 (256 - (nb x : Int)) by have := Hn.out; have := nb_range x; congr 1; omega)
  have He3 := hid (EncAt.setCell_st He2.out (3 + n) (by omega) (.int .u8 (((n : Int) - 8) % 256)))
  have Hl := hid (laid_enc he.1 x (by omega) n Hn.out _ Hv.out)
  rw [← Hw.out] at Hl
  have Hb3 := hid ((below_setCells (u8s (be 8 x)) 4 (Below.refl h w) (by omega : h ≤ h + 1)).setCell (p := ⟨h + 1, 3 + n, none⟩) (by show h ≤ h + 1; omega) (.int .u8 (((n : Int) - 8) % 256)))
  rw [← Hw.out] at Hb3
  have Hlen := hid (show (u8s (enc x)).length = 9 - n by rw [enc_large x (by omega)]; have := Hn.out; have := nb_range x; simp [u8s_length, be_length]; omega)
  clear he Hv Hw Hc1 Hc2 He1 He2
  go_wp2_with fail
  generalize w'.setCell ⟨h + 1, 3 + n, none⟩ (Value.int .u8 (((n : Int) - 8) % 256)) = W2 at *
  have hst2 : W2.cell? ⟨h + 1, 0, none⟩ = some (.pointer (some ⟨h, 0, none⟩)) := He3.out.1.st
  clear hst1 hst hu0 hfr0
  have He4 : Hid (EncAt W2.drew h ks) := by
    obtain ⟨hb, ad, cap, hd, hv⟩ := He3.out
    exact ⟨hb.drew, ad, cap, hd, hv.drew⟩
  have Hl4 : Hid (∀ j u, (u8s (enc x))[j]? = some u → W2.drew.cell? ((⟨h + 1, 3 + n, none⟩ : Addr).add j) = some u) := Hl.out
  clear He3 Hl
  have hsl := fun W => slice_a9 (h + 1) n hn7 W
  go_region_with (go_at_call 62; refine (write_any h ks ⟨h + 1, 3 + n, none⟩ (9 - n) (9 - n) (u8s (enc x)) W2.drew He4.out Hlen.out Hl4.out (u8s_oneCell _) (by omega)).mono ?_; rintro e w3 ⟨⟨v, rfl⟩, he3, hb3⟩)
  all_goals (go_end0; exact ⟨rfl, he3, Hb3.out.trans (Below.trans (Below.refl h W2).drew hb3)⟩)

theorem encU_any (h : Nat) (ks : List Value) (x : Int) (w : World) (he : EncAt w h ks) (h0 : 0 ≤ x) (h1 : x ≤ 18446744073709551615) (hlen : ks.length + 9 ≤ 140737488355328) :
    Calls Tryd.prog 47 #[.pointer (some ⟨h + 1, 0, none⟩), .int .u64 x] w fun e w' => e = .returned (.tuple #[]) ∧ EncAt w' h (ks ++ u8s (enc x)) ∧ Below h w w' := by
  by_cases c : x < 128
  · exact encU_small h ks x w he h0 c hlen
  · exact encU_large h ks x w he (by omega) h1 hlen
end Go.Proofs.YtleddjhlpgemjaaDoor
