/- PROVED: laws.FnUints returns true for every slice of uint64. No condition. -/
import Derived.Test.YtleddjhlpgemjaaUints
import Derived.Test.YtleddjhlpgemjaaSUint
import Derived.OpenShut
namespace Go.Proofs.Ytleddjhlpgemjaa
open Go.RowKit

/-- The cells of what is owned and not empty. -/
theorem Own.at {w : World} {B : Nat} {v : Value} {l : List Int} (h : Own w B v l) (hne : l ≠ []) : ∃ a cap, v = .slice (some a) l.length cap ∧ ∀ j u, (u8s l)[j]? = some u → w.cell? (a.add j) = some u := by
  have h0 := h
  rcases h.2 with ⟨_, hn⟩ | ⟨g, cap, cur, rfl, _, _, hle, _⟩
  · exact absurd (List.eq_nil_of_length_eq_zero hn) hne
  · exact ⟨_, cap, rfl, fun j u hj => h0.cells rfl j u hj⟩

theorem fnUints_large (v : Value) (w : World) (ad : Option Addr) (len cap : Nat) (hv : v = .slice ad len cap) (hl : 2147483647 < len) :
    Calls Try.prog 4 #[v] w fun e w' => e = .returned (.bool true) ∧ Below w.heap.size w w' := by
  subst hv
  have hl' : (2147483647 : Int) < len := by omega
  go_enter Try.func4, Try.ntmps4
  go_wp2
  go_ret
  exact ⟨rfl, Below.refl _ _⟩

theorem fnUints_small (v : Value) (l : List Int) (w : World) (hsrc : Src w v (u64s l)) (hr : ∀ x ∈ l, 0 ≤ x ∧ x ≤ 18446744073709551615) (hn : l.length ≤ 2147483647) :
    Calls Try.prog 4 #[v] w fun e w' => e = .returned (.bool true) ∧ Below w.heap.size w w' := by
  obtain ⟨i0, hi, hz0, hz1, hz2⟩ := info_parts Try.infoU8
  have hel := encs_length l
  have hcells : ∃ ad cap, v = .slice ad l.length cap ∧ l.length ≤ cap ∧ (0 < l.length → ∃ b o, ad = some ⟨b, o, none⟩ ∧ ∀ j, j < l.length → w.cell? ⟨b, o + j, none⟩ = some (.int .u64 (l.getD j 0))) := by
    obtain ⟨ad, cap, hv, hcap⟩ := hsrc.shape
    rw [u64s_length] at hv hcap
    refine ⟨ad, cap, hv, hcap, fun hp => ?_⟩
    obtain ⟨b, o, cap', hv', _, hc⟩ := hsrc.cellsU (List.length_pos_iff.1 hp)
    rw [hv] at hv'
    simp only [Value.slice.injEq] at hv'
    exact ⟨b, o, hv'.1, hc⟩
  obtain ⟨ad, cap, rfl, hcap, hcells⟩ := hcells
  have Hsrc := hid hsrc
  clear hsrc
  have Hr := hid hr
  clear hr
  have hni : (l.length : Int) ≤ 2147483647 := by omega
  by_cases hpos : 0 < l.length
  · obtain ⟨b, o, rfl, hc⟩ := hcells hpos
    have hblt : b < w.heap.size := World.block_lt_of_cell? w _ (hc 0 hpos)
    have Hc := hid hc
    clear hc
    go_enter Try.func4, Try.ntmps4
    go_wp2_with fail
    go_loopw [3, 11] (fun v i wr => ∃ k : Nat, k ≤ l.length ∧ i = .int .i64 k ∧ Hid (Own wr w.heap.size v (encs (l.take k))) ∧ Below w.heap.size w wr) (fun _ i _ => l.length - (intOf i).toNat)
    case atStart => exact ⟨0, by omega, rfl, World.ownsRow_nil _ _ _ _, Below.refl _ _⟩
    case round =>
      obtain ⟨k, hk, rfl, hown, hbel⟩ := hrel
      by_cases hlt : k < l.length
      · have hcell : wr.cell? ⟨b, o + k, none⟩ = some (.int .u64 (l.getD k 0)) := (hbel.cell (p := ⟨b, o + k, none⟩) hblt).trans (Hc.out k hlt)
        have hx := Hr.out (l.getD k 0) (by rw [List.getD, List.getElem?_eq_getElem hlt]; exact List.getElem_mem hlt)
        have hlen := encs_length (l.take k)
        rw [List.length_take] at hlen
        obtain ⟨x, hxe⟩ : ∃ x, x = l.getD k 0 := ⟨_, rfl⟩
        rw [← hxe] at hcell hx
        have Hxe := hid hxe
        clear hxe
        have hxl := enc_length x
        go_wp2_with fail
        refine (sUint_any x wr hx.1 hx.2).mono ?_
        rintro e w2 ⟨v2, rfl, ho2, hb2⟩
        have Hown2 : Hid (Own w2 w.heap.size _ (encs (l.take k))) := Own.below hown.out hb2 (Nat.le_refl _)
        obtain ⟨a2, cap2, rfl, hcell2⟩ := ho2.at (List.length_pos_iff.1 (by omega))
        have Hc2 := hid hcell2
        have hsz := hb2.size
        have hsz0 := hbel.size
        clear ho2 hcell2 hown
        go_wp2_with (at_builtin; refine wpList_append_own _ rfl _ _ 24 rfl w.heap.size 5 i0 (.int .u8 0) 1 1 Try.underlying24 hi hz0 hz1 hz2 rfl (by decide) _ _ _ rfl Hown2.out a2 _ cap2 (u8s (enc x)) rfl ?c1 Hc2.out (u8s_oneCell _) ?c2 ?c3 (by omega) ?_)
        case c1 => rw [u8s_length, Nat.mul_one]
        case c2 => unfold maxLen; omega
        case c3 => omega
        intro v' w3 hown' hgrow _
        have Hown3 : Hid (Own w3 w.heap.size v' (encs (l.take (k + 1)))) := by
          rw [encs_take_succ l k hlt, ← Hxe.out]
          unfold Own
          rw [u8s_append, List.length_append]
          exact hown'
        have Hb3 := hid ((hbel.trans (hb2.mono hsz0)).grown hgrow (by omega) (fun j hj => (Hown2.out.lt j hj).1))
        clear hown' hgrow
        go_wp2_with fail
        go_roundw
        case rel => exact ⟨k + 1, by omega, by go_num, Hown3, Hb3.out⟩
        case measure => simp [intOf]; omega
      · obtain rfl : k = l.length := by omega
        rw [List.take_length] at hown
        have Hs := hid (Hsrc.out.below hbel (Nat.le_refl _))
        go_wp2_with fail
        refine (iUints_any _ l wr Hs.out Hr.out hn).mono ?_
        rintro e w2 ⟨v2, rfl, ho2, hb2⟩
        have Hh1 := hid ho2.holds
        have Hh2 := hid (Own.below hown.out hb2 (Nat.le_refl _)).holds
        clear ho2 hown
        go_wp2_with fail
        refine (equal_same v2 _ _ w2 Hh1.out Hh2.out).mono ?_
        rintro e w3 ⟨rfl, rfl⟩
        go_wp2_with fail
        go_ret
        exact ⟨rfl, hbel.trans (hb2.mono hbel.size)⟩
  · have hl : l = [] := List.length_eq_zero_iff.1 (by omega)
    subst hl
    clear hcells hpos
    go_enter Try.func4, Try.ntmps4
    go_wp2_with fail
    refine wp_loop_rounds 1 ?_
    rw [rounds_succ]
    go_wp2_with fail
    refine (iUints_any _ [] w Hsrc.out Hr.out hn).mono ?_
    rintro e w2 ⟨v2, rfl, ho2, hb2⟩
    have Hh1 := hid ho2.holds
    have Hh2 : Hid (Holds w2 (.slice none 0 0) (encs [])) := Own.holds (B := 0) (World.ownsRow_nil _ _ _ _)
    clear ho2
    go_wp2_with fail
    refine (equal_same v2 _ _ w2 Hh1.out Hh2.out).mono ?_
    rintro e w3 ⟨rfl, rfl⟩
    go_wp2_with fail
    go_ret
    exact ⟨rfl, hb2⟩

theorem range_of_wf {zs : List Int} (h : ∀ n ∈ zs, (Lit.int .u64 n).wf = true) : ∀ x ∈ zs, 0 ≤ x ∧ x ≤ 18446744073709551615 :=
  fun x hx => bounds_u64 (h x hx)

theorem IsRow.range {k : IntKind} {w : World} {a : Option Addr} {len cap : Nat} {zs : List Int} (h : IsRow k w a len cap zs) : ∀ n ∈ zs.take len, (Lit.int k n).wf = true := by
  rcases h with ⟨_, _, _, rfl⟩ | ⟨x, _, _, _, _, _, hw⟩
  · intro n hn; simp at hn
  · exact fun n hn => hw n (List.mem_of_mem_take hn)

theorem IsRow.length {k : IntKind} {w : World} {a : Option Addr} {len cap : Nat} {zs : List Int} (h : IsRow k w a len cap zs) : (zs.take len).length = len := by
  rcases h with ⟨_, rfl, _, rfl⟩ | ⟨x, _, _, _, _, _, _⟩
  · rfl
  · rw [List.length_take]; omega

theorem fnUints_walk (a0 : Option Addr) (len0 cap0 : Nat) (z0 : List Int) (w : World) (w0 : IsRow .u64 w a0 len0 cap0 z0) :
    Calls Try.prog 4 #[.slice a0 len0 cap0] w fun e w' => e = .returned (.bool true) ∧ Below w.heap.size w w' := by
  by_cases hl : 2147483647 < len0
  · exact fnUints_large _ w a0 len0 cap0 rfl hl
  · exact fnUints_small _ (z0.take len0) w (Src.of_row w0) (range_of_wf w0.range) (by rw [w0.length]; omega)
end Go.Proofs.Ytleddjhlpgemjaa
