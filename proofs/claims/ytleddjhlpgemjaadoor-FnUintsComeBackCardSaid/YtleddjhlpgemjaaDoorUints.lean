/- PROVED: Uints of the package and of the thin package hands back a new slice of the bytes of the numbers, one behind the other. Conditions: uint64 numbers, fewer than 2^31 of them. -/
import Derived.Test.YtleddjhlpgemjaaDoorSlices
import Derived.Test.YtleddjhlpgemjaaDoorUint
namespace Go.Proofs.YtleddjhlpgemjaaDoor
open Go.RowKit

/-- Numbers written one behind the other. -/
def encs (l : List Int) : List Int := l.flatMap enc
/-- a list of numbers as the cells that hold them -/
def u64s (l : List Int) : List Value := l.map (Value.int .u64)
theorem u64s_length (l : List Int) : (u64s l).length = l.length := by simp [u64s]
theorem u64s_oneCell (l : List Int) : ∀ u ∈ u64s l, u.oneCell' = true := by
  intro u hu
  simp only [u64s, List.mem_map] at hu
  obtain ⟨a, _, rfl⟩ := hu
  rfl
theorem u64s_getD (l : List Int) (j : Nat) (hj : j < l.length) : (u64s l)[j]? = some (.int .u64 (l.getD j 0)) := by
  simp [u64s, List.getD, List.getElem?_eq_getElem hj]

theorem encs_length (l : List Int) : (encs l).length ≤ 9 * l.length := by
  induction l with
  | nil => simp [encs]
  | cons x l ih =>
    have := enc_length x
    simp only [encs, List.flatMap_cons, List.length_append, List.length_cons] at ih ⊢
    omega

theorem encs_take_succ (l : List Int) (k : Nat) (hk : k < l.length) : encs (l.take (k + 1)) = encs (l.take k) ++ enc (l.getD k 0) := by
  rw [List.take_succ_eq_append_getElem hk, encs, List.flatMap_append, List.getD, List.getElem?_eq_getElem hk]
  simp [encs]

theorem Tryd.infoU64 : (Tryd.prog.info? 23).map (fun i => (i.zero, i.size, i.bytes)) = some (some (.int .u64 0), 1, 8) := by kernel_rfl

theorem Src.cellsU {w : World} {v : Value} {l : List Int} (h : Src w v (u64s l)) (hne : l ≠ []) : ∃ b o cap, v = .slice (some ⟨b, o, none⟩) l.length cap ∧ l.length ≤ cap ∧ ∀ j, j < l.length → w.cell? ⟨b, o + j, none⟩ = some (.int .u64 (l.getD j 0)) := by
  rcases h with ⟨_, hl⟩ | ⟨a, cap, rfl, hle, hl | ⟨b, o, rfl, hc⟩⟩
  · exact absurd (by simpa [u64s] using hl) hne
  · exact absurd (by simpa [u64s] using hl) hne
  · rw [u64s_length] at hle ⊢
    exact ⟨b, o, cap, rfl, hle, fun j hj => hc j _ (u64s_getD l j hj)⟩

theorem Vals.src {w : World} {h : Nat} {v : Value} {ks : List Value} (hv : Vals w h v ks) : Src w v ks := by
  rcases hv with ⟨hle, rfl, hc⟩ | ⟨_, hown⟩
  · exact .inr ⟨_, 64, rfl, hle, .inr ⟨h, 1, rfl, fun j u hj => (hc j (List.getElem?_eq_some_iff.1 hj).1).trans hj⟩⟩
  · exact Src.of_owns hown

theorem gUints_any (v : Value) (l : List Int) (w : World) (hsrc : Src w v (u64s l)) (hr : ∀ x ∈ l, 0 ≤ x ∧ x ≤ 18446744073709551615) (hn : l.length ≤ 2147483647) :
    Calls Tryd.prog 33 #[v] w fun e w' => ∃ v', e = .returned v' ∧ Own w' w.heap.size v' (encs l) ∧ Below w.heap.size w w' := by
  obtain ⟨i0, hi, hz0, hz1, hz2⟩ := info_parts Tryd.infoU8
  have hel := encs_length l
  have hcells : ∃ ad cap, v = .slice ad l.length cap ∧ l.length ≤ cap ∧ (0 < l.length → ∃ b o, ad = some ⟨b, o, none⟩ ∧ ∀ j, j < l.length → w.cell? ⟨b, o + j, none⟩ = some (.int .u64 (l.getD j 0))) := by
    obtain ⟨ad, cap, hv, hcap⟩ := hsrc.shape
    rw [u64s_length] at hv hcap
    refine ⟨ad, cap, hv, hcap, fun hp => ?_⟩
    obtain ⟨b, o, cap', hv', _, hc⟩ := hsrc.cellsU (List.length_pos_iff.1 hp)
    rw [hv] at hv'
    simp only [Value.slice.injEq] at hv'
    exact ⟨b, o, hv'.1, hc⟩
  obtain ⟨ad, cap, rfl, hcap, hcells⟩ := hcells
  clear hsrc
  -- the end, for every way out of the loop
  by_cases hpos : 0 < l.length
  · obtain ⟨b, o, rfl, hc⟩ := hcells hpos
    have hblt : b < w.heap.size := World.block_lt_of_cell? w _ (hc 0 hpos)
    have Hc := hid hc
    clear hc
    have Hr := hid hr
    clear hcells hr
    go_enter Tryd.func33, Tryd.ntmps33
    go_wp2_with fail
    refine (newEnc_any w).mono ?_
    rintro e w1 ⟨rfl, he1, hb1⟩
    have He1 := hid he1
    clear he1
    go_wp2_with fail
    go_loopw [9] (fun i wr => ∃ k : Nat, k ≤ l.length ∧ i = .int .i64 k ∧ Hid (EncAt wr w.heap.size (u8s (encs (l.take k)))) ∧ Below w.heap.size w wr) (fun i _ => l.length - (intOf i).toNat)
    case atStart => exact ⟨0, by omega, rfl, He1, hb1⟩
    case round =>
      obtain ⟨k, hk, rfl, hen, hbel⟩ := hrel
      by_cases hlt : k < l.length
      · have hcell : wr.cell? ⟨b, o + k, none⟩ = some (.int .u64 (l.getD k 0)) := (hbel.cell (p := ⟨b, o + k, none⟩) hblt).trans (Hc.out k hlt)
        have hx := Hr.out (l.getD k 0) (by rw [List.getD, List.getElem?_eq_getElem hlt]; exact List.getElem_mem hlt)
        have hlen := encs_length (l.take k)
        rw [List.length_take] at hlen
        obtain ⟨x, hxe⟩ : ∃ x, x = l.getD k 0 := ⟨_, rfl⟩
        rw [← hxe] at hcell hx
        have Hxe := hid hxe
        clear hxe
        go_wp2_with fail
        refine (encU_any w.heap.size _ x wr hen.out hx.1 hx.2 (by rw [u8s_length]; omega)).mono ?_
        rintro e w2 ⟨rfl, he2, hb2⟩
        have He2 : Hid (EncAt w2 w.heap.size (u8s (encs (l.take (k + 1))))) := by
          rw [encs_take_succ l k hlt, ← Hxe.out, u8s_append]; exact he2
        have Hb2 := hid (hbel.trans hb2)
        clear he2 hb2
        go_wp2_with fail
        go_roundw
        case rel => exact ⟨k + 1, by omega, by go_num, He2, Hb2.out⟩
        case measure => simp [intOf]; omega
      · obtain rfl : k = l.length := by omega
        rw [List.take_length] at hen
        obtain ⟨hbk, ad2, cap2, hd, hv⟩ := hen.out
        have hst := hbk.st
        have Hv := hid hv.src
        clear hbk hv hen
        go_wp2_with fail
        refine (ebytes_any w.heap.size _ _ hd).mono ?_
        rintro e w2 ⟨rfl, rfl⟩
        go_wp2_with (at_builtin; refine wpList_append_copy rfl _ _ 22 rfl 5 i0 (.int .u8 0) 1 Tryd.underlying22 hi hz0 hz1 hz2 rfl rfl _ (u8s (encs l)) rfl Hv.out (u8s_oneCell _) ?c1 ?c2 ?_)
        case c1 => rw [u8s_length]; unfold maxLen; omega
        case c2 => rw [u8s_length]; omega
        intro v' w3 hown hgrow
        have Hown : Hid (Own w3 w.heap.size v' (encs l)) := by rw [u8s_length] at hown; exact ownsRow_mono hown hbel.size
        have Hbel := hid (hbel.grown hgrow hbel.size (fun k hk => by simp at hk))
        clear hown hgrow
        go_wp2_with fail
        go_ret
        exact ⟨_, rfl, Hown.out, Hbel.out⟩
  · have hl : l = [] := List.length_eq_zero_iff.1 (by omega)
    subst hl
    clear hr hcells hpos
    go_enter Tryd.func33, Tryd.ntmps33
    go_wp2_with fail
    refine (newEnc_any w).mono ?_
    rintro e w1 ⟨rfl, he1, hb1⟩
    obtain ⟨hbk, ad2, cap2, hd, hv⟩ := he1
    have hst := hbk.st
    have Hv := hid hv.src
    have hbel := hb1
    clear hbk hv hb1
    go_wp2_with fail
    refine wp_loop_rounds 1 ?_
    rw [rounds_succ]
    go_wp2_with fail
    refine (ebytes_any w.heap.size _ _ hd).mono ?_
    rintro e w2 ⟨rfl, rfl⟩
    go_wp2_with (at_builtin; refine wpList_append_copy rfl _ _ 22 rfl 5 i0 (.int .u8 0) 1 Tryd.underlying22 hi hz0 hz1 hz2 rfl rfl _ [] rfl Hv.out (fun u hu => by simp at hu) ?c1 ?c2 ?_)
    case c1 => simp
    case c2 => simp
    intro v' w3 hown hgrow
    have Hown : Hid (Own w3 w.heap.size v' (encs [])) := ownsRow_mono hown hbel.size
    have Hbel := hid (hbel.grown hgrow hbel.size (fun k hk => by simp at hk))
    clear hown hgrow
    go_wp2_with fail
    go_ret
    exact ⟨_, rfl, Hown.out, Hbel.out⟩

theorem iUints_any (v : Value) (l : List Int) (w : World) (hsrc : Src w v (u64s l)) (hr : ∀ x ∈ l, 0 ≤ x ∧ x ≤ 18446744073709551615) (hn : l.length ≤ 2147483647) :
    Calls Tryd.prog 20 #[v] w fun e w' => ∃ v', e = .returned v' ∧ Own w' w.heap.size v' (encs l) ∧ Below w.heap.size w w' := by
  obtain ⟨i0, hi, hz0, hz1, hz2⟩ := info_parts Tryd.infoU64
  obtain ⟨ad, cap, rfl, _⟩ := hsrc.shape
  have Hsrc := hid hsrc
  have Hr := hid hr
  clear hr hsrc
  rw [u64s_length] at Hsrc ⊢
  go_enter Tryd.func20, Tryd.ntmps20
  go_wp2_with (at_builtin; refine wpList_append_copy rfl _ _ 35 rfl 23 i0 (.int .u64 0) 8 Tryd.underlying35 hi hz0 hz1 hz2 rfl rfl _ (u64s l) rfl Hsrc.out (u64s_oneCell _) ?c1 ?c2 ?_)
  case c1 => rw [u64s_length]; unfold maxLen; omega
  case c2 => rw [u64s_length]; omega
  intro v' w1 hown hgrow
  have Hs := hid (Src.of_owns hown)
  have hb1 := (Below.refl w.heap.size w).grown hgrow (Nat.le_refl _) (fun k hk => by simp at hk)
  clear hown hgrow
  go_wp2_with fail
  refine (gUints_any v' l w1 Hs.out Hr.out hn).mono ?_
  rintro e w2 ⟨v2, rfl, ho, hb2⟩
  have Ho : Hid (Own w2 w.heap.size v2 (encs l)) := ownsRow_mono ho hb1.size
  clear ho
  go_wp2_with fail
  go_ret
  exact ⟨_, rfl, Ho.out, hb1.trans (hb2.mono hb1.size)⟩
end Go.Proofs.YtleddjhlpgemjaaDoor
