/- PROVED: what ReadUints of the package and of the thin package answers of numbers that were written. Conditions: uint64 numbers; fewer than 3000000000 bytes. -/
import Derived.Test.YtleddjhlpgemjaaDoorRead
import Derived.Test.YtleddjhlpgemjaaDoorLaw
import Derived.Test.YtleddjhlpgemjaaDoorUints
import Derived.Test.YtleddjhlpgemjaaDoorBack
namespace Go.Proofs.YtleddjhlpgemjaaDoor
open Go.RowKit

/-- the decoder lies below N -/
structure Low (N D S : Nat) (ad : Option Addr) (l : List Int) : Prop where
  d : D < N
  s : S < N
  data : 0 < l.length → ∀ b o, ad = some ⟨b, o, none⟩ → b < N

theorem DS.isLow {w : World} {B D S : Nat} {ad : Option Addr} {cap : Nat} {l : List Int} {i : Nat} (h : DS w B D S ad cap l i) : Low w.heap.size D S ad l where
  d := World.block_lt_of_cell? _ _ h.s
  s := World.block_lt_of_cell? _ _ h.st
  data := fun hp b o ha => by
    obtain ⟨b', o', ha', _, hc⟩ := h.data hp
    rw [ha] at ha'
    simp only [Option.some.injEq, Addr.mk.injEq] at ha'
    obtain ⟨rfl, rfl, _⟩ := ha'
    exact World.block_lt_of_cell? _ _ (hc 0 hp)

theorem DS.low {w w' : World} {B D S N : Nat} {ad : Option Addr} {cap : Nat} {l : List Int} {i : Nat} (h : DS w B D S ad cap l i) (hN : Low N D S ad l) (hb : Below N w w') : DS w' B D S ad cap l i where
  bD := h.bD
  bS := h.bS
  ne := h.ne
  hcap := h.hcap
  hi := h.hi
  st := (hb.cell (p := ⟨S, 0, none⟩) hN.s).trans h.st
  s := (hb.cell (p := ⟨D, 0, none⟩) hN.d).trans h.s
  i := (hb.cell (p := ⟨D, 1, none⟩) hN.d).trans h.i
  f := (hb.frozen (p := ⟨D, 1, none⟩) hN.d).trans h.f
  data := fun hp => by
    obtain ⟨b, o, ha, hbD, hc⟩ := h.data hp
    exact ⟨b, o, ha, hbD, fun j hj => (hb.cell (p := ⟨b, o + j, none⟩) (hN.data hp b o ha)).trans (hc j hj)⟩

/-- an own row lies as it did where its block has not turned -/
theorem row_same {w w' : World} {N : Nat} {e : TypeId} {v : Value} {n : Nat} {xs : List Value} (h : w.ownsRow N e 1 v n xs) (hb : ∀ k, N ≤ k → k < w.heap.size → w'.heap[k]? = w.heap[k]?) : w'.ownsRow N e 1 v n xs := by
  refine ⟨h.1, ?_⟩
  rcases h.2 with h2 | ⟨g, cap, cur, h1, h2, h3, h4⟩
  · exact .inl h2
  · exact .inr ⟨g, cap, cur, h1, h2, by rw [hb g h2 (Array.getElem?_eq_some_iff.1 h3).1]; exact h3, h4⟩

theorem row_block {w : World} {N : Nat} {e : TypeId} {v : Value} {n : Nat} {xs : List Value} (h : w.ownsRow N e 1 v n xs) : ∀ k, v.ownBlock = some k → N ≤ k := by
  rcases h.2 with ⟨h1, h2⟩ | ⟨g, cap, cur, h1, h2, _⟩
  · exact fun k hk => by rw [h1] at hk; simp [Value.ownBlock] at hk
  · exact fun k hk => by rw [h1] at hk; simp [Value.ownBlock] at hk; omega

theorem encs_drop (xs : List Int) (k : Nat) (hk : k < xs.length) (t : List Int) : (encs xs ++ t).drop (encs (xs.take k)).length = enc (xs.getD k 0) ++ (encs (xs.drop (k + 1)) ++ t) := by
  have h : encs xs = encs (xs.take k) ++ (enc (xs.getD k 0) ++ encs (xs.drop (k + 1))) := by
    have e : xs = xs.take k ++ (xs[k] :: xs.drop (k + 1)) := by rw [← List.drop_eq_getElem_cons hk, List.take_append_drop]
    have e2 := congrArg encs e
    rw [e2, List.getD, List.getElem?_eq_getElem hk]
    unfold encs
    rw [List.flatMap_append, List.flatMap_cons]
    rfl
  rw [h, List.append_assoc, List.drop_left', List.append_assoc]
  rfl

set_option maxRecDepth 100000 in
theorem gReads_any (v : Value) (xs t : List Int) (w : World) (hsrc : Src w v (u8s (encs xs ++ t))) (hx : ∀ x ∈ xs, 0 ≤ x ∧ x ≤ 18446744073709551615) (hr : ∀ b ∈ encs xs ++ t, 0 ≤ b ∧ b < 256) (hl : (encs xs ++ t).length ≤ 3000000000) (hn : xs.length ≤ 65536) :
    Calls Tryd.prog 32 #[v, .int .i64 xs.length] w fun e w' => ∃ v', e = .returned (.tuple #[v', .int .i64 t.length, .bool true]) ∧ Src w' v' (u64s xs) ∧ Below w.heap.size w w' := by
  obtain ⟨i0, hi, hz0, hz1, hz2⟩ := info_parts Tryd.infoU64
  obtain ⟨ad, cap, rfl, _⟩ := hsrc.shape
  obtain ⟨l, hle⟩ : ∃ l, l = encs xs ++ t := ⟨_, rfl⟩
  have Hoff := hid (fun k hk => encs_drop xs k hk t)
  have Hstep := hid (encs_take_succ xs)
  have Hend : Hid ((l.length : Int) - (encs xs).length = t.length) := by rw [hle, List.length_append]; unfold Hid; omega
  rw [← hle] at hsrc hr hl Hoff ⊢
  have hcall := hid (newDec_any _ l w hsrc hl)
  have Hr := hid hr
  have Hx := hid hx
  clear hsrc hr hx hle
  rw [u8s_length] at hcall ⊢
  go_enter Tryd.func32, Tryd.ntmps32
  go_wp2_with fail
  refine hcall.out.mono ?_
  rintro e w1 ⟨D, S, ad1, cap1, rfl, hs1, hb1⟩
  have Hlow := hid hs1.isLow
  have Hs1 := hid hs1
  have hbD := hs1.bD
  have Hb1 := hid hb1
  clear hs1 hb1 hcall
  go_wp2_with fail
  go_loopw [4, 8] (fun v i wr => ∃ k : Nat, k ≤ xs.length ∧ i = .int .i64 k ∧ Hid (wr.ownsRow w1.heap.size 23 1 v (u64s (xs.take k)).length (u64s (xs.take k))) ∧ Hid (DS wr w.heap.size D S ad1 cap1 l (encs (xs.take k)).length) ∧ Hid (Below w.heap.size w wr) ∧ Hid (w1.heap.size ≤ wr.heap.size)) (fun _ i _ => xs.length - (intOf i).toNat)
  case atStart => exact ⟨0, by omega, rfl, World.ownsRow_nil _ _ _ _, Hs1, Hb1, Nat.le_refl _⟩
  case round =>
    obtain ⟨k, hk, rfl, hrow, hds, hbel, hsz⟩ := hrel
    by_cases hlt : k < xs.length
    · have hxk := Hx.out (xs.getD k 0) (by rw [List.getD, List.getElem?_eq_getElem hlt]; exact List.getElem_mem hlt)
      have hrd := rd_enc (xs.getD k 0) (encs (xs.drop (k + 1)) ++ t) hxk.1 hxk.2
      rw [← Hoff.out k hlt] at hrd
      have Hst : Hid (encs (xs.take (k + 1)) = encs (xs.take k) ++ enc (xs.getD k 0)) := Hstep.out k hlt
      have Htk : Hid (u64s (xs.take (k + 1)) = u64s (xs.take k) ++ u64s [xs.getD k 0]) := by
        unfold Hid u64s
        rw [List.take_succ_eq_append_getElem hlt, List.map_append, List.getD, List.getElem?_eq_getElem hlt]
        rfl
      have htl : (u64s (xs.take k)).length = k := by rw [u64s_length, List.length_take]; omega
      obtain ⟨x, hxe⟩ : ∃ x, x = xs.getD k 0 := ⟨_, rfl⟩
      rw [← hxe] at hrd hxk Hst Htk
      have Hrd := hid hrd
      clear hrd hxe
      go_wp2_with fail
      refine (read_ok w.heap.size D S ad1 cap1 l _ wr x _ hds.out hl Hr.out Hrd.out).mono ?_
      rintro e w2 ⟨rfl, hs2, ho2⟩
      rw [← List.length_append, ← Hst.out] at hs2
      have Hrow2 := hid (row_same hrow.out (w' := w2) (fun k hk1 hk2 => ho2.block k hk2 (by have := Hlow.out.d; omega)))
      have Hb2 := hid (hbel.out.trans (ho2.below hbD hbel.out.size))
      have Hs2 := hid hs2
      have hsz2 : Hid (w1.heap.size ≤ w2.heap.size) := Nat.le_trans hsz.out ho2.size
      clear hs2 ho2 Hrd
      obtain ⟨w3, hw3⟩ : ∃ w3, w3 = w2.alloc (.cells #[.int .u64 x] 23) := ⟨_, rfl⟩
      have Hb23 : Hid (Below w2.heap.size w2 w3) := by rw [hw3]; exact (Below.refl _ _).alloc (Nat.le_refl _) _
      have Hrow3 := hid (row_same Hrow2.out (w' := w3) (fun k _ hk2 => Hb23.out.block k hk2))
      have Hsrc3 : Hid (Src w3 (.slice (some ⟨w2.heap.size, 0, none⟩) 1 1) (u64s [x])) := by
        refine .inr ⟨⟨w2.heap.size, 0, none⟩, 1, rfl, Nat.le_refl _, .inr ⟨w2.heap.size, 0, rfl, fun j u hj => ?_⟩⟩
        rw [hw3, World.cell?_alloc_at _ _ _ _ rfl]
        match j with
        | 0 => simpa [u64s] using hj
        | j + 1 => simp [u64s] at hj
      have Hw3 := hid hw3
      clear hw3
      go_wp2_with (at_builtin; rw [← Hw3.out]; refine wpList_append_src rfl _ _ 35 rfl w1.heap.size 23 i0 (.int .u64 0) 8 Tryd.underlying35 hi hz0 hz1 hz2 rfl _ (u64s (xs.take k)) rfl Hrow3.out _ (u64s [x]) rfl Hsrc3.out (u64s_oneCell _) ?c1 ?c2 ?c3 ?_)
      case c1 => rw [htl]; unfold maxLen; simp [u64s]; omega
      case c2 => rw [htl]; simp [u64s]; omega
      case c3 => exact Nat.le_trans hsz2.out Hb23.out.size
      intro v4 w4 hrow4 hg4
      have hsz3 : w1.heap.size ≤ w3.heap.size := Nat.le_trans hsz2.out Hb23.out.size
      have hb34 : Below w1.heap.size w3 w4 := (Below.refl _ _).grown hg4 hsz3 (row_block Hrow3.out)
      have hb24 : Below w1.heap.size w2 w4 := (Hb23.out.mono hsz2.out).trans hb34
      have Hrow4 : Hid (w4.ownsRow w1.heap.size 23 1 v4 (u64s (xs.take (k + 1))).length (u64s (xs.take (k + 1)))) := by
        rw [Htk.out, List.length_append, htl]; exact hrow4
      have Hs4 := hid (Hs2.out.low Hlow.out hb24)
      have Hb4 := hid (Hb2.out.trans (hb24.mono Hb1.out.size))
      have Hsz4 : Hid (w1.heap.size ≤ w4.heap.size) := Nat.le_trans hsz3 hb34.size
      clear hrow4 hg4 hb34 hb24 Hrow3 Hsrc3 Hrow2 Hs2 Hb2
      go_wp2_with fail
      go_roundw
      case rel => exact ⟨k + 1, by omega, by go_num, Hrow4, Hs4, Hb4, Hsz4⟩
      case measure => simp [intOf]; omega
    · obtain rfl : k = xs.length := by omega
      rw [List.take_length] at hrow hds
      have c0 := hds.out.st
      have hlen := hid (dLen_any w.heap.size D S ad1 cap1 l _ wr hds.out hl)
      have Hv := hid (Src.of_owns hrow.out)
      rw [Hend.out] at hlen
      clear hds hrow
      go_wp2_with fail
      refine hlen.out.mono ?_
      rintro e w3 ⟨rfl, q, hw⟩
      obtain rfl := hw
      go_wp2_with fail
      exact bodyPost_ret (v := .tuple #[u4, .int .i64 t.length, .bool true]) (by simp [results, Tryd.results32, go_sem]) rfl ⟨u4, rfl, Hv.out.below (below_drewN (Below.refl _ _) q) (Nat.le_refl _), below_drewN hbel.out q⟩

theorem iReads_any (v : Value) (xs t : List Int) (w : World) (hsrc : Src w v (u8s (encs xs ++ t))) (hx : ∀ x ∈ xs, 0 ≤ x ∧ x ≤ 18446744073709551615) (hr : ∀ b ∈ encs xs ++ t, 0 ≤ b ∧ b < 256) (hl : (encs xs ++ t).length ≤ 3000000000) (hn : xs.length ≤ 65536) :
    Calls Tryd.prog 19 #[v, .int .i64 xs.length] w fun e w' => ∃ v', e = .returned (.tuple #[v', .int .i64 t.length, .bool true]) ∧ Src w' v' (u64s xs) ∧ Below w.heap.size w w' := by
  obtain ⟨i0, hi, hz0, hz1, hz2⟩ := info_parts Tryd.infoU8
  obtain ⟨ad, cap, rfl, _⟩ := hsrc.shape
  obtain ⟨l, hle⟩ : ∃ l, l = encs xs ++ t := ⟨_, rfl⟩
  have Hr := hid hr
  have Hx := hid hx
  have Hle := hid hle
  rw [← hle] at hsrc hl ⊢
  have Hsrc := hid hsrc
  clear hr hsrc hx hle
  rw [u8s_length] at Hsrc ⊢
  go_enter Tryd.func19, Tryd.ntmps19
  go_wp2_with (at_builtin; refine wpList_append_copy rfl _ _ 22 rfl 5 i0 (.int .u8 0) 1 Tryd.underlying22 hi hz0 hz1 hz2 rfl rfl _ (u8s l) rfl Hsrc.out (u8s_oneCell _) ?c1 ?c2 ?_)
  case c1 => rw [u8s_length]; unfold maxLen; omega
  case c2 => rw [u8s_length]; omega
  intro v1 w1 hown hgrow
  have Hs1 := hid (Src.of_owns hown)
  have hb1 := (Below.refl w.heap.size w).grown hgrow (Nat.le_refl _) (fun k hk => by simp at hk)
  clear hown hgrow
  go_wp2_with fail
  refine (gReads_any v1 xs t w1 (by rw [← Hle.out]; exact Hs1.out) Hx.out Hr.out (by rw [← Hle.out]; exact hl) hn).mono ?_
  rintro e w2 ⟨v2, rfl, hs2, hb2⟩
  have Hs2 := hid hs2
  clear hs2
  go_wp2_with fail
  exact bodyPost_ret (v := .tuple #[v2, .int .i64 t.length, .bool true]) (by simp [results, Tryd.results19, go_sem]) rfl ⟨v2, rfl, Hs2.out, hb1.trans (hb2.mono hb1.size)⟩
end Go.Proofs.YtleddjhlpgemjaaDoor
