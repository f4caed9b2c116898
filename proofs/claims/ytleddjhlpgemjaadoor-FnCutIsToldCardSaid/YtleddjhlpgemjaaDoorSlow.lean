/- PROVED: ReadUintSlow of the package and of the thin package tells what 'rd' tells. Conditions: bytes, fewer than 2^31; the error variables hold errors. -/
import Derived.Test.YtleddjhlpgemjaaDoorDecR
namespace Go.Proofs.YtleddjhlpgemjaaDoor
open Go.RowKit

def z9 : Array Value := #[.int .u8 0, .int .u8 0, .int .u8 0, .int .u8 0, .int .u8 0, .int .u8 0, .int .u8 0, .int .u8 0, .int .u8 0]

theorem rs_start (w : World) (B : Nat) (ad : Option Addr) (n cap : Nat) (l : List Int) (hn : n = l.length) (ho : w.ownsRow B 5 1 (.slice ad n cap) l.length (u8s l)) :
    RS ((w.alloc (.cells #[.slice ad n cap, .int .i64 0, .int .i64 (-1)] 79)).alloc (.cells z9 50)) w.heap.size ad cap l 0 := by
  subst hn
  have hs : (w.alloc (.cells #[.slice ad l.length cap, .int .i64 0, .int .i64 (-1)] 79)).heap.size = w.heap.size + 1 := World.size_alloc _ _
  have c0 : ∀ i, ((w.alloc (.cells #[.slice ad l.length cap, .int .i64 0, .int .i64 (-1)] 79)).alloc (.cells z9 50)).cell? ⟨w.heap.size, i, none⟩ = (#[.slice ad l.length cap, .int .i64 0, .int .i64 (-1)] : Array Value)[i]? := fun i => by
    rw [World.cell?_alloc_past _ w.heap.size i (by omega), World.cell?_alloc_at _ _ _ _ rfl]
  have c1 : ∀ i, ((w.alloc (.cells #[.slice ad l.length cap, .int .i64 0, .int .i64 (-1)] 79)).alloc (.cells z9 50)).cell? ⟨w.heap.size + 1, i, none⟩ = z9[i]? := fun i => by
    rw [World.cell?_alloc_at _ _ _ _ hs.symm]
  have f0 : ∀ i, ((w.alloc (.cells #[.slice ad l.length cap, .int .i64 0, .int .i64 (-1)] 79)).alloc (.cells z9 50)).frozen? ⟨w.heap.size, i, none⟩ = false := fun i => by
    rw [World.frozen?_alloc_past _ w.heap.size i (by omega), World.frozen?_alloc_at _ _ _ _ rfl]
  have f1 : ∀ i, ((w.alloc (.cells #[.slice ad l.length cap, .int .i64 0, .int .i64 (-1)] 79)).alloc (.cells z9 50)).frozen? ⟨w.heap.size + 1, i, none⟩ = false := fun i => by
    rw [World.frozen?_alloc_at _ _ _ _ hs.symm]
  have hle : l.length ≤ cap := by
    rcases ho.2 with ⟨h1, h2⟩ | ⟨g, cap', _, h1, _, _, h2, _⟩
    · simp only [Value.slice.injEq] at h1; omega
    · simp only [Value.slice.injEq] at h1; omega
  refine ⟨by rw [World.size_alloc, hs]; omega, hle, by rw [c0]; rfl, by rw [c0]; rfl, by rw [c0]; rfl, f0 1, f0 2, fun j hj => ⟨?_, f1 j⟩, fun hp => ?_⟩
  · rw [c1]
    have : j = 0 ∨ j = 1 ∨ j = 2 ∨ j = 3 ∨ j = 4 ∨ j = 5 ∨ j = 6 ∨ j = 7 ∨ j = 8 := by omega
    rcases this with rfl | rfl | rfl | rfl | rfl | rfl | rfl | rfl | rfl <;> rfl
  · have ho0 := ho
    rcases ho.2 with ⟨_, h2⟩ | ⟨g, cap', _, h1, _, hg, _⟩
    · omega
    · simp only [Value.slice.injEq] at h1
      obtain ⟨rfl, _, rfl⟩ := h1
      have hlt : g < w.heap.size := (Array.getElem?_eq_some_iff.1 hg).1
      refine ⟨g, 0, rfl, hlt, fun j hj => ?_⟩
      have := ho0.cells (g := g) rfl j _ (u8s_getD l j hj)
      rw [Addr.add_lit] at this
      rw [World.cell?_alloc_past _ g (0 + j) (by omega), World.cell?_alloc_past _ g (0 + j) hlt]
      exact this

theorem gReadSlow_any (v : Value) (l : List Int) (w : World) (aE aU aB : Addr) (hsrc : Src w v (u8s l)) (he : Errs w w.heap.size aE aU aB) (hl : l.length ≤ 3000000000) (hr : ∀ x ∈ l, 0 ≤ x ∧ x < 256) :
    Calls Tryd.prog 28 #[v] w fun e w' => ∃ (x wd rest : Int) (ok : Bool), e = .returned (.tuple #[.int .u64 x, .int .i64 wd, .int .i64 rest, .bool ok]) ∧ Tells l x wd rest ok ∧ Below w.heap.size w w' := by
  obtain ⟨i0, hi, hz0, hz1, hz2⟩ := info_parts Tryd.infoU8
  obtain ⟨ad, cap, rfl, _⟩ := hsrc.shape
  have Hsrc := hid hsrc
  have Hr := hid hr
  have He := hid he
  clear hr hsrc he
  rw [u8s_length] at Hsrc ⊢
  go_enter Tryd.func28, Tryd.ntmps28
  go_wp2_with (at_builtin; refine wpList_append_copy rfl _ _ 22 rfl 5 i0 (.int .u8 0) 1 Tryd.underlying22 hi hz0 hz1 hz2 rfl rfl _ (u8s l) rfl Hsrc.out (u8s_oneCell _) ?c1 ?c2 ?_)
  case c1 => rw [u8s_length]; unfold maxLen; omega
  case c2 => rw [u8s_length]; omega
  intro v1 w1 hown hgrow
  rw [u8s_length] at hown
  obtain ⟨ad1, cap1, rfl, _⟩ := (show Own w1 w.heap.size v1 l from hown).holds.shape
  have Hown := hid hown
  have hb1 := (Below.refl w.heap.size w).grown hgrow (Nat.le_refl _) (fun k hk => by simp at hk)
  clear hown hgrow
  go_wp2_with fail
  refine (newReader_any _ ad1 l.length cap1 rfl w1).mono ?_
  rintro e w2 ⟨rfl, hw2⟩
  obtain rfl := hw2
  go_wp2_with fail
  have hb2 : Below w.heap.size w ((w1.alloc (.cells #[.slice ad1 l.length cap1, .int .i64 0, .int .i64 (-1)] 79)).alloc (.cells z9 50)) := (hb1.alloc hb1.size _).alloc (by rw [World.size_alloc]; have := hb1.size; omega) _
  have hsz := hb1.size
  refine (decR_any w1.heap.size ad1 cap1 l _ aE aU aB (rs_start w1 w.heap.size ad1 l.length cap1 l rfl Hown.out) ((He.out.below hb2).mono hsz) hl Hr.out).mono ?_
  rintro e w3 ⟨x, wd, err, i, rfl, hil, hs3, hb3, herr⟩
  have Hb := hid (hb2.trans (hb3.mono hsz))
  have Hs3 := hid hs3
  clear hb2 hb3 hs3 Hown He Hsrc
  rcases herr with ⟨rfl, ht⟩ | ⟨⟨a, rfl⟩, hnone⟩
  · have Ht := hid ht
    clear ht
    go_wp2_with fail
    go_quiet ((go_at_call 41; refine Calls.quiet_of (rLen_any w1.heap.size ad1 cap1 l i _ Hs3.out.s Hs3.out.i hil hl)))
    go_wp2
    exact bodyPost_ret (v := .tuple #[.int .u64 x, .int .i64 wd, .int .i64 ((l.length - i : Nat) : Int), .bool true]) (by simp [results, Tryd.results28, go_sem]) rfl ⟨x, wd, _, true, rfl, Ht.out, below_drewN Hb.out _⟩
  · have Ht : Hid (∀ rest, Tells l x wd rest false) := fun rest => by unfold Tells; rw [hnone]
    clear hnone
    go_wp2_with fail
    go_quiet ((go_at_call 41; refine Calls.quiet_of (rLen_any w1.heap.size ad1 cap1 l i _ Hs3.out.s Hs3.out.i hil hl)))
    go_wp2
    exact bodyPost_ret (v := .tuple #[.int .u64 x, .int .i64 wd, .int .i64 ((l.length - i : Nat) : Int), .bool false]) (by simp [results, Tryd.results28, go_sem]) rfl ⟨x, wd, _, false, rfl, Ht.out _, below_drewN Hb.out _⟩

theorem iReadSlow_any (v : Value) (l : List Int) (w : World) (aE aU aB : Addr) (hsrc : Src w v (u8s l)) (he : Errs w w.heap.size aE aU aB) (hl : l.length ≤ 3000000000) (hr : ∀ x ∈ l, 0 ≤ x ∧ x < 256) :
    Calls Tryd.prog 13 #[v] w fun e w' => ∃ (x wd rest : Int) (ok : Bool), e = .returned (.tuple #[.int .u64 x, .int .i64 wd, .int .i64 rest, .bool ok]) ∧ Tells l x wd rest ok ∧ Below w.heap.size w w' := by
  obtain ⟨i0, hi, hz0, hz1, hz2⟩ := info_parts Tryd.infoU8
  obtain ⟨ad, cap, rfl, _⟩ := hsrc.shape
  have Hsrc := hid hsrc
  have Hr := hid hr
  have He := hid he
  clear hr hsrc he
  rw [u8s_length] at Hsrc ⊢
  go_enter Tryd.func13, Tryd.ntmps13
  go_wp2_with (at_builtin; refine wpList_append_copy rfl _ _ 22 rfl 5 i0 (.int .u8 0) 1 Tryd.underlying22 hi hz0 hz1 hz2 rfl rfl _ (u8s l) rfl Hsrc.out (u8s_oneCell _) ?c1 ?c2 ?_)
  case c1 => rw [u8s_length]; unfold maxLen; omega
  case c2 => rw [u8s_length]; omega
  intro v1 w1 hown hgrow
  have Hs1 := hid (Src.of_owns hown)
  have hb1 := (Below.refl w.heap.size w).grown hgrow (Nat.le_refl _) (fun k hk => by simp at hk)
  have He1 := hid ((He.out.below hb1).mono hb1.size)
  clear hown hgrow
  go_wp2_with fail
  refine (gReadSlow_any v1 l w1 aE aU aB Hs1.out He1.out hl Hr.out).mono ?_
  rintro e w2 ⟨x, wd, rest, ok, rfl, ht, hb2⟩
  have Ht := hid ht
  clear ht
  go_wp2_with fail
  exact bodyPost_ret (v := .tuple #[.int .u64 x, .int .i64 wd, .int .i64 rest, .bool ok]) (by simp [results, Tryd.results13, go_sem]) rfl ⟨x, wd, rest, ok, rfl, Ht.out, hb1.trans (hb2.mono hb1.size)⟩
end Go.Proofs.YtleddjhlpgemjaaDoor
