/- PROVED: what encBuffer.writeByte and encBuffer.Write do to an encoder's buffer. Condition: the sum of the bytes is below 2^47. -/
import Derived.Test.YtleddjhlpgemjaaDoorEnc
namespace Go.Proofs.YtleddjhlpgemjaaDoor
open Go.RowKit

theorem cell_alloc_one (w : World) (v : Value) (t : TypeId) : ∀ j u, [v][j]? = some u → (w.alloc (.cells #[v] t)).cell? ((⟨w.heap.size, 0, none⟩ : Addr).add j) = some u := by
  intro j u hj
  match j, hj with
  | 0, hj => simp at hj; subst hj; simp [Addr.add]

theorem EncAt.mk' {w : World} {h n : Nat} {ks : List Value} {ad : Option Addr} {cap : Nat} (hn : ks.length = n) (hb : Blk w h) (hv : Vals w h (.slice ad n cap) ks) (hs : (w.cell? ⟨h, 0, none⟩).isSome = true) :
    EncAt (w.setCell ⟨h, 0, none⟩ (.slice ad n cap)) h ks := by
  subst hn
  obtain ⟨u, hu⟩ := Option.isSome_iff_exists.1 hs
  exact ⟨hb.setCell _ _ (by simp), ad, cap, World.cell?_setCell_same _ _ _ hu, hv.stored _⟩

theorem writeByte_any (h : Nat) (ks : List Value) (b : Int) (w : World) (he : EncAt w h ks) (hlen : ks.length + 1 ≤ 140737488355328) :
    Calls Tryd.prog 59 #[.pointer (some ⟨h, 0, none⟩), .int .u8 b] w fun e w' => e = .returned (.tuple #[]) ∧ EncAt w' h (ks ++ [.int .u8 b]) ∧ Below h w w' := by
  obtain ⟨hb, ad, cap, hd, hv⟩ := he
  have hbs := hb.size
  go_enter Tryd.func59, Tryd.ntmps59
  go_wp2_with (at_builtin; refine wpList_append_enc rfl _ _ rfl (hb.alloc _) (hv.alloc hb.size _) rfl ⟨w.heap.size, 0, none⟩ 1 1 [.int .u8 b] rfl rfl ?c1 ?c2 hlen ?_)
  case c1 => exact cell_alloc_one w _ _
  case c2 => intro u hu; simp at hu; subst hu; rfl
  intro ad' cap' w' hb' hh hv' hbel
  have hd' : w'.cell? ⟨h, 0, none⟩ = some (.slice ad ks.length cap) := by
    rw [hh, (Below.alloc (Below.refl (h + 2) w) hb.size _).cell (p := ⟨h, 0, none⟩) (by show h < h + 2; omega)]
    exact hd
  have hf' := hb'.headFree
  have Hend := hid (EncAt.mk' (by simp) hb' hv' (by rw [hd']; rfl))
  have Hbel := hid (((Below.alloc (Below.refl h w) (by omega) _).trans hbel).setCell (p := ⟨h, 0, none⟩) (Nat.le_refl h) (.slice ad' (ks.length + 1) cap'))
  clear hh hv' hbel
  go_wp2
  go_end0
  exact ⟨rfl, Hend.out, Hbel.out⟩

/-- Write of the cells 'news' that lie at 'ad0'. -/
theorem write_any (h : Nat) (ks : List Value) (ad0 : Addr) (m c : Nat) (news : List Value) (w : World) (he : EncAt w h ks) (hm : news.length = m) (hnews : ∀ j u, news[j]? = some u → w.cell? (ad0.add j) = some u) (h1 : ∀ u ∈ news, u.oneCell' = true)
    (hlen : ks.length + m ≤ 140737488355328) :
    Calls Tryd.prog 62 #[.pointer (some ⟨h, 0, none⟩), .slice (some ad0) m c] w fun e w' => (∃ v, e = .returned v) ∧ EncAt w' h (ks ++ news) ∧ Below h w w' := by
  obtain ⟨hb, ad, cap, hd, hv⟩ := he
  have hbs := hb.size
  have Hn := hid hnews
  have H1 := hid h1
  have Hm := hid hm
  clear hnews h1 hm
  go_enter Tryd.func62, Tryd.ntmps62
  go_wp2_with (at_builtin; refine wpList_append_enc rfl _ _ rfl hb hv rfl ad0 m c news rfl Hm.out Hn.out H1.out hlen ?_)
  intro ad' cap' w' hb' hh hv' hbel
  have hd' : w'.cell? ⟨h, 0, none⟩ = some (.slice ad ks.length cap) := by
    rw [hh]
    try exact hd
  have hf' := hb'.headFree
  have Hend := hid (EncAt.mk' (by simp) hb' hv' (by rw [hd']; rfl))
  have Hbel := hid (hbel.setCell (p := ⟨h, 0, none⟩) (Nat.le_refl h) (.slice ad' (ks.length + news.length) cap'))
  clear hh hv' hbel
  go_wp2
  go_ret2
  exact ⟨⟨_, rfl⟩, Hend.out, Hbel.out⟩
end Go.Proofs.YtleddjhlpgemjaaDoor
