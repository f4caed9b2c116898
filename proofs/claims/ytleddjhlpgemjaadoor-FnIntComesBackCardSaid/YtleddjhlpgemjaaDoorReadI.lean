/- PROVED: what ReadInt of the package and of the thin package answers; the reference's Unfold. Conditions: as for ReadUint. -/
import Derived.Test.YtleddjhlpgemjaaDoorRead
import Derived.Test.YtleddjhlpgemjaaDoorBits
import Derived.Test.YtleddjhlpgemjaaDoorLaw
namespace Go.Proofs.YtleddjhlpgemjaaDoor
open Go.RowKit

/-- the signed integer in an unsigned one -/
def unf (x : Int) : Int := if x % 2 = 1 then -1 - x / 2 else x / 2

theorem unf_fold (a : Int) : unf (fold a) = a := by
  unfold unf fold
  by_cases c : a < 0
  · rw [if_pos c, if_pos (by omega)]; omega
  · rw [if_neg c, if_neg (by omega)]; omega

theorem u64_and1 (x : Int) (h0 : 0 ≤ x) (h1 : x < 18446744073709551616) : bits .and .u64 x 1 = x % 2 := by
  obtain ⟨n, rfl⟩ := Int.eq_ofNat_of_zero_le h0
  show IntKind.u64.wrap ((BitVec.ofInt 64 (n : Int) &&& BitVec.ofInt 64 1).toNat : Int) = _
  have h : BitVec.ofInt 64 1 = 1#64 := by decide
  rw [h, BitVec.toNat_and, ofInt_u64 n (by omega), IntKind.wrap_u64]
  simp
  omega

theorem sUnfold_any (x : Int) (w : World) (h0 : 0 ≤ x) (h1 : x ≤ 18446744073709551615) :
    Calls Tryd.prog 18 #[.int .u64 x] w fun e w' => e = .returned (.int .i64 (unf x)) ∧ w' = w := by
  have ha := u64_and1 x h0 (by omega)
  have hn := i64_not' (x / 2) (by omega) (by omega)
  by_cases c : x % 2 = 1
  · have hid1 : Hid (unf x = -1 - x / 2) := by unfold Hid unf; rw [if_pos c]
    go_enter Tryd.func18, Tryd.ntmps18
    go_wp2
    go_ret
    refine ⟨?_, rfl⟩
    rw [hid1.out]
    rfl
  · have hid1 : Hid (unf x = x / 2) := by unfold Hid unf; rw [if_neg c]
    have c' : x % 2 = 0 := by omega
    go_enter Tryd.func18, Tryd.ntmps18
    go_wp2
    go_ret
    refine ⟨?_, rfl⟩
    rw [hid1.out]
    rfl
theorem decI_ok (B D S : Nat) (ad : Option Addr) (cap : Nat) (l : List Int) (i : Nat) (w : World) (x : Int) (n : Nat) (hs : DS w B D S ad cap l i) (hl : l.length ≤ 3000000000) (hr : ∀ x ∈ l, 0 ≤ x ∧ x < 256) (hrd : rd (l.drop i) = some (x, n)) :
    Calls Tryd.prog 58 #[.pointer (some ⟨S, 0, none⟩)] w fun e w' => e = .returned (.int .i64 (unf x)) ∧ DS w' B D S ad cap l (i + n) ∧ Only D w w' := by
  have hb := rd_bounds (l.drop i) x n (fun b hb => hr b (List.mem_of_mem_drop hb)) hrd
  have h0 : 0 ≤ x := hb.2.2.2.1
  have h1 : x ≤ 18446744073709551615 := hb.2.2.2.2
  have hcall := hid (decU_ok B D S ad cap l i w x n hs hl hr hrd)
  have ha := u64_and1 x h0 (by omega)
  have hn := i64_not' (x / 2) (by omega) (by omega)
  clear hs hr hrd hb
  by_cases c : x % 2 = 1
  · have hid1 : Hid (unf x = -1 - x / 2) := by unfold Hid unf; rw [if_pos c]
    go_enter Tryd.func58, Tryd.ntmps58
    go_wp2_with fail
    refine hcall.out.mono ?_
    rintro e w1 ⟨rfl, hs1, ho1⟩
    have Hs1 := hid hs1
    have Ho1 := hid ho1
    clear hs1 ho1 hcall
    go_wp2_with fail
    go_ret
    refine ⟨?_, Hs1.out, Ho1.out⟩
    rw [hid1.out]
    rfl
  · have hid1 : Hid (unf x = x / 2) := by unfold Hid unf; rw [if_neg c]
    have c' : x % 2 = 0 := by omega
    go_enter Tryd.func58, Tryd.ntmps58
    go_wp2_with fail
    refine hcall.out.mono ?_
    rintro e w1 ⟨rfl, hs1, ho1⟩
    have Hs1 := hid hs1
    have Ho1 := hid ho1
    clear hs1 ho1 hcall
    go_wp2_with fail
    go_ret
    refine ⟨?_, Hs1.out, Ho1.out⟩
    rw [hid1.out]
    rfl

theorem decI_none (B D S : Nat) (ad : Option Addr) (cap : Nat) (l : List Int) (i : Nat) (w : World) (aE aB : Addr) (hs : DS w B D S ad cap l i) (hl : l.length ≤ 3000000000) (hr : ∀ x ∈ l, 0 ≤ x ∧ x < 256) (hrd : rd (l.drop i) = none)
    (hE : w.cell? ⟨1, 0, none⟩ = some (.iface 107 (.pointer (some aE)))) (hB : w.cell? ⟨0, 0, none⟩ = some (.iface 107 (.pointer (some aB)))) (hgB : 0 < B) :
    Calls Tryd.prog 58 #[.pointer (some ⟨S, 0, none⟩)] w fun e w' => Gob e ∧ Only D w w' := by
  have hcall := hid (decU_none B D S ad cap l i w aE aB hs hl hr hrd hE hB hgB)
  clear hs hr hrd hE hB
  go_enter Tryd.func58, Tryd.ntmps58
  go_wp2_with fail
  refine hcall.out.mono ?_
  rintro e w1 ⟨⟨a, rfl⟩, ho1⟩
  have Ho1 := hid ho1
  clear ho1 hcall
  go_wp2_with fail
  exact ⟨rfl, ⟨_, rfl⟩, Ho1.out⟩

theorem readI_ok (B D S : Nat) (ad : Option Addr) (cap : Nat) (l : List Int) (i : Nat) (w : World) (x : Int) (n : Nat) (hs : DS w B D S ad cap l i) (hl : l.length ≤ 3000000000) (hr : ∀ x ∈ l, 0 ≤ x ∧ x < 256) (hrd : rd (l.drop i) = some (x, n)) :
    Calls Tryd.prog 45 #[.pointer (some ⟨S, 0, none⟩)] w fun e w' => e = .returned (.tuple #[.int .i64 (unf x), .nilIface]) ∧ DS w' B D S ad cap l (i + n) ∧ Only D w w' := by
  have Hs := hid hs
  have hcall := hid (decI_ok B D S ad cap l i (w.alloc (.cells #[.nilIface] 52)) x n (hs.alloc _) hl hr hrd)
  have hD : D < w.heap.size := World.block_lt_of_cell? _ _ hs.s
  have hS : S < w.heap.size := World.block_lt_of_cell? _ _ hs.st
  clear hs hr hrd
  go_enter_defers Tryd.func45, Tryd.ntmps45
  go_wp2_with fail
  refine hcall.out.mono ?_
  rintro e w1 ⟨rfl, hs1, ho1⟩
  have c1 : w1.cell? ⟨w.heap.size, 0, none⟩ = some .nilIface := ho1.cell (p := ⟨w.heap.size, 0, none⟩) (by show w.heap.size ≠ D; omega) (by rw [World.cell?_alloc_at _ _ _ _ rfl]; rfl)
  have z1 : w1.frozen? ⟨w.heap.size, 0, none⟩ = false := (ho1.frozen (p := ⟨w.heap.size, 0, none⟩) (by show w.heap.size ≠ D; omega) (by rw [World.size_alloc]; exact Nat.lt_succ_self _)).trans (World.frozen?_alloc_at _ _ _ _ rfl)
  have Hs1 := hid hs1
  have Ho1 := hid ho1
  clear hs1 ho1 hcall
  go_wp2_with fail
  refine leaves_cons (f := 56) (args := #[.pointer (some ⟨w.heap.size, 0, none⟩)]) (by simp) (by simp [go_sem]) ?_
  refine (catch_idle ⟨w.heap.size, 0, none⟩ _).mono ?_
  rintro e u' w'' ⟨rfl, rfl, rfl⟩
  have c2 : (w1.setCell ⟨w.heap.size, 0, none⟩ .nilIface).cell? ⟨w.heap.size, 0, none⟩ = some .nilIface := World.cell?_setCell_same _ _ _ c1
  obtain ⟨f1, f2, f3⟩ := Hs.out.far w.heap.size (Nat.le_refl _)
  have hE := Hs1.out.setOther w.heap.size .nilIface f1 f2 f3
  have hO := (((Only.refl D w).alloc (.cells #[.nilIface] 52)).trans Ho1.out).fresh w.heap.size (Nat.le_refl _) .nilIface
  simp [Leaves, settle, results, Tryd.results45, go_sem, c2]
  exact ⟨hE, hO⟩

theorem readI_none (B D S : Nat) (ad : Option Addr) (cap : Nat) (l : List Int) (i : Nat) (w : World) (aE aB : Addr) (hs : DS w B D S ad cap l i) (hl : l.length ≤ 3000000000) (hr : ∀ x ∈ l, 0 ≤ x ∧ x < 256) (hrd : rd (l.drop i) = none)
    (hE : w.cell? ⟨1, 0, none⟩ = some (.iface 107 (.pointer (some aE)))) (hB : w.cell? ⟨0, 0, none⟩ = some (.iface 107 (.pointer (some aB)))) (hgB : 0 < B) :
    Calls Tryd.prog 45 #[.pointer (some ⟨S, 0, none⟩)] w fun e w' => (∃ a, e = .returned (.tuple #[.int .i64 0, .iface 107 (.pointer (some a))])) ∧ Only D w w' := by
  have hpast : ∀ (k i : Nat) (v : Value), w.cell? ⟨k, i, none⟩ = some v → (w.alloc (.cells #[.nilIface] 52)).cell? ⟨k, i, none⟩ = some v := fun k i v h => by
    rw [World.cell?_alloc_past _ k i (World.block_lt_of_cell? _ _ h)]; exact h
  have hcall := hid (decI_none B D S ad cap l i (w.alloc (.cells #[.nilIface] 52)) aE aB (hs.alloc _) hl hr hrd (hpast _ _ _ hE) (hpast _ _ _ hB) hgB)
  have hD : D < w.heap.size := World.block_lt_of_cell? _ _ hs.s
  clear hs hr hrd hE hB hpast
  go_enter_defers Tryd.func45, Tryd.ntmps45
  go_wp2_with fail
  refine hcall.out.mono ?_
  rintro e w1 ⟨⟨a, rfl⟩, ho1⟩
  have c1 : w1.cell? ⟨w.heap.size, 0, none⟩ = some .nilIface := ho1.cell (p := ⟨w.heap.size, 0, none⟩) (by show w.heap.size ≠ D; omega) (by rw [World.cell?_alloc_at _ _ _ _ rfl]; rfl)
  have z1 : w1.frozen? ⟨w.heap.size, 0, none⟩ = false := (ho1.frozen (p := ⟨w.heap.size, 0, none⟩) (by show w.heap.size ≠ D; omega) (by rw [World.size_alloc]; exact Nat.lt_succ_self _)).trans (World.frozen?_alloc_at _ _ _ _ rfl)
  have Ho1 := hid ho1
  clear ho1 hcall
  go_wp2_with fail
  refine leaves_cons (f := 56) (args := #[.pointer (some ⟨w.heap.size, 0, none⟩)]) (by simp) (by simp [go_sem]) ?_
  refine (catch_panicking w.heap.size 107 (.pointer (some a)) w1 (by have := World.block_lt_of_cell? _ _ c1; exact this) c1 z1).mono ?_
  rintro e u' w'' ⟨rfl, rfl, rfl⟩
  have c2 : ((w1.setCell ⟨w.heap.size, 0, none⟩ (.iface 107 (.pointer (some a)))).alloc (.cells #[.iface 107 (.pointer (some a))] 99)).cell? ⟨w.heap.size, 0, none⟩ = some (.iface 107 (.pointer (some a))) := by
    have c3 := World.cell?_setCell_same w1 ⟨w.heap.size, 0, none⟩ (.iface 107 (.pointer (some a))) c1
    rw [World.cell?_alloc_past _ w.heap.size 0 (World.block_lt_of_cell? _ _ c3)]
    exact c3
  have hO := ((((Only.refl D w).alloc (.cells #[.nilIface] 52)).trans Ho1.out).fresh w.heap.size (Nat.le_refl _) (.iface 107 (.pointer (some a)))).alloc (.cells #[.iface 107 (.pointer (some a))] 99)
  simp [Leaves, settle, results, Tryd.results45, go_sem, c2]
  exact hO

/-- what the fast road answers of a signed integer in the bytes l -/
def ReadsI (l : List Int) (x rest : Int) (ok : Bool) : Prop :=
  match rd l with
  | some (y, n) => x = unf y ∧ rest = (l.length : Int) - n ∧ ok = true
  | none => ok = false

theorem gReadI_any (v : Value) (l : List Int) (w : World) (aE aB : Addr) (hsrc : Src w v (u8s l)) (he : ErrsF w aE aB) (hl : l.length ≤ 3000000000) (hr : ∀ x ∈ l, 0 ≤ x ∧ x < 256) :
    Calls Tryd.prog 31 #[v] w fun e w' => ∃ (x rest : Int) (ok : Bool), e = .returned (.tuple #[.int .i64 x, .int .i64 rest, .bool ok]) ∧ ReadsI l x rest ok ∧ Below w.heap.size w w' := by
  have hg : 0 < w.heap.size := World.block_lt_of_cell? _ _ he.bad
  obtain ⟨ad, cap, rfl, _⟩ := hsrc.shape
  have hcall := hid (newDec_any _ l w hsrc hl)
  have Hr := hid hr
  have He := hid he
  clear hr hsrc he
  rw [u8s_length] at hcall ⊢
  go_enter Tryd.func31, Tryd.ntmps31
  go_wp2_with fail
  refine hcall.out.mono ?_
  rintro e w1 ⟨D, S, ad1, cap1, rfl, hs1, hb1⟩
  have He1 := hid (He.out.below hb1)
  have hbD := hs1.bD
  have Hs1 := hid hs1
  have Hb1 := hid hb1
  clear hs1 hb1 hcall He
  go_wp2_with fail
  cases hrd : rd l with
  | some p =>
    obtain ⟨x, n⟩ := p
    refine (readI_ok w.heap.size D S ad1 cap1 l 0 w1 x n Hs1.out hl Hr.out (by rw [List.drop_zero]; exact hrd)).mono ?_
    rintro e w2 ⟨rfl, hs2, ho2⟩
    rw [Nat.zero_add] at hs2
    have c0 := hs2.st
    have hn := hs2.hi
    have Hb2 := hid (Hb1.out.trans (ho2.below hbD Hb1.out.size))
    have hlen := hid (dLen_any w.heap.size D S ad1 cap1 l n w2 hs2 hl)
    have Hrd := hid hrd
    clear ho2 hs2 Hs1 He1 Hb1 hrd
    go_wp2_with fail
    refine hlen.out.mono ?_
    rintro e w3 ⟨rfl, q, hw⟩
    obtain rfl := hw
    go_wp2_with fail
    exact bodyPost_ret (v := .tuple #[.int .i64 (unf x), .int .i64 ((l.length : Int) - n), .bool true]) (by simp [results, Tryd.results31, go_sem]) rfl ⟨unf x, _, true, rfl, by unfold ReadsI; rw [Hrd.out]; exact ⟨rfl, rfl, rfl⟩, below_drewN Hb2.out q⟩
  | none =>
    refine (readI_none w.heap.size D S ad1 cap1 l 0 w1 aE aB Hs1.out hl Hr.out (by rw [List.drop_zero]; exact hrd) He1.out.eof He1.out.bad hg).mono ?_
    rintro e w2 ⟨⟨a, rfl⟩, ho2⟩
    have Hb2 := hid (Hb1.out.trans (ho2.below hbD Hb1.out.size))
    have Hrd := hid hrd
    clear ho2 Hs1 He1 Hb1 hrd
    go_wp2_with fail
    exact bodyPost_ret (v := .tuple #[.int .i64 0, .int .i64 0, .bool false]) (by simp [results, Tryd.results31, go_sem]) rfl ⟨0, 0, false, rfl, by unfold ReadsI; rw [Hrd.out], Hb2.out⟩

theorem iReadI_any (v : Value) (l : List Int) (w : World) (aE aB : Addr) (hsrc : Src w v (u8s l)) (he : ErrsF w aE aB) (hl : l.length ≤ 3000000000) (hr : ∀ x ∈ l, 0 ≤ x ∧ x < 256) :
    Calls Tryd.prog 16 #[v] w fun e w' => ∃ (x rest : Int) (ok : Bool), e = .returned (.tuple #[.int .i64 x, .int .i64 rest, .bool ok]) ∧ ReadsI l x rest ok ∧ Below w.heap.size w w' := by
  obtain ⟨i0, hi, hz0, hz1, hz2⟩ := info_parts Tryd.infoU8
  obtain ⟨ad, cap, rfl, _⟩ := hsrc.shape
  have Hsrc := hid hsrc
  have Hr := hid hr
  have He := hid he
  clear hr hsrc he
  rw [u8s_length] at Hsrc ⊢
  go_enter Tryd.func16, Tryd.ntmps16
  go_wp2_with (at_builtin; refine wpList_append_copy rfl _ _ 22 rfl 5 i0 (.int .u8 0) 1 Tryd.underlying22 hi hz0 hz1 hz2 rfl rfl _ (u8s l) rfl Hsrc.out (u8s_oneCell _) ?c1 ?c2 ?_)
  case c1 => rw [u8s_length]; unfold maxLen; omega
  case c2 => rw [u8s_length]; omega
  intro v1 w1 hown hgrow
  have Hs1 := hid (Src.of_owns hown)
  have hb1 := (Below.refl w.heap.size w).grown hgrow (Nat.le_refl _) (fun k hk => by simp at hk)
  have He1 := hid (He.out.below hb1)
  clear hown hgrow
  go_wp2_with fail
  refine (gReadI_any v1 l w1 aE aB Hs1.out He1.out hl Hr.out).mono ?_
  rintro e w2 ⟨x, rest, ok, rfl, ht, hb2⟩
  have Ht := hid ht
  clear ht
  go_wp2_with fail
  exact bodyPost_ret (v := .tuple #[.int .i64 x, .int .i64 rest, .bool ok]) (by simp [results, Tryd.results16, go_sem]) rfl ⟨x, rest, ok, rfl, Ht.out, hb1.trans (hb2.mono hb1.size)⟩
end Go.Proofs.YtleddjhlpgemjaaDoor
