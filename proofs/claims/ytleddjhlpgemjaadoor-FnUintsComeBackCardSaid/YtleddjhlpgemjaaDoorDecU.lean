/- PROVED: what decodeUint reads of a decoder of known bytes, and that it panics with a gobError where there is no number. Conditions: as 'DS' says; io.EOF and errBadUint hold errors. -/
import Derived.Test.YtleddjhlpgemjaaDoorDec
import Derived.Test.YtleddjhlpgemjaaDoorDecR
namespace Go.Proofs.YtleddjhlpgemjaaDoor
open Go.RowKit

/-- a panic with the package's error, of an error that is none of the nil ones -/
def Gob (e : Ending) : Prop := ∃ a, e = .panicked [{ v := .iface 99 (.agg #[.iface 107 (.pointer (some a))]), recovered := false }]

theorem DS.size {w : World} {B D S : Nat} {ad : Option Addr} {cap : Nat} {l : List Int} {i : Nat} (h : DS w B D S ad cap l i) : B ≤ w.heap.size :=
  Nat.le_trans h.bD (Nat.le_of_lt (World.block_lt_of_cell? _ _ h.s))

theorem decU_end (B D S : Nat) (ad : Option Addr) (cap : Nat) (l : List Int) (w : World) (aE : Addr) (hs : DS w B D S ad cap l l.length) (hE : w.cell? ⟨1, 0, none⟩ = some (.iface 107 (.pointer (some aE)))) :
    Calls Tryd.prog 57 #[.pointer (some ⟨S, 0, none⟩)] w fun e w' => Gob e ∧ Only D w w' := by
  have c0 := hs.st
  have hcall := hid (readByte_end B D S ad cap l w aE hs hE)
  clear hs
  go_enter Tryd.func57, Tryd.ntmps57
  go_wp2_with fail
  refine hcall.out.mono ?_
  rintro e w1 ⟨rfl, q, hw⟩
  obtain rfl := hw
  go_wp2_with fail
  refine (err_any _ _ _).mono ?_
  rintro e w2 ⟨rfl, rfl⟩
  go_wp2_with fail
  exact ⟨rfl, ⟨_, rfl⟩, (Only.refl _ _).drewN _⟩

theorem decU_small (B D S : Nat) (b o cap : Nat) (l : List Int) (i : Nat) (w : World) (h : Int) (hs : DS w B D S (some ⟨b, o, none⟩) cap l i) (hi : i < l.length) (hl : l.length ≤ 3000000000) (hh : l.getD i 0 = h) (h0 : 0 ≤ h) (h1 : h < 128) :
    Calls Tryd.prog 57 #[.pointer (some ⟨S, 0, none⟩)] w fun e w' => e = .returned (.int .u64 h) ∧ DS w' B D S (some ⟨b, o, none⟩) cap l (i + 1) ∧ Only D w w' := by
  have c0 := hs.st
  have hcall := readByte_any B D S b o cap l i w hs hi hl
  rw [hh] at hcall
  have Hcall := hid hcall
  clear hs hcall hh
  go_enter Tryd.func57, Tryd.ntmps57
  go_wp2_with fail
  refine Hcall.out.mono ?_
  rintro e w1 ⟨rfl, hs1, hb⟩
  have Hs1 := hid hs1
  clear hs1 Hcall
  go_wp2_with fail
  go_ret
  exact ⟨rfl, Hs1.out, hb⟩

theorem decU_bad (B D S : Nat) (b o cap : Nat) (l : List Int) (i : Nat) (w : World) (h : Int) (aB : Addr) (hs : DS w B D S (some ⟨b, o, none⟩) cap l i) (hi : i < l.length) (hl : l.length ≤ 3000000000) (hh : l.getD i 0 = h) (h0 : 128 ≤ h) (h1 : h < 248)
    (hB : w.cell? ⟨0, 0, none⟩ = some (.iface 107 (.pointer (some aB)))) (hg : 0 < B) :
    Calls Tryd.prog 57 #[.pointer (some ⟨S, 0, none⟩)] w fun e w' => Gob e ∧ Only D w w' := by
  have c0 := hs.st
  have h8 := i8_wrap h h0 (by omega)
  have hcall := readByte_any B D S b o cap l i w hs hi hl
  rw [hh] at hcall
  have Hcall := hid hcall
  clear hs hcall hh
  go_enter Tryd.func57, Tryd.ntmps57
  go_wp2_with fail
  refine Hcall.out.mono ?_
  rintro e w1 ⟨rfl, hs1, hb⟩
  have c1 := hs1.st
  have hB1 : w1.cell? ⟨0, 0, none⟩ = some (.iface 107 (.pointer (some aB))) := hb.cell (p := ⟨0, 0, none⟩) (by have := hs1.bD; show 0 ≠ D; omega) hB
  clear hs1 Hcall hB
  go_wp2_with fail
  refine (err_any _ _ _).mono ?_
  rintro e w2 ⟨rfl, rfl⟩
  go_wp2_with fail
  exact ⟨rfl, ⟨_, rfl⟩, hb⟩

theorem decU_short (B D S : Nat) (b o cap : Nat) (l : List Int) (i : Nat) (w : World) (n : Nat) (hs : DS w B D S (some ⟨b, o, none⟩) cap l i) (hi : i < l.length) (hl : l.length ≤ 3000000000) (hh : l.getD i 0 = 256 - (n : Int)) (hn8 : n ≤ 8) (hn : l.length < i + 1 + n) :
    Calls Tryd.prog 57 #[.pointer (some ⟨S, 0, none⟩)] w fun e w' => Gob e ∧ Only D w w' := by
  have c0 := hs.st
  have n1 : 1 ≤ n := by omega
  have h8 : IntKind.i8.wrap (256 - (n : Int)) = -(n : Int) := by rw [i8_wrap _ (by omega) (by omega)]; omega
  have hcall := readByte_any B D S b o cap l i w hs hi hl
  rw [hh] at hcall
  have Hcall := hid hcall
  clear hs hcall hh
  go_enter Tryd.func57, Tryd.ntmps57
  go_wp2_with fail
  refine Hcall.out.mono ?_
  rintro e w1 ⟨rfl, hs1, hb⟩
  have c1 := hs1.st
  have hD := hs1.bD
  have Hs1 := hid hs1
  clear hs1 Hcall
  go_wp2_with fail
  by_cases hm : i + 1 < l.length
  · refine (dBytes_any B D S b o cap l (i + 1) w1 Hs1.out hm).mono ?_
    rintro e w2 ⟨rfl, q, hw⟩
    obtain rfl := hw
    go_wp2_with fail
    refine (errf_any _ (by decide) _).mono ?_
    rintro e w3 ⟨⟨a, rfl⟩, hb2⟩
    go_wp2_with fail
    exact ⟨rfl, ⟨_, rfl⟩, (hb.drewN q).trans (Only.of_below hb2)⟩
  · have hm' : i + 1 = l.length := by omega
    have Hs2 := hid Hs1.out
    rw [hm'] at Hs2
    clear Hs1
    refine (dBytes_end B D S b o cap l w1 Hs2.out).mono ?_
    rintro e w2 ⟨⟨a, c, rfl⟩, q, hw⟩
    obtain rfl := hw
    go_wp2_with fail
    refine (errf_any _ (by decide) _).mono ?_
    rintro e w3 ⟨⟨a, rfl⟩, hb2⟩
    go_wp2_with fail
    exact ⟨rfl, ⟨_, rfl⟩, (hb.drewN q).trans (Only.of_below hb2)⟩

set_option maxRecDepth 100000 in
theorem decU_num (B D S : Nat) (b o cap : Nat) (l : List Int) (i : Nat) (w : World) (n : Nat) (hs : DS w B D S (some ⟨b, o, none⟩) cap l i) (hi : i < l.length) (hl : l.length ≤ 3000000000) (hr : ∀ x ∈ l, 0 ≤ x ∧ x < 256) (hh : l.getD i 0 = 256 - (n : Int)) (h0 : n ≤ 128) (hn8 : n ≤ 8) (hn : i + 1 + n ≤ l.length) :
    Calls Tryd.prog 57 #[.pointer (some ⟨S, 0, none⟩)] w fun e w' => e = .returned (.int .u64 (val ((l.drop (i + 1)).take n))) ∧ DS w' B D S (some ⟨b, o, none⟩) cap l (i + 1 + n) ∧ Only D w w' := by
  have c0 := hs.st
  have n1 : 1 ≤ n := by
    have : l.getD i 0 < 256 := (hr _ (by rw [List.getD, List.getElem?_eq_getElem hi]; exact List.getElem_mem hi)).2
    omega
  have h8 : IntKind.i8.wrap (256 - (n : Int)) = -(n : Int) := by rw [i8_wrap _ (by omega) (by omega)]; omega
  have hcall := readByte_any B D S b o cap l i w hs hi hl
  rw [hh] at hcall
  obtain ⟨t, ht⟩ : ∃ t, t = l.drop (i + 1) := ⟨_, rfl⟩
  have htl : t.length = l.length - (i + 1) := by rw [ht, List.length_drop]
  have hrt : ∀ x ∈ t, 0 ≤ x ∧ x < 256 := fun x hx => hr x (List.mem_of_mem_drop (ht ▸ hx))
  have htg : ∀ k, l.getD (i + 1 + k) 0 = t.getD k 0 := fun k => by rw [ht, List.getD, List.getD, List.getElem?_drop]
  have hval : ∀ i, i ≤ n → 0 ≤ val (t.take i) ∧ val (t.take i) < 256 ^ i := fun i hi => by
    have := val_range (t.take i) (fun x hx => hrt x (List.mem_of_mem_take hx))
    rwa [List.length_take, Nat.min_eq_left (by omega)] at this
  have hstep : ∀ i, i < n → val (t.take (i + 1)) = val (t.take i) * 256 + t.getD i 0 ∧ 0 ≤ t.getD i 0 ∧ t.getD i 0 < 256 := fun i hi => by
    have hit : i < t.length := by omega
    have hb := hrt (t.getD i 0) (by rw [List.getD, List.getElem?_eq_getElem hit]; exact List.getElem_mem hit)
    refine ⟨?_, hb.1, hb.2⟩
    rw [List.take_succ_eq_append_getElem hit, val_snoc, List.getD, List.getElem?_eq_getElem hit]
    rfl
  rw [← ht]
  have Hcall := hid hcall
  have Hval := hid hval
  have Hstep := hid hstep
  have Htg := hid htg
  clear hs hcall hh hr ht hrt hval hstep htg
  go_enter Tryd.func57, Tryd.ntmps57
  go_wp2_with fail
  refine Hcall.out.mono ?_
  rintro e w1 ⟨rfl, hs1, hb⟩
  have c1 := hs1.st
  have hcap := hs1.hcap
  obtain ⟨b', o', hbo, hbD, hdat⟩ := hs1.data (by omega)
  simp only [Option.some.injEq, Addr.mk.injEq] at hbo
  obtain ⟨rfl, rfl, _⟩ := hbo
  have Hdat : Hid (∀ k, k < n → w1.cell? ⟨b, o + (i + 1) + k, none⟩ = some (.int .u8 (t.getD k 0))) := fun k hk => by
    have := hdat (i + 1 + k) (by omega)
    rw [Htg.out k, ← Nat.add_assoc] at this
    exact this
  have Hs1 := hid hs1
  clear hs1 Hcall hdat
  go_wp2_with fail
  refine (dBytes_any B D S b o cap l (i + 1) w1 Hs1.out (by omega)).mono ?_
  rintro e w2 ⟨rfl, q, hw⟩
  obtain rfl := hw
  go_wp2_with fail
  go_loop [2, 47] (fun x i => ∃ k : Nat, k ≤ n ∧ i = .int .i64 k ∧ ∃ y : Int, x = .int .u64 y ∧ Hid (y = val (t.take k))) (fun _ i => n - (intOf i).toNat)
  case atStart => exact ⟨0, by omega, rfl, 0, rfl, hid (by simp [val])⟩
  case round =>
    obtain ⟨k, hk, rfl, y, rfl, hy⟩ := hrel
    have hyr := Hval.out k hk
    rw [← hy.out] at hyr
    obtain ⟨y0, y1⟩ := hyr
    by_cases hlt : k < n
    · have y2 : y < 72057594037927936 := by
        have := p256_mono (a := k) (b := 7) (by omega)
        rw [p256_7] at this
        omega
      obtain ⟨s1, s2, s3⟩ := Hstep.out k hlt
      have s4 := Hdat.out k hlt
      obtain ⟨z, hz⟩ : ∃ z, z = t.getD k 0 := ⟨_, rfl⟩
      rw [← hz] at s1 s2 s3 s4
      have Hs1' := hid s1
      have Ho := hid (or_byte y z y0 y2 s2 s3)
      clear s1 hz y1
      go_wp2
      go_round
      case rel => exact ⟨k + 1, by omega, by go_num, _, rfl, hid (by rw [Ho.out, Hs1'.out, hy.out])⟩
      case measure => simp [intOf]; omega
    · obtain rfl : k = n := by omega
      clear y1
      go_wp2_with fail
      refine (drop_any B D S _ _ l (i + 1) k _ (Hs1.out.drewN q) hn hl).mono ?_
      rintro e w2 ⟨rfl, hs2, hb2⟩
      have Hs2 := hid hs2
      clear hs2
      go_wp2_with fail
      go_ret
      exact ⟨by rw [← hy.out]; rfl, Hs2.out, (hb.drewN q).trans hb2⟩

/-- the fast decoder reads what 'rd' reads -/
theorem decU_ok (B D S : Nat) (ad : Option Addr) (cap : Nat) (l : List Int) (i : Nat) (w : World) (x : Int) (n : Nat) (hs : DS w B D S ad cap l i) (hl : l.length ≤ 3000000000) (hr : ∀ x ∈ l, 0 ≤ x ∧ x < 256) (hrd : rd (l.drop i) = some (x, n)) :
    Calls Tryd.prog 57 #[.pointer (some ⟨S, 0, none⟩)] w fun e w' => e = .returned (.int .u64 x) ∧ DS w' B D S ad cap l (i + n) ∧ Only D w w' := by
  have hi : i < l.length := by
    apply Nat.lt_of_not_le
    intro h
    rw [List.drop_eq_nil_of_le h] at hrd
    simp [rd] at hrd
  obtain ⟨b, o, rfl, _⟩ := hs.data (by omega)
  have hg : l.getD i 0 = l[i] := by rw [List.getD, List.getElem?_eq_getElem hi]; rfl
  have hb := hr l[i] (List.getElem_mem hi)
  rw [List.drop_eq_getElem_cons hi] at hrd
  by_cases c1 : l[i] < 128
  · rw [rd, if_pos c1] at hrd
    simp only [Option.some.injEq, Prod.mk.injEq] at hrd
    obtain ⟨rfl, rfl⟩ := hrd
    exact decU_small B D S b o cap l i w _ hs hi hl hg hb.1 c1
  · rw [rd, if_neg c1] at hrd
    by_cases c2 : 8 < (256 - l[i]).toNat ∨ (l.drop (i + 1)).length < (256 - l[i]).toNat
    · rw [if_pos c2] at hrd; cases hrd
    · rw [if_neg c2] at hrd
      simp only [Option.some.injEq, Prod.mk.injEq] at hrd
      obtain ⟨rfl, rfl⟩ := hrd
      rw [List.length_drop] at c2
      rw [show i + ((256 - l[i]).toNat + 1) = i + 1 + (256 - l[i]).toNat by omega]
      exact decU_num B D S b o cap l i w _ hs hi hl hr (by omega) (by omega) (by omega) (by omega)

theorem decU_none (B D S : Nat) (ad : Option Addr) (cap : Nat) (l : List Int) (i : Nat) (w : World) (aE aB : Addr) (hs : DS w B D S ad cap l i) (hl : l.length ≤ 3000000000) (hr : ∀ x ∈ l, 0 ≤ x ∧ x < 256) (hrd : rd (l.drop i) = none)
    (hE : w.cell? ⟨1, 0, none⟩ = some (.iface 107 (.pointer (some aE)))) (hB : w.cell? ⟨0, 0, none⟩ = some (.iface 107 (.pointer (some aB)))) (hgB : 0 < B) :
    Calls Tryd.prog 57 #[.pointer (some ⟨S, 0, none⟩)] w fun e w' => Gob e ∧ Only D w w' := by
  by_cases hi : i < l.length
  · obtain ⟨b, o, rfl, _⟩ := hs.data (by omega)
    have hg : l.getD i 0 = l[i] := by rw [List.getD, List.getElem?_eq_getElem hi]; rfl
    have hb := hr l[i] (List.getElem_mem hi)
    rw [List.drop_eq_getElem_cons hi] at hrd
    by_cases c1 : l[i] < 128
    · rw [rd, if_pos c1] at hrd; cases hrd
    · rw [rd, if_neg c1] at hrd
      by_cases c2 : 8 < (256 - l[i]).toNat ∨ (l.drop (i + 1)).length < (256 - l[i]).toNat
      · rw [List.length_drop] at c2
        by_cases c3 : l[i] < 248
        · exact decU_bad B D S b o cap l i w _ aB hs hi hl hg (by omega) c3 hB hgB
        · exact decU_short B D S b o cap l i w (256 - l[i]).toNat hs hi hl (by omega) (by omega) (by omega)
      · rw [if_neg c2] at hrd; cases hrd
  · obtain rfl : i = l.length := by have := hs.hi; omega
    exact decU_end B D S ad cap l w aE hs hE
end Go.Proofs.YtleddjhlpgemjaaDoor
