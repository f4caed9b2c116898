/- PROVED: what decodeUintReader reads of a reader of known bytes. Conditions: the reader and the buffer lie as 'RS' says; io's variables and errBadUint hold errors. -/
import Derived.Test.YtleddjhlpgemjaaDoorFull
import Derived.Test.YtleddjhlpgemjaaDoorSRead
namespace Go.Proofs.YtleddjhlpgemjaaDoor
open Go.RowKit

theorem i8_wrap (h : Int) (h0 : 128 ≤ h) (h1 : h < 256) : IntKind.i8.wrap h = h - 256 := by
  simp [IntKind.wrap, IntKind.bits, IntKind.signed]
  omega

theorem decR_empty (R : Nat) (ad : Option Addr) (cap : Nat) (w : World) (aE aU aB : Addr) (hs : RS w R ad cap [] 0) (he : Errs w R aE aU aB) :
    Calls Tryd.prog 40 #[.iface 48 (.pointer (some ⟨R, 0, none⟩)), .slice (some ⟨R + 1, 0, none⟩) 9 9] w fun e w' => e = .returned (.tuple #[.int .u64 0, .int .i64 1, .iface 107 (.pointer (some aE))]) ∧ ∃ q, w' = w.drewN q := by
  have hcall := hid (rF_none R ad cap [] w 1 9 aE aU aB hs he (by omega) (by omega))
  clear hs he
  go_enter Tryd.func40, Tryd.ntmps40
  go_wp2_with fail
  refine hcall.out.mono ?_
  rintro e w1 ⟨rfl, q, hw⟩
  have Hw := hid hw
  clear hw hcall
  go_wp2_with fail
  go_ret3
  exact ⟨rfl, q, Hw.out⟩

theorem decR_small (R : Nat) (b o cap : Nat) (h : Int) (t : List Int) (w : World) (hs : RS w R (some ⟨b, o, none⟩) cap (h :: t) 0) (hl : (h :: t).length ≤ 3000000000) (h0 : 0 ≤ h) (h1 : h < 128) :
    Calls Tryd.prog 40 #[.iface 48 (.pointer (some ⟨R, 0, none⟩)), .slice (some ⟨R + 1, 0, none⟩) 9 9] w fun e w' => e = .returned (.tuple #[.int .u64 h, .int .i64 1, .nilIface]) ∧ RS w' R (some ⟨b, o, none⟩) cap (h :: t) 1 ∧ Below R w w' := by
  have hcall := hid (rF_full R b o cap (h :: t) 0 w 1 9 hs hl (by omega) (by omega) (by simp))
  clear hs
  go_enter Tryd.func40, Tryd.ntmps40
  go_wp2_with fail
  refine hcall.out.mono ?_
  rintro e w1 ⟨rfl, hs1, hc1, hb1⟩
  have hc0 : w1.cell? ⟨R + 1, 0, none⟩ = some (.int .u8 h) := hc1 0 (by omega)
  have Hs1 := hid hs1
  clear hcall hs1 hc1
  go_wp2_with fail
  go_ret3
  exact ⟨rfl, Hs1.out, hb1⟩

theorem decR_bad (R : Nat) (b o cap : Nat) (h : Int) (t : List Int) (w : World) (aE aU aB : Addr) (hs : RS w R (some ⟨b, o, none⟩) cap (h :: t) 0) (he : Errs w R aE aU aB) (hl : (h :: t).length ≤ 3000000000) (h0 : 128 ≤ h) (h1 : h < 248) :
    Calls Tryd.prog 40 #[.iface 48 (.pointer (some ⟨R, 0, none⟩)), .slice (some ⟨R + 1, 0, none⟩) 9 9] w fun e w' => e = .returned (.tuple #[.int .u64 0, .int .i64 1, .iface 107 (.pointer (some aB))]) ∧ RS w' R (some ⟨b, o, none⟩) cap (h :: t) 1 ∧ Below R w w' := by
  have hcall := hid (rF_full R b o cap (h :: t) 0 w 1 9 hs hl (by omega) (by omega) (by simp))
  have He := hid he
  have h8 := i8_wrap h h0 (by omega)
  clear hs he
  go_enter Tryd.func40, Tryd.ntmps40
  go_wp2_with fail
  refine hcall.out.mono ?_
  rintro e w1 ⟨rfl, hs1, hc1, hb1⟩
  have hc0 : w1.cell? ⟨R + 1, 0, none⟩ = some (.int .u8 h) := hc1 0 (by omega)
  have hB := (He.out.below hb1).bad
  have Hs1 := hid hs1
  clear hcall hs1 hc1
  go_wp2_with fail
  go_ret3
  exact ⟨rfl, Hs1.out, hb1⟩

theorem decR_num (R : Nat) (b o cap : Nat) (h : Int) (t : List Int) (w : World) (n : Nat) (hs : RS w R (some ⟨b, o, none⟩) cap (h :: t) 0) (hl : (h :: t).length ≤ 3000000000) (hr : ∀ x ∈ h :: t, 0 ≤ x ∧ x < 256) (h0 : 128 ≤ h) (hn : h = 256 - (n : Int)) (hn8 : n ≤ 8) (hlen : n ≤ t.length) :
    Calls Tryd.prog 40 #[.iface 48 (.pointer (some ⟨R, 0, none⟩)), .slice (some ⟨R + 1, 0, none⟩) 9 9] w fun e w' => e = .returned (.tuple #[.int .u64 (val (t.take n)), .int .i64 ((n + 1 : Nat) : Int), .nilIface]) ∧ RS w' R (some ⟨b, o, none⟩) cap (h :: t) (n + 1) ∧ Below R w w' := by
  have hcall := hid (rF_full R b o cap (h :: t) 0 w 1 9 hs hl (by omega) (by omega) (by simp))
  have hcall2 : Hid (∀ w1 : World, RS w1 R (some ⟨b, o, none⟩) cap (h :: t) 1 → _) := fun w1 hs1 => rF_full R b o cap (h :: t) 1 w1 n 9 hs1 hl (by have := (hr h (by simp)).2; omega) (by omega) (by rw [List.length_cons]; omega)
  have hh := hr h (by simp)
  have h8 : IntKind.i8.wrap (256 - (n : Int)) = -(n : Int) := by rw [i8_wrap _ (by omega) (by omega)]; omega
  have hval : ∀ i, i ≤ n → 0 ≤ val (t.take i) ∧ val (t.take i) < 256 ^ i := fun i hi => by
    have := val_range (t.take i) (fun x hx => hr x (List.mem_cons_of_mem _ (List.mem_of_mem_take hx)))
    rwa [List.length_take, Nat.min_eq_left (by omega)] at this
  have hstep : ∀ i, i < n → val (t.take (i + 1)) = val (t.take i) * 256 + t.getD i 0 ∧ 0 ≤ t.getD i 0 ∧ t.getD i 0 < 256 := fun i hi => by
    have hit : i < t.length := by omega
    have hb := hr (t.getD i 0) (by rw [List.getD, List.getElem?_eq_getElem hit]; exact List.mem_cons_of_mem _ (List.getElem_mem hit))
    refine ⟨?_, hb.1, hb.2⟩
    rw [List.take_succ_eq_append_getElem hit, val_snoc, List.getD, List.getElem?_eq_getElem hit]
    rfl
  have Hval := hid hval
  have Hstep := hid hstep
  clear hval hstep hs hr
  subst hn
  go_enter Tryd.func40, Tryd.ntmps40
  go_wp2_with fail
  refine hcall.out.mono ?_
  rintro e w1 ⟨rfl, hs1, hc1, hb1⟩
  have hc0 : w1.cell? ⟨R + 1, 0, none⟩ = some (.int .u8 (256 - (n : Int))) := hc1 0 (by omega)
  have Hs1 := hid hs1
  clear hcall hs1 hc1
  go_wp2_with fail
  refine (hcall2.out w1 Hs1.out).mono ?_
  rintro e w2 ⟨rfl, hs2, hc2, hb2⟩
  have Hs2 := hid hs2
  have Hc2 : Hid (∀ j, j < n → w2.cell? ⟨R + 1, j, none⟩ = some (.int .u8 (t.getD j 0))) := fun j hj => by
    rw [hc2 j hj, Nat.add_comm 1 j]
    simp [List.getD]
  clear hs2 hc2 hcall2 Hs1
  go_wp2_with fail
  go_loop [4, 54] (fun x i => ∃ k : Nat, k ≤ n ∧ i = .int .i64 k ∧ ∃ y : Int, x = .int .u64 y ∧ Hid (y = val (t.take k))) (fun _ i => n - (intOf i).toNat)
  case atStart => exact ⟨0, by omega, rfl, 0, rfl, hid (by simp [val])⟩
  case round =>
    obtain ⟨k, hk, rfl, y, rfl, hy⟩ := hrel
    have hyr := Hval.out k hk
    rw [← hy.out] at hyr
    obtain ⟨y0, y1⟩ := hyr
    by_cases hlt : k < n
    · have y2 : y < 72057594037927936 := by
        have := p256_mono (a := k) (b := 7) (by omega)
        rw [p256_7] at this
        omega
      obtain ⟨s1, s2, s3⟩ := Hstep.out k hlt
      have s4 := Hc2.out k hlt
      obtain ⟨z, hz⟩ : ∃ z, z = t.getD k 0 := ⟨_, rfl⟩
      rw [← hz] at s1 s2 s3 s4
      have Hs1 := hid s1
      have Ho := hid (or_byte y z y0 y2 s2 s3)
      clear s1 hz y1
      go_wp2
      go_round
      case rel => exact ⟨k + 1, by omega, by go_num, _, rfl, hid (by rw [Ho.out, Hs1.out, hy.out])⟩
      case measure => simp [intOf]; omega
    · obtain rfl : k = n := by omega
      clear y1
      go_wp2
      go_ret3
      refine ⟨?_, ?_, hb1.trans hb2⟩
      · rw [← hy.out]; rfl
      · rw [Nat.add_comm]; exact Hs2.out

theorem decR_short (R : Nat) (b o cap : Nat) (h : Int) (t : List Int) (w : World) (n : Nat) (aE aU aB : Addr) (hs : RS w R (some ⟨b, o, none⟩) cap (h :: t) 0) (he : Errs w R aE aU aB) (hl : (h :: t).length ≤ 3000000000) (hr : 0 ≤ h ∧ h < 256) (h0 : 128 ≤ h) (hn : h = 256 - (n : Int)) (hn8 : n ≤ 8) (hlen : t.length < n) :
    Calls Tryd.prog 40 #[.iface 48 (.pointer (some ⟨R, 0, none⟩)), .slice (some ⟨R + 1, 0, none⟩) 9 9] w fun e w' => (∃ wd : Int, e = .returned (.tuple #[.int .u64 0, .int .i64 wd, .iface 107 (.pointer (some aU))])) ∧ RS w' R (some ⟨b, o, none⟩) cap (h :: t) (h :: t).length ∧ Below R w w' := by
  have hcall := hid (rF_full R b o cap (h :: t) 0 w 1 9 hs hl (by omega) (by omega) (by simp))
  have He := hid he
  have h8 : IntKind.i8.wrap (256 - (n : Int)) = -(n : Int) := by rw [i8_wrap _ (by omega) (by omega)]; omega
  have n1 : 1 ≤ n := by omega
  have heq := eql_err_same
  clear hs he
  subst hn
  go_enter Tryd.func40, Tryd.ntmps40
  go_wp2_with fail
  refine hcall.out.mono ?_
  rintro e w1 ⟨rfl, hs1, hc1, hb1⟩
  have hc0 : w1.cell? ⟨R + 1, 0, none⟩ = some (.int .u8 (256 - (n : Int))) := hc1 0 (by omega)
  have He1 := hid (He.out.below hb1)
  have Hs1 := hid hs1
  clear hcall hs1 hc1
  go_wp2_with fail
  by_cases ht : t.length = 0
  · have Hs1' : Hid (RS w1 R (some ⟨b, o, none⟩) cap ((256 - (n : Int)) :: t) ((256 - (n : Int)) :: t).length) := by
      rw [List.length_cons, ht]; exact Hs1
    refine (rF_none R (some ⟨b, o, none⟩) cap _ w1 n 9 aE aU aB Hs1'.out He1.out n1 (by omega)).mono ?_
    rintro e w2 ⟨rfl, q, hw2⟩
    obtain rfl := hw2
    have hE := He1.out.eof
    have hU := He1.out.unexp
    clear ht
    go_wp2_with fail
    go_ret3
    exact ⟨⟨_, rfl⟩, Hs1'.out.drewN q, below_drewN hb1 q⟩
  · refine (rF_part R b o cap _ 1 w1 n 9 aE aU aB Hs1.out He1.out hl (by rw [List.length_cons]; omega) n1 (by omega) (by omega) (by rw [List.length_cons]; omega)).mono ?_
    rintro e w2 ⟨⟨k, k1, k2, rfl⟩, hs2, hb2⟩
    have He2 := He1.out.below hb2
    have hE := He2.eof
    have hU := He2.unexp
    have hno := eql_err_other w2 He2.ne He2.hU He2.hE
    have Hs2 := hid hs2
    clear ht He2 hs2
    go_wp2_with fail
    go_ret3
    exact ⟨⟨_, rfl⟩, Hs2.out, hb1.trans hb2⟩
/-- What a reading tells of bytes l. -/
def Tells (l : List Int) (x wd rest : Int) (ok : Bool) : Prop :=
  match rd l with
  | some (y, n) => x = y ∧ wd = (n : Int) ∧ rest = ((l.length - n : Nat) : Int) ∧ ok = true
  | none => ok = false

/-- decodeUintReader, of whatever bytes. -/
theorem decR_any (R : Nat) (ad : Option Addr) (cap : Nat) (l : List Int) (w : World) (aE aU aB : Addr) (hs : RS w R ad cap l 0) (he : Errs w R aE aU aB) (hl : l.length ≤ 3000000000) (hr : ∀ x ∈ l, 0 ≤ x ∧ x < 256) :
    Calls Tryd.prog 40 #[.iface 48 (.pointer (some ⟨R, 0, none⟩)), .slice (some ⟨R + 1, 0, none⟩) 9 9] w fun e w' => ∃ (x wd : Int) (err : Value) (i : Nat), e = .returned (.tuple #[.int .u64 x, .int .i64 wd, err]) ∧ i ≤ l.length ∧ RS w' R ad cap l i ∧ Below R w w' ∧
      ((err = .nilIface ∧ Tells l x wd ((l.length - i : Nat) : Int) true) ∨ (∃ a, err = .iface 107 (.pointer (some a))) ∧ rd l = none) := by
  cases l with
  | nil =>
    refine (decR_empty R ad cap w aE aU aB hs he).mono ?_
    rintro e w' ⟨rfl, q, hw⟩
    obtain rfl := hw
    exact ⟨0, 1, _, 0, rfl, by simp, hs.drewN q, below_drewN (Below.refl _ _) q, .inr ⟨⟨_, rfl⟩, rfl⟩⟩
  | cons h t =>
    have hh := hr h (by simp)
    obtain ⟨b, o, rfl, _, _⟩ := hs.data (by simp)
    by_cases c1 : h < 128
    · refine (decR_small R b o cap h t w hs hl hh.1 c1).mono ?_
      rintro e w' ⟨rfl, hs', hb⟩
      exact ⟨h, 1, _, 1, rfl, by simp, hs', hb, .inl ⟨rfl, by simp [Tells, rd, c1]⟩⟩
    · obtain ⟨n, hn⟩ : ∃ n : Nat, n = (256 - h).toNat := ⟨_, rfl⟩
      by_cases c2 : 8 < n
      · refine (decR_bad R b o cap h t w aE aU aB hs he hl (by omega) (by omega)).mono ?_
        rintro e w' ⟨rfl, hs', hb⟩
        exact ⟨0, 1, _, 1, rfl, by simp, hs', hb, .inr ⟨⟨_, rfl⟩, by rw [rd, if_neg c1, if_pos (by omega)]⟩⟩
      · by_cases c3 : t.length < n
        · refine (decR_short R b o cap h t w n aE aU aB hs he hl hh (by omega) (by omega) (by omega) c3).mono ?_
          rintro e w' ⟨⟨wd, rfl⟩, hs', hb⟩
          exact ⟨0, wd, _, _, rfl, Nat.le_refl _, hs', hb, .inr ⟨⟨_, rfl⟩, by rw [rd, if_neg c1, if_pos (by omega)]⟩⟩
        · refine (decR_num R b o cap h t w n hs hl hr (by omega) (by omega) (by omega) (by omega)).mono ?_
          rintro e w' ⟨rfl, hs', hb⟩
          refine ⟨_, _, _, n + 1, rfl, by rw [List.length_cons]; omega, hs', hb, .inl ⟨rfl, ?_⟩⟩
          unfold Tells
          rw [rd, if_neg c1, if_neg (by omega), ← hn]
          exact ⟨rfl, rfl, rfl, rfl⟩
end Go.Proofs.YtleddjhlpgemjaaDoor
