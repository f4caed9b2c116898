/- PROVED: what the reference's Read tells of bytes. Conditions: bytes from 0 to 255, fewer than 2^31 of them. -/
import Derived.Test.YtleddjhlpgemjaaDoorSlices
import Derived.Test.YtleddjhlpgemjaaDoorSUint
import Derived.Test.YtleddjhlpgemjaaDoorRd
import Derived.Test.YtleddjhlpgemjaaDoorBits
namespace Go.Proofs.YtleddjhlpgemjaaDoor
open Go.RowKit

theorem val_snoc (l : List Int) (b : Int) : val (l ++ [b]) = val l * 256 + b := by simp [val]
theorem fold_range' : ∀ (l : List Int) (a : Int), (∀ b ∈ l, 0 ≤ b ∧ b < 256) → a * 256 ^ l.length ≤ l.foldl (fun a b => a * 256 + b) a ∧ l.foldl (fun a b => a * 256 + b) a < (a + 1) * 256 ^ l.length
  | [], a, _ => by simp; omega
  | b :: l, a, h => by
    have hb := h b (by simp)
    have ih := fold_range' l (a * 256 + b) (fun x hx => h x (by simp [hx]))
    have hp := p256_pos l.length
    have e : (256 : Int) ^ (b :: l).length = 256 * 256 ^ l.length := by rw [List.length_cons, Int.pow_succ, Int.mul_comm]
    rw [e, List.foldl_cons, ← Int.mul_assoc, ← Int.mul_assoc]
    have m1 := Int.mul_le_mul_of_nonneg_right (show a * 256 ≤ a * 256 + b by omega) (Int.le_of_lt hp)
    have m2 := Int.mul_le_mul_of_nonneg_right (show a * 256 + b + 1 ≤ (a + 1) * 256 by omega) (Int.le_of_lt hp)
    omega

theorem val_range (l : List Int) (h : ∀ b ∈ l, 0 ≤ b ∧ b < 256) : 0 ≤ val l ∧ val l < 256 ^ l.length := by
  have := fold_range' l 0 h
  unfold val
  omega

theorem or_byte (o b : Int) (h0 : 0 ≤ o) (h1 : o < 72057594037927936) (g0 : 0 ≤ b) (g1 : b < 256) : bits .or .u64 (o * 256) b = o * 256 + b := by
  obtain ⟨n, rfl⟩ := Int.eq_ofNat_of_zero_le g0
  obtain ⟨m, rfl⟩ := Int.eq_ofNat_of_zero_le h0
  rw [show (m : Int) * 256 = ((m * 256 : Nat) : Int) by omega, u64_or_nat _ _ (by omega) (by omega), nat_join 8 _ _ (by omega) (by omega)]
  omega

/-- What the reference tells: 0 right, 1 longer than need be, 2 none. -/
def told (l : List Int) : Int × Int × Int :=
  match rd l with
  | none => (0, 0, 2)
  | some (x, n) => (x, n, if (enc x).length = n then 0 else 1)

theorem sRead_none (v : Value) (w : World) (ad : Option Addr) (cap : Nat) (hv : v = .slice ad 0 cap) :
    Calls Tryd.prog 14 #[v] w fun e w' => e = .returned (.tuple #[.int .u64 0, .int .i64 0, .int .i64 2]) ∧ Below w.heap.size w w' := by
  subst hv
  go_enter Tryd.func14, Tryd.ntmps14
  go_wp2
  go_ret3
  exact ⟨rfl, Below.refl _ _⟩

theorem sRead_some (b o cap : Nat) (l : List Int) (h : Int) (t : List Int) (hl : l = h :: t) (w : World) (hc : ∀ j, j < l.length → w.cell? ⟨b, o + j, none⟩ = some (.int .u8 (l.getD j 0))) (hr : ∀ x ∈ l, 0 ≤ x ∧ x < 256) (hn : l.length ≤ 2147483647) :
    Calls Tryd.prog 14 #[.slice (some ⟨b, o, none⟩) l.length cap] w fun e w' => e = .returned (.tuple #[.int .u64 (told l).1, .int .i64 (told l).2.1, .int .i64 (told l).2.2]) ∧ Below w.heap.size w w' := by
  have h0 := hr h (by rw [hl]; simp)
  have hc0 : w.cell? ⟨b, o, none⟩ = some (.int .u8 h) := by have := hc 0 (by rw [hl]; simp); rw [hl] at this; simpa using this
  have hlen : l.length = t.length + 1 := by rw [hl]; rfl
  by_cases c1 : h < 128
  · have ht : told l = (h, 1, 0) := by rw [hl]; simp [told, rd, c1, enc_small]
    have hp2 : ((l.length : Int) == 0) = false := by rw [beq_eq_false_iff_ne]; omega
    have hp3 : 0 < l.length := by omega
    have Ht := hid ht
    clear ht hl hr hc
    go_enter Tryd.func14, Tryd.ntmps14
    go_wp2
    go_ret3
    rw [Ht.out]
    exact ⟨rfl, Below.refl _ _⟩
  · obtain ⟨n, hn0⟩ : ∃ n : Nat, n = (256 - h).toNat := ⟨_, rfl⟩
    have n1 : (n : Int) ≤ 256 - h := by omega
    have n2 : 256 - h ≤ (n : Int) := by omega
    have hp2 : ((l.length : Int) == 0) = false := by rw [beq_eq_false_iff_ne]; omega
    have hp3 : 0 < l.length := by omega
    by_cases c2 : 8 < n
    · have ht : told l = (0, 0, 2) := by rw [hl]; simp only [told, rd]; rw [if_neg c1, if_pos (by omega)]
      have Ht := hid ht
      clear ht hl hr hc hn0
      go_enter Tryd.func14, Tryd.ntmps14
      go_wp2
      go_ret3
      rw [Ht.out]
      exact ⟨rfl, Below.refl _ _⟩
    · by_cases c3 : l.length < n + 1
      · have ht : told l = (0, 0, 2) := by rw [hl]; simp only [told, rd]; rw [if_neg c1, if_pos (by omega)]
        have Ht := hid ht
        clear ht hl hr hc hn0
        go_enter Tryd.func14, Tryd.ntmps14
        go_wp2
        go_ret3
        rw [Ht.out]
        exact ⟨rfl, Below.refl _ _⟩
      · have hrd : rd l = some (val (t.take n), n + 1) := by rw [hl, rd, if_neg c1, if_neg (by omega), ← hn0]
        have hval : ∀ i, i ≤ n → 0 ≤ val (t.take i) ∧ val (t.take i) < 256 ^ i := fun i hi => by
          have := val_range (t.take i) (fun x hx => hr x (by rw [hl]; exact List.mem_cons_of_mem _ (List.mem_of_mem_take hx)))
          rwa [List.length_take, Nat.min_eq_left (by omega)] at this
        have hstep : ∀ i, i < n → val (t.take (i + 1)) = val (t.take i) * 256 + t.getD i 0 ∧ 0 ≤ t.getD i 0 ∧ t.getD i 0 < 256 ∧ w.cell? ⟨b, o + (1 + i), none⟩ = some (.int .u8 (t.getD i 0)) := fun i hi => by
          have hit : i < t.length := by omega
          have hc1 := hc (1 + i) (by omega)
          have eg : l.getD (1 + i) 0 = t.getD i 0 := by rw [hl, Nat.add_comm 1 i]; simp [List.getD]
          rw [eg] at hc1
          have hb := hr (t.getD i 0) (by rw [hl, List.getD, List.getElem?_eq_getElem hit]; exact List.mem_cons_of_mem _ (List.getElem_mem hit))
          refine ⟨?_, hb.1, hb.2, hc1⟩
          rw [List.take_succ_eq_append_getElem hit, val_snoc, List.getD, List.getElem?_eq_getElem hit]
          rfl
        have Hval := hid hval
        have Hstep := hid hstep
        have Hrd := hid hrd
        have hn8 : n ≤ 8 := by omega
        have hlen2 : n + 1 ≤ l.length := by omega
        clear hval hstep hrd hl hr hc hn0 c2 c3 hlen
        go_enter Tryd.func14, Tryd.ntmps14
        go_wp2
        go_loop [2, 32] (fun x i => ∃ k : Nat, k ≤ n ∧ i = .int .i64 k ∧ ∃ y : Int, x = .int .u64 y ∧ Hid (y = val (t.take k))) (fun _ i => n - (intOf i).toNat)
        case atStart => exact ⟨0, by omega, rfl, 0, rfl, hid (by simp [val])⟩
        case round =>
          obtain ⟨k, hk, rfl, y, rfl, hy⟩ := hrel
          have hyr := Hval.out k hk
          rw [← hy.out] at hyr
          obtain ⟨y0, y1⟩ := hyr
          by_cases hlt : k < n
          · have y2 : y < 72057594037927936 := by
              have := p256_mono (a := k) (b := 7) (by omega)
              rw [p256_7] at this
              omega
            obtain ⟨s1, s2, s3, s4⟩ := Hstep.out k hlt
            obtain ⟨z, hz⟩ : ∃ z, z = t.getD k 0 := ⟨_, rfl⟩
            rw [← hz] at s1 s2 s3 s4
            have Hs1 := hid s1
            have Ho := hid (or_byte y z y0 y2 s2 s3)
            clear s1 hz y1
            go_wp2
            go_round
            case rel => exact ⟨k + 1, by omega, by go_num, _, rfl, hid (by rw [Ho.out, Hs1.out, hy.out])⟩
            case measure => simp [intOf]; omega
          · obtain rfl : k = n := by omega
            have y2 : y ≤ 18446744073709551615 := by
              have := p256_mono (a := k) (b := 8) (by omega)
              rw [p256_8] at this
              omega
            have hel := enc_length y
            clear y1
            have Ht : Hid (told l = (y, (k : Int) + 1, if (enc y).length = k + 1 then 0 else 1)) := by
              unfold told
              rw [Hrd.out, ← hy.out]
              rfl
            go_wp2_with fail
            refine (sUint_any y w y0 y2).mono ?_
            rintro e w1 ⟨v1, rfl, ho1, hb1⟩
            obtain ⟨ad1, cap1, rfl, _⟩ := ho1.holds.shape
            clear ho1
            go_wp2_with fail
            · have hq : (((enc y).length : Int) != 1 + (256 - h)) = true := by assumption
              rw [bne_iff_ne] at hq
              go_ret3
              refine ⟨?_, hb1⟩
              rw [Ht.out, if_neg (by omega)]
              show Ending.returned (.tuple #[.int .u64 y, .int .i64 (1 + (256 - h)), .int .i64 1]) = _
              rw [show (1 + (256 - h)) = (k : Int) + 1 by omega]
            · have hq : (((enc y).length : Int) != 1 + (256 - h)) = false := by assumption
              have hq2 : ((enc y).length : Int) = 1 + (256 - h) := by simpa using hq
              go_ret3
              refine ⟨?_, hb1⟩
              rw [Ht.out, if_pos (by omega)]
              show Ending.returned (.tuple #[.int .u64 y, .int .i64 (1 + (256 - h)), .int .i64 0]) = _
              rw [show (1 + (256 - h)) = (k : Int) + 1 by omega]

/-- Read of whatever bytes. -/
theorem sRead_any (v : Value) (l : List Int) (w : World) (hsrc : Src w v (u8s l)) (hr : ∀ x ∈ l, 0 ≤ x ∧ x < 256) (hn : l.length ≤ 2147483647) :
    Calls Tryd.prog 14 #[v] w fun e w' => e = .returned (.tuple #[.int .u64 (told l).1, .int .i64 (told l).2.1, .int .i64 (told l).2.2]) ∧ Below w.heap.size w w' := by
  cases l with
  | nil =>
    obtain ⟨ad, cap, rfl, _⟩ := hsrc.shape
    exact sRead_none _ w ad cap rfl
  | cons h t =>
    obtain ⟨ad, cap, rfl, hle, h0 | ⟨b, o, rfl, hc⟩⟩ := hsrc.holds
    · cases h0
    · exact sRead_some b o cap (h :: t) h t rfl w hc hr hn

end Go.Proofs.YtleddjhlpgemjaaDoor
