/- PROVED: bytes.Compare and bytes.HasPrefix of what is written of two integers. Conditions: the numbers are uint64. -/
import Derived.Test.YtleddjhlpgemjaaBytes
import Derived.Test.YtleddjhlpgemjaaRd
import Derived.Lib.BytesEntry
import Derived.Lib.Bytealg
namespace Go.Proofs.Ytleddjhlpgemjaa
open Go.RowKit

theorem bytesOf_cons (a : Int) (l : List Int) : Lib.bytesOf (a :: l) = UInt8.ofNat a.toNat :: Lib.bytesOf l := rfl

theorem cmp_cons_lt (a b : Int) (l m : List Int) (ha : 0 ≤ a) (hb : b < 256) (h : a < b) : Lib.compareBytes (Lib.bytesOf (a :: l)) (Lib.bytesOf (b :: m)) = -1 := by
  rw [bytesOf_cons, bytesOf_cons, Lib.compareBytes, if_pos]
  rw [UInt8.lt_iff_toNat_lt]
  simp only [UInt8.toNat_ofNat']
  omega

theorem cmp_cons_gt (a b : Int) (l m : List Int) (hb : 0 ≤ b) (ha : a < 256) (h : b < a) : Lib.compareBytes (Lib.bytesOf (a :: l)) (Lib.bytesOf (b :: m)) = 1 := by
  rw [bytesOf_cons, bytesOf_cons, Lib.compareBytes, if_neg, if_pos]
  · rw [UInt8.lt_iff_toNat_lt]
    simp only [UInt8.toNat_ofNat']
    omega
  · rw [UInt8.lt_iff_toNat_lt]
    simp only [UInt8.toNat_ofNat']
    omega

theorem cmp_cons_eq (a : Int) (l m : List Int) : Lib.compareBytes (Lib.bytesOf (a :: l)) (Lib.bytesOf (a :: m)) = Lib.compareBytes (Lib.bytesOf l) (Lib.bytesOf m) := by
  rw [bytesOf_cons, bytesOf_cons, Lib.compareBytes, if_neg (UInt8.lt_irrefl _), if_neg (UInt8.lt_irrefl _)]

theorem cmp_be : ∀ (n : Nat) (x y : Int), x % 256 ^ n < y % 256 ^ n →
    Lib.compareBytes (Lib.bytesOf (be n x)) (Lib.bytesOf (be n y)) = -1 ∧ Lib.compareBytes (Lib.bytesOf (be n y)) (Lib.bytesOf (be n x)) = 1
  | 0, x, y, h => by simp [Int.emod_one] at h
  | n + 1, x, y, h => by
    have hp := p256_pos n
    rw [Int.pow_succ, emod_mul256 x _ hp, emod_mul256 y _ hp] at h
    have hx0 := Int.emod_nonneg x (Int.ne_of_gt hp)
    have hy1 := Int.emod_lt_of_pos y hp
    have bx : 0 ≤ x / 256 ^ n % 256 ∧ x / 256 ^ n % 256 < 256 := by omega
    have by' : 0 ≤ y / 256 ^ n % 256 ∧ y / 256 ^ n % 256 < 256 := by omega
    rcases Int.lt_trichotomy (x / 256 ^ n % 256) (y / 256 ^ n % 256) with hd | hd | hd
    · exact ⟨cmp_cons_lt _ _ _ _ bx.1 by'.2 hd, cmp_cons_gt _ _ _ _ bx.1 by'.2 hd⟩
    · rw [hd] at h
      have ih := cmp_be n x y (by omega)
      rw [be, be, hd, cmp_cons_eq, cmp_cons_eq]
      exact ih
    · exfalso
      have hm := Int.mul_le_mul_of_nonneg_right (show y / 256 ^ n % 256 + 1 ≤ x / 256 ^ n % 256 by omega) (Int.le_of_lt hp)
      rw [Int.add_mul] at hm
      omega

theorem nb_mono (x y : Int) (h : x ≤ y) : nb x ≤ nb y := by
  unfold nb
  (repeat' split) <;> omega

/-- The order of what is written. -/
theorem enc_order (x y : Int) (hx0 : 0 ≤ x) (hy1 : y ≤ 18446744073709551615) (h : x < y) :
    (enc x).length < (enc y).length ∨ ((enc x).length = (enc y).length ∧ Lib.compareBytes (Lib.bytesOf (enc x)) (Lib.bytesOf (enc y)) = -1 ∧ Lib.compareBytes (Lib.bytesOf (enc y)) (Lib.bytesOf (enc x)) = 1) := by
  by_cases cy : y < 128
  · rw [enc_small x (by omega), enc_small y cy]
    exact .inr ⟨rfl, cmp_cons_lt _ _ _ _ hx0 (by omega) h, cmp_cons_gt _ _ _ _ hx0 (by omega) h⟩
  · have hny := nb_range y
    by_cases cx : x < 128
    · rw [enc_small x cx, enc_large y cy]
      left
      simp [be_length]
      omega
    · have hm := nb_mono x y (by omega)
      rw [enc_large x cx, enc_large y cy]
      by_cases he : nb x = nb y
      · have hlx := nb_lt x (by omega)
        have hly := nb_lt y hy1
        right
        rw [he] at hlx ⊢
        refine ⟨by simp [be_length], ?_⟩
        rw [cmp_cons_eq, cmp_cons_eq]
        exact cmp_be _ x y (by rw [Int.emod_eq_of_lt hx0 hlx, Int.emod_eq_of_lt (by omega) hly]; exact h)
      · left
        simp [be_length]
        omega

theorem Holds.entry {w : World} {v : Value} {l : List Int} (h : Holds w v l) : (Extern.Bytes.bytesOf v).run Try.prog w = .ok ⟨(Lib.bytesOf l).toArray⟩ w := by
  obtain ⟨ad, cap, rfl, hle, h⟩ := h
  rcases h with rfl | ⟨b, o, rfl, hc⟩
  · cases ad with
    | none => rfl
    | some a => rfl
  · have := Lib.run_loadBytesX (P := Try.prog) w l ⟨b, o, none⟩ .empty (fun j x hj => by
      have hlt := (List.getElem?_eq_some_iff.1 hj).1
      rw [Addr.add_lit, hc j hlt, List.getD, hj]; rfl)
    show (Extern.Bytes.loadBytes _ _ _).run Try.prog w = _
    rw [this]
    congr 2
    simp [ByteArray.empty, ByteArray.emptyWithCapacity]
    rfl

theorem compare_run (v1 v2 : Value) (l1 l2 : List Int) (w : World) (h1 : Holds w v1 l1) (h2 : Holds w v2 l2) :
    (callFunc 23 #[v1, v2]).run Try.prog w = .ok (.value (.int .i64 (Lib.compareBytes (Lib.bytesOf l1) (Lib.bytesOf l2)))) w := by
  rw [run_callFunc_extern (e := Extern.BytealgCompare.compare) Try.func23 (by kernel_rfl) (by kernel_rfl) (by kernel_rfl) (by kernel_rfl) _ w]
  have e : (Extern.BytealgCompare.compare #[v1, v2]).run Try.prog w = .ok (.int .i64 (Lib.compareBytes (Lib.bytesOf l1) (Lib.bytesOf l2))) w := by
    change Sem.run Try.prog (do pure (goInt (Extern.BytealgCompare.cmp (← Extern.Bytes.bytesOf v1) (← Extern.Bytes.bytesOf v2)))) w = _
    simp only [Sem.run_bind, Sem.run_pure, h1.entry, h2.entry, Result.andThen]
    rw [Lib.cmp_eq]
    rfl
  rw [e]
  rfl

theorem compare_any (v1 v2 : Value) (l1 l2 : List Int) (w : World) (h1 : Holds w v1 l1) (h2 : Holds w v2 l2) (c : Int) (hc : Lib.compareBytes (Lib.bytesOf l1) (Lib.bytesOf l2) = c) :
    Calls Try.prog 15 #[v1, v2] w fun e w' => e = .returned (.int .i64 c) ∧ w' = w := by
  obtain ⟨ad1, cap1, rfl, _⟩ := h1.shape
  obtain ⟨ad2, cap2, rfl, _⟩ := h2.shape
  have hr := compare_run _ _ _ _ _ h1 h2
  rw [hc] at hr
  have H1 := hid h1
  have H2 := hid h2
  clear h1 h2 hc
  go_enter Try.func15, Try.ntmps15
  go_wp2
  go_ret
  exact ⟨rfl, rfl⟩

/-- HasPrefix where the second is no beginning of the first. -/
theorem hasPrefix_no (v1 v2 : Value) (l1 l2 : List Int) (w : World) (h1 : Holds w v1 l1) (h2 : Holds w v2 l2) (r1 : ∀ b ∈ l1, 0 ≤ b ∧ b < 256) (r2 : ∀ b ∈ l2, 0 ≤ b ∧ b < 256) (hn : ∀ t, l1 ≠ l2 ++ t) :
    Calls Try.prog 14 #[v1, v2] w fun e w' => e = .returned (.bool false) ∧ w' = w := by
  obtain ⟨ad1, cap1, rfl, hle⟩ := h1.shape
  obtain ⟨ad2, cap2, rfl, _⟩ := h2.shape
  by_cases c : l2.length ≤ l1.length
  · have hh : Holds w (.slice ad1 l2.length cap1) (l1.take l2.length) := by
      obtain ⟨ad', cap', hv, _, h⟩ := h1
      simp only [Value.slice.injEq] at hv
      obtain ⟨rfl, _, rfl⟩ := hv
      have e : (l1.take l2.length).length = l2.length := by rw [List.length_take]; omega
      refine ⟨ad1, cap1, by rw [e], by omega, ?_⟩
      rcases h with rfl | ⟨b, o, rfl, hc⟩
      · exact .inl (by simp)
      · refine .inr ⟨b, o, rfl, fun j hj => ?_⟩
        rw [e] at hj
        rw [hc j (by omega)]
        simp [List.getD, hj]
    have hne : ((strOfNums (l1.take l2.length)).toList == (strOfNums l2).toList) = false := by
      rw [beq_eq_false_iff_ne]
      intro e
      rw [ByteArray.toList_eq, ByteArray.toList_eq] at e
      have := strOfNums_inj (fun b hb => r1 b (List.mem_of_mem_take hb)) r2 (by
        have e2 : (strOfNums (l1.take l2.length)).data = (strOfNums l2).data := Array.ext' e
        exact ByteArray.ext e2)
      exact hn (l1.drop l2.length) (by conv => rhs; arg 1; rw [← this]
                                       exact (List.take_append_drop _ _).symm)
    have Hh := hid hh
    have H2 := hid h2
    have Hne := hid hne
    have hc' : (l2.length : Int) ≤ l1.length := by omega
    clear h1 h2 hn hh r1 r2 hne
    go_enter Try.func14, Try.ntmps14
    go_wp2_with fail
    refine (equal_any _ _ _ _ w Hh.out H2.out).mono ?_
    rintro e w' ⟨rfl, rfl⟩
    rw [Hne.out]
    go_wp2_with fail
    go_ret
    exact ⟨rfl, rfl⟩
  · have hc' : (l1.length : Int) < l2.length := by omega
    clear h1 h2 hn r1 r2
    go_enter Try.func14, Try.ntmps14
    go_wp2
    go_ret
    exact ⟨rfl, rfl⟩
end Go.Proofs.Ytleddjhlpgemjaa
