/- PROVED: what the encoder's buffer holds behind an append, by one law for the walk. Conditions: the slice's bytes lie as 'Blk' and 'Vals' say, and the sum of the bytes is below 2^47. -/
import Derived.Test.YtleddjhlpgemjaaDoorProg
import Derived.Test.YtleddjhlpgemjaaDoorPlain
import Derived.WalkKit
import Derived.WalkSmall
import Derived.WalkLawsBesides
namespace Go.Proofs.YtleddjhlpgemjaaDoor
open Go.RowKit

theorem Tryd.infoU8 : (Tryd.prog.info? 5).map (fun i => (i.zero, i.size, i.bytes)) = some (some (.int .u8 0), 1, 1) := by kernel_rfl

/-- The encoder's two blocks, h (the buffer) and h + 1 (the state): all but the buffer's slice. -/
structure Blk (w : World) (h : Nat) : Prop where
  size : h + 2 ≤ w.heap.size
  headFree : w.frozen? ⟨h, 0, none⟩ = false
  room : ∀ j, j < 64 → (w.cell? ⟨h, 1 + j, none⟩).isSome = true ∧ w.frozen? ⟨h, 1 + j, none⟩ = false
  st : w.cell? ⟨h + 1, 0, none⟩ = some (.pointer (some ⟨h, 0, none⟩))
  buf : ∀ j, j < 9 → (w.cell? ⟨h + 1, 3 + j, none⟩).isSome = true ∧ w.frozen? ⟨h + 1, 3 + j, none⟩ = false

/-- The buffer's slice v holds ks: in the buffer's own array, or in a row that an append has made. -/
def Vals (w : World) (h : Nat) (v : Value) (ks : List Value) : Prop :=
  (ks.length ≤ 64 ∧ v = .slice (some ⟨h, 1, none⟩) ks.length 64 ∧ ∀ j, j < ks.length → w.cell? ⟨h, 1 + j, none⟩ = ks[j]?) ∨ (ks ≠ [] ∧ w.ownsRow (h + 2) 5 1 v ks.length ks)

theorem Vals.shape {w : World} {h : Nat} {v : Value} {ks : List Value} (hv : Vals w h v ks) : ∃ ad cap, v = .slice ad ks.length cap := by
  rcases hv with ⟨_, rfl, _⟩ | ⟨_, _, ⟨rfl, h0⟩ | ⟨g, cap, cur, rfl, _⟩⟩
  · exact ⟨_, _, rfl⟩
  · exact ⟨none, 0, by rw [h0]⟩
  · exact ⟨_, _, rfl⟩

/-- Where the cells of the slice lie: for whoever copies it. -/
theorem Vals.cells {w : World} {h : Nat} {ad : Option Addr} {n cap : Nat} {ks : List Value} (hv : Vals w h (.slice ad n cap) ks) :
    ∃ a : Addr, ad = some a ∧ ∀ j u, ks[j]? = some u → w.cell? (a.add j) = some u := by
  rcases hv with ⟨_, hv, hc⟩ | ⟨hne, hown⟩
  · simp only [Value.slice.injEq] at hv
    refine ⟨⟨h, 1, none⟩, hv.1, fun j u hj => ?_⟩
    rw [Addr.add_lit, hc j (List.getElem?_eq_some_iff.1 hj).1, hj]
  · have hown0 := hown
    rcases hown.2 with ⟨_, h0⟩ | ⟨g, cap', _, hv, _⟩
    · exact absurd (List.eq_nil_of_length_eq_zero h0) hne
    · simp only [Value.slice.injEq] at hv
      obtain ⟨rfl, _, _⟩ := hv
      exact ⟨⟨g, 0, none⟩, rfl, fun j u hj => hown0.cells rfl j u hj⟩

theorem Blk.below {w w' : World} {h : Nat} (hb : Blk w h) (hh : Below (h + 2) w w') : Blk w' h where
  size := Nat.le_trans hb.size hh.size
  headFree := (hh.frozen (p := ⟨h, 0, none⟩) (by show h < h + 2; omega)).trans hb.headFree
  room := fun j hj => by rw [hh.cell (p := ⟨h, 1 + j, none⟩) (by show h < h + 2; omega), hh.frozen (p := ⟨h, 1 + j, none⟩) (by show h < h + 2; omega)]; exact hb.room j hj
  st := (hh.cell (p := ⟨h + 1, 0, none⟩) (by show h + 1 < h + 2; omega)).trans hb.st
  buf := fun j hj => by rw [hh.cell (p := ⟨h + 1, 3 + j, none⟩) (by show h + 1 < h + 2; omega), hh.frozen (p := ⟨h + 1, 3 + j, none⟩) (by show h + 1 < h + 2; omega)]; exact hb.buf j hj

theorem isSome_setCell {w : World} {p q : Addr} {u : Value} (h : (w.cell? q).isSome = true) : ((w.setCell p u).cell? q).isSome = true := by
  obtain ⟨v, hv⟩ := Option.isSome_iff_exists.1 h
  obtain ⟨v', hv'⟩ := cell?_setCell_some (w := w) (p := p) (x := u) (q := q) (v := v) hv
  rw [hv']; rfl

theorem ownsRow_mono {w : World} {base base' : Nat} {e : TypeId} {size : Nat} {v : Value} {n : Nat} {xs : List Value} (h : w.ownsRow base e size v n xs) (hb : base' ≤ base) : w.ownsRow base' e size v n xs :=
  ⟨h.1, h.2.imp id fun ⟨g, cap, cur, h1, h2, h3⟩ => ⟨g, cap, cur, h1, Nat.le_trans hb h2, h3⟩⟩

theorem below_setCells {B b : Nat} : ∀ (vs : List Value) (o : Nat) {a w : World}, Below B a w → B ≤ b → Below B a (w.setCells b o vs)
  | [], _, _, _, h, _ => h
  | _ :: r, o, _, _, h, hb => by
    rw [World.setCells]
    exact below_setCells r (o + 1) (h.setCell (p := ⟨b, o, none⟩) hb _) hb

/-- A store into a cell of the two blocks, but for the state's first one. -/
theorem Blk.setCell {w : World} {h : Nat} (hb : Blk w h) (p : Addr) (u : Value) (hp : p ≠ ⟨h + 1, 0, none⟩) : Blk (w.setCell p u) h where
  size := by rw [World.size_setCell]; exact hb.size
  headFree := by rw [World.frozen?_setCell]; exact hb.headFree
  room := fun j hj => ⟨isSome_setCell (hb.room j hj).1, by rw [World.frozen?_setCell]; exact (hb.room j hj).2⟩
  st := by rw [World.cell?_setCell_other _ _ _ _ hp]; exact hb.st
  buf := fun j hj => ⟨isSome_setCell (hb.buf j hj).1, by rw [World.frozen?_setCell]; exact (hb.buf j hj).2⟩

theorem Blk.setCells {h b : Nat} : ∀ (vs : List Value) (o : Nat) {w : World}, Blk w h → (b = h + 1 → 0 < o) → Blk (w.setCells b o vs) h
  | [], _, _, hb, _ => hb
  | v :: r, o, w, hb, ho => by
    rw [World.setCells]
    exact Blk.setCells r (o + 1) (hb.setCell _ _ (fun e => by simp only [Addr.mk.injEq] at e; have := ho e.1; omega)) (fun _ => by omega)

/-- ONE APPEND ONTO THE BUFFER's SLICE: in its own array while there is room, else in a new row. -/
theorem run_append_enc {w : World} {h : Nat} {v : Value} {ks : List Value} (ty : TypeId) (hb : Blk w h) (hv : Vals w h v ks)
    (ad : Addr) (c : Nat) (news : List Value) (hnews : ∀ j u, news[j]? = some u → w.cell? (ad.add j) = some u) (h1 : ∀ u ∈ news, u.oneCell' = true) (hlen : ks.length + news.length ≤ 140737488355328) :
    ∃ ad' cap' w', (Builtin.append_ #[22, 22] ty #[v, .slice (some ad) news.length c]).run Tryd.prog w = .ok (.slice ad' (ks ++ news).length cap') w' ∧ Blk w' h ∧
      w'.cell? ⟨h, 0, none⟩ = w.cell? ⟨h, 0, none⟩ ∧ Vals w' h (.slice ad' (ks ++ news).length cap') (ks ++ news) ∧ Below h w w' := by
  obtain ⟨i0, hi, hz0, hz1, hz2⟩ := info_parts Tryd.infoU8
  have hmax : ks.length + news.length ≤ maxLen := by unfold maxLen; omega
  have fin : ∀ (v' : Value) (w' : World), (Builtin.append_ #[22, 22] ty #[v, .slice (some ad) news.length c]).run Tryd.prog w = .ok v' w' → Below (h + 2) w w' → ks ++ news ≠ [] → w'.ownsRow (h + 2) 5 1 v' (ks.length + news.length) (ks ++ news) →
      ∃ ad' cap' w', (Builtin.append_ #[22, 22] ty #[v, .slice (some ad) news.length c]).run Tryd.prog w = .ok (.slice ad' (ks ++ news).length cap') w' ∧ Blk w' h ∧
        w'.cell? ⟨h, 0, none⟩ = w.cell? ⟨h, 0, none⟩ ∧ Vals w' h (.slice ad' (ks ++ news).length cap') (ks ++ news) ∧ Below h w w' := by
    intro v' w' hr hbel hne hown
    rw [← List.length_append] at hown
    have hvals : Vals w' h v' (ks ++ news) := .inr ⟨hne, hown⟩
    obtain ⟨ad', cap', rfl⟩ := hvals.shape
    exact ⟨ad', cap', w', hr, hb.below hbel, hbel.cell (p := ⟨h, 0, none⟩) (by show h < h + 2; omega), hvals, hbel.mono (by omega)⟩
  rcases hv with ⟨hle, rfl, hc⟩ | ⟨hne, hown⟩
  · by_cases hr : ks.length + news.length ≤ 64
    · have hcells : ∀ j, j < news.length → (w.cell? ⟨h, 1 + ks.length * i0.size + j, none⟩).isSome = true ∧ w.frozen? ⟨h, 1 + ks.length * i0.size + j, none⟩ = false := by
        intro j hj
        rw [hz1, Nat.mul_one, Nat.add_assoc]
        exact hb.room (ks.length + j) (by omega)
      have hrun := run_append_room_cells (P := Tryd.prog) w 22 ty 5 i0 Tryd.underlying22 hi h 1 ks.length 64 ad news.length c news (by rw [hz1, Nat.mul_one]) hnews h1 hr (fun j hj => (hcells j hj).1) (fun j hj => (hcells j hj).2)
      rw [hz1, Nat.mul_one] at hrun
      refine ⟨some ⟨h, 1, none⟩, 64, _, by rw [List.length_append]; exact hrun, Blk.setCells _ _ hb (by omega), ?_, ?_, below_setCells _ _ (Below.refl _ _) (Nat.le_refl _)⟩
      · exact World.cell?_setCells_out h _ _ _ _ (fun _ _ => Or.inl (by show 0 < 1 + ks.length; omega))
      · refine .inl ⟨by rw [List.length_append]; exact hr, rfl, fun j hj => ?_⟩
        rw [List.length_append] at hj
        by_cases hj2 : j < ks.length
        · rw [World.cell?_setCells_out h _ _ _ _ (fun _ _ => Or.inl (by show 1 + j < 1 + ks.length; omega)), hc j hj2, List.getElem?_append_left hj2]
        · have := World.cell?_setCells_in h news (1 + ks.length) w (fun i hi' => by rw [Nat.add_assoc]; exact (hb.room (ks.length + i) (by omega)).1) (j - ks.length) (by omega)
          rw [show 1 + ks.length + (j - ks.length) = 1 + j by omega] at this
          rw [this, List.getElem?_append_right (by omega), List.getElem?_eq_getElem]
    · obtain ⟨v', w', hrun, r1, r2⟩ := run_append_arg_grows (P := Tryd.prog) w 22 ty 5 i0 (.int .u8 0) 1 1 Tryd.underlying22 hi hz0 hz1 hz2 rfl (by decide) ⟨h, 1, none⟩ ks.length 64 ks (by simp)
        (fun j u hj => by rw [Addr.add_lit]; rw [hc j (List.getElem?_eq_some_iff.1 hj).1]; exact hj) ad news.length c news (by simp) hnews (by omega) hmax (by omega)
      exact fin v' w' hrun ((Below.refl _ _).grown r2 hb.size (by simp)) (fun e => hr (by have := congrArg List.length e; simp only [List.length_append, List.length_nil] at this; omega)) (ownsRow_mono r1 hb.size)
  · obtain ⟨v', w', hrun, r1, r2, _⟩ := run_append_own (P := Tryd.prog) w (h + 2) 22 ty 5 i0 (.int .u8 0) 1 1 Tryd.underlying22 hi hz0 hz1 hz2 rfl (by decide) v ks.length ks hown ad news.length c news (by simp) hnews h1 hmax (by omega) hb.size
    exact fin v' w' hrun ((Below.refl _ _).grown r2 hb.size (fun k hk => (hown.lt k hk).1)) (fun e => hne (List.append_eq_nil_iff.1 e).1) r1

/-- .. for the walk. -/
theorem wpList_append_enc {w : World} {ops : Array Oper} {rest : List Oper} {o : Oper} {a : Act} {Q : Exit → Act → World → Prop} (hgd : o.guard = none) (s x : Operand)
    (ho : o.op = .call { callee := .builtin .append, args := #[s, x], argTypes := #[22, 22] })
    {h : Nat} {v : Value} {ks : List Value} (hb : Blk w h) (hv : Vals w h v ks) (hs : a.eval s = v)
    (ad : Addr) (m c : Nat) (news : List Value) (hx : a.eval x = .slice (some ad) m c) (hm : news.length = m) (hnews : ∀ j u, news[j]? = some u → w.cell? (ad.add j) = some u) (h1 : ∀ u ∈ news, u.oneCell' = true) (hlen : ks.length + m ≤ 140737488355328)
    (hK : ∀ ad' cap' w', Blk w' h → w'.cell? ⟨h, 0, none⟩ = w.cell? ⟨h, 0, none⟩ → Vals w' h (.slice ad' (ks ++ news).length cap') (ks ++ news) → Below h w w' → wpList Tryd.prog ops Q rest (a.put o.dst (.slice ad' (ks ++ news).length cap')) w') :
    wpList Tryd.prog ops Q (o :: rest) a w := by
  refine wpList_plain hgd fun K hK' => ?_
  subst hm
  obtain ⟨ad', cap', w', hrun, r1, r2, r3, r4⟩ := run_append_enc o.type hb hv ad c news hnews h1 hlen
  unfold Oper.wp execOp
  simp only [ho, resolve, invoke, builtin, Sem.run_bind, Sem.run_pure, Result.andThen_ok, List.map_toArray, List.map_cons, List.map_nil, hs, hx, hrun]
  exact hK' _ _ (hK ad' cap' w' r1 r2 r3 r4)

theorem Vals.alloc {w : World} {h : Nat} {v : Value} {ks : List Value} (hv : Vals w h v ks) (hs : h + 2 ≤ w.heap.size) (o : Obj) : Vals (w.alloc o) h v ks := by
  rcases hv with ⟨hle, rfl, hc⟩ | ⟨hne, hown⟩
  · refine .inl ⟨hle, rfl, fun j hj => ?_⟩
    rw [(Below.alloc (Below.refl (h + 2) w) hs o).cell (p := ⟨h, 1 + j, none⟩) (by show h < h + 2; omega)]
    exact hc j hj
  · exact .inr ⟨hne, hown.alloc o⟩

theorem Blk.alloc {w : World} {h : Nat} (hb : Blk w h) (o : Obj) : Blk (w.alloc o) h := hb.below ((Below.refl _ _).alloc hb.size o)
theorem Blk.drew {w : World} {h : Nat} (hb : Blk w h) : Blk w.drew h := hb.below (Below.refl _ _).drew
theorem Vals.drew {w : World} {h : Nat} {v : Value} {ks : List Value} (hv : Vals w h v ks) : Vals w.drew h v ks := hv

/-- The encoder whose two blocks are h and h + 1 has written ks. -/
def EncAt (w : World) (h : Nat) (ks : List Value) : Prop :=
  Blk w h ∧ ∃ ad cap, w.cell? ⟨h, 0, none⟩ = some (.slice ad ks.length cap) ∧ Vals w h (.slice ad ks.length cap) ks

/-- The store of the longer slice into the buffer's first cell. -/
theorem Vals.stored {w : World} {h : Nat} {v : Value} {ks : List Value} (hv : Vals w h v ks) (u : Value) : Vals (w.setCell ⟨h, 0, none⟩ u) h v ks := by
  rcases hv with ⟨hle, rfl, hc⟩ | ⟨hne, hown⟩
  · refine .inl ⟨hle, rfl, fun j hj => ?_⟩
    rw [World.cell?_setCell_other _ _ _ _ (by simp only [ne_eq, Addr.mk.injEq]; omega)]
    exact hc j hj
  · exact .inr ⟨hne, ownsRow_setCell_below hown (a := ⟨h, 0, none⟩) (by show h < h + 2; omega) u⟩

end Go.Proofs.YtleddjhlpgemjaaDoor
