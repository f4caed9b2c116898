/- PROVED: what is known of a slice that came in, and of the copy that 'append' makes of it onto a nil slice. Condition: it takes fewer than 2^47 bytes. -/
import Derived.Test.YtleddjhlpgemjaaDoorBytes
namespace Go.Proofs.YtleddjhlpgemjaaDoor
open Go.RowKit

/-- What a row hands over of a slice of integers that came in. -/
def IsRow (k : IntKind) (w : World) (a : Option Addr) (len cap : Nat) (zs : List Int) : Prop :=
  (a = none ∧ len = 0 ∧ cap = 0 ∧ zs = []) ∨
  ∃ x, a = some x ∧ len ≤ cap ∧ cap ≤ maxLen ∧ zs.length = cap ∧ (∀ i, i < zs.length → w.cell? (x.add i) = some (.int k (zs.getD i 0))) ∧ ∀ n ∈ zs, (Lit.int k n).wf = true

/-- v is a slice whose elements are the cells l: nil, or at some address. -/
def Src (w : World) (v : Value) (l : List Value) : Prop :=
  (v = .slice none 0 0 ∧ l = []) ∨
  ∃ a cap, v = .slice (some a) l.length cap ∧ l.length ≤ cap ∧ (l = [] ∨ ∃ b o, a = ⟨b, o, none⟩ ∧ ∀ j u, l[j]? = some u → w.cell? ⟨b, o + j, none⟩ = some u)

theorem Src.shape {w : World} {v : Value} {l : List Value} (h : Src w v l) : ∃ ad cap, v = .slice ad l.length cap ∧ l.length ≤ cap := by
  rcases h with ⟨rfl, rfl⟩ | ⟨a, cap, rfl, hle, _⟩
  · exact ⟨none, 0, rfl, Nat.le_refl _⟩
  · exact ⟨some a, cap, rfl, hle⟩

theorem Src.of_row {w : World} {k : IntKind} {a : Option Addr} {len cap : Nat} {zs : List Int} (h : IsRow k w a len cap zs) : Src w (.slice a len cap) ((zs.take len).map (Value.int k)) := by
  rcases h with ⟨rfl, rfl, rfl, rfl⟩ | ⟨x, rfl, hle, _, hz, hc, _⟩
  · exact .inl ⟨rfl, by simp⟩
  · have el : ((zs.take len).map (Value.int k)).length = len := by rw [List.length_map, List.length_take]; omega
    refine .inr ⟨x, cap, by rw [el], by omega, ?_⟩
    rcases Nat.eq_zero_or_pos len with h0 | h0
    · left
      rw [h0]; simp
    · right
      obtain ⟨b, o, spot⟩ := x
      have h00 := hc 0 (by omega)
      have hs : spot = none := by simpa [Addr.add] using World.cell?_spot h00
      subst hs
      refine ⟨b, o, rfl, fun j u hj => ?_⟩
      have hlt : j < len := by have := (List.getElem?_eq_some_iff.1 hj).1; omega
      have := hc j (by omega)
      rw [Addr.add_lit] at this
      rw [this, ← hj, List.getElem?_map, List.getElem?_take, if_pos hlt, List.getD, List.getElem?_eq_getElem (by omega)]
      rfl

theorem Src.below {w w' : World} {B : Nat} {v : Value} {l : List Value} (h : Src w v l) (hb : Below B w w') (hB : w.heap.size ≤ B) : Src w' v l := by
  rcases h with h | ⟨a, cap, rfl, hle, h | ⟨b, o, rfl, hc⟩⟩
  · exact .inl h
  · exact .inr ⟨a, cap, rfl, hle, .inl h⟩
  · refine .inr ⟨_, cap, rfl, hle, .inr ⟨b, o, rfl, fun j u hj => ?_⟩⟩
    have := hc j u hj
    exact (hb.cell (p := ⟨b, o + j, none⟩) (Nat.lt_of_lt_of_le (World.block_lt_of_cell? w _ this) hB)).trans this

theorem Src.of_owns {w : World} {B : Nat} {e : TypeId} {v : Value} {l : List Value} (h : w.ownsRow B e 1 v l.length l) : Src w v l := by
  have h0 := h
  rcases h.2 with ⟨rfl, hn⟩ | ⟨g, cap, cur, rfl, _, _, hle, _⟩
  · exact .inl ⟨rfl, List.eq_nil_of_length_eq_zero hn⟩
  · refine .inr ⟨_, cap, rfl, hle, .inr ⟨g, 0, rfl, fun j u hj => ?_⟩⟩
    have := h0.cells (g := g) rfl j u hj
    rwa [Addr.add_lit] at this

theorem Src.holds {w : World} {v : Value} {l : List Int} (h : Src w v (u8s l)) : Holds w v l := by
  rcases h with ⟨rfl, hl⟩ | ⟨a, cap, rfl, hle, h⟩
  · have : l = [] := by simpa [u8s] using hl
    subst this
    exact ⟨none, 0, rfl, Nat.le_refl _, .inl rfl⟩
  · rw [u8s_length] at hle ⊢
    refine ⟨some a, cap, rfl, hle, ?_⟩
    rcases h with hl | ⟨b, o, rfl, hc⟩
    · left; simpa [u8s] using hl
    · exact .inr ⟨b, o, rfl, fun j hj => hc j _ (u8s_getD l j hj)⟩

/-- 'append([]T(nil), src...)' for the walk. -/
theorem wpList_append_copy {w : World} {ops : Array Oper} {rest : List Oper} {o : Oper} {a : Act} {Q : Exit → Act → World → Prop} (hgd : o.guard = none) (s x : Operand) (t : TypeId)
    (ho : o.op = .call { callee := .builtin .append, args := #[s, x], argTypes := #[t, t] })
    (e : TypeId) (i : TypeInfo) (z : Value) (bytes : Nat) (ht : Tryd.prog.underlying t = some (.slice e)) (hi : Tryd.prog.info? e = some i) (hz : i.zero = some z)
    (hsize : i.size = 1) (hby : i.bytes = bytes) (hzs : z.cells.size = 1) (hs : a.eval s = .slice none 0 0)
    (v : Value) (l : List Value) (hx : a.eval x = v) (hsrc : Src w v l) (h1 : ∀ u ∈ l, u.oneCell' = true) (hb1 : l.length ≤ maxLen) (hbytes : l.length * bytes ≤ 140737488355328)
    (hK : ∀ v' w', w'.ownsRow w.heap.size e 1 v' l.length l → w.grownBy w' none → wpList Tryd.prog ops Q rest (a.put o.dst v') w') :
    wpList Tryd.prog ops Q (o :: rest) a w := by
  refine wpList_plain hgd fun K hK' => ?_
  rcases hsrc with ⟨rfl, rfl⟩ | ⟨ad, c, rfl, _, hc⟩
  · have hrun := run_append_owned_none (P := Tryd.prog) (w := w) w.heap.size t o.type e i 1 ht hi (.slice none 0 0) 0 [] (World.ownsRow_nil w _ e 1)
    unfold Oper.wp
    simp [execOp, ho, resolve, invoke, builtin, hs, hx, hrun, Result.andThen]
    exact hK' _ _ (hK _ _ (World.ownsRow_nil w _ e 1) ⟨rfl, rfl, rfl, Nat.le_refl _, fun _ _ _ => rfl⟩)
  · have hnews : ∀ j u, l[j]? = some u → w.cell? (ad.add j) = some u := by
      intro j u hj
      rcases hc with rfl | ⟨b, off, rfl, hc⟩
      · simp at hj
      · rw [Addr.add_lit]; exact hc j u hj
    obtain ⟨v', w', hrun, r1, r2, _⟩ := run_append_own (P := Tryd.prog) w w.heap.size t o.type e i z 1 bytes ht hi hz hsize hby hzs (by decide) (.slice none 0 0) 0 [] (World.ownsRow_nil w _ e 1) ad l.length c l (by omega) hnews h1 (by omega) (by rw [Nat.zero_add]; exact hbytes) (Nat.le_refl _)
    rw [Nat.zero_add, List.nil_append] at r1
    unfold Oper.wp
    simp [execOp, ho, resolve, invoke, builtin, hs, hx, hrun, Result.andThen]
    exact hK' _ _ (hK v' w' r1 r2)
end Go.Proofs.YtleddjhlpgemjaaDoor
