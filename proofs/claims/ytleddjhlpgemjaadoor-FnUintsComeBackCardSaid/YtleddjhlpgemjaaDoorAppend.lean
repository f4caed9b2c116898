/- PROVED: 'append(own, src...)' for the walk: an own row grows by the values of any slice. Condition: an element of one cell. -/
import Derived.Test.YtleddjhlpgemjaaDoorSlices
namespace Go.Proofs.YtleddjhlpgemjaaDoor
open Go.RowKit

theorem wpList_append_src {w : World} {ops : Array Oper} {rest : List Oper} {o : Oper} {a : Act} {Q : Exit → Act → World → Prop} (hgd : o.guard = none) (s x : Operand) (t : TypeId)
    (ho : o.op = .call { callee := .builtin .append, args := #[s, x], argTypes := #[t, t] })
    (B : Nat) (e : TypeId) (i : TypeInfo) (z : Value) (bytes : Nat) (ht : Tryd.prog.underlying t = some (.slice e)) (hi : Tryd.prog.info? e = some i) (hz : i.zero = some z)
    (hsize : i.size = 1) (hby : i.bytes = bytes) (hzs : z.cells.size = 1) (v0 : Value) (xs : List Value) (hs : a.eval s = v0) (hown : w.ownsRow B e 1 v0 xs.length xs)
    (v : Value) (l : List Value) (hx : a.eval x = v) (hsrc : Src w v l) (h1 : ∀ u ∈ l, u.oneCell' = true) (hb1 : xs.length + l.length ≤ maxLen) (hbytes : (xs.length + l.length) * bytes ≤ 140737488355328) (hB : B ≤ w.heap.size)
    (hK : ∀ v' w', w'.ownsRow B e 1 v' (xs.length + l.length) (xs ++ l) → w.grownBy w' v0.ownBlock → wpList Tryd.prog ops Q rest (a.put o.dst v') w') :
    wpList Tryd.prog ops Q (o :: rest) a w := by
  refine wpList_plain hgd fun K hK' => ?_
  rcases hsrc with ⟨rfl, rfl⟩ | ⟨ad, c, rfl, _, hc⟩
  · have hrun := run_append_owned_none (P := Tryd.prog) (w := w) B t o.type e i 1 ht hi v0 xs.length xs hown
    unfold Oper.wp
    simp [execOp, ho, resolve, invoke, builtin, hs, hx, hrun, Result.andThen]
    exact hK' _ _ (hK _ _ (by rw [List.append_nil]; exact hown) ⟨rfl, rfl, rfl, Nat.le_refl _, fun _ _ _ => rfl⟩)
  · have hnews : ∀ j u, l[j]? = some u → w.cell? (ad.add j) = some u := by
      intro j u hj
      rcases hc with rfl | ⟨b, off, rfl, hc⟩
      · simp at hj
      · rw [Addr.add_lit]; exact hc j u hj
    obtain ⟨v', w', hrun, r1, r2, _⟩ := run_append_own (P := Tryd.prog) w B t o.type e i z 1 bytes ht hi hz hsize hby hzs (by decide) v0 xs.length xs hown ad l.length c l (by omega) hnews h1 hb1 hbytes hB
    unfold Oper.wp
    simp [execOp, ho, resolve, invoke, builtin, hs, hx, hrun, Result.andThen]
    exact hK' _ _ (hK v' w' r1 r2)
end Go.Proofs.YtleddjhlpgemjaaDoor
