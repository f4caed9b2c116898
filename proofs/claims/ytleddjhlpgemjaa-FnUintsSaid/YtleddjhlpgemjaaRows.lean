/-
  No cell of these rows narrows 'for every input' (looked for: loops, veiled, ifaces, maps, wideKeys, modest, calm, conditions, laid).
  DERIVED. THE GIVEN ROWS OF THIS SEAT. 6 by the template 'for every input the law returns true; each argument reads behind the call as it read before'; 0 by the template 'total and deterministic' (their statements: YtleddjhlpgemjaaTotals.lean).
  GIVEN WITH THE SEED: the statements are not yours to turn. If you find one false, say at which input.
  Laid BY PROGRAM, IN A SANDBOX (cutbox-rows.mjs): the forced cells as the released guide's own fill.sh prints them over the translation 6772b49d9d1c2c33… (all of the seat's roots in one cut). By AI agents, Wed Nov 11 2026. No macro, syntax, notation, axiom, sorry.
-/
import Derived.Test.YtleddjhlpgemjaaChecked
import GoSem.Claim
import GoSem.ClaimJoined
import GoSem.ClaimMapViews
import Derived.JoinedTies
import Derived.KernelRfl
namespace Go.Proofs.Ytleddjhlpgemjaa
/- THE CELL 'sum', in the pinned program and in every row, IS THE sha256 OF THE DUMP (.gsa) THAT YtleddjhlpgemjaaProg.lean LOADS. Nothing in Lean hashes anything: it is a label: what it is worth is what the hold of that sum in a sandbox is worth. -/
noncomputable def Try.pinned : Pinned := { name := "ytleddjhlpgemjaa", sum := "6772b49d9d1c2c330e51fe04ed1bd21b7032d0112c70122a886f664b673ad04f", checked := Try.checked }
namespace Rows
def none {H : Type} : Left H := { results := [], args := [] }

/-- 'laws.FnUint': WHATEVER THE INPUT: true; the input reads as it did. -/
def fnUintSpec : ChangeSpec := { name := "fnUint", fn := fun _ => fun
  | [d] => { results := [.lit (.bool true)], args := [d] }
  | _ => none }
def fnUintRow : OpenClaim := { program := "ytleddjhlpgemjaa", sum := "6772b49d9d1c2c330e51fe04ed1bd21b7032d0112c70122a886f664b673ad04f", func := "gobnumbers/laws.FnUint", spec := "fnUint", apart := false }
def FnUintSaid : Prop := fnUintRow.holds Try.pinned (OpenSpec.ofChange fnUintSpec)

/-- ITS FALSE NEIGHBOUR: 'it returns false'. Refute it at one input. -/
def fnUintWrong : ChangeSpec := { name := "fnUint", fn := fun _ => fun
  | [d] => { results := [.lit (.bool false)], args := [d] }
  | _ => none }
def FnUintWrongFalsely : Prop := fnUintRow.holds Try.pinned (OpenSpec.ofChange fnUintWrong)

/-- 'laws.FnUints': WHATEVER THE INPUT: true; the input reads as it did. -/
def fnUintsSpec : ChangeSpec := { name := "fnUints", fn := fun _ => fun
  | [d] => { results := [.lit (.bool true)], args := [d] }
  | _ => none }
def fnUintsRow : OpenClaim := { program := "ytleddjhlpgemjaa", sum := "6772b49d9d1c2c330e51fe04ed1bd21b7032d0112c70122a886f664b673ad04f", func := "gobnumbers/laws.FnUints", spec := "fnUints", apart := false }
def FnUintsSaid : Prop := fnUintsRow.holds Try.pinned (OpenSpec.ofChange fnUintsSpec)

/-- ITS FALSE NEIGHBOUR: 'it returns false'. Refute it at one input. -/
def fnUintsWrong : ChangeSpec := { name := "fnUints", fn := fun _ => fun
  | [d] => { results := [.lit (.bool false)], args := [d] }
  | _ => none }
def FnUintsWrongFalsely : Prop := fnUintsRow.holds Try.pinned (OpenSpec.ofChange fnUintsWrong)

/-- 'laws.FnSmallAreShort': WHATEVER THE INPUT: true; the input reads as it did. -/
def fnSmallAreShortSpec : ChangeSpec := { name := "fnSmallAreShort", fn := fun _ => fun
  | [d] => { results := [.lit (.bool true)], args := [d] }
  | _ => none }
def fnSmallAreShortRow : OpenClaim := { program := "ytleddjhlpgemjaa", sum := "6772b49d9d1c2c330e51fe04ed1bd21b7032d0112c70122a886f664b673ad04f", func := "gobnumbers/laws.FnSmallAreShort", spec := "fnSmallAreShort", apart := false }
def FnSmallAreShortSaid : Prop := fnSmallAreShortRow.holds Try.pinned (OpenSpec.ofChange fnSmallAreShortSpec)

/-- ITS FALSE NEIGHBOUR: 'it returns false'. Refute it at one input. -/
def fnSmallAreShortWrong : ChangeSpec := { name := "fnSmallAreShort", fn := fun _ => fun
  | [d] => { results := [.lit (.bool false)], args := [d] }
  | _ => none }
def FnSmallAreShortWrongFalsely : Prop := fnSmallAreShortRow.holds Try.pinned (OpenSpec.ofChange fnSmallAreShortWrong)

/-- 'laws.FnNoneBeginsAnother': WHATEVER THE INPUT: true; the input reads as it did. -/
def fnNoneBeginsAnotherSpec : ChangeSpec := { name := "fnNoneBeginsAnother", fn := fun _ => fun
  | [d1, d2] => { results := [.lit (.bool true)], args := [d1, d2] }
  | _ => none }
def fnNoneBeginsAnotherRow : OpenClaim := { program := "ytleddjhlpgemjaa", sum := "6772b49d9d1c2c330e51fe04ed1bd21b7032d0112c70122a886f664b673ad04f", func := "gobnumbers/laws.FnNoneBeginsAnother", spec := "fnNoneBeginsAnother", inPlace := ["internal/bytealg.Compare"], apart := false }
def FnNoneBeginsAnotherSaid : Prop := fnNoneBeginsAnotherRow.holds Try.pinned (OpenSpec.ofChange fnNoneBeginsAnotherSpec)

/-- ITS FALSE NEIGHBOUR: 'it returns false'. Refute it at one input. -/
def fnNoneBeginsAnotherWrong : ChangeSpec := { name := "fnNoneBeginsAnother", fn := fun _ => fun
  | [d1, d2] => { results := [.lit (.bool false)], args := [d1, d2] }
  | _ => none }
def FnNoneBeginsAnotherWrongFalsely : Prop := fnNoneBeginsAnotherRow.holds Try.pinned (OpenSpec.ofChange fnNoneBeginsAnotherWrong)

/-- 'laws.FnInt': WHATEVER THE INPUT: true; the input reads as it did. -/
def fnIntSpec : ChangeSpec := { name := "fnInt", fn := fun _ => fun
  | [d] => { results := [.lit (.bool true)], args := [d] }
  | _ => none }
def fnIntRow : OpenClaim := { program := "ytleddjhlpgemjaa", sum := "6772b49d9d1c2c330e51fe04ed1bd21b7032d0112c70122a886f664b673ad04f", func := "gobnumbers/laws.FnInt", spec := "fnInt", apart := false }
def FnIntSaid : Prop := fnIntRow.holds Try.pinned (OpenSpec.ofChange fnIntSpec)

/-- ITS FALSE NEIGHBOUR: 'it returns false'. Refute it at one input. -/
def fnIntWrong : ChangeSpec := { name := "fnInt", fn := fun _ => fun
  | [d] => { results := [.lit (.bool false)], args := [d] }
  | _ => none }
def FnIntWrongFalsely : Prop := fnIntRow.holds Try.pinned (OpenSpec.ofChange fnIntWrong)

/-- 'laws.FnFloat': WHATEVER THE INPUT: true; the input reads as it did. -/
def fnFloatSpec : ChangeSpec := { name := "fnFloat", fn := fun _ => fun
  | [d] => { results := [.lit (.bool true)], args := [d] }
  | _ => none }
def fnFloatRow : OpenClaim := { program := "ytleddjhlpgemjaa", sum := "6772b49d9d1c2c330e51fe04ed1bd21b7032d0112c70122a886f664b673ad04f", func := "gobnumbers/laws.FnFloat", spec := "fnFloat", inPlace := ["math.Float64frombits", "math.Float64bits"], apart := false }
def FnFloatSaid : Prop := fnFloatRow.holds Try.pinned (OpenSpec.ofChange fnFloatSpec)

/-- ITS FALSE NEIGHBOUR: 'it returns false'. Refute it at one input. -/
def fnFloatWrong : ChangeSpec := { name := "fnFloat", fn := fun _ => fun
  | [d] => { results := [.lit (.bool false)], args := [d] }
  | _ => none }
def FnFloatWrongFalsely : Prop := fnFloatRow.holds Try.pinned (OpenSpec.ofChange fnFloatWrong)

/- THE SECOND FORM. 'bulk': how many values and letters a reading holds, each counted each time it is reached (what is shared counts as often as it is met; a slice's spare places count too). A statement '..UptoSaid' is the law's where the arguments, and the package variables that the reading takes, are together of bulk at most 1048576: NARROWER than '..Said'. Prove '..Said' where nothing that the law and all that it calls make is longer than what came in: it says more and counts as full. Else prove '..UptoSaid'. A law counts once. -/
mutual
def uptoBulk {H : Type} : DataW H → Nat
  | .lit (.string bytes) => bytes.length + 1
  | .lit _ => 1
  | .nil => 1
  | .ptr d => uptoBulk d + 1
  | .slice elems spare => uptoBulkAll elems + uptoBulkAll spare + 1
  | .agg parts => uptoBulkAll parts + 1
  | .iface _ d => uptoBulk d + 1
  | .map entries => uptoBulkEntries entries + 1
  | .held _ => 1
def uptoBulkAll {H : Type} : List (DataW H) → Nat
  | [] => 0
  | d :: r => uptoBulk d + uptoBulkAll r
def uptoBulkEntries {H : Type} : List (Lit × DataW H) → Nat
  | [] => 0
  | x :: r => uptoBulkEntry x + uptoBulkEntries r
def uptoBulkEntry {H : Type} : Lit × DataW H → Nat
  | (.string bytes, d) => bytes.length + uptoBulk d + 1
  | (_, d) => uptoBulk d + 1
 end
def uptoSmall : (H : Type) → List (DataW H) → Bool := fun _ ds => decide (uptoBulkAll ds ≤ 1048576)
def OpenSpec.upto (s : _root_.Go.ChangeSpec) : _root_.Go.OpenSpec := { _root_.Go.OpenSpec.ofChange s with cond := some uptoSmall }

/-- 'laws.FnUint', WHERE WHAT IT READS IS OF BULK AT MOST 1048576: true; the input reads as it did. -/
def fnUintUptoRow : OpenClaim := { program := "ytleddjhlpgemjaa", sum := "6772b49d9d1c2c330e51fe04ed1bd21b7032d0112c70122a886f664b673ad04f", func := "gobnumbers/laws.FnUint", spec := "fnUint", apart := false, narrowed := true }
def FnUintUptoSaid : Prop := fnUintUptoRow.holds Try.pinned (OpenSpec.upto fnUintSpec)

/-- 'laws.FnUints', WHERE WHAT IT READS IS OF BULK AT MOST 1048576: true; the input reads as it did. -/
def fnUintsUptoRow : OpenClaim := { program := "ytleddjhlpgemjaa", sum := "6772b49d9d1c2c330e51fe04ed1bd21b7032d0112c70122a886f664b673ad04f", func := "gobnumbers/laws.FnUints", spec := "fnUints", apart := false, narrowed := true }
def FnUintsUptoSaid : Prop := fnUintsUptoRow.holds Try.pinned (OpenSpec.upto fnUintsSpec)

/-- 'laws.FnSmallAreShort', WHERE WHAT IT READS IS OF BULK AT MOST 1048576: true; the input reads as it did. -/
def fnSmallAreShortUptoRow : OpenClaim := { program := "ytleddjhlpgemjaa", sum := "6772b49d9d1c2c330e51fe04ed1bd21b7032d0112c70122a886f664b673ad04f", func := "gobnumbers/laws.FnSmallAreShort", spec := "fnSmallAreShort", apart := false, narrowed := true }
def FnSmallAreShortUptoSaid : Prop := fnSmallAreShortUptoRow.holds Try.pinned (OpenSpec.upto fnSmallAreShortSpec)

/-- 'laws.FnNoneBeginsAnother', WHERE WHAT IT READS IS OF BULK AT MOST 1048576: true; the input reads as it did. -/
def fnNoneBeginsAnotherUptoRow : OpenClaim := { program := "ytleddjhlpgemjaa", sum := "6772b49d9d1c2c330e51fe04ed1bd21b7032d0112c70122a886f664b673ad04f", func := "gobnumbers/laws.FnNoneBeginsAnother", spec := "fnNoneBeginsAnother", inPlace := ["internal/bytealg.Compare"], apart := false, narrowed := true }
def FnNoneBeginsAnotherUptoSaid : Prop := fnNoneBeginsAnotherUptoRow.holds Try.pinned (OpenSpec.upto fnNoneBeginsAnotherSpec)

/-- 'laws.FnInt', WHERE WHAT IT READS IS OF BULK AT MOST 1048576: true; the input reads as it did. -/
def fnIntUptoRow : OpenClaim := { program := "ytleddjhlpgemjaa", sum := "6772b49d9d1c2c330e51fe04ed1bd21b7032d0112c70122a886f664b673ad04f", func := "gobnumbers/laws.FnInt", spec := "fnInt", apart := false, narrowed := true }
def FnIntUptoSaid : Prop := fnIntUptoRow.holds Try.pinned (OpenSpec.upto fnIntSpec)

/-- 'laws.FnFloat', WHERE WHAT IT READS IS OF BULK AT MOST 1048576: true; the input reads as it did. -/
def fnFloatUptoRow : OpenClaim := { program := "ytleddjhlpgemjaa", sum := "6772b49d9d1c2c330e51fe04ed1bd21b7032d0112c70122a886f664b673ad04f", func := "gobnumbers/laws.FnFloat", spec := "fnFloat", inPlace := ["math.Float64frombits", "math.Float64bits"], apart := false, narrowed := true }
def FnFloatUptoSaid : Prop := fnFloatUptoRow.holds Try.pinned (OpenSpec.upto fnFloatSpec)

end Rows
end Go.Proofs.Ytleddjhlpgemjaa
