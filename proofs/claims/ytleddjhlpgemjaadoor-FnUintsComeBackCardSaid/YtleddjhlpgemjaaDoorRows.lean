/-
  NARROWER THAN 'FOR EVERY INPUT', by the rows' own cells (each row's printed sentence says how): FnReadSlow: laid · FnRead: laid · FnReadInt: laid · FnBothReadAlike: laid · FnLongIsRead: laid · FnUintsComeBack: laid · FnIntComesBack: laid · FnFloatComesBack: laid · FnCutIsTold: laid · FnUintComesBack: laid.
  DERIVED. THE GIVEN ROWS OF THIS SEAT. 10 by the template 'for every input the law returns true; each argument reads behind the call as it read before'; 0 by the template 'total and deterministic' (their statements: YtleddjhlpgemjaaDoorTotals.lean).
  GIVEN WITH THE SEED: the statements are not yours to turn. If you find one false, say at which input.
  Laid BY PROGRAM, IN A SANDBOX (cutbox-rows.mjs): the forced cells as the released guide's own fill.sh prints them over the translation e9e5f7765e5781af… (all of the seat's roots in one cut). By AI agents, Wed Nov 11 2026. No macro, syntax, notation, axiom, sorry.
-/
import Derived.Test.YtleddjhlpgemjaaDoorChecked
import GoSem.Claim
import GoSem.ClaimJoined
import GoSem.ClaimMapViews
import Derived.JoinedTies
import Derived.KernelRfl
namespace Go.Proofs.YtleddjhlpgemjaaDoor
/- THE CELL 'sum', in the pinned program and in every row, IS THE sha256 OF THE DUMP (.gsa) THAT YtleddjhlpgemjaaDoorProg.lean LOADS. Nothing in Lean hashes anything: it is a label: what it is worth is what the hold of that sum in a sandbox is worth. -/
noncomputable def Tryd.pinned : Pinned := { name := "ytleddjhlpgemjaadoor", sum := "e9e5f7765e5781afe5498b0341acb0cbdd38f6fd46113f5aa70675609fe4091c", checked := Tryd.checked }
namespace Rows
def none {H : Type} : Left H := { results := [], args := [] }

/- WHAT THE LISTED PACKAGE-LEVEL VARIABLES READ AS WHEN THE CALL BEGINS. Each datum BY PROGRAM (the guide's laid-datum.mjs) off the statement by which the dump's own 'gosem.cut.vars' lays the variable. In a bare row this is a premise. The card (YtleddjhlpgemjaaDoorCards.lean) ties it to the program's text. -/
def laid_io_ErrShortBuffer {H : Type} : DataW H := .iface "*errors.errorString" (.ptr (.agg [.lit (.string [115, 104, 111, 114, 116, 32, 98, 117, 102, 102, 101, 114])]))
def laid_io_EOF {H : Type} : DataW H := .iface "*errors.errorString" (.ptr (.agg [.lit (.string [69, 79, 70])]))
def laid_io_ErrUnexpectedEOF {H : Type} : DataW H := .iface "*errors.errorString" (.ptr (.agg [.lit (.string [117, 110, 101, 120, 112, 101, 99, 116, 101, 100, 32, 69, 79, 70])]))
def laid_gobnumbers_pub_gobnumbers_errBadUint {H : Type} : DataW H := .iface "*errors.errorString" (.ptr (.agg [.lit (.string [103, 111, 98, 58, 32, 101, 110, 99, 111, 100, 101, 100, 32, 117, 110, 115, 105, 103, 110, 101, 100, 32, 105, 110, 116, 101, 103, 101, 114, 32, 111, 117, 116, 32, 111, 102, 32, 114, 97, 110, 103, 101])]))

/-- 'laws.FnReadSlow': WHATEVER THE INPUT: true; the input reads as it did. -/
def fnReadSlowSpec : ChangeSpec := { name := "fnReadSlow", fn := fun _ => fun
  | [d] => { results := [.lit (.bool true)], args := [d] }
  | _ => none }
def fnReadSlowRow : OpenClaim := { program := "ytleddjhlpgemjaadoor", sum := "e9e5f7765e5781afe5498b0341acb0cbdd38f6fd46113f5aa70675609fe4091c", func := "gobnumbers/laws.FnReadSlow", spec := "fnReadSlow", unfollowed := true, recurses := true, named := ["gobnumbers/pub/gobnumbers.errBadUint", "io.EOF", "io.ErrUnexpectedEOF", "io.ErrShortBuffer"], apart := false, laid := [("io.ErrShortBuffer", laid_io_ErrShortBuffer), ("io.EOF", laid_io_EOF), ("io.ErrUnexpectedEOF", laid_io_ErrUnexpectedEOF), ("gobnumbers/pub/gobnumbers.errBadUint", laid_gobnumbers_pub_gobnumbers_errBadUint)] }
def FnReadSlowSaid : Prop := fnReadSlowRow.holds Tryd.pinned (OpenSpec.ofChange fnReadSlowSpec)

/-- ITS FALSE NEIGHBOUR: 'it returns false'. Refute it at one input. -/
def fnReadSlowWrong : ChangeSpec := { name := "fnReadSlow", fn := fun _ => fun
  | [d] => { results := [.lit (.bool false)], args := [d] }
  | _ => none }
def FnReadSlowWrongFalsely : Prop := fnReadSlowRow.holds Tryd.pinned (OpenSpec.ofChange fnReadSlowWrong)

/-- 'laws.FnRead': WHATEVER THE INPUT: true; the input reads as it did. -/
def fnReadSpec : ChangeSpec := { name := "fnRead", fn := fun _ => fun
  | [d] => { results := [.lit (.bool true)], args := [d] }
  | _ => none }
def fnReadRow : OpenClaim := { program := "ytleddjhlpgemjaadoor", sum := "e9e5f7765e5781afe5498b0341acb0cbdd38f6fd46113f5aa70675609fe4091c", func := "gobnumbers/laws.FnRead", spec := "fnRead", named := ["gobnumbers/pub/gobnumbers.errBadUint", "io.EOF"], apart := false, laid := [("io.EOF", laid_io_EOF), ("gobnumbers/pub/gobnumbers.errBadUint", laid_gobnumbers_pub_gobnumbers_errBadUint)] }
def FnReadSaid : Prop := fnReadRow.holds Tryd.pinned (OpenSpec.ofChange fnReadSpec)

/-- ITS FALSE NEIGHBOUR: 'it returns false'. Refute it at one input. -/
def fnReadWrong : ChangeSpec := { name := "fnRead", fn := fun _ => fun
  | [d] => { results := [.lit (.bool false)], args := [d] }
  | _ => none }
def FnReadWrongFalsely : Prop := fnReadRow.holds Tryd.pinned (OpenSpec.ofChange fnReadWrong)

/-- 'laws.FnReadInt': WHATEVER THE INPUT: true; the input reads as it did. -/
def fnReadIntSpec : ChangeSpec := { name := "fnReadInt", fn := fun _ => fun
  | [d] => { results := [.lit (.bool true)], args := [d] }
  | _ => none }
def fnReadIntRow : OpenClaim := { program := "ytleddjhlpgemjaadoor", sum := "e9e5f7765e5781afe5498b0341acb0cbdd38f6fd46113f5aa70675609fe4091c", func := "gobnumbers/laws.FnReadInt", spec := "fnReadInt", named := ["gobnumbers/pub/gobnumbers.errBadUint", "io.EOF"], apart := false, laid := [("io.EOF", laid_io_EOF), ("gobnumbers/pub/gobnumbers.errBadUint", laid_gobnumbers_pub_gobnumbers_errBadUint)] }
def FnReadIntSaid : Prop := fnReadIntRow.holds Tryd.pinned (OpenSpec.ofChange fnReadIntSpec)

/-- ITS FALSE NEIGHBOUR: 'it returns false'. Refute it at one input. -/
def fnReadIntWrong : ChangeSpec := { name := "fnReadInt", fn := fun _ => fun
  | [d] => { results := [.lit (.bool false)], args := [d] }
  | _ => none }
def FnReadIntWrongFalsely : Prop := fnReadIntRow.holds Tryd.pinned (OpenSpec.ofChange fnReadIntWrong)

/-- 'laws.FnBothReadAlike': WHATEVER THE INPUT: true; the input reads as it did. -/
def fnBothReadAlikeSpec : ChangeSpec := { name := "fnBothReadAlike", fn := fun _ => fun
  | [d] => { results := [.lit (.bool true)], args := [d] }
  | _ => none }
def fnBothReadAlikeRow : OpenClaim := { program := "ytleddjhlpgemjaadoor", sum := "e9e5f7765e5781afe5498b0341acb0cbdd38f6fd46113f5aa70675609fe4091c", func := "gobnumbers/laws.FnBothReadAlike", spec := "fnBothReadAlike", unfollowed := true, recurses := true, named := ["gobnumbers/pub/gobnumbers.errBadUint", "io.EOF", "io.ErrUnexpectedEOF", "io.ErrShortBuffer"], apart := false, laid := [("io.ErrShortBuffer", laid_io_ErrShortBuffer), ("io.EOF", laid_io_EOF), ("io.ErrUnexpectedEOF", laid_io_ErrUnexpectedEOF), ("gobnumbers/pub/gobnumbers.errBadUint", laid_gobnumbers_pub_gobnumbers_errBadUint)] }
def FnBothReadAlikeSaid : Prop := fnBothReadAlikeRow.holds Tryd.pinned (OpenSpec.ofChange fnBothReadAlikeSpec)

/-- ITS FALSE NEIGHBOUR: 'it returns false'. Refute it at one input. -/
def fnBothReadAlikeWrong : ChangeSpec := { name := "fnBothReadAlike", fn := fun _ => fun
  | [d] => { results := [.lit (.bool false)], args := [d] }
  | _ => none }
def FnBothReadAlikeWrongFalsely : Prop := fnBothReadAlikeRow.holds Tryd.pinned (OpenSpec.ofChange fnBothReadAlikeWrong)

/-- 'laws.FnLongIsRead': WHATEVER THE INPUT: true; the input reads as it did. -/
def fnLongIsReadSpec : ChangeSpec := { name := "fnLongIsRead", fn := fun _ => fun
  | [d] => { results := [.lit (.bool true)], args := [d] }
  | _ => none }
def fnLongIsReadRow : OpenClaim := { program := "ytleddjhlpgemjaadoor", sum := "e9e5f7765e5781afe5498b0341acb0cbdd38f6fd46113f5aa70675609fe4091c", func := "gobnumbers/laws.FnLongIsRead", spec := "fnLongIsRead", unfollowed := true, recurses := true, named := ["gobnumbers/pub/gobnumbers.errBadUint", "io.EOF", "io.ErrUnexpectedEOF", "io.ErrShortBuffer"], apart := false, laid := [("io.ErrShortBuffer", laid_io_ErrShortBuffer), ("io.EOF", laid_io_EOF), ("io.ErrUnexpectedEOF", laid_io_ErrUnexpectedEOF), ("gobnumbers/pub/gobnumbers.errBadUint", laid_gobnumbers_pub_gobnumbers_errBadUint)] }
def FnLongIsReadSaid : Prop := fnLongIsReadRow.holds Tryd.pinned (OpenSpec.ofChange fnLongIsReadSpec)

/-- ITS FALSE NEIGHBOUR: 'it returns false'. Refute it at one input. -/
def fnLongIsReadWrong : ChangeSpec := { name := "fnLongIsRead", fn := fun _ => fun
  | [d] => { results := [.lit (.bool false)], args := [d] }
  | _ => none }
def FnLongIsReadWrongFalsely : Prop := fnLongIsReadRow.holds Tryd.pinned (OpenSpec.ofChange fnLongIsReadWrong)

/-- 'laws.FnUintsComeBack': WHATEVER THE INPUT: true; the input reads as it did. -/
def fnUintsComeBackSpec : ChangeSpec := { name := "fnUintsComeBack", fn := fun _ => fun
  | [d1, d2] => { results := [.lit (.bool true)], args := [d1, d2] }
  | _ => none }
def fnUintsComeBackRow : OpenClaim := { program := "ytleddjhlpgemjaadoor", sum := "e9e5f7765e5781afe5498b0341acb0cbdd38f6fd46113f5aa70675609fe4091c", func := "gobnumbers/laws.FnUintsComeBack", spec := "fnUintsComeBack", named := ["gobnumbers/pub/gobnumbers.errBadUint", "io.EOF"], apart := false, laid := [("io.EOF", laid_io_EOF), ("gobnumbers/pub/gobnumbers.errBadUint", laid_gobnumbers_pub_gobnumbers_errBadUint)] }
def FnUintsComeBackSaid : Prop := fnUintsComeBackRow.holds Tryd.pinned (OpenSpec.ofChange fnUintsComeBackSpec)

/-- ITS FALSE NEIGHBOUR: 'it returns false'. Refute it at one input. -/
def fnUintsComeBackWrong : ChangeSpec := { name := "fnUintsComeBack", fn := fun _ => fun
  | [d1, d2] => { results := [.lit (.bool false)], args := [d1, d2] }
  | _ => none }
def FnUintsComeBackWrongFalsely : Prop := fnUintsComeBackRow.holds Tryd.pinned (OpenSpec.ofChange fnUintsComeBackWrong)

/-- 'laws.FnIntComesBack': WHATEVER THE INPUT: true; the input reads as it did. -/
def fnIntComesBackSpec : ChangeSpec := { name := "fnIntComesBack", fn := fun _ => fun
  | [d1, d2] => { results := [.lit (.bool true)], args := [d1, d2] }
  | _ => none }
def fnIntComesBackRow : OpenClaim := { program := "ytleddjhlpgemjaadoor", sum := "e9e5f7765e5781afe5498b0341acb0cbdd38f6fd46113f5aa70675609fe4091c", func := "gobnumbers/laws.FnIntComesBack", spec := "fnIntComesBack", named := ["gobnumbers/pub/gobnumbers.errBadUint", "io.EOF"], apart := false, laid := [("io.EOF", laid_io_EOF), ("gobnumbers/pub/gobnumbers.errBadUint", laid_gobnumbers_pub_gobnumbers_errBadUint)] }
def FnIntComesBackSaid : Prop := fnIntComesBackRow.holds Tryd.pinned (OpenSpec.ofChange fnIntComesBackSpec)

/-- ITS FALSE NEIGHBOUR: 'it returns false'. Refute it at one input. -/
def fnIntComesBackWrong : ChangeSpec := { name := "fnIntComesBack", fn := fun _ => fun
  | [d1, d2] => { results := [.lit (.bool false)], args := [d1, d2] }
  | _ => none }
def FnIntComesBackWrongFalsely : Prop := fnIntComesBackRow.holds Tryd.pinned (OpenSpec.ofChange fnIntComesBackWrong)

/-- 'laws.FnFloatComesBack': WHATEVER THE INPUT: true; the input reads as it did. -/
def fnFloatComesBackSpec : ChangeSpec := { name := "fnFloatComesBack", fn := fun _ => fun
  | [d] => { results := [.lit (.bool true)], args := [d] }
  | _ => none }
def fnFloatComesBackRow : OpenClaim := { program := "ytleddjhlpgemjaadoor", sum := "e9e5f7765e5781afe5498b0341acb0cbdd38f6fd46113f5aa70675609fe4091c", func := "gobnumbers/laws.FnFloatComesBack", spec := "fnFloatComesBack", inPlace := ["math.Float64frombits", "math.Float64bits"], named := ["gobnumbers/pub/gobnumbers.errBadUint", "io.EOF"], apart := false, laid := [("io.EOF", laid_io_EOF), ("gobnumbers/pub/gobnumbers.errBadUint", laid_gobnumbers_pub_gobnumbers_errBadUint)] }
def FnFloatComesBackSaid : Prop := fnFloatComesBackRow.holds Tryd.pinned (OpenSpec.ofChange fnFloatComesBackSpec)

/-- ITS FALSE NEIGHBOUR: 'it returns false'. Refute it at one input. -/
def fnFloatComesBackWrong : ChangeSpec := { name := "fnFloatComesBack", fn := fun _ => fun
  | [d] => { results := [.lit (.bool false)], args := [d] }
  | _ => none }
def FnFloatComesBackWrongFalsely : Prop := fnFloatComesBackRow.holds Tryd.pinned (OpenSpec.ofChange fnFloatComesBackWrong)

/-- 'laws.FnCutIsTold': WHATEVER THE INPUT: true; the input reads as it did. -/
def fnCutIsToldSpec : ChangeSpec := { name := "fnCutIsTold", fn := fun _ => fun
  | [d1, d2] => { results := [.lit (.bool true)], args := [d1, d2] }
  | _ => none }
def fnCutIsToldRow : OpenClaim := { program := "ytleddjhlpgemjaadoor", sum := "e9e5f7765e5781afe5498b0341acb0cbdd38f6fd46113f5aa70675609fe4091c", func := "gobnumbers/laws.FnCutIsTold", spec := "fnCutIsTold", unfollowed := true, recurses := true, named := ["gobnumbers/pub/gobnumbers.errBadUint", "io.EOF", "io.ErrUnexpectedEOF", "io.ErrShortBuffer"], apart := false, laid := [("io.ErrShortBuffer", laid_io_ErrShortBuffer), ("io.EOF", laid_io_EOF), ("io.ErrUnexpectedEOF", laid_io_ErrUnexpectedEOF), ("gobnumbers/pub/gobnumbers.errBadUint", laid_gobnumbers_pub_gobnumbers_errBadUint)] }
def FnCutIsToldSaid : Prop := fnCutIsToldRow.holds Tryd.pinned (OpenSpec.ofChange fnCutIsToldSpec)

/-- ITS FALSE NEIGHBOUR: 'it returns false'. Refute it at one input. -/
def fnCutIsToldWrong : ChangeSpec := { name := "fnCutIsTold", fn := fun _ => fun
  | [d1, d2] => { results := [.lit (.bool false)], args := [d1, d2] }
  | _ => none }
def FnCutIsToldWrongFalsely : Prop := fnCutIsToldRow.holds Tryd.pinned (OpenSpec.ofChange fnCutIsToldWrong)

/-- 'laws.FnUintComesBack': WHATEVER THE INPUT: true; the input reads as it did. -/
def fnUintComesBackSpec : ChangeSpec := { name := "fnUintComesBack", fn := fun _ => fun
  | [d1, d2] => { results := [.lit (.bool true)], args := [d1, d2] }
  | _ => none }
def fnUintComesBackRow : OpenClaim := { program := "ytleddjhlpgemjaadoor", sum := "e9e5f7765e5781afe5498b0341acb0cbdd38f6fd46113f5aa70675609fe4091c", func := "gobnumbers/laws.FnUintComesBack", spec := "fnUintComesBack", unfollowed := true, recurses := true, named := ["gobnumbers/pub/gobnumbers.errBadUint", "io.EOF", "io.ErrUnexpectedEOF", "io.ErrShortBuffer"], apart := false, laid := [("io.ErrShortBuffer", laid_io_ErrShortBuffer), ("io.EOF", laid_io_EOF), ("io.ErrUnexpectedEOF", laid_io_ErrUnexpectedEOF), ("gobnumbers/pub/gobnumbers.errBadUint", laid_gobnumbers_pub_gobnumbers_errBadUint)] }
def FnUintComesBackSaid : Prop := fnUintComesBackRow.holds Tryd.pinned (OpenSpec.ofChange fnUintComesBackSpec)

/-- ITS FALSE NEIGHBOUR: 'it returns false'. Refute it at one input. -/
def fnUintComesBackWrong : ChangeSpec := { name := "fnUintComesBack", fn := fun _ => fun
  | [d1, d2] => { results := [.lit (.bool false)], args := [d1, d2] }
  | _ => none }
def FnUintComesBackWrongFalsely : Prop := fnUintComesBackRow.holds Tryd.pinned (OpenSpec.ofChange fnUintComesBackWrong)

/- THE SECOND FORM. 'bulk': how many values and letters a reading holds, each counted each time it is reached (what is shared counts as often as it is met; a slice's spare places count too). A statement '..UptoSaid' is the law's where the arguments, and the package variables that the reading takes, are together of bulk at most 1048576: NARROWER than '..Said'. Prove '..Said' where nothing that the law and all that it calls make is longer than what came in: it says more and counts as full. Else prove '..UptoSaid'. A law counts once. -/
mutual
def uptoBulk {H : Type} : DataW H → Nat
  | .lit (.string bytes) => bytes.length + 1
  | .lit _ => 1
  | .nil => 1
  | .ptr d => uptoBulk d + 1
  | .slice elems spare => uptoBulkAll elems + uptoBulkAll spare + 1
  | .agg parts => uptoBulkAll parts + 1
  | .iface _ d => uptoBulk d + 1
  | .map entries => uptoBulkEntries entries + 1
  | .held _ => 1
def uptoBulkAll {H : Type} : List (DataW H) → Nat
  | [] => 0
  | d :: r => uptoBulk d + uptoBulkAll r
def uptoBulkEntries {H : Type} : List (Lit × DataW H) → Nat
  | [] => 0
  | x :: r => uptoBulkEntry x + uptoBulkEntries r
def uptoBulkEntry {H : Type} : Lit × DataW H → Nat
  | (.string bytes, d) => bytes.length + uptoBulk d + 1
  | (_, d) => uptoBulk d + 1
 end
def uptoSmall : (H : Type) → List (DataW H) → Bool := fun _ ds => decide (uptoBulkAll ds ≤ 1048576)
def OpenSpec.upto (s : _root_.Go.ChangeSpec) : _root_.Go.OpenSpec := { _root_.Go.OpenSpec.ofChange s with cond := some uptoSmall }

/-- 'laws.FnReadSlow', WHERE WHAT IT READS IS OF BULK AT MOST 1048576: true; the input reads as it did. -/
def fnReadSlowUptoRow : OpenClaim := { program := "ytleddjhlpgemjaadoor", sum := "e9e5f7765e5781afe5498b0341acb0cbdd38f6fd46113f5aa70675609fe4091c", func := "gobnumbers/laws.FnReadSlow", spec := "fnReadSlow", unfollowed := true, recurses := true, named := ["gobnumbers/pub/gobnumbers.errBadUint", "io.EOF", "io.ErrUnexpectedEOF", "io.ErrShortBuffer"], apart := false, laid := [("io.ErrShortBuffer", laid_io_ErrShortBuffer), ("io.EOF", laid_io_EOF), ("io.ErrUnexpectedEOF", laid_io_ErrUnexpectedEOF), ("gobnumbers/pub/gobnumbers.errBadUint", laid_gobnumbers_pub_gobnumbers_errBadUint)], narrowed := true }
def FnReadSlowUptoSaid : Prop := fnReadSlowUptoRow.holds Tryd.pinned (OpenSpec.upto fnReadSlowSpec)

/-- 'laws.FnRead', WHERE WHAT IT READS IS OF BULK AT MOST 1048576: true; the input reads as it did. -/
def fnReadUptoRow : OpenClaim := { program := "ytleddjhlpgemjaadoor", sum := "e9e5f7765e5781afe5498b0341acb0cbdd38f6fd46113f5aa70675609fe4091c", func := "gobnumbers/laws.FnRead", spec := "fnRead", named := ["gobnumbers/pub/gobnumbers.errBadUint", "io.EOF"], apart := false, laid := [("io.EOF", laid_io_EOF), ("gobnumbers/pub/gobnumbers.errBadUint", laid_gobnumbers_pub_gobnumbers_errBadUint)], narrowed := true }
def FnReadUptoSaid : Prop := fnReadUptoRow.holds Tryd.pinned (OpenSpec.upto fnReadSpec)

/-- 'laws.FnReadInt', WHERE WHAT IT READS IS OF BULK AT MOST 1048576: true; the input reads as it did. -/
def fnReadIntUptoRow : OpenClaim := { program := "ytleddjhlpgemjaadoor", sum := "e9e5f7765e5781afe5498b0341acb0cbdd38f6fd46113f5aa70675609fe4091c", func := "gobnumbers/laws.FnReadInt", spec := "fnReadInt", named := ["gobnumbers/pub/gobnumbers.errBadUint", "io.EOF"], apart := false, laid := [("io.EOF", laid_io_EOF), ("gobnumbers/pub/gobnumbers.errBadUint", laid_gobnumbers_pub_gobnumbers_errBadUint)], narrowed := true }
def FnReadIntUptoSaid : Prop := fnReadIntUptoRow.holds Tryd.pinned (OpenSpec.upto fnReadIntSpec)

/-- 'laws.FnBothReadAlike', WHERE WHAT IT READS IS OF BULK AT MOST 1048576: true; the input reads as it did. -/
def fnBothReadAlikeUptoRow : OpenClaim := { program := "ytleddjhlpgemjaadoor", sum := "e9e5f7765e5781afe5498b0341acb0cbdd38f6fd46113f5aa70675609fe4091c", func := "gobnumbers/laws.FnBothReadAlike", spec := "fnBothReadAlike", unfollowed := true, recurses := true, named := ["gobnumbers/pub/gobnumbers.errBadUint", "io.EOF", "io.ErrUnexpectedEOF", "io.ErrShortBuffer"], apart := false, laid := [("io.ErrShortBuffer", laid_io_ErrShortBuffer), ("io.EOF", laid_io_EOF), ("io.ErrUnexpectedEOF", laid_io_ErrUnexpectedEOF), ("gobnumbers/pub/gobnumbers.errBadUint", laid_gobnumbers_pub_gobnumbers_errBadUint)], narrowed := true }
def FnBothReadAlikeUptoSaid : Prop := fnBothReadAlikeUptoRow.holds Tryd.pinned (OpenSpec.upto fnBothReadAlikeSpec)

/-- 'laws.FnLongIsRead', WHERE WHAT IT READS IS OF BULK AT MOST 1048576: true; the input reads as it did. -/
def fnLongIsReadUptoRow : OpenClaim := { program := "ytleddjhlpgemjaadoor", sum := "e9e5f7765e5781afe5498b0341acb0cbdd38f6fd46113f5aa70675609fe4091c", func := "gobnumbers/laws.FnLongIsRead", spec := "fnLongIsRead", unfollowed := true, recurses := true, named := ["gobnumbers/pub/gobnumbers.errBadUint", "io.EOF", "io.ErrUnexpectedEOF", "io.ErrShortBuffer"], apart := false, laid := [("io.ErrShortBuffer", laid_io_ErrShortBuffer), ("io.EOF", laid_io_EOF), ("io.ErrUnexpectedEOF", laid_io_ErrUnexpectedEOF), ("gobnumbers/pub/gobnumbers.errBadUint", laid_gobnumbers_pub_gobnumbers_errBadUint)], narrowed := true }
def FnLongIsReadUptoSaid : Prop := fnLongIsReadUptoRow.holds Tryd.pinned (OpenSpec.upto fnLongIsReadSpec)

/-- 'laws.FnUintsComeBack', WHERE WHAT IT READS IS OF BULK AT MOST 1048576: true; the input reads as it did. -/
def fnUintsComeBackUptoRow : OpenClaim := { program := "ytleddjhlpgemjaadoor", sum := "e9e5f7765e5781afe5498b0341acb0cbdd38f6fd46113f5aa70675609fe4091c", func := "gobnumbers/laws.FnUintsComeBack", spec := "fnUintsComeBack", named := ["gobnumbers/pub/gobnumbers.errBadUint", "io.EOF"], apart := false, laid := [("io.EOF", laid_io_EOF), ("gobnumbers/pub/gobnumbers.errBadUint", laid_gobnumbers_pub_gobnumbers_errBadUint)], narrowed := true }
def FnUintsComeBackUptoSaid : Prop := fnUintsComeBackUptoRow.holds Tryd.pinned (OpenSpec.upto fnUintsComeBackSpec)

/-- 'laws.FnIntComesBack', WHERE WHAT IT READS IS OF BULK AT MOST 1048576: true; the input reads as it did. -/
def fnIntComesBackUptoRow : OpenClaim := { program := "ytleddjhlpgemjaadoor", sum := "e9e5f7765e5781afe5498b0341acb0cbdd38f6fd46113f5aa70675609fe4091c", func := "gobnumbers/laws.FnIntComesBack", spec := "fnIntComesBack", named := ["gobnumbers/pub/gobnumbers.errBadUint", "io.EOF"], apart := false, laid := [("io.EOF", laid_io_EOF), ("gobnumbers/pub/gobnumbers.errBadUint", laid_gobnumbers_pub_gobnumbers_errBadUint)], narrowed := true }
def FnIntComesBackUptoSaid : Prop := fnIntComesBackUptoRow.holds Tryd.pinned (OpenSpec.upto fnIntComesBackSpec)

/-- 'laws.FnFloatComesBack', WHERE WHAT IT READS IS OF BULK AT MOST 1048576: true; the input reads as it did. -/
def fnFloatComesBackUptoRow : OpenClaim := { program := "ytleddjhlpgemjaadoor", sum := "e9e5f7765e5781afe5498b0341acb0cbdd38f6fd46113f5aa70675609fe4091c", func := "gobnumbers/laws.FnFloatComesBack", spec := "fnFloatComesBack", inPlace := ["math.Float64frombits", "math.Float64bits"], named := ["gobnumbers/pub/gobnumbers.errBadUint", "io.EOF"], apart := false, laid := [("io.EOF", laid_io_EOF), ("gobnumbers/pub/gobnumbers.errBadUint", laid_gobnumbers_pub_gobnumbers_errBadUint)], narrowed := true }
def FnFloatComesBackUptoSaid : Prop := fnFloatComesBackUptoRow.holds Tryd.pinned (OpenSpec.upto fnFloatComesBackSpec)

/-- 'laws.FnCutIsTold', WHERE WHAT IT READS IS OF BULK AT MOST 1048576: true; the input reads as it did. -/
def fnCutIsToldUptoRow : OpenClaim := { program := "ytleddjhlpgemjaadoor", sum := "e9e5f7765e5781afe5498b0341acb0cbdd38f6fd46113f5aa70675609fe4091c", func := "gobnumbers/laws.FnCutIsTold", spec := "fnCutIsTold", unfollowed := true, recurses := true, named := ["gobnumbers/pub/gobnumbers.errBadUint", "io.EOF", "io.ErrUnexpectedEOF", "io.ErrShortBuffer"], apart := false, laid := [("io.ErrShortBuffer", laid_io_ErrShortBuffer), ("io.EOF", laid_io_EOF), ("io.ErrUnexpectedEOF", laid_io_ErrUnexpectedEOF), ("gobnumbers/pub/gobnumbers.errBadUint", laid_gobnumbers_pub_gobnumbers_errBadUint)], narrowed := true }
def FnCutIsToldUptoSaid : Prop := fnCutIsToldUptoRow.holds Tryd.pinned (OpenSpec.upto fnCutIsToldSpec)

/-- 'laws.FnUintComesBack', WHERE WHAT IT READS IS OF BULK AT MOST 1048576: true; the input reads as it did. -/
def fnUintComesBackUptoRow : OpenClaim := { program := "ytleddjhlpgemjaadoor", sum := "e9e5f7765e5781afe5498b0341acb0cbdd38f6fd46113f5aa70675609fe4091c", func := "gobnumbers/laws.FnUintComesBack", spec := "fnUintComesBack", unfollowed := true, recurses := true, named := ["gobnumbers/pub/gobnumbers.errBadUint", "io.EOF", "io.ErrUnexpectedEOF", "io.ErrShortBuffer"], apart := false, laid := [("io.ErrShortBuffer", laid_io_ErrShortBuffer), ("io.EOF", laid_io_EOF), ("io.ErrUnexpectedEOF", laid_io_ErrUnexpectedEOF), ("gobnumbers/pub/gobnumbers.errBadUint", laid_gobnumbers_pub_gobnumbers_errBadUint)], narrowed := true }
def FnUintComesBackUptoSaid : Prop := fnUintComesBackUptoRow.holds Tryd.pinned (OpenSpec.upto fnUintComesBackSpec)

end Rows
end Go.Proofs.YtleddjhlpgemjaaDoor
