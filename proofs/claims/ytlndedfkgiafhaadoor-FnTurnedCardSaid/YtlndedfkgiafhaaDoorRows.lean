/-
  NARROWER THAN 'FOR EVERY INPUT', by the rows' own cells (each row's printed sentence says how): FnAny: laid · FnCut: laid · FnField: laid · FnTurned: laid.
  DERIVED. THE GIVEN ROWS OF THIS SEAT. 4 by the template 'for every input the law returns true; each argument reads behind the call as it read before'; 0 by the template 'total and deterministic' (their statements: YtlndedfkgiafhaaDoorTotals.lean).
  GIVEN WITH THE SEED: the statements are not yours to turn. If you find one false, say at which input.
  Laid BY PROGRAM, IN A SANDBOX (cutbox-rows.mjs): the forced cells as the released guide's own fill.sh prints them over the translation 6c5fce2c719e845c… (all of the seat's roots in one cut). By AI agents, Wed Nov 11 2026. No macro, syntax, notation, axiom, sorry.
-/
import Derived.Test.YtlndedfkgiafhaaDoorChecked
import GoSem.Claim
import GoSem.ClaimJoined
import GoSem.ClaimMapViews
import Derived.JoinedTies
import Derived.KernelRfl
namespace Go.Proofs.YtlndedfkgiafhaaDoor
/- THE CELL 'sum', in the pinned program and in every row, IS THE sha256 OF THE DUMP (.gsa) THAT YtlndedfkgiafhaaDoorProg.lean LOADS. Nothing in Lean hashes anything: it is a label: what it is worth is what the hold of that sum in a sandbox is worth. -/
noncomputable def Tryd.pinned : Pinned := { name := "ytlndedfkgiafhaadoor", sum := "6c5fce2c719e845cb42fe098b6c03ebaa87505e208cf11d762f03b5c1338d74f", checked := Tryd.checked }
namespace Rows
def none {H : Type} : Left H := { results := [], args := [] }

/- WHAT THE LISTED PACKAGE-LEVEL VARIABLES READ AS WHEN THE CALL BEGINS. Each datum BY PROGRAM (the guide's laid-datum.mjs) off the statement by which the dump's own 'gosem.cut.vars' lays the variable. In a bare row this is a premise. The card (YtlndedfkgiafhaaDoorCards.lean) ties it to the program's text. -/
def laid_io_ErrShortBuffer {H : Type} : DataW H := .iface "*errors.errorString" (.ptr (.agg [.lit (.string [115, 104, 111, 114, 116, 32, 98, 117, 102, 102, 101, 114])]))
def laid_io_EOF {H : Type} : DataW H := .iface "*errors.errorString" (.ptr (.agg [.lit (.string [69, 79, 70])]))
def laid_io_ErrUnexpectedEOF {H : Type} : DataW H := .iface "*errors.errorString" (.ptr (.agg [.lit (.string [117, 110, 101, 120, 112, 101, 99, 116, 101, 100, 32, 69, 79, 70])]))

/-- 'laws.FnAny': WHATEVER THE INPUT: true; the input reads as it did. -/
def fnAnySpec : ChangeSpec := { name := "fnAny", fn := fun _ => fun
  | [d] => { results := [.lit (.bool true)], args := [d] }
  | _ => none }
def fnAnyRow : OpenClaim := { program := "ytlndedfkgiafhaadoor", sum := "6c5fce2c719e845cb42fe098b6c03ebaa87505e208cf11d762f03b5c1338d74f", func := "loop.example/pub-g03479/laws.FnAny", spec := "fnAny", inPlace := ["internal/bytealg.IndexByte"], unfollowed := true, recurses := true, named := ["io.ErrShortBuffer", "io.EOF", "io.ErrUnexpectedEOF"], apart := false, laid := [("io.ErrShortBuffer", laid_io_ErrShortBuffer), ("io.EOF", laid_io_EOF), ("io.ErrUnexpectedEOF", laid_io_ErrUnexpectedEOF)] }
def FnAnySaid : Prop := fnAnyRow.holds Tryd.pinned (OpenSpec.ofChange fnAnySpec)

/-- ITS FALSE NEIGHBOUR: 'it returns false'. Refute it at one input. -/
def fnAnyWrong : ChangeSpec := { name := "fnAny", fn := fun _ => fun
  | [d] => { results := [.lit (.bool false)], args := [d] }
  | _ => none }
def FnAnyWrongFalsely : Prop := fnAnyRow.holds Tryd.pinned (OpenSpec.ofChange fnAnyWrong)

/-- 'laws.FnCut': WHATEVER THE INPUT: true; the input reads as it did. -/
def fnCutSpec : ChangeSpec := { name := "fnCut", fn := fun _ => fun
  | [d1, d2, d3, d4, d5, d6] => { results := [.lit (.bool true)], args := [d1, d2, d3, d4, d5, d6] }
  | _ => none }
def fnCutRow : OpenClaim := { program := "ytlndedfkgiafhaadoor", sum := "6c5fce2c719e845cb42fe098b6c03ebaa87505e208cf11d762f03b5c1338d74f", func := "loop.example/pub-g03479/laws.FnCut", spec := "fnCut", inPlace := ["internal/bytealg.IndexByte"], unfollowed := true, recurses := true, named := ["io.ErrShortBuffer", "io.EOF", "io.ErrUnexpectedEOF"], apart := false, laid := [("io.ErrShortBuffer", laid_io_ErrShortBuffer), ("io.EOF", laid_io_EOF), ("io.ErrUnexpectedEOF", laid_io_ErrUnexpectedEOF)] }
def FnCutSaid : Prop := fnCutRow.holds Tryd.pinned (OpenSpec.ofChange fnCutSpec)

/-- ITS FALSE NEIGHBOUR: 'it returns false'. Refute it at one input. -/
def fnCutWrong : ChangeSpec := { name := "fnCut", fn := fun _ => fun
  | [d1, d2, d3, d4, d5, d6] => { results := [.lit (.bool false)], args := [d1, d2, d3, d4, d5, d6] }
  | _ => none }
def FnCutWrongFalsely : Prop := fnCutRow.holds Tryd.pinned (OpenSpec.ofChange fnCutWrong)

/-- 'laws.FnField': WHATEVER THE INPUT: true; the input reads as it did. -/
def fnFieldSpec : ChangeSpec := { name := "fnField", fn := fun _ => fun
  | [d1, d2, d3, d4, d5, d6] => { results := [.lit (.bool true)], args := [d1, d2, d3, d4, d5, d6] }
  | _ => none }
def fnFieldRow : OpenClaim := { program := "ytlndedfkgiafhaadoor", sum := "6c5fce2c719e845cb42fe098b6c03ebaa87505e208cf11d762f03b5c1338d74f", func := "loop.example/pub-g03479/laws.FnField", spec := "fnField", inPlace := ["internal/bytealg.IndexByte"], unfollowed := true, recurses := true, named := ["io.ErrShortBuffer", "io.EOF", "io.ErrUnexpectedEOF"], apart := false, laid := [("io.ErrShortBuffer", laid_io_ErrShortBuffer), ("io.EOF", laid_io_EOF), ("io.ErrUnexpectedEOF", laid_io_ErrUnexpectedEOF)] }
def FnFieldSaid : Prop := fnFieldRow.holds Tryd.pinned (OpenSpec.ofChange fnFieldSpec)

/-- ITS FALSE NEIGHBOUR: 'it returns false'. Refute it at one input. -/
def fnFieldWrong : ChangeSpec := { name := "fnField", fn := fun _ => fun
  | [d1, d2, d3, d4, d5, d6] => { results := [.lit (.bool false)], args := [d1, d2, d3, d4, d5, d6] }
  | _ => none }
def FnFieldWrongFalsely : Prop := fnFieldRow.holds Tryd.pinned (OpenSpec.ofChange fnFieldWrong)

/-- 'laws.FnTurned': WHATEVER THE INPUT: true; the input reads as it did. -/
def fnTurnedSpec : ChangeSpec := { name := "fnTurned", fn := fun _ => fun
  | [d1, d2, d3, d4, d5, d6] => { results := [.lit (.bool true)], args := [d1, d2, d3, d4, d5, d6] }
  | _ => none }
def fnTurnedRow : OpenClaim := { program := "ytlndedfkgiafhaadoor", sum := "6c5fce2c719e845cb42fe098b6c03ebaa87505e208cf11d762f03b5c1338d74f", func := "loop.example/pub-g03479/laws.FnTurned", spec := "fnTurned", inPlace := ["internal/bytealg.IndexByte"], unfollowed := true, recurses := true, named := ["io.ErrShortBuffer", "io.EOF", "io.ErrUnexpectedEOF"], apart := false, laid := [("io.ErrShortBuffer", laid_io_ErrShortBuffer), ("io.EOF", laid_io_EOF), ("io.ErrUnexpectedEOF", laid_io_ErrUnexpectedEOF)] }
def FnTurnedSaid : Prop := fnTurnedRow.holds Tryd.pinned (OpenSpec.ofChange fnTurnedSpec)

/-- ITS FALSE NEIGHBOUR: 'it returns false'. Refute it at one input. -/
def fnTurnedWrong : ChangeSpec := { name := "fnTurned", fn := fun _ => fun
  | [d1, d2, d3, d4, d5, d6] => { results := [.lit (.bool false)], args := [d1, d2, d3, d4, d5, d6] }
  | _ => none }
def FnTurnedWrongFalsely : Prop := fnTurnedRow.holds Tryd.pinned (OpenSpec.ofChange fnTurnedWrong)

/- THE SECOND FORM. 'bulk': how many values and letters a reading holds, each counted each time it is reached (what is shared counts as often as it is met; a slice's spare places count too). A statement '..UptoSaid' is the law's where the arguments, and the package variables that the reading takes, are together of bulk at most 1048576: NARROWER than '..Said'. Prove '..Said' where nothing that the law and all that it calls make is longer than what came in: it says more and counts as full. Else prove '..UptoSaid'. A law counts once. -/
mutual
def uptoBulk {H : Type} : DataW H → Nat
  | .lit (.string bytes) => bytes.length + 1
  | .lit _ => 1
  | .nil => 1
  | .ptr d => uptoBulk d + 1
  | .slice elems spare => uptoBulkAll elems + uptoBulkAll spare + 1
  | .agg parts => uptoBulkAll parts + 1
  | .iface _ d => uptoBulk d + 1
  | .map entries => uptoBulkEntries entries + 1
  | .held _ => 1
def uptoBulkAll {H : Type} : List (DataW H) → Nat
  | [] => 0
  | d :: r => uptoBulk d + uptoBulkAll r
def uptoBulkEntries {H : Type} : List (Lit × DataW H) → Nat
  | [] => 0
  | x :: r => uptoBulkEntry x + uptoBulkEntries r
def uptoBulkEntry {H : Type} : Lit × DataW H → Nat
  | (.string bytes, d) => bytes.length + uptoBulk d + 1
  | (_, d) => uptoBulk d + 1
 end
def uptoSmall : (H : Type) → List (DataW H) → Bool := fun _ ds => decide (uptoBulkAll ds ≤ 1048576)
def OpenSpec.upto (s : _root_.Go.ChangeSpec) : _root_.Go.OpenSpec := { _root_.Go.OpenSpec.ofChange s with cond := some uptoSmall }

/-- 'laws.FnAny', WHERE WHAT IT READS IS OF BULK AT MOST 1048576: true; the input reads as it did. -/
def fnAnyUptoRow : OpenClaim := { program := "ytlndedfkgiafhaadoor", sum := "6c5fce2c719e845cb42fe098b6c03ebaa87505e208cf11d762f03b5c1338d74f", func := "loop.example/pub-g03479/laws.FnAny", spec := "fnAny", inPlace := ["internal/bytealg.IndexByte"], unfollowed := true, recurses := true, named := ["io.ErrShortBuffer", "io.EOF", "io.ErrUnexpectedEOF"], apart := false, laid := [("io.ErrShortBuffer", laid_io_ErrShortBuffer), ("io.EOF", laid_io_EOF), ("io.ErrUnexpectedEOF", laid_io_ErrUnexpectedEOF)], narrowed := true }
def FnAnyUptoSaid : Prop := fnAnyUptoRow.holds Tryd.pinned (OpenSpec.upto fnAnySpec)

/-- 'laws.FnCut', WHERE WHAT IT READS IS OF BULK AT MOST 1048576: true; the input reads as it did. -/
def fnCutUptoRow : OpenClaim := { program := "ytlndedfkgiafhaadoor", sum := "6c5fce2c719e845cb42fe098b6c03ebaa87505e208cf11d762f03b5c1338d74f", func := "loop.example/pub-g03479/laws.FnCut", spec := "fnCut", inPlace := ["internal/bytealg.IndexByte"], unfollowed := true, recurses := true, named := ["io.ErrShortBuffer", "io.EOF", "io.ErrUnexpectedEOF"], apart := false, laid := [("io.ErrShortBuffer", laid_io_ErrShortBuffer), ("io.EOF", laid_io_EOF), ("io.ErrUnexpectedEOF", laid_io_ErrUnexpectedEOF)], narrowed := true }
def FnCutUptoSaid : Prop := fnCutUptoRow.holds Tryd.pinned (OpenSpec.upto fnCutSpec)

/-- 'laws.FnField', WHERE WHAT IT READS IS OF BULK AT MOST 1048576: true; the input reads as it did. -/
def fnFieldUptoRow : OpenClaim := { program := "ytlndedfkgiafhaadoor", sum := "6c5fce2c719e845cb42fe098b6c03ebaa87505e208cf11d762f03b5c1338d74f", func := "loop.example/pub-g03479/laws.FnField", spec := "fnField", inPlace := ["internal/bytealg.IndexByte"], unfollowed := true, recurses := true, named := ["io.ErrShortBuffer", "io.EOF", "io.ErrUnexpectedEOF"], apart := false, laid := [("io.ErrShortBuffer", laid_io_ErrShortBuffer), ("io.EOF", laid_io_EOF), ("io.ErrUnexpectedEOF", laid_io_ErrUnexpectedEOF)], narrowed := true }
def FnFieldUptoSaid : Prop := fnFieldUptoRow.holds Tryd.pinned (OpenSpec.upto fnFieldSpec)

/-- 'laws.FnTurned', WHERE WHAT IT READS IS OF BULK AT MOST 1048576: true; the input reads as it did. -/
def fnTurnedUptoRow : OpenClaim := { program := "ytlndedfkgiafhaadoor", sum := "6c5fce2c719e845cb42fe098b6c03ebaa87505e208cf11d762f03b5c1338d74f", func := "loop.example/pub-g03479/laws.FnTurned", spec := "fnTurned", inPlace := ["internal/bytealg.IndexByte"], unfollowed := true, recurses := true, named := ["io.ErrShortBuffer", "io.EOF", "io.ErrUnexpectedEOF"], apart := false, laid := [("io.ErrShortBuffer", laid_io_ErrShortBuffer), ("io.EOF", laid_io_EOF), ("io.ErrUnexpectedEOF", laid_io_ErrUnexpectedEOF)], narrowed := true }
def FnTurnedUptoSaid : Prop := fnTurnedUptoRow.holds Tryd.pinned (OpenSpec.upto fnTurnedSpec)

end Rows
end Go.Proofs.YtlndedfkgiafhaaDoor
