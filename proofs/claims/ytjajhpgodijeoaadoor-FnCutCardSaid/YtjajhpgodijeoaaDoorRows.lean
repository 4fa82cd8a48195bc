/-
  NARROWER THAN 'FOR EVERY INPUT', by the rows' own cells (each row's printed sentence says how): FnCut: laid · FnLongLine: laid · FnPieces: laid · FnRead: laid · FnReadBack: laid · FnWrite: laid · FnWriteFails: laid.
  DERIVED. THE GIVEN ROWS OF THIS SEAT. 7 by the template 'for every input the law returns true; each argument reads behind the call as it read before'; 0 by the template 'total and deterministic' (their statements: YtjajhpgodijeoaaDoorTotals.lean).
  GIVEN WITH THE SEED: the statements are not yours to turn. If you find one false, say at which input.
  Laid BY PROGRAM, IN A SANDBOX (cutbox-rows.mjs): the forced cells as the released guide's own fill.sh prints them over the translation 65f93e8562c7ce3b… (all of the seat's roots in one cut). By AI agents, Wed Nov 11 2026. No macro, syntax, notation, axiom, sorry.
-/
import Derived.Test.YtjajhpgodijeoaaDoorChecked
import GoSem.Claim
import GoSem.ClaimJoined
import GoSem.ClaimMapViews
import Derived.JoinedTies
import Derived.KernelRfl
namespace Go.Proofs.YtjajhpgodijeoaaDoor
/- THE CELL 'sum', in the pinned program and in every row, IS THE sha256 OF THE DUMP (.gsa) THAT YtjajhpgodijeoaaDoorProg.lean LOADS. Nothing in Lean hashes anything: it is a label: what it is worth is what the hold of that sum in a sandbox is worth. -/
noncomputable def Tryd.pinned : Pinned := { name := "ytjajhpgodijeoaadoor", sum := "65f93e8562c7ce3b8b1db201ebfe4d4a4ce70928b38adc4eab6157d492400297", checked := Tryd.checked }
namespace Rows
def none {H : Type} : Left H := { results := [], args := [] }

/- WHAT THE LISTED PACKAGE-LEVEL VARIABLES READ AS WHEN THE CALL BEGINS. Each datum BY PROGRAM (the guide's laid-datum.mjs) off the statement by which the dump's own 'gosem.cut.vars' lays the variable. In a bare row this is a premise. The card (YtjajhpgodijeoaaDoorCards.lean) ties it to the program's text. -/
def laid_io_EOF {H : Type} : DataW H := .iface "*errors.errorString" (.ptr (.agg [.lit (.string [69, 79, 70])]))
def laid_io_ErrUnexpectedEOF {H : Type} : DataW H := .iface "*errors.errorString" (.ptr (.agg [.lit (.string [117, 110, 101, 120, 112, 101, 99, 116, 101, 100, 32, 69, 79, 70])]))
def laid_chunkedbodies_pub_chunked_ErrLineTooLong {H : Type} : DataW H := .iface "*errors.errorString" (.ptr (.agg [.lit (.string [104, 101, 97, 100, 101, 114, 32, 108, 105, 110, 101, 32, 116, 111, 111, 32, 108, 111, 110, 103])]))

/-- 'laws.FnCut': WHATEVER THE INPUT: true; the input reads as it did. -/
def fnCutSpec : ChangeSpec := { name := "fnCut", fn := fun _ => fun
  | [d1, d2, d3] => { results := [.lit (.bool true)], args := [d1, d2, d3] }
  | _ => none }
def fnCutRow : OpenClaim := { program := "ytjajhpgodijeoaadoor", sum := "65f93e8562c7ce3b8b1db201ebfe4d4a4ce70928b38adc4eab6157d492400297", func := "chunkedbodies/laws.FnCut", spec := "fnCut", inPlace := ["internal/reflectlite.TypeOf"], unfollowed := true, recurses := true, named := ["io.EOF", "io.ErrUnexpectedEOF", "chunkedbodies/pub/chunked.ErrLineTooLong"], apart := false, laid := [("io.EOF", laid_io_EOF), ("io.ErrUnexpectedEOF", laid_io_ErrUnexpectedEOF), ("chunkedbodies/pub/chunked.ErrLineTooLong", laid_chunkedbodies_pub_chunked_ErrLineTooLong)] }
def FnCutSaid : Prop := fnCutRow.holds Tryd.pinned (OpenSpec.ofChange fnCutSpec)

/-- ITS FALSE NEIGHBOUR: 'it returns false'. Refute it at one input. -/
def fnCutWrong : ChangeSpec := { name := "fnCut", fn := fun _ => fun
  | [d1, d2, d3] => { results := [.lit (.bool false)], args := [d1, d2, d3] }
  | _ => none }
def FnCutWrongFalsely : Prop := fnCutRow.holds Tryd.pinned (OpenSpec.ofChange fnCutWrong)

/-- 'laws.FnLongLine': WHATEVER THE INPUT: true; the input reads as it did. -/
def fnLongLineSpec : ChangeSpec := { name := "fnLongLine", fn := fun _ => fun
  | [d1, d2] => { results := [.lit (.bool true)], args := [d1, d2] }
  | _ => none }
def fnLongLineRow : OpenClaim := { program := "ytjajhpgodijeoaadoor", sum := "65f93e8562c7ce3b8b1db201ebfe4d4a4ce70928b38adc4eab6157d492400297", func := "chunkedbodies/laws.FnLongLine", spec := "fnLongLine", inPlace := ["internal/reflectlite.TypeOf"], unfollowed := true, recurses := true, named := ["io.EOF", "io.ErrUnexpectedEOF", "chunkedbodies/pub/chunked.ErrLineTooLong"], apart := false, laid := [("io.EOF", laid_io_EOF), ("io.ErrUnexpectedEOF", laid_io_ErrUnexpectedEOF), ("chunkedbodies/pub/chunked.ErrLineTooLong", laid_chunkedbodies_pub_chunked_ErrLineTooLong)] }
def FnLongLineSaid : Prop := fnLongLineRow.holds Tryd.pinned (OpenSpec.ofChange fnLongLineSpec)

/-- ITS FALSE NEIGHBOUR: 'it returns false'. Refute it at one input. -/
def fnLongLineWrong : ChangeSpec := { name := "fnLongLine", fn := fun _ => fun
  | [d1, d2] => { results := [.lit (.bool false)], args := [d1, d2] }
  | _ => none }
def FnLongLineWrongFalsely : Prop := fnLongLineRow.holds Tryd.pinned (OpenSpec.ofChange fnLongLineWrong)

/-- 'laws.FnPieces': WHATEVER THE INPUT: true; the input reads as it did. -/
def fnPiecesSpec : ChangeSpec := { name := "fnPieces", fn := fun _ => fun
  | [d1, d2, d3, d4] => { results := [.lit (.bool true)], args := [d1, d2, d3, d4] }
  | _ => none }
def fnPiecesRow : OpenClaim := { program := "ytjajhpgodijeoaadoor", sum := "65f93e8562c7ce3b8b1db201ebfe4d4a4ce70928b38adc4eab6157d492400297", func := "chunkedbodies/laws.FnPieces", spec := "fnPieces", inPlace := ["internal/reflectlite.TypeOf"], unfollowed := true, recurses := true, named := ["io.EOF", "io.ErrUnexpectedEOF", "chunkedbodies/pub/chunked.ErrLineTooLong"], apart := false, laid := [("io.EOF", laid_io_EOF), ("io.ErrUnexpectedEOF", laid_io_ErrUnexpectedEOF), ("chunkedbodies/pub/chunked.ErrLineTooLong", laid_chunkedbodies_pub_chunked_ErrLineTooLong)] }
def FnPiecesSaid : Prop := fnPiecesRow.holds Tryd.pinned (OpenSpec.ofChange fnPiecesSpec)

/-- ITS FALSE NEIGHBOUR: 'it returns false'. Refute it at one input. -/
def fnPiecesWrong : ChangeSpec := { name := "fnPieces", fn := fun _ => fun
  | [d1, d2, d3, d4] => { results := [.lit (.bool false)], args := [d1, d2, d3, d4] }
  | _ => none }
def FnPiecesWrongFalsely : Prop := fnPiecesRow.holds Tryd.pinned (OpenSpec.ofChange fnPiecesWrong)

/-- 'laws.FnRead': WHATEVER THE INPUT: true; the input reads as it did. -/
def fnReadSpec : ChangeSpec := { name := "fnRead", fn := fun _ => fun
  | [d1, d2, d3, d4] => { results := [.lit (.bool true)], args := [d1, d2, d3, d4] }
  | _ => none }
def fnReadRow : OpenClaim := { program := "ytjajhpgodijeoaadoor", sum := "65f93e8562c7ce3b8b1db201ebfe4d4a4ce70928b38adc4eab6157d492400297", func := "chunkedbodies/laws.FnRead", spec := "fnRead", inPlace := ["internal/reflectlite.TypeOf"], unfollowed := true, recurses := true, named := ["io.EOF", "io.ErrUnexpectedEOF", "chunkedbodies/pub/chunked.ErrLineTooLong"], apart := false, laid := [("io.EOF", laid_io_EOF), ("io.ErrUnexpectedEOF", laid_io_ErrUnexpectedEOF), ("chunkedbodies/pub/chunked.ErrLineTooLong", laid_chunkedbodies_pub_chunked_ErrLineTooLong)] }
def FnReadSaid : Prop := fnReadRow.holds Tryd.pinned (OpenSpec.ofChange fnReadSpec)

/-- ITS FALSE NEIGHBOUR: 'it returns false'. Refute it at one input. -/
def fnReadWrong : ChangeSpec := { name := "fnRead", fn := fun _ => fun
  | [d1, d2, d3, d4] => { results := [.lit (.bool false)], args := [d1, d2, d3, d4] }
  | _ => none }
def FnReadWrongFalsely : Prop := fnReadRow.holds Tryd.pinned (OpenSpec.ofChange fnReadWrong)

/-- 'laws.FnReadBack': WHATEVER THE INPUT: true; the input reads as it did. -/
def fnReadBackSpec : ChangeSpec := { name := "fnReadBack", fn := fun _ => fun
  | [d1, d2, d3, d4] => { results := [.lit (.bool true)], args := [d1, d2, d3, d4] }
  | _ => none }
def fnReadBackRow : OpenClaim := { program := "ytjajhpgodijeoaadoor", sum := "65f93e8562c7ce3b8b1db201ebfe4d4a4ce70928b38adc4eab6157d492400297", func := "chunkedbodies/laws.FnReadBack", spec := "fnReadBack", inPlace := ["internal/reflectlite.TypeOf"], unfollowed := true, recurses := true, named := ["io.EOF", "io.ErrUnexpectedEOF", "chunkedbodies/pub/chunked.ErrLineTooLong"], apart := false, laid := [("io.EOF", laid_io_EOF), ("io.ErrUnexpectedEOF", laid_io_ErrUnexpectedEOF), ("chunkedbodies/pub/chunked.ErrLineTooLong", laid_chunkedbodies_pub_chunked_ErrLineTooLong)] }
def FnReadBackSaid : Prop := fnReadBackRow.holds Tryd.pinned (OpenSpec.ofChange fnReadBackSpec)

/-- ITS FALSE NEIGHBOUR: 'it returns false'. Refute it at one input. -/
def fnReadBackWrong : ChangeSpec := { name := "fnReadBack", fn := fun _ => fun
  | [d1, d2, d3, d4] => { results := [.lit (.bool false)], args := [d1, d2, d3, d4] }
  | _ => none }
def FnReadBackWrongFalsely : Prop := fnReadBackRow.holds Tryd.pinned (OpenSpec.ofChange fnReadBackWrong)

/-- 'laws.FnWrite': WHATEVER THE INPUT: true; the input reads as it did. -/
def fnWriteSpec : ChangeSpec := { name := "fnWrite", fn := fun _ => fun
  | [d1, d2] => { results := [.lit (.bool true)], args := [d1, d2] }
  | _ => none }
def fnWriteRow : OpenClaim := { program := "ytjajhpgodijeoaadoor", sum := "65f93e8562c7ce3b8b1db201ebfe4d4a4ce70928b38adc4eab6157d492400297", func := "chunkedbodies/laws.FnWrite", spec := "fnWrite", inPlace := ["internal/reflectlite.TypeOf"], unfollowed := true, recurses := true, named := ["io.EOF", "io.ErrUnexpectedEOF", "chunkedbodies/pub/chunked.ErrLineTooLong"], apart := false, laid := [("io.EOF", laid_io_EOF), ("io.ErrUnexpectedEOF", laid_io_ErrUnexpectedEOF), ("chunkedbodies/pub/chunked.ErrLineTooLong", laid_chunkedbodies_pub_chunked_ErrLineTooLong)] }
def FnWriteSaid : Prop := fnWriteRow.holds Tryd.pinned (OpenSpec.ofChange fnWriteSpec)

/-- ITS FALSE NEIGHBOUR: 'it returns false'. Refute it at one input. -/
def fnWriteWrong : ChangeSpec := { name := "fnWrite", fn := fun _ => fun
  | [d1, d2] => { results := [.lit (.bool false)], args := [d1, d2] }
  | _ => none }
def FnWriteWrongFalsely : Prop := fnWriteRow.holds Tryd.pinned (OpenSpec.ofChange fnWriteWrong)

/-- 'laws.FnWriteFails': WHATEVER THE INPUT: true; the input reads as it did. -/
def fnWriteFailsSpec : ChangeSpec := { name := "fnWriteFails", fn := fun _ => fun
  | [d1, d2, d3] => { results := [.lit (.bool true)], args := [d1, d2, d3] }
  | _ => none }
def fnWriteFailsRow : OpenClaim := { program := "ytjajhpgodijeoaadoor", sum := "65f93e8562c7ce3b8b1db201ebfe4d4a4ce70928b38adc4eab6157d492400297", func := "chunkedbodies/laws.FnWriteFails", spec := "fnWriteFails", inPlace := ["internal/reflectlite.TypeOf"], unfollowed := true, recurses := true, named := ["io.EOF", "io.ErrUnexpectedEOF", "chunkedbodies/pub/chunked.ErrLineTooLong"], apart := false, laid := [("io.EOF", laid_io_EOF), ("io.ErrUnexpectedEOF", laid_io_ErrUnexpectedEOF), ("chunkedbodies/pub/chunked.ErrLineTooLong", laid_chunkedbodies_pub_chunked_ErrLineTooLong)] }
def FnWriteFailsSaid : Prop := fnWriteFailsRow.holds Tryd.pinned (OpenSpec.ofChange fnWriteFailsSpec)

/-- ITS FALSE NEIGHBOUR: 'it returns false'. Refute it at one input. -/
def fnWriteFailsWrong : ChangeSpec := { name := "fnWriteFails", fn := fun _ => fun
  | [d1, d2, d3] => { results := [.lit (.bool false)], args := [d1, d2, d3] }
  | _ => none }
def FnWriteFailsWrongFalsely : Prop := fnWriteFailsRow.holds Tryd.pinned (OpenSpec.ofChange fnWriteFailsWrong)

/- THE SECOND FORM. 'bulk': how many values and letters a reading holds, each counted each time it is reached (what is shared counts as often as it is met; a slice's spare places count too). A statement '..UptoSaid' is the law's where the arguments, and the package variables that the reading takes, are together of bulk at most 1048576: NARROWER than '..Said'. Prove '..Said' where nothing that the law and all that it calls make is longer than what came in: it says more and counts as full. Else prove '..UptoSaid'. A law counts once. -/
mutual
def uptoBulk {H : Type} : DataW H → Nat
  | .lit (.string bytes) => bytes.length + 1
  | .lit _ => 1
  | .nil => 1
  | .ptr d => uptoBulk d + 1
  | .slice elems spare => uptoBulkAll elems + uptoBulkAll spare + 1
  | .agg parts => uptoBulkAll parts + 1
  | .iface _ d => uptoBulk d + 1
  | .map entries => uptoBulkEntries entries + 1
  | .held _ => 1
def uptoBulkAll {H : Type} : List (DataW H) → Nat
  | [] => 0
  | d :: r => uptoBulk d + uptoBulkAll r
def uptoBulkEntries {H : Type} : List (Lit × DataW H) → Nat
  | [] => 0
  | x :: r => uptoBulkEntry x + uptoBulkEntries r
def uptoBulkEntry {H : Type} : Lit × DataW H → Nat
  | (.string bytes, d) => bytes.length + uptoBulk d + 1
  | (_, d) => uptoBulk d + 1
 end
def uptoSmall : (H : Type) → List (DataW H) → Bool := fun _ ds => decide (uptoBulkAll ds ≤ 1048576)
def OpenSpec.upto (s : _root_.Go.ChangeSpec) : _root_.Go.OpenSpec := { _root_.Go.OpenSpec.ofChange s with cond := some uptoSmall }

/-- 'laws.FnCut', WHERE WHAT IT READS IS OF BULK AT MOST 1048576: true; the input reads as it did. -/
def fnCutUptoRow : OpenClaim := { program := "ytjajhpgodijeoaadoor", sum := "65f93e8562c7ce3b8b1db201ebfe4d4a4ce70928b38adc4eab6157d492400297", func := "chunkedbodies/laws.FnCut", spec := "fnCut", inPlace := ["internal/reflectlite.TypeOf"], unfollowed := true, recurses := true, named := ["io.EOF", "io.ErrUnexpectedEOF", "chunkedbodies/pub/chunked.ErrLineTooLong"], apart := false, laid := [("io.EOF", laid_io_EOF), ("io.ErrUnexpectedEOF", laid_io_ErrUnexpectedEOF), ("chunkedbodies/pub/chunked.ErrLineTooLong", laid_chunkedbodies_pub_chunked_ErrLineTooLong)], narrowed := true }
def FnCutUptoSaid : Prop := fnCutUptoRow.holds Tryd.pinned (OpenSpec.upto fnCutSpec)

/-- 'laws.FnLongLine', WHERE WHAT IT READS IS OF BULK AT MOST 1048576: true; the input reads as it did. -/
def fnLongLineUptoRow : OpenClaim := { program := "ytjajhpgodijeoaadoor", sum := "65f93e8562c7ce3b8b1db201ebfe4d4a4ce70928b38adc4eab6157d492400297", func := "chunkedbodies/laws.FnLongLine", spec := "fnLongLine", inPlace := ["internal/reflectlite.TypeOf"], unfollowed := true, recurses := true, named := ["io.EOF", "io.ErrUnexpectedEOF", "chunkedbodies/pub/chunked.ErrLineTooLong"], apart := false, laid := [("io.EOF", laid_io_EOF), ("io.ErrUnexpectedEOF", laid_io_ErrUnexpectedEOF), ("chunkedbodies/pub/chunked.ErrLineTooLong", laid_chunkedbodies_pub_chunked_ErrLineTooLong)], narrowed := true }
def FnLongLineUptoSaid : Prop := fnLongLineUptoRow.holds Tryd.pinned (OpenSpec.upto fnLongLineSpec)

/-- 'laws.FnPieces', WHERE WHAT IT READS IS OF BULK AT MOST 1048576: true; the input reads as it did. -/
def fnPiecesUptoRow : OpenClaim := { program := "ytjajhpgodijeoaadoor", sum := "65f93e8562c7ce3b8b1db201ebfe4d4a4ce70928b38adc4eab6157d492400297", func := "chunkedbodies/laws.FnPieces", spec := "fnPieces", inPlace := ["internal/reflectlite.TypeOf"], unfollowed := true, recurses := true, named := ["io.EOF", "io.ErrUnexpectedEOF", "chunkedbodies/pub/chunked.ErrLineTooLong"], apart := false, laid := [("io.EOF", laid_io_EOF), ("io.ErrUnexpectedEOF", laid_io_ErrUnexpectedEOF), ("chunkedbodies/pub/chunked.ErrLineTooLong", laid_chunkedbodies_pub_chunked_ErrLineTooLong)], narrowed := true }
def FnPiecesUptoSaid : Prop := fnPiecesUptoRow.holds Tryd.pinned (OpenSpec.upto fnPiecesSpec)

/-- 'laws.FnRead', WHERE WHAT IT READS IS OF BULK AT MOST 1048576: true; the input reads as it did. -/
def fnReadUptoRow : OpenClaim := { program := "ytjajhpgodijeoaadoor", sum := "65f93e8562c7ce3b8b1db201ebfe4d4a4ce70928b38adc4eab6157d492400297", func := "chunkedbodies/laws.FnRead", spec := "fnRead", inPlace := ["internal/reflectlite.TypeOf"], unfollowed := true, recurses := true, named := ["io.EOF", "io.ErrUnexpectedEOF", "chunkedbodies/pub/chunked.ErrLineTooLong"], apart := false, laid := [("io.EOF", laid_io_EOF), ("io.ErrUnexpectedEOF", laid_io_ErrUnexpectedEOF), ("chunkedbodies/pub/chunked.ErrLineTooLong", laid_chunkedbodies_pub_chunked_ErrLineTooLong)], narrowed := true }
def FnReadUptoSaid : Prop := fnReadUptoRow.holds Tryd.pinned (OpenSpec.upto fnReadSpec)

/-- 'laws.FnReadBack', WHERE WHAT IT READS IS OF BULK AT MOST 1048576: true; the input reads as it did. -/
def fnReadBackUptoRow : OpenClaim := { program := "ytjajhpgodijeoaadoor", sum := "65f93e8562c7ce3b8b1db201ebfe4d4a4ce70928b38adc4eab6157d492400297", func := "chunkedbodies/laws.FnReadBack", spec := "fnReadBack", inPlace := ["internal/reflectlite.TypeOf"], unfollowed := true, recurses := true, named := ["io.EOF", "io.ErrUnexpectedEOF", "chunkedbodies/pub/chunked.ErrLineTooLong"], apart := false, laid := [("io.EOF", laid_io_EOF), ("io.ErrUnexpectedEOF", laid_io_ErrUnexpectedEOF), ("chunkedbodies/pub/chunked.ErrLineTooLong", laid_chunkedbodies_pub_chunked_ErrLineTooLong)], narrowed := true }
def FnReadBackUptoSaid : Prop := fnReadBackUptoRow.holds Tryd.pinned (OpenSpec.upto fnReadBackSpec)

/-- 'laws.FnWrite', WHERE WHAT IT READS IS OF BULK AT MOST 1048576: true; the input reads as it did. -/
def fnWriteUptoRow : OpenClaim := { program := "ytjajhpgodijeoaadoor", sum := "65f93e8562c7ce3b8b1db201ebfe4d4a4ce70928b38adc4eab6157d492400297", func := "chunkedbodies/laws.FnWrite", spec := "fnWrite", inPlace := ["internal/reflectlite.TypeOf"], unfollowed := true, recurses := true, named := ["io.EOF", "io.ErrUnexpectedEOF", "chunkedbodies/pub/chunked.ErrLineTooLong"], apart := false, laid := [("io.EOF", laid_io_EOF), ("io.ErrUnexpectedEOF", laid_io_ErrUnexpectedEOF), ("chunkedbodies/pub/chunked.ErrLineTooLong", laid_chunkedbodies_pub_chunked_ErrLineTooLong)], narrowed := true }
def FnWriteUptoSaid : Prop := fnWriteUptoRow.holds Tryd.pinned (OpenSpec.upto fnWriteSpec)

/-- 'laws.FnWriteFails', WHERE WHAT IT READS IS OF BULK AT MOST 1048576: true; the input reads as it did. -/
def fnWriteFailsUptoRow : OpenClaim := { program := "ytjajhpgodijeoaadoor", sum := "65f93e8562c7ce3b8b1db201ebfe4d4a4ce70928b38adc4eab6157d492400297", func := "chunkedbodies/laws.FnWriteFails", spec := "fnWriteFails", inPlace := ["internal/reflectlite.TypeOf"], unfollowed := true, recurses := true, named := ["io.EOF", "io.ErrUnexpectedEOF", "chunkedbodies/pub/chunked.ErrLineTooLong"], apart := false, laid := [("io.EOF", laid_io_EOF), ("io.ErrUnexpectedEOF", laid_io_ErrUnexpectedEOF), ("chunkedbodies/pub/chunked.ErrLineTooLong", laid_chunkedbodies_pub_chunked_ErrLineTooLong)], narrowed := true }
def FnWriteFailsUptoSaid : Prop := fnWriteFailsUptoRow.holds Tryd.pinned (OpenSpec.upto fnWriteFailsSpec)

end Rows
end Go.Proofs.YtjajhpgodijeoaaDoor
