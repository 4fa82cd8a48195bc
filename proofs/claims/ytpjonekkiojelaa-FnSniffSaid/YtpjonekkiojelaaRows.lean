/-
  No cell of these rows narrows 'for every input' (looked for: loops, veiled, ifaces, maps, wideKeys, modest, calm, conditions, laid).
  DERIVED. THE GIVEN ROWS OF THIS SEAT. 7 by the template 'for every input the law returns true; each argument reads behind the call as it read before'; 0 by the template 'total and deterministic' (their statements: YtpjonekkiojelaaTotals.lean).
  GIVEN WITH THE SEED: the statements are not yours to turn. If you find one false, say at which input.
  Laid BY PROGRAM, IN A SANDBOX (cutbox-rows.mjs): the forced cells as the released guide's own fill.sh prints them over the translation ed8da306ffbc5d60… (all of the seat's roots in one cut). By AI agents, Wed Nov 11 2026. No macro, syntax, notation, axiom, sorry.
-/
import Derived.Test.YtpjonekkiojelaaChecked
import GoSem.Claim
import GoSem.ClaimJoined
import GoSem.ClaimMapViews
import Derived.JoinedTies
import Derived.KernelRfl
namespace Go.Proofs.Ytpjonekkiojelaa
/- THE CELL 'sum', in the pinned program and in every row, IS THE sha256 OF THE DUMP (.gsa) THAT YtpjonekkiojelaaProg.lean LOADS. Nothing in Lean hashes anything: it is a label: what it is worth is what the hold of that sum in a sandbox is worth. -/
noncomputable def Try.pinned : Pinned := { name := "ytpjonekkiojelaa", sum := "ed8da306ffbc5d60f74a81199c0ce6d03727b949eef5908255a20c057dc19a4e", checked := Try.checked }
namespace Rows
def none {H : Type} : Left H := { results := [], args := [] }

/-- 'laws.FnTrimmed': WHATEVER THE INPUT: true; the input reads as it did. -/
def fnTrimmedSpec : ChangeSpec := { name := "fnTrimmed", fn := fun _ => fun
  | [d] => { results := [.lit (.bool true)], args := [d] }
  | _ => none }
def fnTrimmedRow : OpenClaim := { program := "ytpjonekkiojelaa", sum := "ed8da306ffbc5d60f74a81199c0ce6d03727b949eef5908255a20c057dc19a4e", func := "chunkedbodies/laws.FnTrimmed", spec := "fnTrimmed", apart := false }
def FnTrimmedSaid : Prop := fnTrimmedRow.holds Try.pinned (OpenSpec.ofChange fnTrimmedSpec)

/-- ITS FALSE NEIGHBOUR: 'it returns false'. Refute it at one input. -/
def fnTrimmedWrong : ChangeSpec := { name := "fnTrimmed", fn := fun _ => fun
  | [d] => { results := [.lit (.bool false)], args := [d] }
  | _ => none }
def FnTrimmedWrongFalsely : Prop := fnTrimmedRow.holds Try.pinned (OpenSpec.ofChange fnTrimmedWrong)

/-- 'laws.FnTextLike': WHATEVER THE INPUT: true; the input reads as it did. -/
def fnTextLikeSpec : ChangeSpec := { name := "fnTextLike", fn := fun _ => fun
  | [d] => { results := [.lit (.bool true)], args := [d] }
  | _ => none }
def fnTextLikeRow : OpenClaim := { program := "ytpjonekkiojelaa", sum := "ed8da306ffbc5d60f74a81199c0ce6d03727b949eef5908255a20c057dc19a4e", func := "chunkedbodies/laws.FnTextLike", spec := "fnTextLike", apart := false }
def FnTextLikeSaid : Prop := fnTextLikeRow.holds Try.pinned (OpenSpec.ofChange fnTextLikeSpec)

/-- ITS FALSE NEIGHBOUR: 'it returns false'. Refute it at one input. -/
def fnTextLikeWrong : ChangeSpec := { name := "fnTextLike", fn := fun _ => fun
  | [d] => { results := [.lit (.bool false)], args := [d] }
  | _ => none }
def FnTextLikeWrongFalsely : Prop := fnTextLikeRow.holds Try.pinned (OpenSpec.ofChange fnTextLikeWrong)

/-- 'laws.FnExtension': WHATEVER THE INPUT: true; the input reads as it did. -/
def fnExtensionSpec : ChangeSpec := { name := "fnExtension", fn := fun _ => fun
  | [d] => { results := [.lit (.bool true)], args := [d] }
  | _ => none }
def fnExtensionRow : OpenClaim := { program := "ytpjonekkiojelaa", sum := "ed8da306ffbc5d60f74a81199c0ce6d03727b949eef5908255a20c057dc19a4e", func := "chunkedbodies/laws.FnExtension", spec := "fnExtension", apart := false }
def FnExtensionSaid : Prop := fnExtensionRow.holds Try.pinned (OpenSpec.ofChange fnExtensionSpec)

/-- ITS FALSE NEIGHBOUR: 'it returns false'. Refute it at one input. -/
def fnExtensionWrong : ChangeSpec := { name := "fnExtension", fn := fun _ => fun
  | [d] => { results := [.lit (.bool false)], args := [d] }
  | _ => none }
def FnExtensionWrongFalsely : Prop := fnExtensionRow.holds Try.pinned (OpenSpec.ofChange fnExtensionWrong)

/-- 'laws.FnHex': WHATEVER THE INPUT: true; the input reads as it did. -/
def fnHexSpec : ChangeSpec := { name := "fnHex", fn := fun _ => fun
  | [d] => { results := [.lit (.bool true)], args := [d] }
  | _ => none }
def fnHexRow : OpenClaim := { program := "ytpjonekkiojelaa", sum := "ed8da306ffbc5d60f74a81199c0ce6d03727b949eef5908255a20c057dc19a4e", func := "chunkedbodies/laws.FnHex", spec := "fnHex", apart := false }
def FnHexSaid : Prop := fnHexRow.holds Try.pinned (OpenSpec.ofChange fnHexSpec)

/-- ITS FALSE NEIGHBOUR: 'it returns false'. Refute it at one input. -/
def fnHexWrong : ChangeSpec := { name := "fnHex", fn := fun _ => fun
  | [d] => { results := [.lit (.bool false)], args := [d] }
  | _ => none }
def FnHexWrongFalsely : Prop := fnHexRow.holds Try.pinned (OpenSpec.ofChange fnHexWrong)

/-- 'laws.FnMP4': WHATEVER THE INPUT: true; the input reads as it did. -/
def fnMP4Spec : ChangeSpec := { name := "fnMP4", fn := fun _ => fun
  | [d] => { results := [.lit (.bool true)], args := [d] }
  | _ => none }
def fnMP4Row : OpenClaim := { program := "ytpjonekkiojelaa", sum := "ed8da306ffbc5d60f74a81199c0ce6d03727b949eef5908255a20c057dc19a4e", func := "chunkedbodies/laws.FnMP4", spec := "fnMP4", named := ["encoding/binary.BigEndian"], apart := false }
def FnMP4Said : Prop := fnMP4Row.holds Try.pinned (OpenSpec.ofChange fnMP4Spec)

/-- ITS FALSE NEIGHBOUR: 'it returns false'. Refute it at one input. -/
def fnMP4Wrong : ChangeSpec := { name := "fnMP4", fn := fun _ => fun
  | [d] => { results := [.lit (.bool false)], args := [d] }
  | _ => none }
def FnMP4WrongFalsely : Prop := fnMP4Row.holds Try.pinned (OpenSpec.ofChange fnMP4Wrong)

/-- 'laws.FnSniff': WHATEVER THE INPUT: true; the input reads as it did. -/
def fnSniffSpec : ChangeSpec := { name := "fnSniff", fn := fun _ => fun
  | [d] => { results := [.lit (.bool true)], args := [d] }
  | _ => none }
def fnSniffRow : OpenClaim := { program := "ytpjonekkiojelaa", sum := "ed8da306ffbc5d60f74a81199c0ce6d03727b949eef5908255a20c057dc19a4e", func := "chunkedbodies/laws.FnSniff", spec := "fnSniff", unfollowed := true, recurses := true, apart := false }
def FnSniffSaid : Prop := fnSniffRow.holds Try.pinned (OpenSpec.ofChange fnSniffSpec)

/-- ITS FALSE NEIGHBOUR: 'it returns false'. Refute it at one input. -/
def fnSniffWrong : ChangeSpec := { name := "fnSniff", fn := fun _ => fun
  | [d] => { results := [.lit (.bool false)], args := [d] }
  | _ => none }
def FnSniffWrongFalsely : Prop := fnSniffRow.holds Try.pinned (OpenSpec.ofChange fnSniffWrong)

/-- 'laws.FnSniffBeginning': WHATEVER THE INPUT: true; the input reads as it did. -/
def fnSniffBeginningSpec : ChangeSpec := { name := "fnSniffBeginning", fn := fun _ => fun
  | [d] => { results := [.lit (.bool true)], args := [d] }
  | _ => none }
def fnSniffBeginningRow : OpenClaim := { program := "ytpjonekkiojelaa", sum := "ed8da306ffbc5d60f74a81199c0ce6d03727b949eef5908255a20c057dc19a4e", func := "chunkedbodies/laws.FnSniffBeginning", spec := "fnSniffBeginning", unfollowed := true, recurses := true, apart := false }
def FnSniffBeginningSaid : Prop := fnSniffBeginningRow.holds Try.pinned (OpenSpec.ofChange fnSniffBeginningSpec)

/-- ITS FALSE NEIGHBOUR: 'it returns false'. Refute it at one input. -/
def fnSniffBeginningWrong : ChangeSpec := { name := "fnSniffBeginning", fn := fun _ => fun
  | [d] => { results := [.lit (.bool false)], args := [d] }
  | _ => none }
def FnSniffBeginningWrongFalsely : Prop := fnSniffBeginningRow.holds Try.pinned (OpenSpec.ofChange fnSniffBeginningWrong)

/- THE SECOND FORM. 'bulk': how many values and letters a reading holds, each counted each time it is reached (what is shared counts as often as it is met; a slice's spare places count too). A statement '..UptoSaid' is the law's where the arguments, and the package variables that the reading takes, are together of bulk at most 1048576: NARROWER than '..Said'. Prove '..Said' where nothing that the law and all that it calls make is longer than what came in: it says more and counts as full. Else prove '..UptoSaid'. A law counts once. -/
mutual
def uptoBulk {H : Type} : DataW H → Nat
  | .lit (.string bytes) => bytes.length + 1
  | .lit _ => 1
  | .nil => 1
  | .ptr d => uptoBulk d + 1
  | .slice elems spare => uptoBulkAll elems + uptoBulkAll spare + 1
  | .agg parts => uptoBulkAll parts + 1
  | .iface _ d => uptoBulk d + 1
  | .map entries => uptoBulkEntries entries + 1
  | .held _ => 1
def uptoBulkAll {H : Type} : List (DataW H) → Nat
  | [] => 0
  | d :: r => uptoBulk d + uptoBulkAll r
def uptoBulkEntries {H : Type} : List (Lit × DataW H) → Nat
  | [] => 0
  | x :: r => uptoBulkEntry x + uptoBulkEntries r
def uptoBulkEntry {H : Type} : Lit × DataW H → Nat
  | (.string bytes, d) => bytes.length + uptoBulk d + 1
  | (_, d) => uptoBulk d + 1
 end
def uptoSmall : (H : Type) → List (DataW H) → Bool := fun _ ds => decide (uptoBulkAll ds ≤ 1048576)
def OpenSpec.upto (s : _root_.Go.ChangeSpec) : _root_.Go.OpenSpec := { _root_.Go.OpenSpec.ofChange s with cond := some uptoSmall }

/-- 'laws.FnTrimmed', WHERE WHAT IT READS IS OF BULK AT MOST 1048576: true; the input reads as it did. -/
def fnTrimmedUptoRow : OpenClaim := { program := "ytpjonekkiojelaa", sum := "ed8da306ffbc5d60f74a81199c0ce6d03727b949eef5908255a20c057dc19a4e", func := "chunkedbodies/laws.FnTrimmed", spec := "fnTrimmed", apart := false, narrowed := true }
def FnTrimmedUptoSaid : Prop := fnTrimmedUptoRow.holds Try.pinned (OpenSpec.upto fnTrimmedSpec)

/-- 'laws.FnTextLike', WHERE WHAT IT READS IS OF BULK AT MOST 1048576: true; the input reads as it did. -/
def fnTextLikeUptoRow : OpenClaim := { program := "ytpjonekkiojelaa", sum := "ed8da306ffbc5d60f74a81199c0ce6d03727b949eef5908255a20c057dc19a4e", func := "chunkedbodies/laws.FnTextLike", spec := "fnTextLike", apart := false, narrowed := true }
def FnTextLikeUptoSaid : Prop := fnTextLikeUptoRow.holds Try.pinned (OpenSpec.upto fnTextLikeSpec)

/-- 'laws.FnExtension', WHERE WHAT IT READS IS OF BULK AT MOST 1048576: true; the input reads as it did. -/
def fnExtensionUptoRow : OpenClaim := { program := "ytpjonekkiojelaa", sum := "ed8da306ffbc5d60f74a81199c0ce6d03727b949eef5908255a20c057dc19a4e", func := "chunkedbodies/laws.FnExtension", spec := "fnExtension", apart := false, narrowed := true }
def FnExtensionUptoSaid : Prop := fnExtensionUptoRow.holds Try.pinned (OpenSpec.upto fnExtensionSpec)

/-- 'laws.FnHex', WHERE WHAT IT READS IS OF BULK AT MOST 1048576: true; the input reads as it did. -/
def fnHexUptoRow : OpenClaim := { program := "ytpjonekkiojelaa", sum := "ed8da306ffbc5d60f74a81199c0ce6d03727b949eef5908255a20c057dc19a4e", func := "chunkedbodies/laws.FnHex", spec := "fnHex", apart := false, narrowed := true }
def FnHexUptoSaid : Prop := fnHexUptoRow.holds Try.pinned (OpenSpec.upto fnHexSpec)

/-- 'laws.FnMP4', WHERE WHAT IT READS IS OF BULK AT MOST 1048576: true; the input reads as it did. -/
def fnMP4UptoRow : OpenClaim := { program := "ytpjonekkiojelaa", sum := "ed8da306ffbc5d60f74a81199c0ce6d03727b949eef5908255a20c057dc19a4e", func := "chunkedbodies/laws.FnMP4", spec := "fnMP4", named := ["encoding/binary.BigEndian"], apart := false, narrowed := true }
def FnMP4UptoSaid : Prop := fnMP4UptoRow.holds Try.pinned (OpenSpec.upto fnMP4Spec)

/-- 'laws.FnSniff', WHERE WHAT IT READS IS OF BULK AT MOST 1048576: true; the input reads as it did. -/
def fnSniffUptoRow : OpenClaim := { program := "ytpjonekkiojelaa", sum := "ed8da306ffbc5d60f74a81199c0ce6d03727b949eef5908255a20c057dc19a4e", func := "chunkedbodies/laws.FnSniff", spec := "fnSniff", unfollowed := true, recurses := true, apart := false, narrowed := true }
def FnSniffUptoSaid : Prop := fnSniffUptoRow.holds Try.pinned (OpenSpec.upto fnSniffSpec)

/-- 'laws.FnSniffBeginning', WHERE WHAT IT READS IS OF BULK AT MOST 1048576: true; the input reads as it did. -/
def fnSniffBeginningUptoRow : OpenClaim := { program := "ytpjonekkiojelaa", sum := "ed8da306ffbc5d60f74a81199c0ce6d03727b949eef5908255a20c057dc19a4e", func := "chunkedbodies/laws.FnSniffBeginning", spec := "fnSniffBeginning", unfollowed := true, recurses := true, apart := false, narrowed := true }
def FnSniffBeginningUptoSaid : Prop := fnSniffBeginningUptoRow.holds Try.pinned (OpenSpec.upto fnSniffBeginningSpec)

end Rows
end Go.Proofs.Ytpjonekkiojelaa
