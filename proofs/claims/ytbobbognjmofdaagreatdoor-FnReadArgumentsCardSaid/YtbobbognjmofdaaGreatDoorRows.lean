/-
  NARROWER THAN 'FOR EVERY INPUT', by the rows' own cells (each row's printed sentence says how): FnReadString: laid · FnNext: laid · FnTokens: laid · FnReadType: laid · FnParseValue: laid · FnReadArguments: laid · FnPieceValues: laid.
  DERIVED. THE GIVEN ROWS OF THIS SEAT. 7 by the template 'for every input the law returns true; each argument reads behind the call as it read before'; 0 by the template 'total and deterministic' (their statements: YtbobbognjmofdaaGreatDoorTotals.lean).
  GIVEN WITH THE SEED: the statements are not yours to turn. If you find one false, say at which input.
  Laid BY PROGRAM, IN A SANDBOX (cutbox-rows.mjs): the forced cells as the released guide's own fill.sh prints them over the translation 962d395ff49729e7… (all of the seat's roots in one cut). By AI agents, Wed Nov 11 2026. No macro, syntax, notation, axiom, sorry.
-/
import Derived.Test.YtbobbognjmofdaaGreatDoorChecked
import GoSem.PinnedTables
import GoSem.Claim
import GoSem.ClaimJoined
import GoSem.ClaimMapViews
import Derived.JoinedTies
import Derived.KernelRfl
namespace Go.Proofs.YtbobbognjmofdaaGreatDoor
/- THE CELL 'sum', in the pinned program and in every row, IS THE sha256 OF THE DUMP (.gsa) THAT YtbobbognjmofdaaGreatDoorProg.lean LOADS. Nothing in Lean hashes anything: it is a label: what it is worth is what the hold of that sum in a sandbox is worth. -/
noncomputable def Tryz.pinned : Pinned := { name := "ytbobbognjmofdaagreatdoor", sum := "962d395ff49729e71b25f01c90279ddd1179a4cac821e338ea7e08ffd0599c3d", checked := Tryz.checked }
namespace Rows
def none {H : Type} : Left H := { results := [], args := [] }

/- WHAT THE LISTED PACKAGE-LEVEL VARIABLES READ AS WHEN THE CALL BEGINS. Each datum BY PROGRAM (the guide's laid-datum.mjs) off the statement by which the dump's own 'gosem.cut.vars' lays the variable. In a bare row this is a premise. The card (YtbobbognjmofdaaGreatDoorCards.lean) ties it to the program's text. -/
def laid_unicode_utf8_acceptRanges {H : Type} : DataW H := .agg [.agg [.lit (.int .u8 128), .lit (.int .u8 191)], .agg [.lit (.int .u8 160), .lit (.int .u8 191)], .agg [.lit (.int .u8 128), .lit (.int .u8 159)], .agg [.lit (.int .u8 144), .lit (.int .u8 191)], .agg [.lit (.int .u8 128), .lit (.int .u8 143)], .agg [.lit (.int .u8 0), .lit (.int .u8 0)], .agg [.lit (.int .u8 0), .lit (.int .u8 0)], .agg [.lit (.int .u8 0), .lit (.int .u8 0)], .agg [.lit (.int .u8 0), .lit (.int .u8 0)], .agg [.lit (.int .u8 0), .lit (.int .u8 0)], .agg [.lit (.int .u8 0), .lit (.int .u8 0)], .agg [.lit (.int .u8 0), .lit (.int .u8 0)], .agg [.lit (.int .u8 0), .lit (.int .u8 0)], .agg [.lit (.int .u8 0), .lit (.int .u8 0)], .agg [.lit (.int .u8 0), .lit (.int .u8 0)], .agg [.lit (.int .u8 0), .lit (.int .u8 0)]]
def laid_bytes_ErrTooLarge {H : Type} : DataW H := .iface "*errors.errorString" (.ptr (.agg [.lit (.string [98, 121, 116, 101, 115, 46, 66, 117, 102, 102, 101, 114, 58, 32, 116, 111, 111, 32, 108, 97, 114, 103, 101])]))
/-- One of Go's own tables, pinned by name: the form's constant. -/
def laid_unicode_utf8_first : DataW Unit := Go.Pinned.utf8First

/-- 'laws.FnReadString': WHATEVER THE INPUT: true; the input reads as it did. -/
def fnReadStringSpec : ChangeSpec := { name := "fnReadString", fn := fun _ => fun
  | [d] => { results := [.lit (.bool true)], args := [d] }
  | _ => none }
def fnReadStringRow : OpenClaim := { program := "ytbobbognjmofdaagreatdoor", sum := "962d395ff49729e71b25f01c90279ddd1179a4cac821e338ea7e08ffd0599c3d", func := "given.example/pub-versicle/laws.FnReadString", spec := "fnReadString", unfollowed := true, recurses := true, named := ["unicode/utf8.first", "unicode/utf8.acceptRanges", "bytes.ErrTooLarge"], apart := false, laid := [("unicode/utf8.acceptRanges", laid_unicode_utf8_acceptRanges), ("bytes.ErrTooLarge", laid_bytes_ErrTooLarge), ("unicode/utf8.first", laid_unicode_utf8_first)] }
def FnReadStringSaid : Prop := fnReadStringRow.holds Tryz.pinned (OpenSpec.ofChange fnReadStringSpec)

/-- ITS FALSE NEIGHBOUR: 'it returns false'. Refute it at one input. -/
def fnReadStringWrong : ChangeSpec := { name := "fnReadString", fn := fun _ => fun
  | [d] => { results := [.lit (.bool false)], args := [d] }
  | _ => none }
def FnReadStringWrongFalsely : Prop := fnReadStringRow.holds Tryz.pinned (OpenSpec.ofChange fnReadStringWrong)

/-- 'laws.FnNext': WHATEVER THE INPUT: true; the input reads as it did. -/
def fnNextSpec : ChangeSpec := { name := "fnNext", fn := fun _ => fun
  | [d1, d2] => { results := [.lit (.bool true)], args := [d1, d2] }
  | _ => none }
def fnNextRow : OpenClaim := { program := "ytbobbognjmofdaagreatdoor", sum := "962d395ff49729e71b25f01c90279ddd1179a4cac821e338ea7e08ffd0599c3d", func := "given.example/pub-versicle/laws.FnNext", spec := "fnNext", inPlace := ["internal/abi.NoEscape", "internal/bytealg.MakeNoZero"], unfollowed := true, recurses := true, named := ["unicode/utf8.first", "unicode/utf8.acceptRanges", "bytes.ErrTooLarge"], apart := false, laid := [("unicode/utf8.acceptRanges", laid_unicode_utf8_acceptRanges), ("bytes.ErrTooLarge", laid_bytes_ErrTooLarge), ("unicode/utf8.first", laid_unicode_utf8_first)] }
def FnNextSaid : Prop := fnNextRow.holds Tryz.pinned (OpenSpec.ofChange fnNextSpec)

/-- ITS FALSE NEIGHBOUR: 'it returns false'. Refute it at one input. -/
def fnNextWrong : ChangeSpec := { name := "fnNext", fn := fun _ => fun
  | [d1, d2] => { results := [.lit (.bool false)], args := [d1, d2] }
  | _ => none }
def FnNextWrongFalsely : Prop := fnNextRow.holds Tryz.pinned (OpenSpec.ofChange fnNextWrong)

/-- 'laws.FnTokens': WHATEVER THE INPUT: true; the input reads as it did. -/
def fnTokensSpec : ChangeSpec := { name := "fnTokens", fn := fun _ => fun
  | [d] => { results := [.lit (.bool true)], args := [d] }
  | _ => none }
def fnTokensRow : OpenClaim := { program := "ytbobbognjmofdaagreatdoor", sum := "962d395ff49729e71b25f01c90279ddd1179a4cac821e338ea7e08ffd0599c3d", func := "given.example/pub-versicle/laws.FnTokens", spec := "fnTokens", inPlace := ["internal/abi.NoEscape", "internal/bytealg.MakeNoZero"], unfollowed := true, recurses := true, named := ["unicode/utf8.first", "unicode/utf8.acceptRanges", "bytes.ErrTooLarge"], apart := false, laid := [("unicode/utf8.acceptRanges", laid_unicode_utf8_acceptRanges), ("bytes.ErrTooLarge", laid_bytes_ErrTooLarge), ("unicode/utf8.first", laid_unicode_utf8_first)] }
def FnTokensSaid : Prop := fnTokensRow.holds Tryz.pinned (OpenSpec.ofChange fnTokensSpec)

/-- ITS FALSE NEIGHBOUR: 'it returns false'. Refute it at one input. -/
def fnTokensWrong : ChangeSpec := { name := "fnTokens", fn := fun _ => fun
  | [d] => { results := [.lit (.bool false)], args := [d] }
  | _ => none }
def FnTokensWrongFalsely : Prop := fnTokensRow.holds Tryz.pinned (OpenSpec.ofChange fnTokensWrong)

/-- 'laws.FnReadType': WHATEVER THE INPUT: true; the input reads as it did. -/
def fnReadTypeSpec : ChangeSpec := { name := "fnReadType", fn := fun _ => fun
  | [d] => { results := [.lit (.bool true)], args := [d] }
  | _ => none }
def fnReadTypeRow : OpenClaim := { program := "ytbobbognjmofdaagreatdoor", sum := "962d395ff49729e71b25f01c90279ddd1179a4cac821e338ea7e08ffd0599c3d", func := "given.example/pub-versicle/laws.FnReadType", spec := "fnReadType", inPlace := ["internal/abi.NoEscape", "internal/bytealg.MakeNoZero"], unfollowed := true, recurses := true, named := ["unicode/utf8.first", "unicode/utf8.acceptRanges", "bytes.ErrTooLarge"], apart := false, laid := [("unicode/utf8.acceptRanges", laid_unicode_utf8_acceptRanges), ("bytes.ErrTooLarge", laid_bytes_ErrTooLarge), ("unicode/utf8.first", laid_unicode_utf8_first)] }
def FnReadTypeSaid : Prop := fnReadTypeRow.holds Tryz.pinned (OpenSpec.ofChange fnReadTypeSpec)

/-- ITS FALSE NEIGHBOUR: 'it returns false'. Refute it at one input. -/
def fnReadTypeWrong : ChangeSpec := { name := "fnReadType", fn := fun _ => fun
  | [d] => { results := [.lit (.bool false)], args := [d] }
  | _ => none }
def FnReadTypeWrongFalsely : Prop := fnReadTypeRow.holds Tryz.pinned (OpenSpec.ofChange fnReadTypeWrong)

/-- 'laws.FnParseValue': WHATEVER THE INPUT: true; the input reads as it did. -/
def fnParseValueSpec : ChangeSpec := { name := "fnParseValue", fn := fun _ => fun
  | [d] => { results := [.lit (.bool true)], args := [d] }
  | _ => none }
def fnParseValueRow : OpenClaim := { program := "ytbobbognjmofdaagreatdoor", sum := "962d395ff49729e71b25f01c90279ddd1179a4cac821e338ea7e08ffd0599c3d", func := "given.example/pub-versicle/laws.FnParseValue", spec := "fnParseValue", inPlace := ["internal/abi.NoEscape", "internal/bytealg.MakeNoZero"], unfollowed := true, recurses := true, named := ["unicode/utf8.first", "unicode/utf8.acceptRanges", "bytes.ErrTooLarge"], apart := false, laid := [("unicode/utf8.acceptRanges", laid_unicode_utf8_acceptRanges), ("bytes.ErrTooLarge", laid_bytes_ErrTooLarge), ("unicode/utf8.first", laid_unicode_utf8_first)] }
def FnParseValueSaid : Prop := fnParseValueRow.holds Tryz.pinned (OpenSpec.ofChange fnParseValueSpec)

/-- ITS FALSE NEIGHBOUR: 'it returns false'. Refute it at one input. -/
def fnParseValueWrong : ChangeSpec := { name := "fnParseValue", fn := fun _ => fun
  | [d] => { results := [.lit (.bool false)], args := [d] }
  | _ => none }
def FnParseValueWrongFalsely : Prop := fnParseValueRow.holds Tryz.pinned (OpenSpec.ofChange fnParseValueWrong)

/-- 'laws.FnReadArguments': WHATEVER THE INPUT: true; the input reads as it did. -/
def fnReadArgumentsSpec : ChangeSpec := { name := "fnReadArguments", fn := fun _ => fun
  | [d] => { results := [.lit (.bool true)], args := [d] }
  | _ => none }
def fnReadArgumentsRow : OpenClaim := { program := "ytbobbognjmofdaagreatdoor", sum := "962d395ff49729e71b25f01c90279ddd1179a4cac821e338ea7e08ffd0599c3d", func := "given.example/pub-versicle/laws.FnReadArguments", spec := "fnReadArguments", inPlace := ["internal/abi.NoEscape", "internal/bytealg.MakeNoZero"], unfollowed := true, recurses := true, named := ["unicode/utf8.first", "unicode/utf8.acceptRanges", "bytes.ErrTooLarge"], apart := false, laid := [("unicode/utf8.acceptRanges", laid_unicode_utf8_acceptRanges), ("bytes.ErrTooLarge", laid_bytes_ErrTooLarge), ("unicode/utf8.first", laid_unicode_utf8_first)] }
def FnReadArgumentsSaid : Prop := fnReadArgumentsRow.holds Tryz.pinned (OpenSpec.ofChange fnReadArgumentsSpec)

/-- ITS FALSE NEIGHBOUR: 'it returns false'. Refute it at one input. -/
def fnReadArgumentsWrong : ChangeSpec := { name := "fnReadArguments", fn := fun _ => fun
  | [d] => { results := [.lit (.bool false)], args := [d] }
  | _ => none }
def FnReadArgumentsWrongFalsely : Prop := fnReadArgumentsRow.holds Tryz.pinned (OpenSpec.ofChange fnReadArgumentsWrong)

/-- 'laws.FnPieceValues': WHATEVER THE INPUT: true; the input reads as it did. -/
def fnPieceValuesSpec : ChangeSpec := { name := "fnPieceValues", fn := fun _ => fun
  | [d1, d2] => { results := [.lit (.bool true)], args := [d1, d2] }
  | _ => none }
def fnPieceValuesRow : OpenClaim := { program := "ytbobbognjmofdaagreatdoor", sum := "962d395ff49729e71b25f01c90279ddd1179a4cac821e338ea7e08ffd0599c3d", func := "given.example/pub-versicle/laws.FnPieceValues", spec := "fnPieceValues", inPlace := ["internal/abi.NoEscape", "internal/bytealg.MakeNoZero"], unfollowed := true, recurses := true, named := ["unicode/utf8.first", "unicode/utf8.acceptRanges", "bytes.ErrTooLarge"], apart := false, laid := [("unicode/utf8.acceptRanges", laid_unicode_utf8_acceptRanges), ("bytes.ErrTooLarge", laid_bytes_ErrTooLarge), ("unicode/utf8.first", laid_unicode_utf8_first)] }
def FnPieceValuesSaid : Prop := fnPieceValuesRow.holds Tryz.pinned (OpenSpec.ofChange fnPieceValuesSpec)

/-- ITS FALSE NEIGHBOUR: 'it returns false'. Refute it at one input. -/
def fnPieceValuesWrong : ChangeSpec := { name := "fnPieceValues", fn := fun _ => fun
  | [d1, d2] => { results := [.lit (.bool false)], args := [d1, d2] }
  | _ => none }
def FnPieceValuesWrongFalsely : Prop := fnPieceValuesRow.holds Tryz.pinned (OpenSpec.ofChange fnPieceValuesWrong)

/- THE SECOND FORM. 'bulk': how many values and letters a reading holds, each counted each time it is reached (what is shared counts as often as it is met; a slice's spare places count too). A statement '..UptoSaid' is the law's where the arguments, and the package variables that the reading takes, are together of bulk at most 1048576: NARROWER than '..Said'. Prove '..Said' where nothing that the law and all that it calls make is longer than what came in: it says more and counts as full. Else prove '..UptoSaid'. A law counts once. -/
mutual
def uptoBulk {H : Type} : DataW H → Nat
  | .lit (.string bytes) => bytes.length + 1
  | .lit _ => 1
  | .nil => 1
  | .ptr d => uptoBulk d + 1
  | .slice elems spare => uptoBulkAll elems + uptoBulkAll spare + 1
  | .agg parts => uptoBulkAll parts + 1
  | .iface _ d => uptoBulk d + 1
  | .map entries => uptoBulkEntries entries + 1
  | .held _ => 1
def uptoBulkAll {H : Type} : List (DataW H) → Nat
  | [] => 0
  | d :: r => uptoBulk d + uptoBulkAll r
def uptoBulkEntries {H : Type} : List (Lit × DataW H) → Nat
  | [] => 0
  | x :: r => uptoBulkEntry x + uptoBulkEntries r
def uptoBulkEntry {H : Type} : Lit × DataW H → Nat
  | (.string bytes, d) => bytes.length + uptoBulk d + 1
  | (_, d) => uptoBulk d + 1
 end
def uptoSmall : (H : Type) → List (DataW H) → Bool := fun _ ds => decide (uptoBulkAll ds ≤ 1048576)
def OpenSpec.upto (s : _root_.Go.ChangeSpec) : _root_.Go.OpenSpec := { _root_.Go.OpenSpec.ofChange s with cond := some uptoSmall }

/-- 'laws.FnReadString', WHERE WHAT IT READS IS OF BULK AT MOST 1048576: true; the input reads as it did. -/
def fnReadStringUptoRow : OpenClaim := { program := "ytbobbognjmofdaagreatdoor", sum := "962d395ff49729e71b25f01c90279ddd1179a4cac821e338ea7e08ffd0599c3d", func := "given.example/pub-versicle/laws.FnReadString", spec := "fnReadString", unfollowed := true, recurses := true, named := ["unicode/utf8.first", "unicode/utf8.acceptRanges", "bytes.ErrTooLarge"], apart := false, laid := [("unicode/utf8.acceptRanges", laid_unicode_utf8_acceptRanges), ("bytes.ErrTooLarge", laid_bytes_ErrTooLarge), ("unicode/utf8.first", laid_unicode_utf8_first)], narrowed := true }
def FnReadStringUptoSaid : Prop := fnReadStringUptoRow.holds Tryz.pinned (OpenSpec.upto fnReadStringSpec)

/-- 'laws.FnNext', WHERE WHAT IT READS IS OF BULK AT MOST 1048576: true; the input reads as it did. -/
def fnNextUptoRow : OpenClaim := { program := "ytbobbognjmofdaagreatdoor", sum := "962d395ff49729e71b25f01c90279ddd1179a4cac821e338ea7e08ffd0599c3d", func := "given.example/pub-versicle/laws.FnNext", spec := "fnNext", inPlace := ["internal/abi.NoEscape", "internal/bytealg.MakeNoZero"], unfollowed := true, recurses := true, named := ["unicode/utf8.first", "unicode/utf8.acceptRanges", "bytes.ErrTooLarge"], apart := false, laid := [("unicode/utf8.acceptRanges", laid_unicode_utf8_acceptRanges), ("bytes.ErrTooLarge", laid_bytes_ErrTooLarge), ("unicode/utf8.first", laid_unicode_utf8_first)], narrowed := true }
def FnNextUptoSaid : Prop := fnNextUptoRow.holds Tryz.pinned (OpenSpec.upto fnNextSpec)

/-- 'laws.FnTokens', WHERE WHAT IT READS IS OF BULK AT MOST 1048576: true; the input reads as it did. -/
def fnTokensUptoRow : OpenClaim := { program := "ytbobbognjmofdaagreatdoor", sum := "962d395ff49729e71b25f01c90279ddd1179a4cac821e338ea7e08ffd0599c3d", func := "given.example/pub-versicle/laws.FnTokens", spec := "fnTokens", inPlace := ["internal/abi.NoEscape", "internal/bytealg.MakeNoZero"], unfollowed := true, recurses := true, named := ["unicode/utf8.first", "unicode/utf8.acceptRanges", "bytes.ErrTooLarge"], apart := false, laid := [("unicode/utf8.acceptRanges", laid_unicode_utf8_acceptRanges), ("bytes.ErrTooLarge", laid_bytes_ErrTooLarge), ("unicode/utf8.first", laid_unicode_utf8_first)], narrowed := true }
def FnTokensUptoSaid : Prop := fnTokensUptoRow.holds Tryz.pinned (OpenSpec.upto fnTokensSpec)

/-- 'laws.FnReadType', WHERE WHAT IT READS IS OF BULK AT MOST 1048576: true; the input reads as it did. -/
def fnReadTypeUptoRow : OpenClaim := { program := "ytbobbognjmofdaagreatdoor", sum := "962d395ff49729e71b25f01c90279ddd1179a4cac821e338ea7e08ffd0599c3d", func := "given.example/pub-versicle/laws.FnReadType", spec := "fnReadType", inPlace := ["internal/abi.NoEscape", "internal/bytealg.MakeNoZero"], unfollowed := true, recurses := true, named := ["unicode/utf8.first", "unicode/utf8.acceptRanges", "bytes.ErrTooLarge"], apart := false, laid := [("unicode/utf8.acceptRanges", laid_unicode_utf8_acceptRanges), ("bytes.ErrTooLarge", laid_bytes_ErrTooLarge), ("unicode/utf8.first", laid_unicode_utf8_first)], narrowed := true }
def FnReadTypeUptoSaid : Prop := fnReadTypeUptoRow.holds Tryz.pinned (OpenSpec.upto fnReadTypeSpec)

/-- 'laws.FnParseValue', WHERE WHAT IT READS IS OF BULK AT MOST 1048576: true; the input reads as it did. -/
def fnParseValueUptoRow : OpenClaim := { program := "ytbobbognjmofdaagreatdoor", sum := "962d395ff49729e71b25f01c90279ddd1179a4cac821e338ea7e08ffd0599c3d", func := "given.example/pub-versicle/laws.FnParseValue", spec := "fnParseValue", inPlace := ["internal/abi.NoEscape", "internal/bytealg.MakeNoZero"], unfollowed := true, recurses := true, named := ["unicode/utf8.first", "unicode/utf8.acceptRanges", "bytes.ErrTooLarge"], apart := false, laid := [("unicode/utf8.acceptRanges", laid_unicode_utf8_acceptRanges), ("bytes.ErrTooLarge", laid_bytes_ErrTooLarge), ("unicode/utf8.first", laid_unicode_utf8_first)], narrowed := true }
def FnParseValueUptoSaid : Prop := fnParseValueUptoRow.holds Tryz.pinned (OpenSpec.upto fnParseValueSpec)

/-- 'laws.FnReadArguments', WHERE WHAT IT READS IS OF BULK AT MOST 1048576: true; the input reads as it did. -/
def fnReadArgumentsUptoRow : OpenClaim := { program := "ytbobbognjmofdaagreatdoor", sum := "962d395ff49729e71b25f01c90279ddd1179a4cac821e338ea7e08ffd0599c3d", func := "given.example/pub-versicle/laws.FnReadArguments", spec := "fnReadArguments", inPlace := ["internal/abi.NoEscape", "internal/bytealg.MakeNoZero"], unfollowed := true, recurses := true, named := ["unicode/utf8.first", "unicode/utf8.acceptRanges", "bytes.ErrTooLarge"], apart := false, laid := [("unicode/utf8.acceptRanges", laid_unicode_utf8_acceptRanges), ("bytes.ErrTooLarge", laid_bytes_ErrTooLarge), ("unicode/utf8.first", laid_unicode_utf8_first)], narrowed := true }
def FnReadArgumentsUptoSaid : Prop := fnReadArgumentsUptoRow.holds Tryz.pinned (OpenSpec.upto fnReadArgumentsSpec)

/-- 'laws.FnPieceValues', WHERE WHAT IT READS IS OF BULK AT MOST 1048576: true; the input reads as it did. -/
def fnPieceValuesUptoRow : OpenClaim := { program := "ytbobbognjmofdaagreatdoor", sum := "962d395ff49729e71b25f01c90279ddd1179a4cac821e338ea7e08ffd0599c3d", func := "given.example/pub-versicle/laws.FnPieceValues", spec := "fnPieceValues", inPlace := ["internal/abi.NoEscape", "internal/bytealg.MakeNoZero"], unfollowed := true, recurses := true, named := ["unicode/utf8.first", "unicode/utf8.acceptRanges", "bytes.ErrTooLarge"], apart := false, laid := [("unicode/utf8.acceptRanges", laid_unicode_utf8_acceptRanges), ("bytes.ErrTooLarge", laid_bytes_ErrTooLarge), ("unicode/utf8.first", laid_unicode_utf8_first)], narrowed := true }
def FnPieceValuesUptoSaid : Prop := fnPieceValuesUptoRow.holds Tryz.pinned (OpenSpec.upto fnPieceValuesSpec)

end Rows
end Go.Proofs.YtbobbognjmofdaaGreatDoor
