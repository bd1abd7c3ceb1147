/-
  NARROWER THAN 'FOR EVERY INPUT', by the rows' own cells (each row's printed sentence says how): FnAhead: laid · FnBlocks: laid · FnCut: laid · FnDictionary: laid · FnWrapped: laid · FnFaults: laid · FnFixedBlock: laid · FnInflate: laid · FnInflateSizes: laid · FnJoined: laid · FnReserved: laid · FnStored: laid · FnStoredLength: laid · FnInflateAgain: laid.
  DERIVED. THE GIVEN ROWS OF THIS SEAT. 14 by the template 'for every input the law returns true; each argument reads behind the call as it read before'; 0 by the template 'total and deterministic' (their statements: YthfncdfcklbigaaDoorTotals.lean).
  GIVEN WITH THE SEED: the statements are not yours to turn. If you find one false, say at which input.
  Laid BY PROGRAM, IN A SANDBOX (cutbox-rows.mjs): the forced cells as the released guide's own fill.sh prints them over the translation 7696a79710f119f8… (all of the seat's roots in one cut). By AI agents, Wed Nov 11 2026. No macro, syntax, notation, axiom, sorry.
-/
import Derived.Test.YthfncdfcklbigaaDoorChecked
import GoSem.Claim
import GoSem.ClaimJoined
import GoSem.ClaimMapViews
import Derived.JoinedTies
import Derived.KernelRfl
namespace Go.Proofs.YthfncdfcklbigaaDoor
/- THE CELL 'sum', in the pinned program and in every row, IS THE sha256 OF THE DUMP (.gsa) THAT YthfncdfcklbigaaDoorProg.lean LOADS. Nothing in Lean hashes anything: it is a label: what it is worth is what the hold of that sum in a sandbox is worth. -/
noncomputable def Tryd.pinned : Pinned := { name := "ythfncdfcklbigaadoor", sum := "7696a79710f119f873a19cb19cccafea7c3a63f3114c8161b4aba2b08e306064", checked := Tryd.checked }
namespace Rows
def none {H : Type} : Left H := { results := [], args := [] }

/- WHAT THE LISTED PACKAGE-LEVEL VARIABLES READ AS WHEN THE CALL BEGINS. Each datum BY PROGRAM (the guide's laid-datum.mjs) off the statement by which the dump's own 'gosem.cut.vars' lays the variable. In a bare row this is a premise. The card (YthfncdfcklbigaaDoorCards.lean) ties it to the program's text. -/
def laid_io_ErrShortBuffer {H : Type} : DataW H := .iface "*errors.errorString" (.ptr (.agg [.lit (.string [115, 104, 111, 114, 116, 32, 98, 117, 102, 102, 101, 114])]))
def laid_io_EOF {H : Type} : DataW H := .iface "*errors.errorString" (.ptr (.agg [.lit (.string [69, 79, 70])]))
def laid_io_ErrUnexpectedEOF {H : Type} : DataW H := .iface "*errors.errorString" (.ptr (.agg [.lit (.string [117, 110, 101, 120, 112, 101, 99, 116, 101, 100, 32, 69, 79, 70])]))
def laid_crowbar_pub_inflate_codeOrder {H : Type} : DataW H := .agg [.lit (.int .i64 16), .lit (.int .i64 17), .lit (.int .i64 18), .lit (.int .i64 0), .lit (.int .i64 8), .lit (.int .i64 7), .lit (.int .i64 9), .lit (.int .i64 6), .lit (.int .i64 10), .lit (.int .i64 5), .lit (.int .i64 11), .lit (.int .i64 4), .lit (.int .i64 12), .lit (.int .i64 3), .lit (.int .i64 13), .lit (.int .i64 2), .lit (.int .i64 14), .lit (.int .i64 1), .lit (.int .i64 15)]
def laid_crowbar_pub_zlibread_ErrChecksum {H : Type} : DataW H := .iface "*errors.errorString" (.ptr (.agg [.lit (.string [122, 108, 105, 98, 58, 32, 105, 110, 118, 97, 108, 105, 100, 32, 99, 104, 101, 99, 107, 115, 117, 109])]))
def laid_crowbar_pub_zlibread_ErrDictionary {H : Type} : DataW H := .iface "*errors.errorString" (.ptr (.agg [.lit (.string [122, 108, 105, 98, 58, 32, 105, 110, 118, 97, 108, 105, 100, 32, 100, 105, 99, 116, 105, 111, 110, 97, 114, 121])]))
def laid_crowbar_pub_zlibread_ErrHeader {H : Type} : DataW H := .iface "*errors.errorString" (.ptr (.agg [.lit (.string [122, 108, 105, 98, 58, 32, 105, 110, 118, 97, 108, 105, 100, 32, 104, 101, 97, 100, 101, 114])]))

/-- 'laws.FnAhead': WHATEVER THE INPUT: true; the input reads as it did. -/
def fnAheadSpec : ChangeSpec := { name := "fnAhead", fn := fun _ => fun
  | [d1, d2] => { results := [.lit (.bool true)], args := [d1, d2] }
  | _ => none }
def fnAheadRow : OpenClaim := { program := "ythfncdfcklbigaadoor", sum := "7696a79710f119f873a19cb19cccafea7c3a63f3114c8161b4aba2b08e306064", func := "crowbar/laws.FnAhead", spec := "fnAhead", inPlace := ["internal/reflectlite.TypeOf"], unfollowed := true, recurses := true, named := ["io.EOF", "io.ErrUnexpectedEOF", "io.ErrShortBuffer", "crowbar/pub/inflate.codeOrder", "crowbar/pub/zlibread.ErrHeader", "crowbar/pub/zlibread.ErrDictionary", "crowbar/pub/zlibread.ErrChecksum"], plainKeys := false, apart := false, laid := [("io.ErrShortBuffer", laid_io_ErrShortBuffer), ("io.EOF", laid_io_EOF), ("io.ErrUnexpectedEOF", laid_io_ErrUnexpectedEOF), ("crowbar/pub/inflate.codeOrder", laid_crowbar_pub_inflate_codeOrder), ("crowbar/pub/zlibread.ErrChecksum", laid_crowbar_pub_zlibread_ErrChecksum), ("crowbar/pub/zlibread.ErrDictionary", laid_crowbar_pub_zlibread_ErrDictionary), ("crowbar/pub/zlibread.ErrHeader", laid_crowbar_pub_zlibread_ErrHeader)] }
def FnAheadSaid : Prop := fnAheadRow.holds Tryd.pinned (OpenSpec.ofChange fnAheadSpec)

/-- ITS FALSE NEIGHBOUR: 'it returns false'. Refute it at one input. -/
def fnAheadWrong : ChangeSpec := { name := "fnAhead", fn := fun _ => fun
  | [d1, d2] => { results := [.lit (.bool false)], args := [d1, d2] }
  | _ => none }
def FnAheadWrongFalsely : Prop := fnAheadRow.holds Tryd.pinned (OpenSpec.ofChange fnAheadWrong)

/-- 'laws.FnBlocks': WHATEVER THE INPUT: true; the input reads as it did. -/
def fnBlocksSpec : ChangeSpec := { name := "fnBlocks", fn := fun _ => fun
  | [d1, d2, d3, d4] => { results := [.lit (.bool true)], args := [d1, d2, d3, d4] }
  | _ => none }
def fnBlocksRow : OpenClaim := { program := "ythfncdfcklbigaadoor", sum := "7696a79710f119f873a19cb19cccafea7c3a63f3114c8161b4aba2b08e306064", func := "crowbar/laws.FnBlocks", spec := "fnBlocks", inPlace := ["internal/reflectlite.TypeOf"], unfollowed := true, recurses := true, named := ["io.EOF", "io.ErrUnexpectedEOF", "io.ErrShortBuffer", "crowbar/pub/inflate.codeOrder", "crowbar/pub/zlibread.ErrHeader", "crowbar/pub/zlibread.ErrDictionary", "crowbar/pub/zlibread.ErrChecksum"], plainKeys := false, apart := false, laid := [("io.ErrShortBuffer", laid_io_ErrShortBuffer), ("io.EOF", laid_io_EOF), ("io.ErrUnexpectedEOF", laid_io_ErrUnexpectedEOF), ("crowbar/pub/inflate.codeOrder", laid_crowbar_pub_inflate_codeOrder), ("crowbar/pub/zlibread.ErrChecksum", laid_crowbar_pub_zlibread_ErrChecksum), ("crowbar/pub/zlibread.ErrDictionary", laid_crowbar_pub_zlibread_ErrDictionary), ("crowbar/pub/zlibread.ErrHeader", laid_crowbar_pub_zlibread_ErrHeader)] }
def FnBlocksSaid : Prop := fnBlocksRow.holds Tryd.pinned (OpenSpec.ofChange fnBlocksSpec)

/-- ITS FALSE NEIGHBOUR: 'it returns false'. Refute it at one input. -/
def fnBlocksWrong : ChangeSpec := { name := "fnBlocks", fn := fun _ => fun
  | [d1, d2, d3, d4] => { results := [.lit (.bool false)], args := [d1, d2, d3, d4] }
  | _ => none }
def FnBlocksWrongFalsely : Prop := fnBlocksRow.holds Tryd.pinned (OpenSpec.ofChange fnBlocksWrong)

/-- 'laws.FnCut': WHATEVER THE INPUT: true; the input reads as it did. -/
def fnCutSpec : ChangeSpec := { name := "fnCut", fn := fun _ => fun
  | [d1, d2, d3] => { results := [.lit (.bool true)], args := [d1, d2, d3] }
  | _ => none }
def fnCutRow : OpenClaim := { program := "ythfncdfcklbigaadoor", sum := "7696a79710f119f873a19cb19cccafea7c3a63f3114c8161b4aba2b08e306064", func := "crowbar/laws.FnCut", spec := "fnCut", inPlace := ["internal/reflectlite.TypeOf"], unfollowed := true, recurses := true, named := ["io.EOF", "io.ErrUnexpectedEOF", "io.ErrShortBuffer", "crowbar/pub/inflate.codeOrder", "crowbar/pub/zlibread.ErrHeader", "crowbar/pub/zlibread.ErrDictionary", "crowbar/pub/zlibread.ErrChecksum"], plainKeys := false, apart := false, laid := [("io.ErrShortBuffer", laid_io_ErrShortBuffer), ("io.EOF", laid_io_EOF), ("io.ErrUnexpectedEOF", laid_io_ErrUnexpectedEOF), ("crowbar/pub/inflate.codeOrder", laid_crowbar_pub_inflate_codeOrder), ("crowbar/pub/zlibread.ErrChecksum", laid_crowbar_pub_zlibread_ErrChecksum), ("crowbar/pub/zlibread.ErrDictionary", laid_crowbar_pub_zlibread_ErrDictionary), ("crowbar/pub/zlibread.ErrHeader", laid_crowbar_pub_zlibread_ErrHeader)] }
def FnCutSaid : Prop := fnCutRow.holds Tryd.pinned (OpenSpec.ofChange fnCutSpec)

/-- ITS FALSE NEIGHBOUR: 'it returns false'. Refute it at one input. -/
def fnCutWrong : ChangeSpec := { name := "fnCut", fn := fun _ => fun
  | [d1, d2, d3] => { results := [.lit (.bool false)], args := [d1, d2, d3] }
  | _ => none }
def FnCutWrongFalsely : Prop := fnCutRow.holds Tryd.pinned (OpenSpec.ofChange fnCutWrong)

/-- 'laws.FnDictionary': WHATEVER THE INPUT: true; the input reads as it did. -/
def fnDictionarySpec : ChangeSpec := { name := "fnDictionary", fn := fun _ => fun
  | [d1, d2] => { results := [.lit (.bool true)], args := [d1, d2] }
  | _ => none }
def fnDictionaryRow : OpenClaim := { program := "ythfncdfcklbigaadoor", sum := "7696a79710f119f873a19cb19cccafea7c3a63f3114c8161b4aba2b08e306064", func := "crowbar/laws.FnDictionary", spec := "fnDictionary", inPlace := ["internal/reflectlite.TypeOf"], unfollowed := true, recurses := true, named := ["io.EOF", "io.ErrUnexpectedEOF", "io.ErrShortBuffer", "crowbar/pub/inflate.codeOrder", "crowbar/pub/zlibread.ErrHeader", "crowbar/pub/zlibread.ErrDictionary", "crowbar/pub/zlibread.ErrChecksum"], plainKeys := false, apart := false, laid := [("io.ErrShortBuffer", laid_io_ErrShortBuffer), ("io.EOF", laid_io_EOF), ("io.ErrUnexpectedEOF", laid_io_ErrUnexpectedEOF), ("crowbar/pub/inflate.codeOrder", laid_crowbar_pub_inflate_codeOrder), ("crowbar/pub/zlibread.ErrChecksum", laid_crowbar_pub_zlibread_ErrChecksum), ("crowbar/pub/zlibread.ErrDictionary", laid_crowbar_pub_zlibread_ErrDictionary), ("crowbar/pub/zlibread.ErrHeader", laid_crowbar_pub_zlibread_ErrHeader)] }
def FnDictionarySaid : Prop := fnDictionaryRow.holds Tryd.pinned (OpenSpec.ofChange fnDictionarySpec)

/-- ITS FALSE NEIGHBOUR: 'it returns false'. Refute it at one input. -/
def fnDictionaryWrong : ChangeSpec := { name := "fnDictionary", fn := fun _ => fun
  | [d1, d2] => { results := [.lit (.bool false)], args := [d1, d2] }
  | _ => none }
def FnDictionaryWrongFalsely : Prop := fnDictionaryRow.holds Tryd.pinned (OpenSpec.ofChange fnDictionaryWrong)

/-- 'laws.FnWrapped': WHATEVER THE INPUT: true; the input reads as it did. -/
def fnWrappedSpec : ChangeSpec := { name := "fnWrapped", fn := fun _ => fun
  | [d] => { results := [.lit (.bool true)], args := [d] }
  | _ => none }
def fnWrappedRow : OpenClaim := { program := "ythfncdfcklbigaadoor", sum := "7696a79710f119f873a19cb19cccafea7c3a63f3114c8161b4aba2b08e306064", func := "crowbar/laws.FnWrapped", spec := "fnWrapped", inPlace := ["internal/reflectlite.TypeOf"], unfollowed := true, recurses := true, named := ["io.EOF", "io.ErrUnexpectedEOF", "io.ErrShortBuffer", "crowbar/pub/inflate.codeOrder", "crowbar/pub/zlibread.ErrHeader", "crowbar/pub/zlibread.ErrDictionary", "crowbar/pub/zlibread.ErrChecksum", "encoding/binary.BigEndian"], plainKeys := false, apart := false, laid := [("io.ErrShortBuffer", laid_io_ErrShortBuffer), ("io.EOF", laid_io_EOF), ("io.ErrUnexpectedEOF", laid_io_ErrUnexpectedEOF), ("crowbar/pub/inflate.codeOrder", laid_crowbar_pub_inflate_codeOrder), ("crowbar/pub/zlibread.ErrChecksum", laid_crowbar_pub_zlibread_ErrChecksum), ("crowbar/pub/zlibread.ErrDictionary", laid_crowbar_pub_zlibread_ErrDictionary), ("crowbar/pub/zlibread.ErrHeader", laid_crowbar_pub_zlibread_ErrHeader)] }
def FnWrappedSaid : Prop := fnWrappedRow.holds Tryd.pinned (OpenSpec.ofChange fnWrappedSpec)

/-- ITS FALSE NEIGHBOUR: 'it returns false'. Refute it at one input. -/
def fnWrappedWrong : ChangeSpec := { name := "fnWrapped", fn := fun _ => fun
  | [d] => { results := [.lit (.bool false)], args := [d] }
  | _ => none }
def FnWrappedWrongFalsely : Prop := fnWrappedRow.holds Tryd.pinned (OpenSpec.ofChange fnWrappedWrong)

/-- 'laws.FnFaults': WHATEVER THE INPUT: true; the input reads as it did. -/
def fnFaultsSpec : ChangeSpec := { name := "fnFaults", fn := fun _ => fun
  | [d1, d2, d3] => { results := [.lit (.bool true)], args := [d1, d2, d3] }
  | _ => none }
def fnFaultsRow : OpenClaim := { program := "ythfncdfcklbigaadoor", sum := "7696a79710f119f873a19cb19cccafea7c3a63f3114c8161b4aba2b08e306064", func := "crowbar/laws.FnFaults", spec := "fnFaults", inPlace := ["internal/reflectlite.TypeOf"], unfollowed := true, recurses := true, named := ["io.EOF", "io.ErrUnexpectedEOF", "io.ErrShortBuffer", "crowbar/pub/inflate.codeOrder", "crowbar/pub/zlibread.ErrHeader", "crowbar/pub/zlibread.ErrDictionary", "crowbar/pub/zlibread.ErrChecksum"], plainKeys := false, apart := false, laid := [("io.ErrShortBuffer", laid_io_ErrShortBuffer), ("io.EOF", laid_io_EOF), ("io.ErrUnexpectedEOF", laid_io_ErrUnexpectedEOF), ("crowbar/pub/inflate.codeOrder", laid_crowbar_pub_inflate_codeOrder), ("crowbar/pub/zlibread.ErrChecksum", laid_crowbar_pub_zlibread_ErrChecksum), ("crowbar/pub/zlibread.ErrDictionary", laid_crowbar_pub_zlibread_ErrDictionary), ("crowbar/pub/zlibread.ErrHeader", laid_crowbar_pub_zlibread_ErrHeader)] }
def FnFaultsSaid : Prop := fnFaultsRow.holds Tryd.pinned (OpenSpec.ofChange fnFaultsSpec)

/-- ITS FALSE NEIGHBOUR: 'it returns false'. Refute it at one input. -/
def fnFaultsWrong : ChangeSpec := { name := "fnFaults", fn := fun _ => fun
  | [d1, d2, d3] => { results := [.lit (.bool false)], args := [d1, d2, d3] }
  | _ => none }
def FnFaultsWrongFalsely : Prop := fnFaultsRow.holds Tryd.pinned (OpenSpec.ofChange fnFaultsWrong)

/-- 'laws.FnFixedBlock': WHATEVER THE INPUT: true; the input reads as it did. -/
def fnFixedBlockSpec : ChangeSpec := { name := "fnFixedBlock", fn := fun _ => fun
  | [d1, d2] => { results := [.lit (.bool true)], args := [d1, d2] }
  | _ => none }
def fnFixedBlockRow : OpenClaim := { program := "ythfncdfcklbigaadoor", sum := "7696a79710f119f873a19cb19cccafea7c3a63f3114c8161b4aba2b08e306064", func := "crowbar/laws.FnFixedBlock", spec := "fnFixedBlock", inPlace := ["internal/reflectlite.TypeOf"], unfollowed := true, recurses := true, named := ["io.EOF", "io.ErrUnexpectedEOF", "io.ErrShortBuffer", "crowbar/pub/inflate.codeOrder", "crowbar/pub/zlibread.ErrHeader", "crowbar/pub/zlibread.ErrDictionary", "crowbar/pub/zlibread.ErrChecksum"], plainKeys := false, apart := false, laid := [("io.ErrShortBuffer", laid_io_ErrShortBuffer), ("io.EOF", laid_io_EOF), ("io.ErrUnexpectedEOF", laid_io_ErrUnexpectedEOF), ("crowbar/pub/inflate.codeOrder", laid_crowbar_pub_inflate_codeOrder), ("crowbar/pub/zlibread.ErrChecksum", laid_crowbar_pub_zlibread_ErrChecksum), ("crowbar/pub/zlibread.ErrDictionary", laid_crowbar_pub_zlibread_ErrDictionary), ("crowbar/pub/zlibread.ErrHeader", laid_crowbar_pub_zlibread_ErrHeader)] }
def FnFixedBlockSaid : Prop := fnFixedBlockRow.holds Tryd.pinned (OpenSpec.ofChange fnFixedBlockSpec)

/-- ITS FALSE NEIGHBOUR: 'it returns false'. Refute it at one input. -/
def fnFixedBlockWrong : ChangeSpec := { name := "fnFixedBlock", fn := fun _ => fun
  | [d1, d2] => { results := [.lit (.bool false)], args := [d1, d2] }
  | _ => none }
def FnFixedBlockWrongFalsely : Prop := fnFixedBlockRow.holds Tryd.pinned (OpenSpec.ofChange fnFixedBlockWrong)

/-- 'laws.FnInflate': WHATEVER THE INPUT: true; the input reads as it did. -/
def fnInflateSpec : ChangeSpec := { name := "fnInflate", fn := fun _ => fun
  | [d1, d2, d3] => { results := [.lit (.bool true)], args := [d1, d2, d3] }
  | _ => none }
def fnInflateRow : OpenClaim := { program := "ythfncdfcklbigaadoor", sum := "7696a79710f119f873a19cb19cccafea7c3a63f3114c8161b4aba2b08e306064", func := "crowbar/laws.FnInflate", spec := "fnInflate", inPlace := ["internal/reflectlite.TypeOf"], unfollowed := true, recurses := true, named := ["io.EOF", "io.ErrUnexpectedEOF", "io.ErrShortBuffer", "crowbar/pub/inflate.codeOrder", "crowbar/pub/zlibread.ErrHeader", "crowbar/pub/zlibread.ErrDictionary", "crowbar/pub/zlibread.ErrChecksum"], plainKeys := false, apart := false, laid := [("io.ErrShortBuffer", laid_io_ErrShortBuffer), ("io.EOF", laid_io_EOF), ("io.ErrUnexpectedEOF", laid_io_ErrUnexpectedEOF), ("crowbar/pub/inflate.codeOrder", laid_crowbar_pub_inflate_codeOrder), ("crowbar/pub/zlibread.ErrChecksum", laid_crowbar_pub_zlibread_ErrChecksum), ("crowbar/pub/zlibread.ErrDictionary", laid_crowbar_pub_zlibread_ErrDictionary), ("crowbar/pub/zlibread.ErrHeader", laid_crowbar_pub_zlibread_ErrHeader)] }
def FnInflateSaid : Prop := fnInflateRow.holds Tryd.pinned (OpenSpec.ofChange fnInflateSpec)

/-- ITS FALSE NEIGHBOUR: 'it returns false'. Refute it at one input. -/
def fnInflateWrong : ChangeSpec := { name := "fnInflate", fn := fun _ => fun
  | [d1, d2, d3] => { results := [.lit (.bool false)], args := [d1, d2, d3] }
  | _ => none }
def FnInflateWrongFalsely : Prop := fnInflateRow.holds Tryd.pinned (OpenSpec.ofChange fnInflateWrong)

/-- 'laws.FnInflateSizes': WHATEVER THE INPUT: true; the input reads as it did. -/
def fnInflateSizesSpec : ChangeSpec := { name := "fnInflateSizes", fn := fun _ => fun
  | [d1, d2, d3, d4] => { results := [.lit (.bool true)], args := [d1, d2, d3, d4] }
  | _ => none }
def fnInflateSizesRow : OpenClaim := { program := "ythfncdfcklbigaadoor", sum := "7696a79710f119f873a19cb19cccafea7c3a63f3114c8161b4aba2b08e306064", func := "crowbar/laws.FnInflateSizes", spec := "fnInflateSizes", inPlace := ["internal/reflectlite.TypeOf"], unfollowed := true, recurses := true, named := ["io.EOF", "io.ErrUnexpectedEOF", "io.ErrShortBuffer", "crowbar/pub/inflate.codeOrder", "crowbar/pub/zlibread.ErrHeader", "crowbar/pub/zlibread.ErrDictionary", "crowbar/pub/zlibread.ErrChecksum"], plainKeys := false, apart := false, laid := [("io.ErrShortBuffer", laid_io_ErrShortBuffer), ("io.EOF", laid_io_EOF), ("io.ErrUnexpectedEOF", laid_io_ErrUnexpectedEOF), ("crowbar/pub/inflate.codeOrder", laid_crowbar_pub_inflate_codeOrder), ("crowbar/pub/zlibread.ErrChecksum", laid_crowbar_pub_zlibread_ErrChecksum), ("crowbar/pub/zlibread.ErrDictionary", laid_crowbar_pub_zlibread_ErrDictionary), ("crowbar/pub/zlibread.ErrHeader", laid_crowbar_pub_zlibread_ErrHeader)] }
def FnInflateSizesSaid : Prop := fnInflateSizesRow.holds Tryd.pinned (OpenSpec.ofChange fnInflateSizesSpec)

/-- ITS FALSE NEIGHBOUR: 'it returns false'. Refute it at one input. -/
def fnInflateSizesWrong : ChangeSpec := { name := "fnInflateSizes", fn := fun _ => fun
  | [d1, d2, d3, d4] => { results := [.lit (.bool false)], args := [d1, d2, d3, d4] }
  | _ => none }
def FnInflateSizesWrongFalsely : Prop := fnInflateSizesRow.holds Tryd.pinned (OpenSpec.ofChange fnInflateSizesWrong)

/-- 'laws.FnJoined': WHATEVER THE INPUT: true; the input reads as it did. -/
def fnJoinedSpec : ChangeSpec := { name := "fnJoined", fn := fun _ => fun
  | [d1, d2, d3] => { results := [.lit (.bool true)], args := [d1, d2, d3] }
  | _ => none }
def fnJoinedRow : OpenClaim := { program := "ythfncdfcklbigaadoor", sum := "7696a79710f119f873a19cb19cccafea7c3a63f3114c8161b4aba2b08e306064", func := "crowbar/laws.FnJoined", spec := "fnJoined", inPlace := ["internal/reflectlite.TypeOf"], unfollowed := true, recurses := true, named := ["io.EOF", "io.ErrUnexpectedEOF", "io.ErrShortBuffer", "crowbar/pub/inflate.codeOrder", "crowbar/pub/zlibread.ErrHeader", "crowbar/pub/zlibread.ErrDictionary", "crowbar/pub/zlibread.ErrChecksum"], plainKeys := false, apart := false, laid := [("io.ErrShortBuffer", laid_io_ErrShortBuffer), ("io.EOF", laid_io_EOF), ("io.ErrUnexpectedEOF", laid_io_ErrUnexpectedEOF), ("crowbar/pub/inflate.codeOrder", laid_crowbar_pub_inflate_codeOrder), ("crowbar/pub/zlibread.ErrChecksum", laid_crowbar_pub_zlibread_ErrChecksum), ("crowbar/pub/zlibread.ErrDictionary", laid_crowbar_pub_zlibread_ErrDictionary), ("crowbar/pub/zlibread.ErrHeader", laid_crowbar_pub_zlibread_ErrHeader)] }
def FnJoinedSaid : Prop := fnJoinedRow.holds Tryd.pinned (OpenSpec.ofChange fnJoinedSpec)

/-- ITS FALSE NEIGHBOUR: 'it returns false'. Refute it at one input. -/
def fnJoinedWrong : ChangeSpec := { name := "fnJoined", fn := fun _ => fun
  | [d1, d2, d3] => { results := [.lit (.bool false)], args := [d1, d2, d3] }
  | _ => none }
def FnJoinedWrongFalsely : Prop := fnJoinedRow.holds Tryd.pinned (OpenSpec.ofChange fnJoinedWrong)

/-- 'laws.FnReserved': WHATEVER THE INPUT: true; the input reads as it did. -/
def fnReservedSpec : ChangeSpec := { name := "fnReserved", fn := fun _ => fun
  | [d1, d2] => { results := [.lit (.bool true)], args := [d1, d2] }
  | _ => none }
def fnReservedRow : OpenClaim := { program := "ythfncdfcklbigaadoor", sum := "7696a79710f119f873a19cb19cccafea7c3a63f3114c8161b4aba2b08e306064", func := "crowbar/laws.FnReserved", spec := "fnReserved", inPlace := ["internal/reflectlite.TypeOf"], unfollowed := true, recurses := true, named := ["io.EOF", "io.ErrUnexpectedEOF", "io.ErrShortBuffer", "crowbar/pub/inflate.codeOrder", "crowbar/pub/zlibread.ErrHeader", "crowbar/pub/zlibread.ErrDictionary", "crowbar/pub/zlibread.ErrChecksum"], plainKeys := false, apart := false, laid := [("io.ErrShortBuffer", laid_io_ErrShortBuffer), ("io.EOF", laid_io_EOF), ("io.ErrUnexpectedEOF", laid_io_ErrUnexpectedEOF), ("crowbar/pub/inflate.codeOrder", laid_crowbar_pub_inflate_codeOrder), ("crowbar/pub/zlibread.ErrChecksum", laid_crowbar_pub_zlibread_ErrChecksum), ("crowbar/pub/zlibread.ErrDictionary", laid_crowbar_pub_zlibread_ErrDictionary), ("crowbar/pub/zlibread.ErrHeader", laid_crowbar_pub_zlibread_ErrHeader)] }
def FnReservedSaid : Prop := fnReservedRow.holds Tryd.pinned (OpenSpec.ofChange fnReservedSpec)

/-- ITS FALSE NEIGHBOUR: 'it returns false'. Refute it at one input. -/
def fnReservedWrong : ChangeSpec := { name := "fnReserved", fn := fun _ => fun
  | [d1, d2] => { results := [.lit (.bool false)], args := [d1, d2] }
  | _ => none }
def FnReservedWrongFalsely : Prop := fnReservedRow.holds Tryd.pinned (OpenSpec.ofChange fnReservedWrong)

/-- 'laws.FnStored': WHATEVER THE INPUT: true; the input reads as it did. -/
def fnStoredSpec : ChangeSpec := { name := "fnStored", fn := fun _ => fun
  | [d1, d2] => { results := [.lit (.bool true)], args := [d1, d2] }
  | _ => none }
def fnStoredRow : OpenClaim := { program := "ythfncdfcklbigaadoor", sum := "7696a79710f119f873a19cb19cccafea7c3a63f3114c8161b4aba2b08e306064", func := "crowbar/laws.FnStored", spec := "fnStored", inPlace := ["internal/reflectlite.TypeOf"], unfollowed := true, recurses := true, named := ["io.EOF", "io.ErrUnexpectedEOF", "io.ErrShortBuffer", "crowbar/pub/inflate.codeOrder", "crowbar/pub/zlibread.ErrHeader", "crowbar/pub/zlibread.ErrDictionary", "crowbar/pub/zlibread.ErrChecksum"], plainKeys := false, apart := false, laid := [("io.ErrShortBuffer", laid_io_ErrShortBuffer), ("io.EOF", laid_io_EOF), ("io.ErrUnexpectedEOF", laid_io_ErrUnexpectedEOF), ("crowbar/pub/inflate.codeOrder", laid_crowbar_pub_inflate_codeOrder), ("crowbar/pub/zlibread.ErrChecksum", laid_crowbar_pub_zlibread_ErrChecksum), ("crowbar/pub/zlibread.ErrDictionary", laid_crowbar_pub_zlibread_ErrDictionary), ("crowbar/pub/zlibread.ErrHeader", laid_crowbar_pub_zlibread_ErrHeader)] }
def FnStoredSaid : Prop := fnStoredRow.holds Tryd.pinned (OpenSpec.ofChange fnStoredSpec)

/-- ITS FALSE NEIGHBOUR: 'it returns false'. Refute it at one input. -/
def fnStoredWrong : ChangeSpec := { name := "fnStored", fn := fun _ => fun
  | [d1, d2] => { results := [.lit (.bool false)], args := [d1, d2] }
  | _ => none }
def FnStoredWrongFalsely : Prop := fnStoredRow.holds Tryd.pinned (OpenSpec.ofChange fnStoredWrong)

/-- 'laws.FnStoredLength': WHATEVER THE INPUT: true; the input reads as it did. -/
def fnStoredLengthSpec : ChangeSpec := { name := "fnStoredLength", fn := fun _ => fun
  | [d1, d2, d3] => { results := [.lit (.bool true)], args := [d1, d2, d3] }
  | _ => none }
def fnStoredLengthRow : OpenClaim := { program := "ythfncdfcklbigaadoor", sum := "7696a79710f119f873a19cb19cccafea7c3a63f3114c8161b4aba2b08e306064", func := "crowbar/laws.FnStoredLength", spec := "fnStoredLength", inPlace := ["internal/reflectlite.TypeOf"], unfollowed := true, recurses := true, named := ["io.EOF", "io.ErrUnexpectedEOF", "io.ErrShortBuffer", "crowbar/pub/inflate.codeOrder", "crowbar/pub/zlibread.ErrHeader", "crowbar/pub/zlibread.ErrDictionary", "crowbar/pub/zlibread.ErrChecksum"], plainKeys := false, apart := false, laid := [("io.ErrShortBuffer", laid_io_ErrShortBuffer), ("io.EOF", laid_io_EOF), ("io.ErrUnexpectedEOF", laid_io_ErrUnexpectedEOF), ("crowbar/pub/inflate.codeOrder", laid_crowbar_pub_inflate_codeOrder), ("crowbar/pub/zlibread.ErrChecksum", laid_crowbar_pub_zlibread_ErrChecksum), ("crowbar/pub/zlibread.ErrDictionary", laid_crowbar_pub_zlibread_ErrDictionary), ("crowbar/pub/zlibread.ErrHeader", laid_crowbar_pub_zlibread_ErrHeader)] }
def FnStoredLengthSaid : Prop := fnStoredLengthRow.holds Tryd.pinned (OpenSpec.ofChange fnStoredLengthSpec)

/-- ITS FALSE NEIGHBOUR: 'it returns false'. Refute it at one input. -/
def fnStoredLengthWrong : ChangeSpec := { name := "fnStoredLength", fn := fun _ => fun
  | [d1, d2, d3] => { results := [.lit (.bool false)], args := [d1, d2, d3] }
  | _ => none }
def FnStoredLengthWrongFalsely : Prop := fnStoredLengthRow.holds Tryd.pinned (OpenSpec.ofChange fnStoredLengthWrong)

/-- 'laws.FnInflateAgain': WHATEVER THE INPUT: true; the input reads as it did. -/
def fnInflateAgainSpec : ChangeSpec := { name := "fnInflateAgain", fn := fun _ => fun
  | [d1, d2, d3] => { results := [.lit (.bool true)], args := [d1, d2, d3] }
  | _ => none }
def fnInflateAgainRow : OpenClaim := { program := "ythfncdfcklbigaadoor", sum := "7696a79710f119f873a19cb19cccafea7c3a63f3114c8161b4aba2b08e306064", func := "crowbar/laws.FnInflateAgain", spec := "fnInflateAgain", inPlace := ["internal/reflectlite.TypeOf"], unfollowed := true, recurses := true, named := ["io.EOF", "io.ErrUnexpectedEOF", "io.ErrShortBuffer", "crowbar/pub/inflate.codeOrder", "crowbar/pub/zlibread.ErrHeader", "crowbar/pub/zlibread.ErrDictionary", "crowbar/pub/zlibread.ErrChecksum"], plainKeys := false, apart := false, laid := [("io.ErrShortBuffer", laid_io_ErrShortBuffer), ("io.EOF", laid_io_EOF), ("io.ErrUnexpectedEOF", laid_io_ErrUnexpectedEOF), ("crowbar/pub/inflate.codeOrder", laid_crowbar_pub_inflate_codeOrder), ("crowbar/pub/zlibread.ErrChecksum", laid_crowbar_pub_zlibread_ErrChecksum), ("crowbar/pub/zlibread.ErrDictionary", laid_crowbar_pub_zlibread_ErrDictionary), ("crowbar/pub/zlibread.ErrHeader", laid_crowbar_pub_zlibread_ErrHeader)] }
def FnInflateAgainSaid : Prop := fnInflateAgainRow.holds Tryd.pinned (OpenSpec.ofChange fnInflateAgainSpec)

/-- ITS FALSE NEIGHBOUR: 'it returns false'. Refute it at one input. -/
def fnInflateAgainWrong : ChangeSpec := { name := "fnInflateAgain", fn := fun _ => fun
  | [d1, d2, d3] => { results := [.lit (.bool false)], args := [d1, d2, d3] }
  | _ => none }
def FnInflateAgainWrongFalsely : Prop := fnInflateAgainRow.holds Tryd.pinned (OpenSpec.ofChange fnInflateAgainWrong)

/- THE SECOND FORM. 'bulk': how many values and letters a reading holds, each counted each time it is reached (what is shared counts as often as it is met; a slice's spare places count too). A statement '..UptoSaid' is the law's where the arguments, and the package variables that the reading takes, are together of bulk at most 1048576: NARROWER than '..Said'. Prove '..Said' where nothing that the law and all that it calls make is longer than what came in: it says more and counts as full. Else prove '..UptoSaid'. A law counts once. -/
mutual
def uptoBulk {H : Type} : DataW H → Nat
  | .lit (.string bytes) => bytes.length + 1
  | .lit _ => 1
  | .nil => 1
  | .ptr d => uptoBulk d + 1
  | .slice elems spare => uptoBulkAll elems + uptoBulkAll spare + 1
  | .agg parts => uptoBulkAll parts + 1
  | .iface _ d => uptoBulk d + 1
  | .map entries => uptoBulkEntries entries + 1
  | .held _ => 1
def uptoBulkAll {H : Type} : List (DataW H) → Nat
  | [] => 0
  | d :: r => uptoBulk d + uptoBulkAll r
def uptoBulkEntries {H : Type} : List (Lit × DataW H) → Nat
  | [] => 0
  | x :: r => uptoBulkEntry x + uptoBulkEntries r
def uptoBulkEntry {H : Type} : Lit × DataW H → Nat
  | (.string bytes, d) => bytes.length + uptoBulk d + 1
  | (_, d) => uptoBulk d + 1
 end
def uptoSmall : (H : Type) → List (DataW H) → Bool := fun _ ds => decide (uptoBulkAll ds ≤ 1048576)
def OpenSpec.upto (s : _root_.Go.ChangeSpec) : _root_.Go.OpenSpec := { _root_.Go.OpenSpec.ofChange s with cond := some uptoSmall }

/-- 'laws.FnAhead', WHERE WHAT IT READS IS OF BULK AT MOST 1048576: true; the input reads as it did. -/
def fnAheadUptoRow : OpenClaim := { program := "ythfncdfcklbigaadoor", sum := "7696a79710f119f873a19cb19cccafea7c3a63f3114c8161b4aba2b08e306064", func := "crowbar/laws.FnAhead", spec := "fnAhead", inPlace := ["internal/reflectlite.TypeOf"], unfollowed := true, recurses := true, named := ["io.EOF", "io.ErrUnexpectedEOF", "io.ErrShortBuffer", "crowbar/pub/inflate.codeOrder", "crowbar/pub/zlibread.ErrHeader", "crowbar/pub/zlibread.ErrDictionary", "crowbar/pub/zlibread.ErrChecksum"], plainKeys := false, apart := false, laid := [("io.ErrShortBuffer", laid_io_ErrShortBuffer), ("io.EOF", laid_io_EOF), ("io.ErrUnexpectedEOF", laid_io_ErrUnexpectedEOF), ("crowbar/pub/inflate.codeOrder", laid_crowbar_pub_inflate_codeOrder), ("crowbar/pub/zlibread.ErrChecksum", laid_crowbar_pub_zlibread_ErrChecksum), ("crowbar/pub/zlibread.ErrDictionary", laid_crowbar_pub_zlibread_ErrDictionary), ("crowbar/pub/zlibread.ErrHeader", laid_crowbar_pub_zlibread_ErrHeader)], narrowed := true }
def FnAheadUptoSaid : Prop := fnAheadUptoRow.holds Tryd.pinned (OpenSpec.upto fnAheadSpec)

/-- 'laws.FnBlocks', WHERE WHAT IT READS IS OF BULK AT MOST 1048576: true; the input reads as it did. -/
def fnBlocksUptoRow : OpenClaim := { program := "ythfncdfcklbigaadoor", sum := "7696a79710f119f873a19cb19cccafea7c3a63f3114c8161b4aba2b08e306064", func := "crowbar/laws.FnBlocks", spec := "fnBlocks", inPlace := ["internal/reflectlite.TypeOf"], unfollowed := true, recurses := true, named := ["io.EOF", "io.ErrUnexpectedEOF", "io.ErrShortBuffer", "crowbar/pub/inflate.codeOrder", "crowbar/pub/zlibread.ErrHeader", "crowbar/pub/zlibread.ErrDictionary", "crowbar/pub/zlibread.ErrChecksum"], plainKeys := false, apart := false, laid := [("io.ErrShortBuffer", laid_io_ErrShortBuffer), ("io.EOF", laid_io_EOF), ("io.ErrUnexpectedEOF", laid_io_ErrUnexpectedEOF), ("crowbar/pub/inflate.codeOrder", laid_crowbar_pub_inflate_codeOrder), ("crowbar/pub/zlibread.ErrChecksum", laid_crowbar_pub_zlibread_ErrChecksum), ("crowbar/pub/zlibread.ErrDictionary", laid_crowbar_pub_zlibread_ErrDictionary), ("crowbar/pub/zlibread.ErrHeader", laid_crowbar_pub_zlibread_ErrHeader)], narrowed := true }
def FnBlocksUptoSaid : Prop := fnBlocksUptoRow.holds Tryd.pinned (OpenSpec.upto fnBlocksSpec)

/-- 'laws.FnCut', WHERE WHAT IT READS IS OF BULK AT MOST 1048576: true; the input reads as it did. -/
def fnCutUptoRow : OpenClaim := { program := "ythfncdfcklbigaadoor", sum := "7696a79710f119f873a19cb19cccafea7c3a63f3114c8161b4aba2b08e306064", func := "crowbar/laws.FnCut", spec := "fnCut", inPlace := ["internal/reflectlite.TypeOf"], unfollowed := true, recurses := true, named := ["io.EOF", "io.ErrUnexpectedEOF", "io.ErrShortBuffer", "crowbar/pub/inflate.codeOrder", "crowbar/pub/zlibread.ErrHeader", "crowbar/pub/zlibread.ErrDictionary", "crowbar/pub/zlibread.ErrChecksum"], plainKeys := false, apart := false, laid := [("io.ErrShortBuffer", laid_io_ErrShortBuffer), ("io.EOF", laid_io_EOF), ("io.ErrUnexpectedEOF", laid_io_ErrUnexpectedEOF), ("crowbar/pub/inflate.codeOrder", laid_crowbar_pub_inflate_codeOrder), ("crowbar/pub/zlibread.ErrChecksum", laid_crowbar_pub_zlibread_ErrChecksum), ("crowbar/pub/zlibread.ErrDictionary", laid_crowbar_pub_zlibread_ErrDictionary), ("crowbar/pub/zlibread.ErrHeader", laid_crowbar_pub_zlibread_ErrHeader)], narrowed := true }
def FnCutUptoSaid : Prop := fnCutUptoRow.holds Tryd.pinned (OpenSpec.upto fnCutSpec)

/-- 'laws.FnDictionary', WHERE WHAT IT READS IS OF BULK AT MOST 1048576: true; the input reads as it did. -/
def fnDictionaryUptoRow : OpenClaim := { program := "ythfncdfcklbigaadoor", sum := "7696a79710f119f873a19cb19cccafea7c3a63f3114c8161b4aba2b08e306064", func := "crowbar/laws.FnDictionary", spec := "fnDictionary", inPlace := ["internal/reflectlite.TypeOf"], unfollowed := true, recurses := true, named := ["io.EOF", "io.ErrUnexpectedEOF", "io.ErrShortBuffer", "crowbar/pub/inflate.codeOrder", "crowbar/pub/zlibread.ErrHeader", "crowbar/pub/zlibread.ErrDictionary", "crowbar/pub/zlibread.ErrChecksum"], plainKeys := false, apart := false, laid := [("io.ErrShortBuffer", laid_io_ErrShortBuffer), ("io.EOF", laid_io_EOF), ("io.ErrUnexpectedEOF", laid_io_ErrUnexpectedEOF), ("crowbar/pub/inflate.codeOrder", laid_crowbar_pub_inflate_codeOrder), ("crowbar/pub/zlibread.ErrChecksum", laid_crowbar_pub_zlibread_ErrChecksum), ("crowbar/pub/zlibread.ErrDictionary", laid_crowbar_pub_zlibread_ErrDictionary), ("crowbar/pub/zlibread.ErrHeader", laid_crowbar_pub_zlibread_ErrHeader)], narrowed := true }
def FnDictionaryUptoSaid : Prop := fnDictionaryUptoRow.holds Tryd.pinned (OpenSpec.upto fnDictionarySpec)

/-- 'laws.FnWrapped', WHERE WHAT IT READS IS OF BULK AT MOST 1048576: true; the input reads as it did. -/
def fnWrappedUptoRow : OpenClaim := { program := "ythfncdfcklbigaadoor", sum := "7696a79710f119f873a19cb19cccafea7c3a63f3114c8161b4aba2b08e306064", func := "crowbar/laws.FnWrapped", spec := "fnWrapped", inPlace := ["internal/reflectlite.TypeOf"], unfollowed := true, recurses := true, named := ["io.EOF", "io.ErrUnexpectedEOF", "io.ErrShortBuffer", "crowbar/pub/inflate.codeOrder", "crowbar/pub/zlibread.ErrHeader", "crowbar/pub/zlibread.ErrDictionary", "crowbar/pub/zlibread.ErrChecksum", "encoding/binary.BigEndian"], plainKeys := false, apart := false, laid := [("io.ErrShortBuffer", laid_io_ErrShortBuffer), ("io.EOF", laid_io_EOF), ("io.ErrUnexpectedEOF", laid_io_ErrUnexpectedEOF), ("crowbar/pub/inflate.codeOrder", laid_crowbar_pub_inflate_codeOrder), ("crowbar/pub/zlibread.ErrChecksum", laid_crowbar_pub_zlibread_ErrChecksum), ("crowbar/pub/zlibread.ErrDictionary", laid_crowbar_pub_zlibread_ErrDictionary), ("crowbar/pub/zlibread.ErrHeader", laid_crowbar_pub_zlibread_ErrHeader)], narrowed := true }
def FnWrappedUptoSaid : Prop := fnWrappedUptoRow.holds Tryd.pinned (OpenSpec.upto fnWrappedSpec)

/-- 'laws.FnFaults', WHERE WHAT IT READS IS OF BULK AT MOST 1048576: true; the input reads as it did. -/
def fnFaultsUptoRow : OpenClaim := { program := "ythfncdfcklbigaadoor", sum := "7696a79710f119f873a19cb19cccafea7c3a63f3114c8161b4aba2b08e306064", func := "crowbar/laws.FnFaults", spec := "fnFaults", inPlace := ["internal/reflectlite.TypeOf"], unfollowed := true, recurses := true, named := ["io.EOF", "io.ErrUnexpectedEOF", "io.ErrShortBuffer", "crowbar/pub/inflate.codeOrder", "crowbar/pub/zlibread.ErrHeader", "crowbar/pub/zlibread.ErrDictionary", "crowbar/pub/zlibread.ErrChecksum"], plainKeys := false, apart := false, laid := [("io.ErrShortBuffer", laid_io_ErrShortBuffer), ("io.EOF", laid_io_EOF), ("io.ErrUnexpectedEOF", laid_io_ErrUnexpectedEOF), ("crowbar/pub/inflate.codeOrder", laid_crowbar_pub_inflate_codeOrder), ("crowbar/pub/zlibread.ErrChecksum", laid_crowbar_pub_zlibread_ErrChecksum), ("crowbar/pub/zlibread.ErrDictionary", laid_crowbar_pub_zlibread_ErrDictionary), ("crowbar/pub/zlibread.ErrHeader", laid_crowbar_pub_zlibread_ErrHeader)], narrowed := true }
def FnFaultsUptoSaid : Prop := fnFaultsUptoRow.holds Tryd.pinned (OpenSpec.upto fnFaultsSpec)

/-- 'laws.FnFixedBlock', WHERE WHAT IT READS IS OF BULK AT MOST 1048576: true; the input reads as it did. -/
def fnFixedBlockUptoRow : OpenClaim := { program := "ythfncdfcklbigaadoor", sum := "7696a79710f119f873a19cb19cccafea7c3a63f3114c8161b4aba2b08e306064", func := "crowbar/laws.FnFixedBlock", spec := "fnFixedBlock", inPlace := ["internal/reflectlite.TypeOf"], unfollowed := true, recurses := true, named := ["io.EOF", "io.ErrUnexpectedEOF", "io.ErrShortBuffer", "crowbar/pub/inflate.codeOrder", "crowbar/pub/zlibread.ErrHeader", "crowbar/pub/zlibread.ErrDictionary", "crowbar/pub/zlibread.ErrChecksum"], plainKeys := false, apart := false, laid := [("io.ErrShortBuffer", laid_io_ErrShortBuffer), ("io.EOF", laid_io_EOF), ("io.ErrUnexpectedEOF", laid_io_ErrUnexpectedEOF), ("crowbar/pub/inflate.codeOrder", laid_crowbar_pub_inflate_codeOrder), ("crowbar/pub/zlibread.ErrChecksum", laid_crowbar_pub_zlibread_ErrChecksum), ("crowbar/pub/zlibread.ErrDictionary", laid_crowbar_pub_zlibread_ErrDictionary), ("crowbar/pub/zlibread.ErrHeader", laid_crowbar_pub_zlibread_ErrHeader)], narrowed := true }
def FnFixedBlockUptoSaid : Prop := fnFixedBlockUptoRow.holds Tryd.pinned (OpenSpec.upto fnFixedBlockSpec)

/-- 'laws.FnInflate', WHERE WHAT IT READS IS OF BULK AT MOST 1048576: true; the input reads as it did. -/
def fnInflateUptoRow : OpenClaim := { program := "ythfncdfcklbigaadoor", sum := "7696a79710f119f873a19cb19cccafea7c3a63f3114c8161b4aba2b08e306064", func := "crowbar/laws.FnInflate", spec := "fnInflate", inPlace := ["internal/reflectlite.TypeOf"], unfollowed := true, recurses := true, named := ["io.EOF", "io.ErrUnexpectedEOF", "io.ErrShortBuffer", "crowbar/pub/inflate.codeOrder", "crowbar/pub/zlibread.ErrHeader", "crowbar/pub/zlibread.ErrDictionary", "crowbar/pub/zlibread.ErrChecksum"], plainKeys := false, apart := false, laid := [("io.ErrShortBuffer", laid_io_ErrShortBuffer), ("io.EOF", laid_io_EOF), ("io.ErrUnexpectedEOF", laid_io_ErrUnexpectedEOF), ("crowbar/pub/inflate.codeOrder", laid_crowbar_pub_inflate_codeOrder), ("crowbar/pub/zlibread.ErrChecksum", laid_crowbar_pub_zlibread_ErrChecksum), ("crowbar/pub/zlibread.ErrDictionary", laid_crowbar_pub_zlibread_ErrDictionary), ("crowbar/pub/zlibread.ErrHeader", laid_crowbar_pub_zlibread_ErrHeader)], narrowed := true }
def FnInflateUptoSaid : Prop := fnInflateUptoRow.holds Tryd.pinned (OpenSpec.upto fnInflateSpec)

/-- 'laws.FnInflateSizes', WHERE WHAT IT READS IS OF BULK AT MOST 1048576: true; the input reads as it did. -/
def fnInflateSizesUptoRow : OpenClaim := { program := "ythfncdfcklbigaadoor", sum := "7696a79710f119f873a19cb19cccafea7c3a63f3114c8161b4aba2b08e306064", func := "crowbar/laws.FnInflateSizes", spec := "fnInflateSizes", inPlace := ["internal/reflectlite.TypeOf"], unfollowed := true, recurses := true, named := ["io.EOF", "io.ErrUnexpectedEOF", "io.ErrShortBuffer", "crowbar/pub/inflate.codeOrder", "crowbar/pub/zlibread.ErrHeader", "crowbar/pub/zlibread.ErrDictionary", "crowbar/pub/zlibread.ErrChecksum"], plainKeys := false, apart := false, laid := [("io.ErrShortBuffer", laid_io_ErrShortBuffer), ("io.EOF", laid_io_EOF), ("io.ErrUnexpectedEOF", laid_io_ErrUnexpectedEOF), ("crowbar/pub/inflate.codeOrder", laid_crowbar_pub_inflate_codeOrder), ("crowbar/pub/zlibread.ErrChecksum", laid_crowbar_pub_zlibread_ErrChecksum), ("crowbar/pub/zlibread.ErrDictionary", laid_crowbar_pub_zlibread_ErrDictionary), ("crowbar/pub/zlibread.ErrHeader", laid_crowbar_pub_zlibread_ErrHeader)], narrowed := true }
def FnInflateSizesUptoSaid : Prop := fnInflateSizesUptoRow.holds Tryd.pinned (OpenSpec.upto fnInflateSizesSpec)

/-- 'laws.FnJoined', WHERE WHAT IT READS IS OF BULK AT MOST 1048576: true; the input reads as it did. -/
def fnJoinedUptoRow : OpenClaim := { program := "ythfncdfcklbigaadoor", sum := "7696a79710f119f873a19cb19cccafea7c3a63f3114c8161b4aba2b08e306064", func := "crowbar/laws.FnJoined", spec := "fnJoined", inPlace := ["internal/reflectlite.TypeOf"], unfollowed := true, recurses := true, named := ["io.EOF", "io.ErrUnexpectedEOF", "io.ErrShortBuffer", "crowbar/pub/inflate.codeOrder", "crowbar/pub/zlibread.ErrHeader", "crowbar/pub/zlibread.ErrDictionary", "crowbar/pub/zlibread.ErrChecksum"], plainKeys := false, apart := false, laid := [("io.ErrShortBuffer", laid_io_ErrShortBuffer), ("io.EOF", laid_io_EOF), ("io.ErrUnexpectedEOF", laid_io_ErrUnexpectedEOF), ("crowbar/pub/inflate.codeOrder", laid_crowbar_pub_inflate_codeOrder), ("crowbar/pub/zlibread.ErrChecksum", laid_crowbar_pub_zlibread_ErrChecksum), ("crowbar/pub/zlibread.ErrDictionary", laid_crowbar_pub_zlibread_ErrDictionary), ("crowbar/pub/zlibread.ErrHeader", laid_crowbar_pub_zlibread_ErrHeader)], narrowed := true }
def FnJoinedUptoSaid : Prop := fnJoinedUptoRow.holds Tryd.pinned (OpenSpec.upto fnJoinedSpec)

/-- 'laws.FnReserved', WHERE WHAT IT READS IS OF BULK AT MOST 1048576: true; the input reads as it did. -/
def fnReservedUptoRow : OpenClaim := { program := "ythfncdfcklbigaadoor", sum := "7696a79710f119f873a19cb19cccafea7c3a63f3114c8161b4aba2b08e306064", func := "crowbar/laws.FnReserved", spec := "fnReserved", inPlace := ["internal/reflectlite.TypeOf"], unfollowed := true, recurses := true, named := ["io.EOF", "io.ErrUnexpectedEOF", "io.ErrShortBuffer", "crowbar/pub/inflate.codeOrder", "crowbar/pub/zlibread.ErrHeader", "crowbar/pub/zlibread.ErrDictionary", "crowbar/pub/zlibread.ErrChecksum"], plainKeys := false, apart := false, laid := [("io.ErrShortBuffer", laid_io_ErrShortBuffer), ("io.EOF", laid_io_EOF), ("io.ErrUnexpectedEOF", laid_io_ErrUnexpectedEOF), ("crowbar/pub/inflate.codeOrder", laid_crowbar_pub_inflate_codeOrder), ("crowbar/pub/zlibread.ErrChecksum", laid_crowbar_pub_zlibread_ErrChecksum), ("crowbar/pub/zlibread.ErrDictionary", laid_crowbar_pub_zlibread_ErrDictionary), ("crowbar/pub/zlibread.ErrHeader", laid_crowbar_pub_zlibread_ErrHeader)], narrowed := true }
def FnReservedUptoSaid : Prop := fnReservedUptoRow.holds Tryd.pinned (OpenSpec.upto fnReservedSpec)

/-- 'laws.FnStored', WHERE WHAT IT READS IS OF BULK AT MOST 1048576: true; the input reads as it did. -/
def fnStoredUptoRow : OpenClaim := { program := "ythfncdfcklbigaadoor", sum := "7696a79710f119f873a19cb19cccafea7c3a63f3114c8161b4aba2b08e306064", func := "crowbar/laws.FnStored", spec := "fnStored", inPlace := ["internal/reflectlite.TypeOf"], unfollowed := true, recurses := true, named := ["io.EOF", "io.ErrUnexpectedEOF", "io.ErrShortBuffer", "crowbar/pub/inflate.codeOrder", "crowbar/pub/zlibread.ErrHeader", "crowbar/pub/zlibread.ErrDictionary", "crowbar/pub/zlibread.ErrChecksum"], plainKeys := false, apart := false, laid := [("io.ErrShortBuffer", laid_io_ErrShortBuffer), ("io.EOF", laid_io_EOF), ("io.ErrUnexpectedEOF", laid_io_ErrUnexpectedEOF), ("crowbar/pub/inflate.codeOrder", laid_crowbar_pub_inflate_codeOrder), ("crowbar/pub/zlibread.ErrChecksum", laid_crowbar_pub_zlibread_ErrChecksum), ("crowbar/pub/zlibread.ErrDictionary", laid_crowbar_pub_zlibread_ErrDictionary), ("crowbar/pub/zlibread.ErrHeader", laid_crowbar_pub_zlibread_ErrHeader)], narrowed := true }
def FnStoredUptoSaid : Prop := fnStoredUptoRow.holds Tryd.pinned (OpenSpec.upto fnStoredSpec)

/-- 'laws.FnStoredLength', WHERE WHAT IT READS IS OF BULK AT MOST 1048576: true; the input reads as it did. -/
def fnStoredLengthUptoRow : OpenClaim := { program := "ythfncdfcklbigaadoor", sum := "7696a79710f119f873a19cb19cccafea7c3a63f3114c8161b4aba2b08e306064", func := "crowbar/laws.FnStoredLength", spec := "fnStoredLength", inPlace := ["internal/reflectlite.TypeOf"], unfollowed := true, recurses := true, named := ["io.EOF", "io.ErrUnexpectedEOF", "io.ErrShortBuffer", "crowbar/pub/inflate.codeOrder", "crowbar/pub/zlibread.ErrHeader", "crowbar/pub/zlibread.ErrDictionary", "crowbar/pub/zlibread.ErrChecksum"], plainKeys := false, apart := false, laid := [("io.ErrShortBuffer", laid_io_ErrShortBuffer), ("io.EOF", laid_io_EOF), ("io.ErrUnexpectedEOF", laid_io_ErrUnexpectedEOF), ("crowbar/pub/inflate.codeOrder", laid_crowbar_pub_inflate_codeOrder), ("crowbar/pub/zlibread.ErrChecksum", laid_crowbar_pub_zlibread_ErrChecksum), ("crowbar/pub/zlibread.ErrDictionary", laid_crowbar_pub_zlibread_ErrDictionary), ("crowbar/pub/zlibread.ErrHeader", laid_crowbar_pub_zlibread_ErrHeader)], narrowed := true }
def FnStoredLengthUptoSaid : Prop := fnStoredLengthUptoRow.holds Tryd.pinned (OpenSpec.upto fnStoredLengthSpec)

/-- 'laws.FnInflateAgain', WHERE WHAT IT READS IS OF BULK AT MOST 1048576: true; the input reads as it did. -/
def fnInflateAgainUptoRow : OpenClaim := { program := "ythfncdfcklbigaadoor", sum := "7696a79710f119f873a19cb19cccafea7c3a63f3114c8161b4aba2b08e306064", func := "crowbar/laws.FnInflateAgain", spec := "fnInflateAgain", inPlace := ["internal/reflectlite.TypeOf"], unfollowed := true, recurses := true, named := ["io.EOF", "io.ErrUnexpectedEOF", "io.ErrShortBuffer", "crowbar/pub/inflate.codeOrder", "crowbar/pub/zlibread.ErrHeader", "crowbar/pub/zlibread.ErrDictionary", "crowbar/pub/zlibread.ErrChecksum"], plainKeys := false, apart := false, laid := [("io.ErrShortBuffer", laid_io_ErrShortBuffer), ("io.EOF", laid_io_EOF), ("io.ErrUnexpectedEOF", laid_io_ErrUnexpectedEOF), ("crowbar/pub/inflate.codeOrder", laid_crowbar_pub_inflate_codeOrder), ("crowbar/pub/zlibread.ErrChecksum", laid_crowbar_pub_zlibread_ErrChecksum), ("crowbar/pub/zlibread.ErrDictionary", laid_crowbar_pub_zlibread_ErrDictionary), ("crowbar/pub/zlibread.ErrHeader", laid_crowbar_pub_zlibread_ErrHeader)], narrowed := true }
def FnInflateAgainUptoSaid : Prop := fnInflateAgainUptoRow.holds Tryd.pinned (OpenSpec.upto fnInflateAgainSpec)

end Rows
end Go.Proofs.YthfncdfcklbigaaDoor
