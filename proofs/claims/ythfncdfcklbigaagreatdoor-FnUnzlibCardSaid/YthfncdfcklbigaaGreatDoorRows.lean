/-
  NARROWER THAN 'FOR EVERY INPUT', by the rows' own cells (each row's printed sentence says how): FnUnzlib: laid · FnReaderAgain: laid · FnChecksum: laid · FnHeader: laid · FnIgnored: laid · FnOtherDictionary: laid · FnRead: laid · FnRest: laid · FnSizes: laid · FnStreamCut: laid.
  DERIVED. THE GIVEN ROWS OF THIS SEAT. 10 by the template 'for every input the law returns true; each argument reads behind the call as it read before'; 0 by the template 'total and deterministic' (their statements: YthfncdfcklbigaaGreatDoorTotals.lean).
  GIVEN WITH THE SEED: the statements are not yours to turn. If you find one false, say at which input.
  Laid BY PROGRAM, IN A SANDBOX (cutbox-rows.mjs): the forced cells as the released guide's own fill.sh prints them over the translation c20d563fd4c6d4c9… (all of the seat's roots in one cut). By AI agents, Wed Nov 11 2026. No macro, syntax, notation, axiom, sorry.
-/
import Derived.Test.YthfncdfcklbigaaGreatDoorChecked
import GoSem.Claim
import GoSem.ClaimJoined
import GoSem.ClaimMapViews
import Derived.JoinedTies
import Derived.KernelRfl
namespace Go.Proofs.YthfncdfcklbigaaGreatDoor
/- THE CELL 'sum', in the pinned program and in every row, IS THE sha256 OF THE DUMP (.gsa) THAT YthfncdfcklbigaaGreatDoorProg.lean LOADS. Nothing in Lean hashes anything: it is a label: what it is worth is what the hold of that sum in a sandbox is worth. -/
noncomputable def Tryz.pinned : Pinned := { name := "ythfncdfcklbigaagreatdoor", sum := "c20d563fd4c6d4c9ec1d77df9815f6128656b31a8fe156148a8ec4fd7bfa2840", checked := Tryz.checked }
namespace Rows
def none {H : Type} : Left H := { results := [], args := [] }

/- WHAT THE LISTED PACKAGE-LEVEL VARIABLES READ AS WHEN THE CALL BEGINS. Each datum BY PROGRAM (the guide's laid-datum.mjs) off the statement by which the dump's own 'gosem.cut.vars' lays the variable. In a bare row this is a premise. The card (YthfncdfcklbigaaGreatDoorCards.lean) ties it to the program's text. -/
def laid_io_ErrShortBuffer {H : Type} : DataW H := .iface "*errors.errorString" (.ptr (.agg [.lit (.string [115, 104, 111, 114, 116, 32, 98, 117, 102, 102, 101, 114])]))
def laid_io_EOF {H : Type} : DataW H := .iface "*errors.errorString" (.ptr (.agg [.lit (.string [69, 79, 70])]))
def laid_io_ErrUnexpectedEOF {H : Type} : DataW H := .iface "*errors.errorString" (.ptr (.agg [.lit (.string [117, 110, 101, 120, 112, 101, 99, 116, 101, 100, 32, 69, 79, 70])]))
def laid_crowbar_pub_inflate_codeOrder {H : Type} : DataW H := .agg [.lit (.int .i64 16), .lit (.int .i64 17), .lit (.int .i64 18), .lit (.int .i64 0), .lit (.int .i64 8), .lit (.int .i64 7), .lit (.int .i64 9), .lit (.int .i64 6), .lit (.int .i64 10), .lit (.int .i64 5), .lit (.int .i64 11), .lit (.int .i64 4), .lit (.int .i64 12), .lit (.int .i64 3), .lit (.int .i64 13), .lit (.int .i64 2), .lit (.int .i64 14), .lit (.int .i64 1), .lit (.int .i64 15)]
def laid_crowbar_pub_zlibread_ErrChecksum {H : Type} : DataW H := .iface "*errors.errorString" (.ptr (.agg [.lit (.string [122, 108, 105, 98, 58, 32, 105, 110, 118, 97, 108, 105, 100, 32, 99, 104, 101, 99, 107, 115, 117, 109])]))
def laid_crowbar_pub_zlibread_ErrDictionary {H : Type} : DataW H := .iface "*errors.errorString" (.ptr (.agg [.lit (.string [122, 108, 105, 98, 58, 32, 105, 110, 118, 97, 108, 105, 100, 32, 100, 105, 99, 116, 105, 111, 110, 97, 114, 121])]))
def laid_crowbar_pub_zlibread_ErrHeader {H : Type} : DataW H := .iface "*errors.errorString" (.ptr (.agg [.lit (.string [122, 108, 105, 98, 58, 32, 105, 110, 118, 97, 108, 105, 100, 32, 104, 101, 97, 100, 101, 114])]))

/-- 'laws.FnUnzlib': WHATEVER THE INPUT: true; the input reads as it did. -/
def fnUnzlibSpec : ChangeSpec := { name := "fnUnzlib", fn := fun _ => fun
  | [d] => { results := [.lit (.bool true)], args := [d] }
  | _ => none }
def fnUnzlibRow : OpenClaim := { program := "ythfncdfcklbigaagreatdoor", sum := "c20d563fd4c6d4c9ec1d77df9815f6128656b31a8fe156148a8ec4fd7bfa2840", func := "crowbar/laws.FnUnzlib", spec := "fnUnzlib", inPlace := ["internal/reflectlite.TypeOf"], unfollowed := true, recurses := true, named := ["io.EOF", "io.ErrUnexpectedEOF", "encoding/binary.BigEndian", "crowbar/pub/zlibread.ErrHeader", "crowbar/pub/zlibread.ErrDictionary", "io.ErrShortBuffer", "crowbar/pub/inflate.codeOrder", "crowbar/pub/zlibread.ErrChecksum"], plainKeys := false, apart := false, laid := [("io.ErrShortBuffer", laid_io_ErrShortBuffer), ("io.EOF", laid_io_EOF), ("io.ErrUnexpectedEOF", laid_io_ErrUnexpectedEOF), ("crowbar/pub/inflate.codeOrder", laid_crowbar_pub_inflate_codeOrder), ("crowbar/pub/zlibread.ErrChecksum", laid_crowbar_pub_zlibread_ErrChecksum), ("crowbar/pub/zlibread.ErrDictionary", laid_crowbar_pub_zlibread_ErrDictionary), ("crowbar/pub/zlibread.ErrHeader", laid_crowbar_pub_zlibread_ErrHeader)] }
def FnUnzlibSaid : Prop := fnUnzlibRow.holds Tryz.pinned (OpenSpec.ofChange fnUnzlibSpec)

/-- ITS FALSE NEIGHBOUR: 'it returns false'. Refute it at one input. -/
def fnUnzlibWrong : ChangeSpec := { name := "fnUnzlib", fn := fun _ => fun
  | [d] => { results := [.lit (.bool false)], args := [d] }
  | _ => none }
def FnUnzlibWrongFalsely : Prop := fnUnzlibRow.holds Tryz.pinned (OpenSpec.ofChange fnUnzlibWrong)

/-- 'laws.FnReaderAgain': WHATEVER THE INPUT: true; the input reads as it did. -/
def fnReaderAgainSpec : ChangeSpec := { name := "fnReaderAgain", fn := fun _ => fun
  | [d1, d2, d3, d4, d5, d6] => { results := [.lit (.bool true)], args := [d1, d2, d3, d4, d5, d6] }
  | _ => none }
def fnReaderAgainRow : OpenClaim := { program := "ythfncdfcklbigaagreatdoor", sum := "c20d563fd4c6d4c9ec1d77df9815f6128656b31a8fe156148a8ec4fd7bfa2840", func := "crowbar/laws.FnReaderAgain", spec := "fnReaderAgain", inPlace := ["internal/reflectlite.TypeOf"], unfollowed := true, recurses := true, named := ["io.EOF", "io.ErrUnexpectedEOF", "encoding/binary.BigEndian", "crowbar/pub/zlibread.ErrHeader", "crowbar/pub/zlibread.ErrDictionary", "io.ErrShortBuffer", "crowbar/pub/inflate.codeOrder", "crowbar/pub/zlibread.ErrChecksum"], plainKeys := false, apart := false, laid := [("io.ErrShortBuffer", laid_io_ErrShortBuffer), ("io.EOF", laid_io_EOF), ("io.ErrUnexpectedEOF", laid_io_ErrUnexpectedEOF), ("crowbar/pub/inflate.codeOrder", laid_crowbar_pub_inflate_codeOrder), ("crowbar/pub/zlibread.ErrChecksum", laid_crowbar_pub_zlibread_ErrChecksum), ("crowbar/pub/zlibread.ErrDictionary", laid_crowbar_pub_zlibread_ErrDictionary), ("crowbar/pub/zlibread.ErrHeader", laid_crowbar_pub_zlibread_ErrHeader)] }
def FnReaderAgainSaid : Prop := fnReaderAgainRow.holds Tryz.pinned (OpenSpec.ofChange fnReaderAgainSpec)

/-- ITS FALSE NEIGHBOUR: 'it returns false'. Refute it at one input. -/
def fnReaderAgainWrong : ChangeSpec := { name := "fnReaderAgain", fn := fun _ => fun
  | [d1, d2, d3, d4, d5, d6] => { results := [.lit (.bool false)], args := [d1, d2, d3, d4, d5, d6] }
  | _ => none }
def FnReaderAgainWrongFalsely : Prop := fnReaderAgainRow.holds Tryz.pinned (OpenSpec.ofChange fnReaderAgainWrong)

/-- 'laws.FnChecksum': WHATEVER THE INPUT: true; the input reads as it did. -/
def fnChecksumSpec : ChangeSpec := { name := "fnChecksum", fn := fun _ => fun
  | [d1, d2, d3] => { results := [.lit (.bool true)], args := [d1, d2, d3] }
  | _ => none }
def fnChecksumRow : OpenClaim := { program := "ythfncdfcklbigaagreatdoor", sum := "c20d563fd4c6d4c9ec1d77df9815f6128656b31a8fe156148a8ec4fd7bfa2840", func := "crowbar/laws.FnChecksum", spec := "fnChecksum", inPlace := ["internal/reflectlite.TypeOf"], unfollowed := true, recurses := true, named := ["io.EOF", "io.ErrUnexpectedEOF", "encoding/binary.BigEndian", "crowbar/pub/zlibread.ErrHeader", "crowbar/pub/zlibread.ErrDictionary", "io.ErrShortBuffer", "crowbar/pub/inflate.codeOrder", "crowbar/pub/zlibread.ErrChecksum"], plainKeys := false, apart := false, laid := [("io.ErrShortBuffer", laid_io_ErrShortBuffer), ("io.EOF", laid_io_EOF), ("io.ErrUnexpectedEOF", laid_io_ErrUnexpectedEOF), ("crowbar/pub/inflate.codeOrder", laid_crowbar_pub_inflate_codeOrder), ("crowbar/pub/zlibread.ErrChecksum", laid_crowbar_pub_zlibread_ErrChecksum), ("crowbar/pub/zlibread.ErrDictionary", laid_crowbar_pub_zlibread_ErrDictionary), ("crowbar/pub/zlibread.ErrHeader", laid_crowbar_pub_zlibread_ErrHeader)] }
def FnChecksumSaid : Prop := fnChecksumRow.holds Tryz.pinned (OpenSpec.ofChange fnChecksumSpec)

/-- ITS FALSE NEIGHBOUR: 'it returns false'. Refute it at one input. -/
def fnChecksumWrong : ChangeSpec := { name := "fnChecksum", fn := fun _ => fun
  | [d1, d2, d3] => { results := [.lit (.bool false)], args := [d1, d2, d3] }
  | _ => none }
def FnChecksumWrongFalsely : Prop := fnChecksumRow.holds Tryz.pinned (OpenSpec.ofChange fnChecksumWrong)

/-- 'laws.FnHeader': WHATEVER THE INPUT: true; the input reads as it did. -/
def fnHeaderSpec : ChangeSpec := { name := "fnHeader", fn := fun _ => fun
  | [d1, d2, d3, d4] => { results := [.lit (.bool true)], args := [d1, d2, d3, d4] }
  | _ => none }
def fnHeaderRow : OpenClaim := { program := "ythfncdfcklbigaagreatdoor", sum := "c20d563fd4c6d4c9ec1d77df9815f6128656b31a8fe156148a8ec4fd7bfa2840", func := "crowbar/laws.FnHeader", spec := "fnHeader", inPlace := ["internal/reflectlite.TypeOf"], unfollowed := true, recurses := true, named := ["io.EOF", "io.ErrUnexpectedEOF", "encoding/binary.BigEndian", "crowbar/pub/zlibread.ErrHeader", "crowbar/pub/zlibread.ErrDictionary", "io.ErrShortBuffer", "crowbar/pub/inflate.codeOrder", "crowbar/pub/zlibread.ErrChecksum"], plainKeys := false, apart := false, laid := [("io.ErrShortBuffer", laid_io_ErrShortBuffer), ("io.EOF", laid_io_EOF), ("io.ErrUnexpectedEOF", laid_io_ErrUnexpectedEOF), ("crowbar/pub/inflate.codeOrder", laid_crowbar_pub_inflate_codeOrder), ("crowbar/pub/zlibread.ErrChecksum", laid_crowbar_pub_zlibread_ErrChecksum), ("crowbar/pub/zlibread.ErrDictionary", laid_crowbar_pub_zlibread_ErrDictionary), ("crowbar/pub/zlibread.ErrHeader", laid_crowbar_pub_zlibread_ErrHeader)] }
def FnHeaderSaid : Prop := fnHeaderRow.holds Tryz.pinned (OpenSpec.ofChange fnHeaderSpec)

/-- ITS FALSE NEIGHBOUR: 'it returns false'. Refute it at one input. -/
def fnHeaderWrong : ChangeSpec := { name := "fnHeader", fn := fun _ => fun
  | [d1, d2, d3, d4] => { results := [.lit (.bool false)], args := [d1, d2, d3, d4] }
  | _ => none }
def FnHeaderWrongFalsely : Prop := fnHeaderRow.holds Tryz.pinned (OpenSpec.ofChange fnHeaderWrong)

/-- 'laws.FnIgnored': WHATEVER THE INPUT: true; the input reads as it did. -/
def fnIgnoredSpec : ChangeSpec := { name := "fnIgnored", fn := fun _ => fun
  | [d1, d2, d3] => { results := [.lit (.bool true)], args := [d1, d2, d3] }
  | _ => none }
def fnIgnoredRow : OpenClaim := { program := "ythfncdfcklbigaagreatdoor", sum := "c20d563fd4c6d4c9ec1d77df9815f6128656b31a8fe156148a8ec4fd7bfa2840", func := "crowbar/laws.FnIgnored", spec := "fnIgnored", inPlace := ["internal/reflectlite.TypeOf"], unfollowed := true, recurses := true, named := ["io.EOF", "io.ErrUnexpectedEOF", "encoding/binary.BigEndian", "crowbar/pub/zlibread.ErrHeader", "crowbar/pub/zlibread.ErrDictionary", "io.ErrShortBuffer", "crowbar/pub/inflate.codeOrder", "crowbar/pub/zlibread.ErrChecksum"], plainKeys := false, apart := false, laid := [("io.ErrShortBuffer", laid_io_ErrShortBuffer), ("io.EOF", laid_io_EOF), ("io.ErrUnexpectedEOF", laid_io_ErrUnexpectedEOF), ("crowbar/pub/inflate.codeOrder", laid_crowbar_pub_inflate_codeOrder), ("crowbar/pub/zlibread.ErrChecksum", laid_crowbar_pub_zlibread_ErrChecksum), ("crowbar/pub/zlibread.ErrDictionary", laid_crowbar_pub_zlibread_ErrDictionary), ("crowbar/pub/zlibread.ErrHeader", laid_crowbar_pub_zlibread_ErrHeader)] }
def FnIgnoredSaid : Prop := fnIgnoredRow.holds Tryz.pinned (OpenSpec.ofChange fnIgnoredSpec)

/-- ITS FALSE NEIGHBOUR: 'it returns false'. Refute it at one input. -/
def fnIgnoredWrong : ChangeSpec := { name := "fnIgnored", fn := fun _ => fun
  | [d1, d2, d3] => { results := [.lit (.bool false)], args := [d1, d2, d3] }
  | _ => none }
def FnIgnoredWrongFalsely : Prop := fnIgnoredRow.holds Tryz.pinned (OpenSpec.ofChange fnIgnoredWrong)

/-- 'laws.FnOtherDictionary': WHATEVER THE INPUT: true; the input reads as it did. -/
def fnOtherDictionarySpec : ChangeSpec := { name := "fnOtherDictionary", fn := fun _ => fun
  | [d1, d2, d3, d4] => { results := [.lit (.bool true)], args := [d1, d2, d3, d4] }
  | _ => none }
def fnOtherDictionaryRow : OpenClaim := { program := "ythfncdfcklbigaagreatdoor", sum := "c20d563fd4c6d4c9ec1d77df9815f6128656b31a8fe156148a8ec4fd7bfa2840", func := "crowbar/laws.FnOtherDictionary", spec := "fnOtherDictionary", inPlace := ["internal/reflectlite.TypeOf"], unfollowed := true, recurses := true, named := ["io.EOF", "io.ErrUnexpectedEOF", "encoding/binary.BigEndian", "crowbar/pub/zlibread.ErrHeader", "crowbar/pub/zlibread.ErrDictionary", "io.ErrShortBuffer", "crowbar/pub/inflate.codeOrder", "crowbar/pub/zlibread.ErrChecksum"], plainKeys := false, apart := false, laid := [("io.ErrShortBuffer", laid_io_ErrShortBuffer), ("io.EOF", laid_io_EOF), ("io.ErrUnexpectedEOF", laid_io_ErrUnexpectedEOF), ("crowbar/pub/inflate.codeOrder", laid_crowbar_pub_inflate_codeOrder), ("crowbar/pub/zlibread.ErrChecksum", laid_crowbar_pub_zlibread_ErrChecksum), ("crowbar/pub/zlibread.ErrDictionary", laid_crowbar_pub_zlibread_ErrDictionary), ("crowbar/pub/zlibread.ErrHeader", laid_crowbar_pub_zlibread_ErrHeader)] }
def FnOtherDictionarySaid : Prop := fnOtherDictionaryRow.holds Tryz.pinned (OpenSpec.ofChange fnOtherDictionarySpec)

/-- ITS FALSE NEIGHBOUR: 'it returns false'. Refute it at one input. -/
def fnOtherDictionaryWrong : ChangeSpec := { name := "fnOtherDictionary", fn := fun _ => fun
  | [d1, d2, d3, d4] => { results := [.lit (.bool false)], args := [d1, d2, d3, d4] }
  | _ => none }
def FnOtherDictionaryWrongFalsely : Prop := fnOtherDictionaryRow.holds Tryz.pinned (OpenSpec.ofChange fnOtherDictionaryWrong)

/-- 'laws.FnRead': WHATEVER THE INPUT: true; the input reads as it did. -/
def fnReadSpec : ChangeSpec := { name := "fnRead", fn := fun _ => fun
  | [d1, d2, d3, d4, d5, d6] => { results := [.lit (.bool true)], args := [d1, d2, d3, d4, d5, d6] }
  | _ => none }
def fnReadRow : OpenClaim := { program := "ythfncdfcklbigaagreatdoor", sum := "c20d563fd4c6d4c9ec1d77df9815f6128656b31a8fe156148a8ec4fd7bfa2840", func := "crowbar/laws.FnRead", spec := "fnRead", inPlace := ["internal/reflectlite.TypeOf"], unfollowed := true, recurses := true, named := ["io.EOF", "io.ErrUnexpectedEOF", "encoding/binary.BigEndian", "crowbar/pub/zlibread.ErrHeader", "crowbar/pub/zlibread.ErrDictionary", "io.ErrShortBuffer", "crowbar/pub/inflate.codeOrder", "crowbar/pub/zlibread.ErrChecksum"], plainKeys := false, apart := false, laid := [("io.ErrShortBuffer", laid_io_ErrShortBuffer), ("io.EOF", laid_io_EOF), ("io.ErrUnexpectedEOF", laid_io_ErrUnexpectedEOF), ("crowbar/pub/inflate.codeOrder", laid_crowbar_pub_inflate_codeOrder), ("crowbar/pub/zlibread.ErrChecksum", laid_crowbar_pub_zlibread_ErrChecksum), ("crowbar/pub/zlibread.ErrDictionary", laid_crowbar_pub_zlibread_ErrDictionary), ("crowbar/pub/zlibread.ErrHeader", laid_crowbar_pub_zlibread_ErrHeader)] }
def FnReadSaid : Prop := fnReadRow.holds Tryz.pinned (OpenSpec.ofChange fnReadSpec)

/-- ITS FALSE NEIGHBOUR: 'it returns false'. Refute it at one input. -/
def fnReadWrong : ChangeSpec := { name := "fnRead", fn := fun _ => fun
  | [d1, d2, d3, d4, d5, d6] => { results := [.lit (.bool false)], args := [d1, d2, d3, d4, d5, d6] }
  | _ => none }
def FnReadWrongFalsely : Prop := fnReadRow.holds Tryz.pinned (OpenSpec.ofChange fnReadWrong)

/-- 'laws.FnRest': WHATEVER THE INPUT: true; the input reads as it did. -/
def fnRestSpec : ChangeSpec := { name := "fnRest", fn := fun _ => fun
  | [d1, d2, d3] => { results := [.lit (.bool true)], args := [d1, d2, d3] }
  | _ => none }
def fnRestRow : OpenClaim := { program := "ythfncdfcklbigaagreatdoor", sum := "c20d563fd4c6d4c9ec1d77df9815f6128656b31a8fe156148a8ec4fd7bfa2840", func := "crowbar/laws.FnRest", spec := "fnRest", inPlace := ["internal/reflectlite.TypeOf"], unfollowed := true, recurses := true, named := ["io.EOF", "io.ErrUnexpectedEOF", "encoding/binary.BigEndian", "crowbar/pub/zlibread.ErrHeader", "crowbar/pub/zlibread.ErrDictionary", "io.ErrShortBuffer", "crowbar/pub/inflate.codeOrder", "crowbar/pub/zlibread.ErrChecksum"], plainKeys := false, apart := false, laid := [("io.ErrShortBuffer", laid_io_ErrShortBuffer), ("io.EOF", laid_io_EOF), ("io.ErrUnexpectedEOF", laid_io_ErrUnexpectedEOF), ("crowbar/pub/inflate.codeOrder", laid_crowbar_pub_inflate_codeOrder), ("crowbar/pub/zlibread.ErrChecksum", laid_crowbar_pub_zlibread_ErrChecksum), ("crowbar/pub/zlibread.ErrDictionary", laid_crowbar_pub_zlibread_ErrDictionary), ("crowbar/pub/zlibread.ErrHeader", laid_crowbar_pub_zlibread_ErrHeader)] }
def FnRestSaid : Prop := fnRestRow.holds Tryz.pinned (OpenSpec.ofChange fnRestSpec)

/-- ITS FALSE NEIGHBOUR: 'it returns false'. Refute it at one input. -/
def fnRestWrong : ChangeSpec := { name := "fnRest", fn := fun _ => fun
  | [d1, d2, d3] => { results := [.lit (.bool false)], args := [d1, d2, d3] }
  | _ => none }
def FnRestWrongFalsely : Prop := fnRestRow.holds Tryz.pinned (OpenSpec.ofChange fnRestWrong)

/-- 'laws.FnSizes': WHATEVER THE INPUT: true; the input reads as it did. -/
def fnSizesSpec : ChangeSpec := { name := "fnSizes", fn := fun _ => fun
  | [d1, d2, d3] => { results := [.lit (.bool true)], args := [d1, d2, d3] }
  | _ => none }
def fnSizesRow : OpenClaim := { program := "ythfncdfcklbigaagreatdoor", sum := "c20d563fd4c6d4c9ec1d77df9815f6128656b31a8fe156148a8ec4fd7bfa2840", func := "crowbar/laws.FnSizes", spec := "fnSizes", inPlace := ["internal/reflectlite.TypeOf"], unfollowed := true, recurses := true, named := ["io.EOF", "io.ErrUnexpectedEOF", "encoding/binary.BigEndian", "crowbar/pub/zlibread.ErrHeader", "crowbar/pub/zlibread.ErrDictionary", "io.ErrShortBuffer", "crowbar/pub/inflate.codeOrder", "crowbar/pub/zlibread.ErrChecksum"], plainKeys := false, apart := false, laid := [("io.ErrShortBuffer", laid_io_ErrShortBuffer), ("io.EOF", laid_io_EOF), ("io.ErrUnexpectedEOF", laid_io_ErrUnexpectedEOF), ("crowbar/pub/inflate.codeOrder", laid_crowbar_pub_inflate_codeOrder), ("crowbar/pub/zlibread.ErrChecksum", laid_crowbar_pub_zlibread_ErrChecksum), ("crowbar/pub/zlibread.ErrDictionary", laid_crowbar_pub_zlibread_ErrDictionary), ("crowbar/pub/zlibread.ErrHeader", laid_crowbar_pub_zlibread_ErrHeader)] }
def FnSizesSaid : Prop := fnSizesRow.holds Tryz.pinned (OpenSpec.ofChange fnSizesSpec)

/-- ITS FALSE NEIGHBOUR: 'it returns false'. Refute it at one input. -/
def fnSizesWrong : ChangeSpec := { name := "fnSizes", fn := fun _ => fun
  | [d1, d2, d3] => { results := [.lit (.bool false)], args := [d1, d2, d3] }
  | _ => none }
def FnSizesWrongFalsely : Prop := fnSizesRow.holds Tryz.pinned (OpenSpec.ofChange fnSizesWrong)

/-- 'laws.FnStreamCut': WHATEVER THE INPUT: true; the input reads as it did. -/
def fnStreamCutSpec : ChangeSpec := { name := "fnStreamCut", fn := fun _ => fun
  | [d1, d2, d3] => { results := [.lit (.bool true)], args := [d1, d2, d3] }
  | _ => none }
def fnStreamCutRow : OpenClaim := { program := "ythfncdfcklbigaagreatdoor", sum := "c20d563fd4c6d4c9ec1d77df9815f6128656b31a8fe156148a8ec4fd7bfa2840", func := "crowbar/laws.FnStreamCut", spec := "fnStreamCut", inPlace := ["internal/reflectlite.TypeOf"], unfollowed := true, recurses := true, named := ["io.EOF", "io.ErrUnexpectedEOF", "encoding/binary.BigEndian", "crowbar/pub/zlibread.ErrHeader", "crowbar/pub/zlibread.ErrDictionary", "io.ErrShortBuffer", "crowbar/pub/inflate.codeOrder", "crowbar/pub/zlibread.ErrChecksum"], plainKeys := false, apart := false, laid := [("io.ErrShortBuffer", laid_io_ErrShortBuffer), ("io.EOF", laid_io_EOF), ("io.ErrUnexpectedEOF", laid_io_ErrUnexpectedEOF), ("crowbar/pub/inflate.codeOrder", laid_crowbar_pub_inflate_codeOrder), ("crowbar/pub/zlibread.ErrChecksum", laid_crowbar_pub_zlibread_ErrChecksum), ("crowbar/pub/zlibread.ErrDictionary", laid_crowbar_pub_zlibread_ErrDictionary), ("crowbar/pub/zlibread.ErrHeader", laid_crowbar_pub_zlibread_ErrHeader)] }
def FnStreamCutSaid : Prop := fnStreamCutRow.holds Tryz.pinned (OpenSpec.ofChange fnStreamCutSpec)

/-- ITS FALSE NEIGHBOUR: 'it returns false'. Refute it at one input. -/
def fnStreamCutWrong : ChangeSpec := { name := "fnStreamCut", fn := fun _ => fun
  | [d1, d2, d3] => { results := [.lit (.bool false)], args := [d1, d2, d3] }
  | _ => none }
def FnStreamCutWrongFalsely : Prop := fnStreamCutRow.holds Tryz.pinned (OpenSpec.ofChange fnStreamCutWrong)

/- THE SECOND FORM. 'bulk': how many values and letters a reading holds, each counted each time it is reached (what is shared counts as often as it is met; a slice's spare places count too). A statement '..UptoSaid' is the law's where the arguments, and the package variables that the reading takes, are together of bulk at most 1048576: NARROWER than '..Said'. Prove '..Said' where nothing that the law and all that it calls make is longer than what came in: it says more and counts as full. Else prove '..UptoSaid'. A law counts once. -/
mutual
def uptoBulk {H : Type} : DataW H → Nat
  | .lit (.string bytes) => bytes.length + 1
  | .lit _ => 1
  | .nil => 1
  | .ptr d => uptoBulk d + 1
  | .slice elems spare => uptoBulkAll elems + uptoBulkAll spare + 1
  | .agg parts => uptoBulkAll parts + 1
  | .iface _ d => uptoBulk d + 1
  | .map entries => uptoBulkEntries entries + 1
  | .held _ => 1
def uptoBulkAll {H : Type} : List (DataW H) → Nat
  | [] => 0
  | d :: r => uptoBulk d + uptoBulkAll r
def uptoBulkEntries {H : Type} : List (Lit × DataW H) → Nat
  | [] => 0
  | x :: r => uptoBulkEntry x + uptoBulkEntries r
def uptoBulkEntry {H : Type} : Lit × DataW H → Nat
  | (.string bytes, d) => bytes.length + uptoBulk d + 1
  | (_, d) => uptoBulk d + 1
 end
def uptoSmall : (H : Type) → List (DataW H) → Bool := fun _ ds => decide (uptoBulkAll ds ≤ 1048576)
def OpenSpec.upto (s : _root_.Go.ChangeSpec) : _root_.Go.OpenSpec := { _root_.Go.OpenSpec.ofChange s with cond := some uptoSmall }

/-- 'laws.FnUnzlib', WHERE WHAT IT READS IS OF BULK AT MOST 1048576: true; the input reads as it did. -/
def fnUnzlibUptoRow : OpenClaim := { program := "ythfncdfcklbigaagreatdoor", sum := "c20d563fd4c6d4c9ec1d77df9815f6128656b31a8fe156148a8ec4fd7bfa2840", func := "crowbar/laws.FnUnzlib", spec := "fnUnzlib", inPlace := ["internal/reflectlite.TypeOf"], unfollowed := true, recurses := true, named := ["io.EOF", "io.ErrUnexpectedEOF", "encoding/binary.BigEndian", "crowbar/pub/zlibread.ErrHeader", "crowbar/pub/zlibread.ErrDictionary", "io.ErrShortBuffer", "crowbar/pub/inflate.codeOrder", "crowbar/pub/zlibread.ErrChecksum"], plainKeys := false, apart := false, laid := [("io.ErrShortBuffer", laid_io_ErrShortBuffer), ("io.EOF", laid_io_EOF), ("io.ErrUnexpectedEOF", laid_io_ErrUnexpectedEOF), ("crowbar/pub/inflate.codeOrder", laid_crowbar_pub_inflate_codeOrder), ("crowbar/pub/zlibread.ErrChecksum", laid_crowbar_pub_zlibread_ErrChecksum), ("crowbar/pub/zlibread.ErrDictionary", laid_crowbar_pub_zlibread_ErrDictionary), ("crowbar/pub/zlibread.ErrHeader", laid_crowbar_pub_zlibread_ErrHeader)], narrowed := true }
def FnUnzlibUptoSaid : Prop := fnUnzlibUptoRow.holds Tryz.pinned (OpenSpec.upto fnUnzlibSpec)

/-- 'laws.FnReaderAgain', WHERE WHAT IT READS IS OF BULK AT MOST 1048576: true; the input reads as it did. -/
def fnReaderAgainUptoRow : OpenClaim := { program := "ythfncdfcklbigaagreatdoor", sum := "c20d563fd4c6d4c9ec1d77df9815f6128656b31a8fe156148a8ec4fd7bfa2840", func := "crowbar/laws.FnReaderAgain", spec := "fnReaderAgain", inPlace := ["internal/reflectlite.TypeOf"], unfollowed := true, recurses := true, named := ["io.EOF", "io.ErrUnexpectedEOF", "encoding/binary.BigEndian", "crowbar/pub/zlibread.ErrHeader", "crowbar/pub/zlibread.ErrDictionary", "io.ErrShortBuffer", "crowbar/pub/inflate.codeOrder", "crowbar/pub/zlibread.ErrChecksum"], plainKeys := false, apart := false, laid := [("io.ErrShortBuffer", laid_io_ErrShortBuffer), ("io.EOF", laid_io_EOF), ("io.ErrUnexpectedEOF", laid_io_ErrUnexpectedEOF), ("crowbar/pub/inflate.codeOrder", laid_crowbar_pub_inflate_codeOrder), ("crowbar/pub/zlibread.ErrChecksum", laid_crowbar_pub_zlibread_ErrChecksum), ("crowbar/pub/zlibread.ErrDictionary", laid_crowbar_pub_zlibread_ErrDictionary), ("crowbar/pub/zlibread.ErrHeader", laid_crowbar_pub_zlibread_ErrHeader)], narrowed := true }
def FnReaderAgainUptoSaid : Prop := fnReaderAgainUptoRow.holds Tryz.pinned (OpenSpec.upto fnReaderAgainSpec)

/-- 'laws.FnChecksum', WHERE WHAT IT READS IS OF BULK AT MOST 1048576: true; the input reads as it did. -/
def fnChecksumUptoRow : OpenClaim := { program := "ythfncdfcklbigaagreatdoor", sum := "c20d563fd4c6d4c9ec1d77df9815f6128656b31a8fe156148a8ec4fd7bfa2840", func := "crowbar/laws.FnChecksum", spec := "fnChecksum", inPlace := ["internal/reflectlite.TypeOf"], unfollowed := true, recurses := true, named := ["io.EOF", "io.ErrUnexpectedEOF", "encoding/binary.BigEndian", "crowbar/pub/zlibread.ErrHeader", "crowbar/pub/zlibread.ErrDictionary", "io.ErrShortBuffer", "crowbar/pub/inflate.codeOrder", "crowbar/pub/zlibread.ErrChecksum"], plainKeys := false, apart := false, laid := [("io.ErrShortBuffer", laid_io_ErrShortBuffer), ("io.EOF", laid_io_EOF), ("io.ErrUnexpectedEOF", laid_io_ErrUnexpectedEOF), ("crowbar/pub/inflate.codeOrder", laid_crowbar_pub_inflate_codeOrder), ("crowbar/pub/zlibread.ErrChecksum", laid_crowbar_pub_zlibread_ErrChecksum), ("crowbar/pub/zlibread.ErrDictionary", laid_crowbar_pub_zlibread_ErrDictionary), ("crowbar/pub/zlibread.ErrHeader", laid_crowbar_pub_zlibread_ErrHeader)], narrowed := true }
def FnChecksumUptoSaid : Prop := fnChecksumUptoRow.holds Tryz.pinned (OpenSpec.upto fnChecksumSpec)

/-- 'laws.FnHeader', WHERE WHAT IT READS IS OF BULK AT MOST 1048576: true; the input reads as it did. -/
def fnHeaderUptoRow : OpenClaim := { program := "ythfncdfcklbigaagreatdoor", sum := "c20d563fd4c6d4c9ec1d77df9815f6128656b31a8fe156148a8ec4fd7bfa2840", func := "crowbar/laws.FnHeader", spec := "fnHeader", inPlace := ["internal/reflectlite.TypeOf"], unfollowed := true, recurses := true, named := ["io.EOF", "io.ErrUnexpectedEOF", "encoding/binary.BigEndian", "crowbar/pub/zlibread.ErrHeader", "crowbar/pub/zlibread.ErrDictionary", "io.ErrShortBuffer", "crowbar/pub/inflate.codeOrder", "crowbar/pub/zlibread.ErrChecksum"], plainKeys := false, apart := false, laid := [("io.ErrShortBuffer", laid_io_ErrShortBuffer), ("io.EOF", laid_io_EOF), ("io.ErrUnexpectedEOF", laid_io_ErrUnexpectedEOF), ("crowbar/pub/inflate.codeOrder", laid_crowbar_pub_inflate_codeOrder), ("crowbar/pub/zlibread.ErrChecksum", laid_crowbar_pub_zlibread_ErrChecksum), ("crowbar/pub/zlibread.ErrDictionary", laid_crowbar_pub_zlibread_ErrDictionary), ("crowbar/pub/zlibread.ErrHeader", laid_crowbar_pub_zlibread_ErrHeader)], narrowed := true }
def FnHeaderUptoSaid : Prop := fnHeaderUptoRow.holds Tryz.pinned (OpenSpec.upto fnHeaderSpec)

/-- 'laws.FnIgnored', WHERE WHAT IT READS IS OF BULK AT MOST 1048576: true; the input reads as it did. -/
def fnIgnoredUptoRow : OpenClaim := { program := "ythfncdfcklbigaagreatdoor", sum := "c20d563fd4c6d4c9ec1d77df9815f6128656b31a8fe156148a8ec4fd7bfa2840", func := "crowbar/laws.FnIgnored", spec := "fnIgnored", inPlace := ["internal/reflectlite.TypeOf"], unfollowed := true, recurses := true, named := ["io.EOF", "io.ErrUnexpectedEOF", "encoding/binary.BigEndian", "crowbar/pub/zlibread.ErrHeader", "crowbar/pub/zlibread.ErrDictionary", "io.ErrShortBuffer", "crowbar/pub/inflate.codeOrder", "crowbar/pub/zlibread.ErrChecksum"], plainKeys := false, apart := false, laid := [("io.ErrShortBuffer", laid_io_ErrShortBuffer), ("io.EOF", laid_io_EOF), ("io.ErrUnexpectedEOF", laid_io_ErrUnexpectedEOF), ("crowbar/pub/inflate.codeOrder", laid_crowbar_pub_inflate_codeOrder), ("crowbar/pub/zlibread.ErrChecksum", laid_crowbar_pub_zlibread_ErrChecksum), ("crowbar/pub/zlibread.ErrDictionary", laid_crowbar_pub_zlibread_ErrDictionary), ("crowbar/pub/zlibread.ErrHeader", laid_crowbar_pub_zlibread_ErrHeader)], narrowed := true }
def FnIgnoredUptoSaid : Prop := fnIgnoredUptoRow.holds Tryz.pinned (OpenSpec.upto fnIgnoredSpec)

/-- 'laws.FnOtherDictionary', WHERE WHAT IT READS IS OF BULK AT MOST 1048576: true; the input reads as it did. -/
def fnOtherDictionaryUptoRow : OpenClaim := { program := "ythfncdfcklbigaagreatdoor", sum := "c20d563fd4c6d4c9ec1d77df9815f6128656b31a8fe156148a8ec4fd7bfa2840", func := "crowbar/laws.FnOtherDictionary", spec := "fnOtherDictionary", inPlace := ["internal/reflectlite.TypeOf"], unfollowed := true, recurses := true, named := ["io.EOF", "io.ErrUnexpectedEOF", "encoding/binary.BigEndian", "crowbar/pub/zlibread.ErrHeader", "crowbar/pub/zlibread.ErrDictionary", "io.ErrShortBuffer", "crowbar/pub/inflate.codeOrder", "crowbar/pub/zlibread.ErrChecksum"], plainKeys := false, apart := false, laid := [("io.ErrShortBuffer", laid_io_ErrShortBuffer), ("io.EOF", laid_io_EOF), ("io.ErrUnexpectedEOF", laid_io_ErrUnexpectedEOF), ("crowbar/pub/inflate.codeOrder", laid_crowbar_pub_inflate_codeOrder), ("crowbar/pub/zlibread.ErrChecksum", laid_crowbar_pub_zlibread_ErrChecksum), ("crowbar/pub/zlibread.ErrDictionary", laid_crowbar_pub_zlibread_ErrDictionary), ("crowbar/pub/zlibread.ErrHeader", laid_crowbar_pub_zlibread_ErrHeader)], narrowed := true }
def FnOtherDictionaryUptoSaid : Prop := fnOtherDictionaryUptoRow.holds Tryz.pinned (OpenSpec.upto fnOtherDictionarySpec)

/-- 'laws.FnRead', WHERE WHAT IT READS IS OF BULK AT MOST 1048576: true; the input reads as it did. -/
def fnReadUptoRow : OpenClaim := { program := "ythfncdfcklbigaagreatdoor", sum := "c20d563fd4c6d4c9ec1d77df9815f6128656b31a8fe156148a8ec4fd7bfa2840", func := "crowbar/laws.FnRead", spec := "fnRead", inPlace := ["internal/reflectlite.TypeOf"], unfollowed := true, recurses := true, named := ["io.EOF", "io.ErrUnexpectedEOF", "encoding/binary.BigEndian", "crowbar/pub/zlibread.ErrHeader", "crowbar/pub/zlibread.ErrDictionary", "io.ErrShortBuffer", "crowbar/pub/inflate.codeOrder", "crowbar/pub/zlibread.ErrChecksum"], plainKeys := false, apart := false, laid := [("io.ErrShortBuffer", laid_io_ErrShortBuffer), ("io.EOF", laid_io_EOF), ("io.ErrUnexpectedEOF", laid_io_ErrUnexpectedEOF), ("crowbar/pub/inflate.codeOrder", laid_crowbar_pub_inflate_codeOrder), ("crowbar/pub/zlibread.ErrChecksum", laid_crowbar_pub_zlibread_ErrChecksum), ("crowbar/pub/zlibread.ErrDictionary", laid_crowbar_pub_zlibread_ErrDictionary), ("crowbar/pub/zlibread.ErrHeader", laid_crowbar_pub_zlibread_ErrHeader)], narrowed := true }
def FnReadUptoSaid : Prop := fnReadUptoRow.holds Tryz.pinned (OpenSpec.upto fnReadSpec)

/-- 'laws.FnRest', WHERE WHAT IT READS IS OF BULK AT MOST 1048576: true; the input reads as it did. -/
def fnRestUptoRow : OpenClaim := { program := "ythfncdfcklbigaagreatdoor", sum := "c20d563fd4c6d4c9ec1d77df9815f6128656b31a8fe156148a8ec4fd7bfa2840", func := "crowbar/laws.FnRest", spec := "fnRest", inPlace := ["internal/reflectlite.TypeOf"], unfollowed := true, recurses := true, named := ["io.EOF", "io.ErrUnexpectedEOF", "encoding/binary.BigEndian", "crowbar/pub/zlibread.ErrHeader", "crowbar/pub/zlibread.ErrDictionary", "io.ErrShortBuffer", "crowbar/pub/inflate.codeOrder", "crowbar/pub/zlibread.ErrChecksum"], plainKeys := false, apart := false, laid := [("io.ErrShortBuffer", laid_io_ErrShortBuffer), ("io.EOF", laid_io_EOF), ("io.ErrUnexpectedEOF", laid_io_ErrUnexpectedEOF), ("crowbar/pub/inflate.codeOrder", laid_crowbar_pub_inflate_codeOrder), ("crowbar/pub/zlibread.ErrChecksum", laid_crowbar_pub_zlibread_ErrChecksum), ("crowbar/pub/zlibread.ErrDictionary", laid_crowbar_pub_zlibread_ErrDictionary), ("crowbar/pub/zlibread.ErrHeader", laid_crowbar_pub_zlibread_ErrHeader)], narrowed := true }
def FnRestUptoSaid : Prop := fnRestUptoRow.holds Tryz.pinned (OpenSpec.upto fnRestSpec)

/-- 'laws.FnSizes', WHERE WHAT IT READS IS OF BULK AT MOST 1048576: true; the input reads as it did. -/
def fnSizesUptoRow : OpenClaim := { program := "ythfncdfcklbigaagreatdoor", sum := "c20d563fd4c6d4c9ec1d77df9815f6128656b31a8fe156148a8ec4fd7bfa2840", func := "crowbar/laws.FnSizes", spec := "fnSizes", inPlace := ["internal/reflectlite.TypeOf"], unfollowed := true, recurses := true, named := ["io.EOF", "io.ErrUnexpectedEOF", "encoding/binary.BigEndian", "crowbar/pub/zlibread.ErrHeader", "crowbar/pub/zlibread.ErrDictionary", "io.ErrShortBuffer", "crowbar/pub/inflate.codeOrder", "crowbar/pub/zlibread.ErrChecksum"], plainKeys := false, apart := false, laid := [("io.ErrShortBuffer", laid_io_ErrShortBuffer), ("io.EOF", laid_io_EOF), ("io.ErrUnexpectedEOF", laid_io_ErrUnexpectedEOF), ("crowbar/pub/inflate.codeOrder", laid_crowbar_pub_inflate_codeOrder), ("crowbar/pub/zlibread.ErrChecksum", laid_crowbar_pub_zlibread_ErrChecksum), ("crowbar/pub/zlibread.ErrDictionary", laid_crowbar_pub_zlibread_ErrDictionary), ("crowbar/pub/zlibread.ErrHeader", laid_crowbar_pub_zlibread_ErrHeader)], narrowed := true }
def FnSizesUptoSaid : Prop := fnSizesUptoRow.holds Tryz.pinned (OpenSpec.upto fnSizesSpec)

/-- 'laws.FnStreamCut', WHERE WHAT IT READS IS OF BULK AT MOST 1048576: true; the input reads as it did. -/
def fnStreamCutUptoRow : OpenClaim := { program := "ythfncdfcklbigaagreatdoor", sum := "c20d563fd4c6d4c9ec1d77df9815f6128656b31a8fe156148a8ec4fd7bfa2840", func := "crowbar/laws.FnStreamCut", spec := "fnStreamCut", inPlace := ["internal/reflectlite.TypeOf"], unfollowed := true, recurses := true, named := ["io.EOF", "io.ErrUnexpectedEOF", "encoding/binary.BigEndian", "crowbar/pub/zlibread.ErrHeader", "crowbar/pub/zlibread.ErrDictionary", "io.ErrShortBuffer", "crowbar/pub/inflate.codeOrder", "crowbar/pub/zlibread.ErrChecksum"], plainKeys := false, apart := false, laid := [("io.ErrShortBuffer", laid_io_ErrShortBuffer), ("io.EOF", laid_io_EOF), ("io.ErrUnexpectedEOF", laid_io_ErrUnexpectedEOF), ("crowbar/pub/inflate.codeOrder", laid_crowbar_pub_inflate_codeOrder), ("crowbar/pub/zlibread.ErrChecksum", laid_crowbar_pub_zlibread_ErrChecksum), ("crowbar/pub/zlibread.ErrDictionary", laid_crowbar_pub_zlibread_ErrDictionary), ("crowbar/pub/zlibread.ErrHeader", laid_crowbar_pub_zlibread_ErrHeader)], narrowed := true }
def FnStreamCutUptoSaid : Prop := fnStreamCutUptoRow.holds Tryz.pinned (OpenSpec.upto fnStreamCutSpec)

end Rows
end Go.Proofs.YthfncdfcklbigaaGreatDoor
