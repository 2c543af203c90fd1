/-
  NARROWER THAN 'FOR EVERY INPUT', by the rows' own cells (each row's printed sentence says how): FnDictionaryInt32Between: loops, laid · FnDictionaryFloat64Read: loops, laid · FnDictionaryTextBetween: loops, laid.
  DERIVED. THE GIVEN ROWS OF THIS SEAT. 3 by the template 'for every input the law returns true; each argument reads behind the call as it read before'; 0 by the template 'total and deterministic' (their statements: YtmcjpnijldhelaaGreatDoorTotals.lean).
  GIVEN WITH THE SEED: the statements are not yours to turn. If you find one false, say at which input.
  Laid BY PROGRAM, IN A SANDBOX (cutbox-rows.mjs): the forced cells as the released guide's own fill.sh prints them over the translation 2684a616d5c29dd5… (all of the seat's roots in one cut). By AI agents, Wed Nov 11 2026. No macro, syntax, notation, axiom, sorry.
-/
import Derived.Test.YtmcjpnijldhelaaGreatDoorChecked
import GoSem.Claim
import GoSem.ClaimJoined
import GoSem.ClaimMapViews
import Derived.JoinedTies
import Derived.KernelRfl
namespace Go.Proofs.YtmcjpnijldhelaaGreatDoor
/- THE CELL 'sum', in the pinned program and in every row, IS THE sha256 OF THE DUMP (.gsa) THAT YtmcjpnijldhelaaGreatDoorProg.lean LOADS. Nothing in Lean hashes anything: it is a label: what it is worth is what the hold of that sum in a sandbox is worth. -/
noncomputable def Tryz.pinned : Pinned := { name := "ytmcjpnijldhelaagreatdoor", sum := "2684a616d5c29dd59737cacb57ed0f8837e4120fafb418738e2967554abfff2b", checked := Tryz.checked }
namespace Rows
def none {H : Type} : Left H := { results := [], args := [] }

/- WHAT THE LISTED PACKAGE-LEVEL VARIABLES READ AS WHEN THE CALL BEGINS. Each datum BY PROGRAM (the guide's laid-datum.mjs) off the statement by which the dump's own 'gosem.cut.vars' lays the variable. In a bare row this is a premise. The card (YtmcjpnijldhelaaGreatDoorCards.lean) ties it to the program's text. -/
def laid_io_ErrShortBuffer {H : Type} : DataW H := .iface "*errors.errorString" (.ptr (.agg [.lit (.string [115, 104, 111, 114, 116, 32, 98, 117, 102, 102, 101, 114])]))
def laid_io_EOF {H : Type} : DataW H := .iface "*errors.errorString" (.ptr (.agg [.lit (.string [69, 79, 70])]))
def laid_io_ErrUnexpectedEOF {H : Type} : DataW H := .iface "*errors.errorString" (.ptr (.agg [.lit (.string [117, 110, 101, 120, 112, 101, 99, 116, 101, 100, 32, 69, 79, 70])]))
def laid_encoding_binary_errOverflow {H : Type} : DataW H := .iface "*errors.errorString" (.ptr (.agg [.lit (.string [98, 105, 110, 97, 114, 121, 58, 32, 118, 97, 114, 105, 110, 116, 32, 111, 118, 101, 114, 102, 108, 111, 119, 115, 32, 97, 32, 54, 52, 45, 98, 105, 116, 32, 105, 110, 116, 101, 103, 101, 114])]))
def laid_given_example_pub_arrowroot_pub_arrow_arrow_bitutil_BitMask {H : Type} : DataW H := .agg [.lit (.int .u8 1), .lit (.int .u8 2), .lit (.int .u8 4), .lit (.int .u8 8), .lit (.int .u8 16), .lit (.int .u8 32), .lit (.int .u8 64), .lit (.int .u8 128)]
def laid_given_example_pub_arrowroot_pub_arrow_arrow_bitutil_FlippedBitMask {H : Type} : DataW H := .agg [.lit (.int .u8 254), .lit (.int .u8 253), .lit (.int .u8 251), .lit (.int .u8 247), .lit (.int .u8 239), .lit (.int .u8 223), .lit (.int .u8 191), .lit (.int .u8 127)]

/-- 'laws.FnDictionaryInt32Between': WHATEVER THE INPUT: true; the input reads as it did. -/
def fnDictionaryInt32BetweenSpec : ChangeSpec := { name := "fnDictionaryInt32Between", vars := ["given.example/pub-arrowroot/pub/arrow/arrow/bitutil.BitMask", "given.example/pub-arrowroot/pub/arrow/arrow/bitutil.FlippedBitMask"], fn := fun _ => fun
  | [d1, d2, d3, d4, d5, d6, g1, g2] => { results := [.lit (.bool true)], args := [d1, d2, d3, d4, d5, d6], vars := [g1, g2] }
  | _ => none }
def fnDictionaryInt32BetweenRow : OpenClaim := { program := "ytmcjpnijldhelaagreatdoor", sum := "2684a616d5c29dd59737cacb57ed0f8837e4120fafb418738e2967554abfff2b", func := "given.example/pub-arrowroot/laws.FnDictionaryInt32Between", spec := "fnDictionaryInt32Between", inPlace := ["math.Float64bits", "math.Float64frombits", "math.Float32frombits"], unfollowed := true, recurses := true, named := ["io.ErrUnexpectedEOF", "io.EOF", "encoding/binary.LittleEndian", "io.ErrShortBuffer", "encoding/binary.errOverflow", "given.example/pub-arrowroot/pub/arrow/arrow/bitutil.BitMask", "given.example/pub-arrowroot/pub/arrow/arrow/bitutil.FlippedBitMask"], loops := true, apart := false, laid := [("io.ErrShortBuffer", laid_io_ErrShortBuffer), ("io.EOF", laid_io_EOF), ("io.ErrUnexpectedEOF", laid_io_ErrUnexpectedEOF), ("encoding/binary.errOverflow", laid_encoding_binary_errOverflow), ("given.example/pub-arrowroot/pub/arrow/arrow/bitutil.BitMask", laid_given_example_pub_arrowroot_pub_arrow_arrow_bitutil_BitMask), ("given.example/pub-arrowroot/pub/arrow/arrow/bitutil.FlippedBitMask", laid_given_example_pub_arrowroot_pub_arrow_arrow_bitutil_FlippedBitMask)] }
def FnDictionaryInt32BetweenSaid : Prop := fnDictionaryInt32BetweenRow.holds Tryz.pinned (OpenSpec.ofChange fnDictionaryInt32BetweenSpec)

/-- ITS FALSE NEIGHBOUR: 'it returns false'. Refute it at one input. -/
def fnDictionaryInt32BetweenWrong : ChangeSpec := { name := "fnDictionaryInt32Between", vars := ["given.example/pub-arrowroot/pub/arrow/arrow/bitutil.BitMask", "given.example/pub-arrowroot/pub/arrow/arrow/bitutil.FlippedBitMask"], fn := fun _ => fun
  | [d1, d2, d3, d4, d5, d6, g1, g2] => { results := [.lit (.bool false)], args := [d1, d2, d3, d4, d5, d6], vars := [g1, g2] }
  | _ => none }
def FnDictionaryInt32BetweenWrongFalsely : Prop := fnDictionaryInt32BetweenRow.holds Tryz.pinned (OpenSpec.ofChange fnDictionaryInt32BetweenWrong)

/-- 'laws.FnDictionaryFloat64Read': WHATEVER THE INPUT: true; the input reads as it did. -/
def fnDictionaryFloat64ReadSpec : ChangeSpec := { name := "fnDictionaryFloat64Read", fn := fun _ => fun
  | [d1, d2, d3, d4] => { results := [.lit (.bool true)], args := [d1, d2, d3, d4] }
  | _ => none }
def fnDictionaryFloat64ReadRow : OpenClaim := { program := "ytmcjpnijldhelaagreatdoor", sum := "2684a616d5c29dd59737cacb57ed0f8837e4120fafb418738e2967554abfff2b", func := "given.example/pub-arrowroot/laws.FnDictionaryFloat64Read", spec := "fnDictionaryFloat64Read", inPlace := ["math.Float64bits", "math.Float64frombits", "math.Float32frombits"], unfollowed := true, recurses := true, named := ["io.ErrUnexpectedEOF", "io.EOF", "encoding/binary.LittleEndian", "io.ErrShortBuffer", "encoding/binary.errOverflow"], loops := true, apart := false, laid := [("io.ErrShortBuffer", laid_io_ErrShortBuffer), ("io.EOF", laid_io_EOF), ("io.ErrUnexpectedEOF", laid_io_ErrUnexpectedEOF), ("encoding/binary.errOverflow", laid_encoding_binary_errOverflow)] }
def FnDictionaryFloat64ReadSaid : Prop := fnDictionaryFloat64ReadRow.holds Tryz.pinned (OpenSpec.ofChange fnDictionaryFloat64ReadSpec)

/-- ITS FALSE NEIGHBOUR: 'it returns false'. Refute it at one input. -/
def fnDictionaryFloat64ReadWrong : ChangeSpec := { name := "fnDictionaryFloat64Read", fn := fun _ => fun
  | [d1, d2, d3, d4] => { results := [.lit (.bool false)], args := [d1, d2, d3, d4] }
  | _ => none }
def FnDictionaryFloat64ReadWrongFalsely : Prop := fnDictionaryFloat64ReadRow.holds Tryz.pinned (OpenSpec.ofChange fnDictionaryFloat64ReadWrong)

/-- 'laws.FnDictionaryTextBetween': WHATEVER THE INPUT: true; the input reads as it did. -/
def fnDictionaryTextBetweenSpec : ChangeSpec := { name := "fnDictionaryTextBetween", vars := ["given.example/pub-arrowroot/pub/arrow/arrow/bitutil.BitMask", "given.example/pub-arrowroot/pub/arrow/arrow/bitutil.FlippedBitMask"], fn := fun _ => fun
  | [d1, d2, d3, d4, d5, d6, g1, g2] => { results := [.lit (.bool true)], args := [d1, d2, d3, d4, d5, d6], vars := [g1, g2] }
  | _ => none }
def fnDictionaryTextBetweenRow : OpenClaim := { program := "ytmcjpnijldhelaagreatdoor", sum := "2684a616d5c29dd59737cacb57ed0f8837e4120fafb418738e2967554abfff2b", func := "given.example/pub-arrowroot/laws.FnDictionaryTextBetween", spec := "fnDictionaryTextBetween", inPlace := ["math.Float64bits", "math.Float64frombits", "math.Float32frombits"], unfollowed := true, recurses := true, named := ["io.ErrUnexpectedEOF", "io.EOF", "encoding/binary.LittleEndian", "io.ErrShortBuffer", "encoding/binary.errOverflow", "given.example/pub-arrowroot/pub/arrow/arrow/bitutil.BitMask", "given.example/pub-arrowroot/pub/arrow/arrow/bitutil.FlippedBitMask"], loops := true, apart := false, laid := [("io.ErrShortBuffer", laid_io_ErrShortBuffer), ("io.EOF", laid_io_EOF), ("io.ErrUnexpectedEOF", laid_io_ErrUnexpectedEOF), ("encoding/binary.errOverflow", laid_encoding_binary_errOverflow), ("given.example/pub-arrowroot/pub/arrow/arrow/bitutil.BitMask", laid_given_example_pub_arrowroot_pub_arrow_arrow_bitutil_BitMask), ("given.example/pub-arrowroot/pub/arrow/arrow/bitutil.FlippedBitMask", laid_given_example_pub_arrowroot_pub_arrow_arrow_bitutil_FlippedBitMask)] }
def FnDictionaryTextBetweenSaid : Prop := fnDictionaryTextBetweenRow.holds Tryz.pinned (OpenSpec.ofChange fnDictionaryTextBetweenSpec)

/-- ITS FALSE NEIGHBOUR: 'it returns false'. Refute it at one input. -/
def fnDictionaryTextBetweenWrong : ChangeSpec := { name := "fnDictionaryTextBetween", vars := ["given.example/pub-arrowroot/pub/arrow/arrow/bitutil.BitMask", "given.example/pub-arrowroot/pub/arrow/arrow/bitutil.FlippedBitMask"], fn := fun _ => fun
  | [d1, d2, d3, d4, d5, d6, g1, g2] => { results := [.lit (.bool false)], args := [d1, d2, d3, d4, d5, d6], vars := [g1, g2] }
  | _ => none }
def FnDictionaryTextBetweenWrongFalsely : Prop := fnDictionaryTextBetweenRow.holds Tryz.pinned (OpenSpec.ofChange fnDictionaryTextBetweenWrong)

/- THE SECOND FORM. 'bulk': how many values and letters a reading holds, each counted each time it is reached (what is shared counts as often as it is met; a slice's spare places count too). A statement '..UptoSaid' is the law's where the arguments, and the package variables that the reading takes, are together of bulk at most 1048576: NARROWER than '..Said'. Prove '..Said' where nothing that the law and all that it calls make is longer than what came in: it says more and counts as full. Else prove '..UptoSaid'. A law counts once. -/
mutual
def uptoBulk {H : Type} : DataW H → Nat
  | .lit (.string bytes) => bytes.length + 1
  | .lit _ => 1
  | .nil => 1
  | .ptr d => uptoBulk d + 1
  | .slice elems spare => uptoBulkAll elems + uptoBulkAll spare + 1
  | .agg parts => uptoBulkAll parts + 1
  | .iface _ d => uptoBulk d + 1
  | .map entries => uptoBulkEntries entries + 1
  | .held _ => 1
def uptoBulkAll {H : Type} : List (DataW H) → Nat
  | [] => 0
  | d :: r => uptoBulk d + uptoBulkAll r
def uptoBulkEntries {H : Type} : List (Lit × DataW H) → Nat
  | [] => 0
  | x :: r => uptoBulkEntry x + uptoBulkEntries r
def uptoBulkEntry {H : Type} : Lit × DataW H → Nat
  | (.string bytes, d) => bytes.length + uptoBulk d + 1
  | (_, d) => uptoBulk d + 1
 end
def uptoSmall : (H : Type) → List (DataW H) → Bool := fun _ ds => decide (uptoBulkAll ds ≤ 1048576)
def OpenSpec.upto (s : _root_.Go.ChangeSpec) : _root_.Go.OpenSpec := { _root_.Go.OpenSpec.ofChange s with cond := some uptoSmall }

/-- 'laws.FnDictionaryInt32Between', WHERE WHAT IT READS IS OF BULK AT MOST 1048576: true; the input reads as it did. -/
def fnDictionaryInt32BetweenUptoRow : OpenClaim := { program := "ytmcjpnijldhelaagreatdoor", sum := "2684a616d5c29dd59737cacb57ed0f8837e4120fafb418738e2967554abfff2b", func := "given.example/pub-arrowroot/laws.FnDictionaryInt32Between", spec := "fnDictionaryInt32Between", inPlace := ["math.Float64bits", "math.Float64frombits", "math.Float32frombits"], unfollowed := true, recurses := true, named := ["io.ErrUnexpectedEOF", "io.EOF", "encoding/binary.LittleEndian", "io.ErrShortBuffer", "encoding/binary.errOverflow", "given.example/pub-arrowroot/pub/arrow/arrow/bitutil.BitMask", "given.example/pub-arrowroot/pub/arrow/arrow/bitutil.FlippedBitMask"], loops := true, apart := false, laid := [("io.ErrShortBuffer", laid_io_ErrShortBuffer), ("io.EOF", laid_io_EOF), ("io.ErrUnexpectedEOF", laid_io_ErrUnexpectedEOF), ("encoding/binary.errOverflow", laid_encoding_binary_errOverflow), ("given.example/pub-arrowroot/pub/arrow/arrow/bitutil.BitMask", laid_given_example_pub_arrowroot_pub_arrow_arrow_bitutil_BitMask), ("given.example/pub-arrowroot/pub/arrow/arrow/bitutil.FlippedBitMask", laid_given_example_pub_arrowroot_pub_arrow_arrow_bitutil_FlippedBitMask)], narrowed := true }
def FnDictionaryInt32BetweenUptoSaid : Prop := fnDictionaryInt32BetweenUptoRow.holds Tryz.pinned (OpenSpec.upto fnDictionaryInt32BetweenSpec)

/-- 'laws.FnDictionaryFloat64Read', WHERE WHAT IT READS IS OF BULK AT MOST 1048576: true; the input reads as it did. -/
def fnDictionaryFloat64ReadUptoRow : OpenClaim := { program := "ytmcjpnijldhelaagreatdoor", sum := "2684a616d5c29dd59737cacb57ed0f8837e4120fafb418738e2967554abfff2b", func := "given.example/pub-arrowroot/laws.FnDictionaryFloat64Read", spec := "fnDictionaryFloat64Read", inPlace := ["math.Float64bits", "math.Float64frombits", "math.Float32frombits"], unfollowed := true, recurses := true, named := ["io.ErrUnexpectedEOF", "io.EOF", "encoding/binary.LittleEndian", "io.ErrShortBuffer", "encoding/binary.errOverflow"], loops := true, apart := false, laid := [("io.ErrShortBuffer", laid_io_ErrShortBuffer), ("io.EOF", laid_io_EOF), ("io.ErrUnexpectedEOF", laid_io_ErrUnexpectedEOF), ("encoding/binary.errOverflow", laid_encoding_binary_errOverflow)], narrowed := true }
def FnDictionaryFloat64ReadUptoSaid : Prop := fnDictionaryFloat64ReadUptoRow.holds Tryz.pinned (OpenSpec.upto fnDictionaryFloat64ReadSpec)

/-- 'laws.FnDictionaryTextBetween', WHERE WHAT IT READS IS OF BULK AT MOST 1048576: true; the input reads as it did. -/
def fnDictionaryTextBetweenUptoRow : OpenClaim := { program := "ytmcjpnijldhelaagreatdoor", sum := "2684a616d5c29dd59737cacb57ed0f8837e4120fafb418738e2967554abfff2b", func := "given.example/pub-arrowroot/laws.FnDictionaryTextBetween", spec := "fnDictionaryTextBetween", inPlace := ["math.Float64bits", "math.Float64frombits", "math.Float32frombits"], unfollowed := true, recurses := true, named := ["io.ErrUnexpectedEOF", "io.EOF", "encoding/binary.LittleEndian", "io.ErrShortBuffer", "encoding/binary.errOverflow", "given.example/pub-arrowroot/pub/arrow/arrow/bitutil.BitMask", "given.example/pub-arrowroot/pub/arrow/arrow/bitutil.FlippedBitMask"], loops := true, apart := false, laid := [("io.ErrShortBuffer", laid_io_ErrShortBuffer), ("io.EOF", laid_io_EOF), ("io.ErrUnexpectedEOF", laid_io_ErrUnexpectedEOF), ("encoding/binary.errOverflow", laid_encoding_binary_errOverflow), ("given.example/pub-arrowroot/pub/arrow/arrow/bitutil.BitMask", laid_given_example_pub_arrowroot_pub_arrow_arrow_bitutil_BitMask), ("given.example/pub-arrowroot/pub/arrow/arrow/bitutil.FlippedBitMask", laid_given_example_pub_arrowroot_pub_arrow_arrow_bitutil_FlippedBitMask)], narrowed := true }
def FnDictionaryTextBetweenUptoSaid : Prop := fnDictionaryTextBetweenUptoRow.holds Tryz.pinned (OpenSpec.upto fnDictionaryTextBetweenSpec)

end Rows
end Go.Proofs.YtmcjpnijldhelaaGreatDoor
