/-
  NARROWER THAN 'FOR EVERY INPUT', by the rows' own cells (each row's printed sentence says how): FnRleRead: laid.
  DERIVED. THE GIVEN ROWS OF THIS SEAT. 1 by the template 'for every input the law returns true; each argument reads behind the call as it read before'; 0 by the template 'total and deterministic' (their statements: YtameepdbnnaaaaaGreatDoorTotals.lean).
  GIVEN WITH THE SEED: the statements are not yours to turn. If you find one false, say at which input.
  Laid BY PROGRAM, IN A SANDBOX (cutbox-rows.mjs): the forced cells as the released guide's own fill.sh prints them over the translation db8c08b66d11c8cb… (all of the seat's roots in one cut). By AI agents, Wed Nov 11 2026. No macro, syntax, notation, axiom, sorry.
-/
import Derived.Test.YtameepdbnnaaaaaGreatDoorChecked
import GoSem.Claim
import GoSem.ClaimJoined
import GoSem.ClaimMapViews
import Derived.JoinedTies
import Derived.KernelRfl
namespace Go.Proofs.YtameepdbnnaaaaaGreatDoor
/- THE CELL 'sum', in the pinned program and in every row, IS THE sha256 OF THE DUMP (.gsa) THAT YtameepdbnnaaaaaGreatDoorProg.lean LOADS. Nothing in Lean hashes anything: it is a label: what it is worth is what the hold of that sum in a sandbox is worth. -/
noncomputable def Tryz.pinned : Pinned := { name := "ytameepdbnnaaaaagreatdoor", sum := "db8c08b66d11c8cbcfff5b2e7334c6b812dbc2b3390d5ded60ea12606cfb37fa", checked := Tryz.checked }
namespace Rows
def none {H : Type} : Left H := { results := [], args := [] }

/- WHAT THE LISTED PACKAGE-LEVEL VARIABLES READ AS WHEN THE CALL BEGINS. Each datum BY PROGRAM (the guide's laid-datum.mjs) off the statement by which the dump's own 'gosem.cut.vars' lays the variable. In a bare row this is a premise. The card (YtameepdbnnaaaaaGreatDoorCards.lean) ties it to the program's text. -/
def laid_io_ErrShortBuffer {H : Type} : DataW H := .iface "*errors.errorString" (.ptr (.agg [.lit (.string [115, 104, 111, 114, 116, 32, 98, 117, 102, 102, 101, 114])]))
def laid_io_EOF {H : Type} : DataW H := .iface "*errors.errorString" (.ptr (.agg [.lit (.string [69, 79, 70])]))
def laid_io_ErrUnexpectedEOF {H : Type} : DataW H := .iface "*errors.errorString" (.ptr (.agg [.lit (.string [117, 110, 101, 120, 112, 101, 99, 116, 101, 100, 32, 69, 79, 70])]))
def laid_encoding_binary_errOverflow {H : Type} : DataW H := .iface "*errors.errorString" (.ptr (.agg [.lit (.string [98, 105, 110, 97, 114, 121, 58, 32, 118, 97, 114, 105, 110, 116, 32, 111, 118, 101, 114, 102, 108, 111, 119, 115, 32, 97, 32, 54, 52, 45, 98, 105, 116, 32, 105, 110, 116, 101, 103, 101, 114])]))
def laid_given_example_pub_arrowroot_pub_arrow_arrow_bitutil_BitMask {H : Type} : DataW H := .agg [.lit (.int .u8 1), .lit (.int .u8 2), .lit (.int .u8 4), .lit (.int .u8 8), .lit (.int .u8 16), .lit (.int .u8 32), .lit (.int .u8 64), .lit (.int .u8 128)]
def laid_given_example_pub_arrowroot_pub_arrow_arrow_bitutil_FlippedBitMask {H : Type} : DataW H := .agg [.lit (.int .u8 254), .lit (.int .u8 253), .lit (.int .u8 251), .lit (.int .u8 247), .lit (.int .u8 239), .lit (.int .u8 223), .lit (.int .u8 191), .lit (.int .u8 127)]
def laid_given_example_pub_arrowroot_pub_arrow_arrow_bitutil_PrecedingBitmask {H : Type} : DataW H := .agg [.lit (.int .u8 0), .lit (.int .u8 1), .lit (.int .u8 3), .lit (.int .u8 7), .lit (.int .u8 15), .lit (.int .u8 31), .lit (.int .u8 63), .lit (.int .u8 127)]
def laid_given_example_pub_arrowroot_pub_arrow_arrow_bitutil_TrailingBitmask {H : Type} : DataW H := .agg [.lit (.int .u8 255), .lit (.int .u8 254), .lit (.int .u8 252), .lit (.int .u8 248), .lit (.int .u8 240), .lit (.int .u8 224), .lit (.int .u8 192), .lit (.int .u8 128)]

/-- 'laws.FnRleRead': WHATEVER THE INPUT: true; the input reads as it did. -/
def fnRleReadSpec : ChangeSpec := { name := "fnRleRead", vars := ["given.example/pub-arrowroot/pub/arrow/arrow/bitutil.PrecedingBitmask", "given.example/pub-arrowroot/pub/arrow/arrow/bitutil.TrailingBitmask", "given.example/pub-arrowroot/pub/arrow/arrow/bitutil.BitMask", "given.example/pub-arrowroot/pub/arrow/arrow/bitutil.FlippedBitMask"], fn := fun _ => fun
  | [d1, d2, d3, d4, g1, g2, g3, g4] => { results := [.lit (.bool true)], args := [d1, d2, d3, d4], vars := [g1, g2, g3, g4] }
  | _ => none }
def fnRleReadRow : OpenClaim := { program := "ytameepdbnnaaaaagreatdoor", sum := "db8c08b66d11c8cbcfff5b2e7334c6b812dbc2b3390d5ded60ea12606cfb37fa", func := "given.example/pub-arrowroot/laws.FnRleRead", spec := "fnRleRead", unfollowed := true, recurses := true, named := ["io.ErrUnexpectedEOF", "io.EOF", "encoding/binary.LittleEndian", "encoding/binary.errOverflow", "io.ErrShortBuffer", "given.example/pub-arrowroot/pub/arrow/arrow/bitutil.PrecedingBitmask", "given.example/pub-arrowroot/pub/arrow/arrow/bitutil.TrailingBitmask", "given.example/pub-arrowroot/pub/arrow/arrow/bitutil.BitMask", "given.example/pub-arrowroot/pub/arrow/arrow/bitutil.FlippedBitMask"], apart := false, laid := [("io.ErrShortBuffer", laid_io_ErrShortBuffer), ("io.EOF", laid_io_EOF), ("io.ErrUnexpectedEOF", laid_io_ErrUnexpectedEOF), ("encoding/binary.errOverflow", laid_encoding_binary_errOverflow), ("given.example/pub-arrowroot/pub/arrow/arrow/bitutil.BitMask", laid_given_example_pub_arrowroot_pub_arrow_arrow_bitutil_BitMask), ("given.example/pub-arrowroot/pub/arrow/arrow/bitutil.FlippedBitMask", laid_given_example_pub_arrowroot_pub_arrow_arrow_bitutil_FlippedBitMask), ("given.example/pub-arrowroot/pub/arrow/arrow/bitutil.PrecedingBitmask", laid_given_example_pub_arrowroot_pub_arrow_arrow_bitutil_PrecedingBitmask), ("given.example/pub-arrowroot/pub/arrow/arrow/bitutil.TrailingBitmask", laid_given_example_pub_arrowroot_pub_arrow_arrow_bitutil_TrailingBitmask)] }
def FnRleReadSaid : Prop := fnRleReadRow.holds Tryz.pinned (OpenSpec.ofChange fnRleReadSpec)

/-- ITS FALSE NEIGHBOUR: 'it returns false'. Refute it at one input. -/
def fnRleReadWrong : ChangeSpec := { name := "fnRleRead", vars := ["given.example/pub-arrowroot/pub/arrow/arrow/bitutil.PrecedingBitmask", "given.example/pub-arrowroot/pub/arrow/arrow/bitutil.TrailingBitmask", "given.example/pub-arrowroot/pub/arrow/arrow/bitutil.BitMask", "given.example/pub-arrowroot/pub/arrow/arrow/bitutil.FlippedBitMask"], fn := fun _ => fun
  | [d1, d2, d3, d4, g1, g2, g3, g4] => { results := [.lit (.bool false)], args := [d1, d2, d3, d4], vars := [g1, g2, g3, g4] }
  | _ => none }
def FnRleReadWrongFalsely : Prop := fnRleReadRow.holds Tryz.pinned (OpenSpec.ofChange fnRleReadWrong)

/- THE SECOND FORM. 'bulk': how many values and letters a reading holds, each counted each time it is reached (what is shared counts as often as it is met; a slice's spare places count too). A statement '..UptoSaid' is the law's where the arguments, and the package variables that the reading takes, are together of bulk at most 1048576: NARROWER than '..Said'. Prove '..Said' where nothing that the law and all that it calls make is longer than what came in: it says more and counts as full. Else prove '..UptoSaid'. A law counts once. -/
mutual
def uptoBulk {H : Type} : DataW H → Nat
  | .lit (.string bytes) => bytes.length + 1
  | .lit _ => 1
  | .nil => 1
  | .ptr d => uptoBulk d + 1
  | .slice elems spare => uptoBulkAll elems + uptoBulkAll spare + 1
  | .agg parts => uptoBulkAll parts + 1
  | .iface _ d => uptoBulk d + 1
  | .map entries => uptoBulkEntries entries + 1
  | .held _ => 1
def uptoBulkAll {H : Type} : List (DataW H) → Nat
  | [] => 0
  | d :: r => uptoBulk d + uptoBulkAll r
def uptoBulkEntries {H : Type} : List (Lit × DataW H) → Nat
  | [] => 0
  | x :: r => uptoBulkEntry x + uptoBulkEntries r
def uptoBulkEntry {H : Type} : Lit × DataW H → Nat
  | (.string bytes, d) => bytes.length + uptoBulk d + 1
  | (_, d) => uptoBulk d + 1
 end
def uptoSmall : (H : Type) → List (DataW H) → Bool := fun _ ds => decide (uptoBulkAll ds ≤ 1048576)
def OpenSpec.upto (s : _root_.Go.ChangeSpec) : _root_.Go.OpenSpec := { _root_.Go.OpenSpec.ofChange s with cond := some uptoSmall }

/-- 'laws.FnRleRead', WHERE WHAT IT READS IS OF BULK AT MOST 1048576: true; the input reads as it did. -/
def fnRleReadUptoRow : OpenClaim := { program := "ytameepdbnnaaaaagreatdoor", sum := "db8c08b66d11c8cbcfff5b2e7334c6b812dbc2b3390d5ded60ea12606cfb37fa", func := "given.example/pub-arrowroot/laws.FnRleRead", spec := "fnRleRead", unfollowed := true, recurses := true, named := ["io.ErrUnexpectedEOF", "io.EOF", "encoding/binary.LittleEndian", "encoding/binary.errOverflow", "io.ErrShortBuffer", "given.example/pub-arrowroot/pub/arrow/arrow/bitutil.PrecedingBitmask", "given.example/pub-arrowroot/pub/arrow/arrow/bitutil.TrailingBitmask", "given.example/pub-arrowroot/pub/arrow/arrow/bitutil.BitMask", "given.example/pub-arrowroot/pub/arrow/arrow/bitutil.FlippedBitMask"], apart := false, laid := [("io.ErrShortBuffer", laid_io_ErrShortBuffer), ("io.EOF", laid_io_EOF), ("io.ErrUnexpectedEOF", laid_io_ErrUnexpectedEOF), ("encoding/binary.errOverflow", laid_encoding_binary_errOverflow), ("given.example/pub-arrowroot/pub/arrow/arrow/bitutil.BitMask", laid_given_example_pub_arrowroot_pub_arrow_arrow_bitutil_BitMask), ("given.example/pub-arrowroot/pub/arrow/arrow/bitutil.FlippedBitMask", laid_given_example_pub_arrowroot_pub_arrow_arrow_bitutil_FlippedBitMask), ("given.example/pub-arrowroot/pub/arrow/arrow/bitutil.PrecedingBitmask", laid_given_example_pub_arrowroot_pub_arrow_arrow_bitutil_PrecedingBitmask), ("given.example/pub-arrowroot/pub/arrow/arrow/bitutil.TrailingBitmask", laid_given_example_pub_arrowroot_pub_arrow_arrow_bitutil_TrailingBitmask)], narrowed := true }
def FnRleReadUptoSaid : Prop := fnRleReadUptoRow.holds Tryz.pinned (OpenSpec.upto fnRleReadSpec)

end Rows
end Go.Proofs.YtameepdbnnaaaaaGreatDoor
