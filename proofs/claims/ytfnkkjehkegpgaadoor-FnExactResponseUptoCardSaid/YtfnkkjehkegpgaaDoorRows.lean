/-
  NARROWER THAN 'FOR EVERY INPUT', by the rows' own cells (each row's printed sentence says how): FnExactResponse: ifaces, laid · FnBadCode: laid · FnExactCode: laid · FnExactCodeLine: ifaces, laid · FnMany: ifaces, laid.
  DERIVED. THE GIVEN ROWS OF THIS SEAT. 5 by the template 'for every input the law returns true; each argument reads behind the call as it read before'; 0 by the template 'total and deterministic' (their statements: YtfnkkjehkegpgaaDoorTotals.lean).
  GIVEN WITH THE SEED: the statements are not yours to turn. If you find one false, say at which input.
  Laid BY PROGRAM, IN A SANDBOX (cutbox-rows.mjs): the forced cells as the released guide's own fill.sh prints them over the translation 06d03adef574399d… (all of the seat's roots in one cut). By AI agents, Wed Nov 11 2026. No macro, syntax, notation, axiom, sorry.
-/
import Derived.Test.YtfnkkjehkegpgaaDoorChecked
import GoSem.Claim
import GoSem.ClaimJoined
import GoSem.ClaimMapViews
import Derived.JoinedTies
import Derived.KernelRfl
namespace Go.Proofs.YtfnkkjehkegpgaaDoor
/- THE CELL 'sum', in the pinned program and in every row, IS THE sha256 OF THE DUMP (.gsa) THAT YtfnkkjehkegpgaaDoorProg.lean LOADS. Nothing in Lean hashes anything: it is a label: what it is worth is what the hold of that sum in a sandbox is worth. -/
noncomputable def Tryd.pinned : Pinned := { name := "ytfnkkjehkegpgaadoor", sum := "06d03adef574399d3008e0ecf581811e91ad2a86edf692d74549b2adaa5e4c2c", checked := Tryd.checked }
namespace Rows
def none {H : Type} : Left H := { results := [], args := [] }

/- WHAT THE LISTED PACKAGE-LEVEL VARIABLES READ AS WHEN THE CALL BEGINS. Each datum BY PROGRAM (the guide's laid-datum.mjs) off the statement by which the dump's own 'gosem.cut.vars' lays the variable. In a bare row this is a premise. The card (YtfnkkjehkegpgaaDoorCards.lean) ties it to the program's text. -/
def laid_math_bits_deBruijn32tab {H : Type} : DataW H := .agg [.lit (.int .u8 0), .lit (.int .u8 1), .lit (.int .u8 28), .lit (.int .u8 2), .lit (.int .u8 29), .lit (.int .u8 14), .lit (.int .u8 24), .lit (.int .u8 3), .lit (.int .u8 30), .lit (.int .u8 22), .lit (.int .u8 20), .lit (.int .u8 15), .lit (.int .u8 25), .lit (.int .u8 17), .lit (.int .u8 4), .lit (.int .u8 8), .lit (.int .u8 31), .lit (.int .u8 27), .lit (.int .u8 13), .lit (.int .u8 23), .lit (.int .u8 21), .lit (.int .u8 19), .lit (.int .u8 16), .lit (.int .u8 7), .lit (.int .u8 26), .lit (.int .u8 12), .lit (.int .u8 18), .lit (.int .u8 6), .lit (.int .u8 11), .lit (.int .u8 5), .lit (.int .u8 10), .lit (.int .u8 9)]
def laid_math_bits_deBruijn64tab {H : Type} : DataW H := .agg [.lit (.int .u8 0), .lit (.int .u8 1), .lit (.int .u8 56), .lit (.int .u8 2), .lit (.int .u8 57), .lit (.int .u8 49), .lit (.int .u8 28), .lit (.int .u8 3), .lit (.int .u8 61), .lit (.int .u8 58), .lit (.int .u8 42), .lit (.int .u8 50), .lit (.int .u8 38), .lit (.int .u8 29), .lit (.int .u8 17), .lit (.int .u8 4), .lit (.int .u8 62), .lit (.int .u8 47), .lit (.int .u8 59), .lit (.int .u8 36), .lit (.int .u8 45), .lit (.int .u8 43), .lit (.int .u8 51), .lit (.int .u8 22), .lit (.int .u8 53), .lit (.int .u8 39), .lit (.int .u8 33), .lit (.int .u8 30), .lit (.int .u8 24), .lit (.int .u8 18), .lit (.int .u8 12), .lit (.int .u8 5), .lit (.int .u8 63), .lit (.int .u8 55), .lit (.int .u8 48), .lit (.int .u8 27), .lit (.int .u8 60), .lit (.int .u8 41), .lit (.int .u8 37), .lit (.int .u8 16), .lit (.int .u8 46), .lit (.int .u8 35), .lit (.int .u8 44), .lit (.int .u8 21), .lit (.int .u8 52), .lit (.int .u8 32), .lit (.int .u8 23), .lit (.int .u8 11), .lit (.int .u8 54), .lit (.int .u8 26), .lit (.int .u8 40), .lit (.int .u8 15), .lit (.int .u8 34), .lit (.int .u8 20), .lit (.int .u8 31), .lit (.int .u8 10), .lit (.int .u8 25), .lit (.int .u8 14), .lit (.int .u8 19), .lit (.int .u8 9), .lit (.int .u8 13), .lit (.int .u8 8), .lit (.int .u8 7), .lit (.int .u8 6)]
def laid_internal_strconv_uint64pow10 {H : Type} : DataW H := .agg [.lit (.int .u64 1), .lit (.int .u64 10), .lit (.int .u64 100), .lit (.int .u64 1000), .lit (.int .u64 10000), .lit (.int .u64 100000), .lit (.int .u64 1000000), .lit (.int .u64 10000000), .lit (.int .u64 100000000), .lit (.int .u64 1000000000), .lit (.int .u64 10000000000), .lit (.int .u64 100000000000), .lit (.int .u64 1000000000000), .lit (.int .u64 10000000000000), .lit (.int .u64 100000000000000), .lit (.int .u64 1000000000000000), .lit (.int .u64 10000000000000000), .lit (.int .u64 100000000000000000), .lit (.int .u64 1000000000000000000), .lit (.int .u64 10000000000000000000)]
def laid_strconv_ErrRange {H : Type} : DataW H := .iface "*errors.errorString" (.ptr (.agg [.lit (.string [118, 97, 108, 117, 101, 32, 111, 117, 116, 32, 111, 102, 32, 114, 97, 110, 103, 101])]))
def laid_strconv_ErrSyntax {H : Type} : DataW H := .iface "*errors.errorString" (.ptr (.agg [.lit (.string [105, 110, 118, 97, 108, 105, 100, 32, 115, 121, 110, 116, 97, 120])]))
def laid_io_EOF {H : Type} : DataW H := .iface "*errors.errorString" (.ptr (.agg [.lit (.string [69, 79, 70])]))
def laid_io_ErrUnexpectedEOF {H : Type} : DataW H := .iface "*errors.errorString" (.ptr (.agg [.lit (.string [117, 110, 101, 120, 112, 101, 99, 116, 101, 100, 32, 69, 79, 70])]))
def laid_io_ErrNoProgress {H : Type} : DataW H := .iface "*errors.errorString" (.ptr (.agg [.lit (.string [109, 117, 108, 116, 105, 112, 108, 101, 32, 82, 101, 97, 100, 32, 99, 97, 108, 108, 115, 32, 114, 101, 116, 117, 114, 110, 32, 110, 111, 32, 100, 97, 116, 97, 32, 111, 114, 32, 101, 114, 114, 111, 114])]))
def laid_bufio_ErrInvalidUnreadByte {H : Type} : DataW H := .iface "*errors.errorString" (.ptr (.agg [.lit (.string [98, 117, 102, 105, 111, 58, 32, 105, 110, 118, 97, 108, 105, 100, 32, 117, 115, 101, 32, 111, 102, 32, 85, 110, 114, 101, 97, 100, 66, 121, 116, 101])]))
def laid_bufio_ErrBufferFull {H : Type} : DataW H := .iface "*errors.errorString" (.ptr (.agg [.lit (.string [98, 117, 102, 105, 111, 58, 32, 98, 117, 102, 102, 101, 114, 32, 102, 117, 108, 108])]))
def laid_bufio_errNegativeRead {H : Type} : DataW H := .iface "*errors.errorString" (.ptr (.agg [.lit (.string [98, 117, 102, 105, 111, 58, 32, 114, 101, 97, 100, 101, 114, 32, 114, 101, 116, 117, 114, 110, 101, 100, 32, 110, 101, 103, 97, 116, 105, 118, 101, 32, 99, 111, 117, 110, 116, 32, 102, 114, 111, 109, 32, 82, 101, 97, 100])]))
def laid_loop_example_pub_headerlines_pub_textproto_errMessageTooLarge {H : Type} : DataW H := .iface "*errors.errorString" (.ptr (.agg [.lit (.string [109, 101, 115, 115, 97, 103, 101, 32, 116, 111, 111, 32, 108, 97, 114, 103, 101])]))

/-- 'laws.FnExactResponse': WHATEVER THE INPUT: true; the input reads as it did. -/
def fnExactResponseSpec : ChangeSpec := { name := "fnExactResponse", vars := ["loop.example/pub-headerlines/pub/textproto.errMessageTooLarge"], fn := fun _ => fun
  | [d1, d2, d3, d4, g1] => { results := [.lit (.bool true)], args := [d1, d2, d3, d4], vars := [g1] }
  | _ => none }
def fnExactResponseRow : OpenClaim := { program := "ytfnkkjehkegpgaadoor", sum := "06d03adef574399d3008e0ecf581811e91ad2a86edf692d74549b2adaa5e4c2c", func := "loop.example/pub-headerlines/laws.FnExactResponse", spec := "fnExactResponse", inPlace := ["internal/bytealg.IndexByte", "internal/abi.NoEscape"], unfollowed := true, recurses := true, named := ["loop.example/pub-headerlines/pub/textproto.errMessageTooLarge", "io.EOF", "io.ErrUnexpectedEOF", "bufio.errNegativeRead", "io.ErrNoProgress", "bufio.ErrInvalidUnreadByte", "bufio.ErrBufferFull", "strconv.ErrSyntax", "strconv.ErrRange", "internal/strconv.uint64pow10", "math/bits.deBruijn32tab", "math/bits.deBruijn64tab"], ifaces := true, apart := false, laid := [("math/bits.deBruijn32tab", laid_math_bits_deBruijn32tab), ("math/bits.deBruijn64tab", laid_math_bits_deBruijn64tab), ("internal/strconv.uint64pow10", laid_internal_strconv_uint64pow10), ("strconv.ErrRange", laid_strconv_ErrRange), ("strconv.ErrSyntax", laid_strconv_ErrSyntax), ("io.EOF", laid_io_EOF), ("io.ErrUnexpectedEOF", laid_io_ErrUnexpectedEOF), ("io.ErrNoProgress", laid_io_ErrNoProgress), ("bufio.ErrInvalidUnreadByte", laid_bufio_ErrInvalidUnreadByte), ("bufio.ErrBufferFull", laid_bufio_ErrBufferFull), ("bufio.errNegativeRead", laid_bufio_errNegativeRead), ("loop.example/pub-headerlines/pub/textproto.errMessageTooLarge", laid_loop_example_pub_headerlines_pub_textproto_errMessageTooLarge)] }
def FnExactResponseSaid : Prop := fnExactResponseRow.holds Tryd.pinned (OpenSpec.ofChange fnExactResponseSpec)

/-- ITS FALSE NEIGHBOUR: 'it returns false'. Refute it at one input. -/
def fnExactResponseWrong : ChangeSpec := { name := "fnExactResponse", vars := ["loop.example/pub-headerlines/pub/textproto.errMessageTooLarge"], fn := fun _ => fun
  | [d1, d2, d3, d4, g1] => { results := [.lit (.bool false)], args := [d1, d2, d3, d4], vars := [g1] }
  | _ => none }
def FnExactResponseWrongFalsely : Prop := fnExactResponseRow.holds Tryd.pinned (OpenSpec.ofChange fnExactResponseWrong)

/-- 'laws.FnBadCode': WHATEVER THE INPUT: true; the input reads as it did. -/
def fnBadCodeSpec : ChangeSpec := { name := "fnBadCode", fn := fun _ => fun
  | [d] => { results := [.lit (.bool true)], args := [d] }
  | _ => none }
def fnBadCodeRow : OpenClaim := { program := "ytfnkkjehkegpgaadoor", sum := "06d03adef574399d3008e0ecf581811e91ad2a86edf692d74549b2adaa5e4c2c", func := "loop.example/pub-headerlines/laws.FnBadCode", spec := "fnBadCode", named := ["strconv.ErrSyntax", "strconv.ErrRange", "internal/strconv.uint64pow10", "math/bits.deBruijn32tab", "math/bits.deBruijn64tab", "io.EOF", "io.ErrUnexpectedEOF"], apart := false, laid := [("math/bits.deBruijn32tab", laid_math_bits_deBruijn32tab), ("math/bits.deBruijn64tab", laid_math_bits_deBruijn64tab), ("internal/strconv.uint64pow10", laid_internal_strconv_uint64pow10), ("strconv.ErrRange", laid_strconv_ErrRange), ("strconv.ErrSyntax", laid_strconv_ErrSyntax), ("io.EOF", laid_io_EOF), ("io.ErrUnexpectedEOF", laid_io_ErrUnexpectedEOF)] }
def FnBadCodeSaid : Prop := fnBadCodeRow.holds Tryd.pinned (OpenSpec.ofChange fnBadCodeSpec)

/-- ITS FALSE NEIGHBOUR: 'it returns false'. Refute it at one input. -/
def fnBadCodeWrong : ChangeSpec := { name := "fnBadCode", fn := fun _ => fun
  | [d] => { results := [.lit (.bool false)], args := [d] }
  | _ => none }
def FnBadCodeWrongFalsely : Prop := fnBadCodeRow.holds Tryd.pinned (OpenSpec.ofChange fnBadCodeWrong)

/-- 'laws.FnExactCode': WHATEVER THE INPUT: true; the input reads as it did. -/
def fnExactCodeSpec : ChangeSpec := { name := "fnExactCode", fn := fun _ => fun
  | [d1, d2, d3, d4] => { results := [.lit (.bool true)], args := [d1, d2, d3, d4] }
  | _ => none }
def fnExactCodeRow : OpenClaim := { program := "ytfnkkjehkegpgaadoor", sum := "06d03adef574399d3008e0ecf581811e91ad2a86edf692d74549b2adaa5e4c2c", func := "loop.example/pub-headerlines/laws.FnExactCode", spec := "fnExactCode", named := ["strconv.ErrSyntax", "strconv.ErrRange", "internal/strconv.uint64pow10", "math/bits.deBruijn32tab", "math/bits.deBruijn64tab", "io.EOF", "io.ErrUnexpectedEOF"], apart := false, laid := [("math/bits.deBruijn32tab", laid_math_bits_deBruijn32tab), ("math/bits.deBruijn64tab", laid_math_bits_deBruijn64tab), ("internal/strconv.uint64pow10", laid_internal_strconv_uint64pow10), ("strconv.ErrRange", laid_strconv_ErrRange), ("strconv.ErrSyntax", laid_strconv_ErrSyntax), ("io.EOF", laid_io_EOF), ("io.ErrUnexpectedEOF", laid_io_ErrUnexpectedEOF)] }
def FnExactCodeSaid : Prop := fnExactCodeRow.holds Tryd.pinned (OpenSpec.ofChange fnExactCodeSpec)

/-- ITS FALSE NEIGHBOUR: 'it returns false'. Refute it at one input. -/
def fnExactCodeWrong : ChangeSpec := { name := "fnExactCode", fn := fun _ => fun
  | [d1, d2, d3, d4] => { results := [.lit (.bool false)], args := [d1, d2, d3, d4] }
  | _ => none }
def FnExactCodeWrongFalsely : Prop := fnExactCodeRow.holds Tryd.pinned (OpenSpec.ofChange fnExactCodeWrong)

/-- 'laws.FnExactCodeLine': WHATEVER THE INPUT: true; the input reads as it did. -/
def fnExactCodeLineSpec : ChangeSpec := { name := "fnExactCodeLine", vars := ["loop.example/pub-headerlines/pub/textproto.errMessageTooLarge"], fn := fun _ => fun
  | [d1, d2, d3, d4, g1] => { results := [.lit (.bool true)], args := [d1, d2, d3, d4], vars := [g1] }
  | _ => none }
def fnExactCodeLineRow : OpenClaim := { program := "ytfnkkjehkegpgaadoor", sum := "06d03adef574399d3008e0ecf581811e91ad2a86edf692d74549b2adaa5e4c2c", func := "loop.example/pub-headerlines/laws.FnExactCodeLine", spec := "fnExactCodeLine", inPlace := ["internal/bytealg.IndexByte"], unfollowed := true, recurses := true, named := ["loop.example/pub-headerlines/pub/textproto.errMessageTooLarge", "io.EOF", "io.ErrUnexpectedEOF", "bufio.errNegativeRead", "io.ErrNoProgress", "bufio.ErrInvalidUnreadByte", "bufio.ErrBufferFull", "strconv.ErrSyntax", "strconv.ErrRange", "internal/strconv.uint64pow10", "math/bits.deBruijn32tab", "math/bits.deBruijn64tab"], ifaces := true, apart := false, laid := [("math/bits.deBruijn32tab", laid_math_bits_deBruijn32tab), ("math/bits.deBruijn64tab", laid_math_bits_deBruijn64tab), ("internal/strconv.uint64pow10", laid_internal_strconv_uint64pow10), ("strconv.ErrRange", laid_strconv_ErrRange), ("strconv.ErrSyntax", laid_strconv_ErrSyntax), ("io.EOF", laid_io_EOF), ("io.ErrUnexpectedEOF", laid_io_ErrUnexpectedEOF), ("io.ErrNoProgress", laid_io_ErrNoProgress), ("bufio.ErrInvalidUnreadByte", laid_bufio_ErrInvalidUnreadByte), ("bufio.ErrBufferFull", laid_bufio_ErrBufferFull), ("bufio.errNegativeRead", laid_bufio_errNegativeRead), ("loop.example/pub-headerlines/pub/textproto.errMessageTooLarge", laid_loop_example_pub_headerlines_pub_textproto_errMessageTooLarge)] }
def FnExactCodeLineSaid : Prop := fnExactCodeLineRow.holds Tryd.pinned (OpenSpec.ofChange fnExactCodeLineSpec)

/-- ITS FALSE NEIGHBOUR: 'it returns false'. Refute it at one input. -/
def fnExactCodeLineWrong : ChangeSpec := { name := "fnExactCodeLine", vars := ["loop.example/pub-headerlines/pub/textproto.errMessageTooLarge"], fn := fun _ => fun
  | [d1, d2, d3, d4, g1] => { results := [.lit (.bool false)], args := [d1, d2, d3, d4], vars := [g1] }
  | _ => none }
def FnExactCodeLineWrongFalsely : Prop := fnExactCodeLineRow.holds Tryd.pinned (OpenSpec.ofChange fnExactCodeLineWrong)

/-- 'laws.FnMany': WHATEVER THE INPUT: true; the input reads as it did. -/
def fnManySpec : ChangeSpec := { name := "fnMany", vars := ["loop.example/pub-headerlines/pub/textproto.errMessageTooLarge"], fn := fun _ => fun
  | [d1, d2, d3, d4, g1] => { results := [.lit (.bool true)], args := [d1, d2, d3, d4], vars := [g1] }
  | _ => none }
def fnManyRow : OpenClaim := { program := "ytfnkkjehkegpgaadoor", sum := "06d03adef574399d3008e0ecf581811e91ad2a86edf692d74549b2adaa5e4c2c", func := "loop.example/pub-headerlines/laws.FnMany", spec := "fnMany", inPlace := ["internal/bytealg.IndexByte"], unfollowed := true, recurses := true, named := ["loop.example/pub-headerlines/pub/textproto.errMessageTooLarge", "io.EOF", "io.ErrUnexpectedEOF", "bufio.errNegativeRead", "io.ErrNoProgress", "bufio.ErrInvalidUnreadByte", "bufio.ErrBufferFull", "strconv.ErrSyntax", "strconv.ErrRange", "internal/strconv.uint64pow10", "math/bits.deBruijn32tab", "math/bits.deBruijn64tab"], ifaces := true, apart := false, laid := [("math/bits.deBruijn32tab", laid_math_bits_deBruijn32tab), ("math/bits.deBruijn64tab", laid_math_bits_deBruijn64tab), ("internal/strconv.uint64pow10", laid_internal_strconv_uint64pow10), ("strconv.ErrRange", laid_strconv_ErrRange), ("strconv.ErrSyntax", laid_strconv_ErrSyntax), ("io.EOF", laid_io_EOF), ("io.ErrUnexpectedEOF", laid_io_ErrUnexpectedEOF), ("io.ErrNoProgress", laid_io_ErrNoProgress), ("bufio.ErrInvalidUnreadByte", laid_bufio_ErrInvalidUnreadByte), ("bufio.ErrBufferFull", laid_bufio_ErrBufferFull), ("bufio.errNegativeRead", laid_bufio_errNegativeRead), ("loop.example/pub-headerlines/pub/textproto.errMessageTooLarge", laid_loop_example_pub_headerlines_pub_textproto_errMessageTooLarge)] }
def FnManySaid : Prop := fnManyRow.holds Tryd.pinned (OpenSpec.ofChange fnManySpec)

/-- ITS FALSE NEIGHBOUR: 'it returns false'. Refute it at one input. -/
def fnManyWrong : ChangeSpec := { name := "fnMany", vars := ["loop.example/pub-headerlines/pub/textproto.errMessageTooLarge"], fn := fun _ => fun
  | [d1, d2, d3, d4, g1] => { results := [.lit (.bool false)], args := [d1, d2, d3, d4], vars := [g1] }
  | _ => none }
def FnManyWrongFalsely : Prop := fnManyRow.holds Tryd.pinned (OpenSpec.ofChange fnManyWrong)

/- THE SECOND FORM. 'bulk': how many values and letters a reading holds, each counted each time it is reached (what is shared counts as often as it is met; a slice's spare places count too). A statement '..UptoSaid' is the law's where the arguments, and the package variables that the reading takes, are together of bulk at most 1048576: NARROWER than '..Said'. Prove '..Said' where nothing that the law and all that it calls make is longer than what came in: it says more and counts as full. Else prove '..UptoSaid'. A law counts once. -/
mutual
def uptoBulk {H : Type} : DataW H → Nat
  | .lit (.string bytes) => bytes.length + 1
  | .lit _ => 1
  | .nil => 1
  | .ptr d => uptoBulk d + 1
  | .slice elems spare => uptoBulkAll elems + uptoBulkAll spare + 1
  | .agg parts => uptoBulkAll parts + 1
  | .iface _ d => uptoBulk d + 1
  | .map entries => uptoBulkEntries entries + 1
  | .held _ => 1
def uptoBulkAll {H : Type} : List (DataW H) → Nat
  | [] => 0
  | d :: r => uptoBulk d + uptoBulkAll r
def uptoBulkEntries {H : Type} : List (Lit × DataW H) → Nat
  | [] => 0
  | x :: r => uptoBulkEntry x + uptoBulkEntries r
def uptoBulkEntry {H : Type} : Lit × DataW H → Nat
  | (.string bytes, d) => bytes.length + uptoBulk d + 1
  | (_, d) => uptoBulk d + 1
 end
def uptoSmall : (H : Type) → List (DataW H) → Bool := fun _ ds => decide (uptoBulkAll ds ≤ 1048576)
def OpenSpec.upto (s : _root_.Go.ChangeSpec) : _root_.Go.OpenSpec := { _root_.Go.OpenSpec.ofChange s with cond := some uptoSmall }

/-- 'laws.FnExactResponse', WHERE WHAT IT READS IS OF BULK AT MOST 1048576: true; the input reads as it did. -/
def fnExactResponseUptoRow : OpenClaim := { program := "ytfnkkjehkegpgaadoor", sum := "06d03adef574399d3008e0ecf581811e91ad2a86edf692d74549b2adaa5e4c2c", func := "loop.example/pub-headerlines/laws.FnExactResponse", spec := "fnExactResponse", inPlace := ["internal/bytealg.IndexByte", "internal/abi.NoEscape"], unfollowed := true, recurses := true, named := ["loop.example/pub-headerlines/pub/textproto.errMessageTooLarge", "io.EOF", "io.ErrUnexpectedEOF", "bufio.errNegativeRead", "io.ErrNoProgress", "bufio.ErrInvalidUnreadByte", "bufio.ErrBufferFull", "strconv.ErrSyntax", "strconv.ErrRange", "internal/strconv.uint64pow10", "math/bits.deBruijn32tab", "math/bits.deBruijn64tab"], ifaces := true, apart := false, laid := [("math/bits.deBruijn32tab", laid_math_bits_deBruijn32tab), ("math/bits.deBruijn64tab", laid_math_bits_deBruijn64tab), ("internal/strconv.uint64pow10", laid_internal_strconv_uint64pow10), ("strconv.ErrRange", laid_strconv_ErrRange), ("strconv.ErrSyntax", laid_strconv_ErrSyntax), ("io.EOF", laid_io_EOF), ("io.ErrUnexpectedEOF", laid_io_ErrUnexpectedEOF), ("io.ErrNoProgress", laid_io_ErrNoProgress), ("bufio.ErrInvalidUnreadByte", laid_bufio_ErrInvalidUnreadByte), ("bufio.ErrBufferFull", laid_bufio_ErrBufferFull), ("bufio.errNegativeRead", laid_bufio_errNegativeRead), ("loop.example/pub-headerlines/pub/textproto.errMessageTooLarge", laid_loop_example_pub_headerlines_pub_textproto_errMessageTooLarge)], narrowed := true }
def FnExactResponseUptoSaid : Prop := fnExactResponseUptoRow.holds Tryd.pinned (OpenSpec.upto fnExactResponseSpec)

/-- 'laws.FnBadCode', WHERE WHAT IT READS IS OF BULK AT MOST 1048576: true; the input reads as it did. -/
def fnBadCodeUptoRow : OpenClaim := { program := "ytfnkkjehkegpgaadoor", sum := "06d03adef574399d3008e0ecf581811e91ad2a86edf692d74549b2adaa5e4c2c", func := "loop.example/pub-headerlines/laws.FnBadCode", spec := "fnBadCode", named := ["strconv.ErrSyntax", "strconv.ErrRange", "internal/strconv.uint64pow10", "math/bits.deBruijn32tab", "math/bits.deBruijn64tab", "io.EOF", "io.ErrUnexpectedEOF"], apart := false, laid := [("math/bits.deBruijn32tab", laid_math_bits_deBruijn32tab), ("math/bits.deBruijn64tab", laid_math_bits_deBruijn64tab), ("internal/strconv.uint64pow10", laid_internal_strconv_uint64pow10), ("strconv.ErrRange", laid_strconv_ErrRange), ("strconv.ErrSyntax", laid_strconv_ErrSyntax), ("io.EOF", laid_io_EOF), ("io.ErrUnexpectedEOF", laid_io_ErrUnexpectedEOF)], narrowed := true }
def FnBadCodeUptoSaid : Prop := fnBadCodeUptoRow.holds Tryd.pinned (OpenSpec.upto fnBadCodeSpec)

/-- 'laws.FnExactCode', WHERE WHAT IT READS IS OF BULK AT MOST 1048576: true; the input reads as it did. -/
def fnExactCodeUptoRow : OpenClaim := { program := "ytfnkkjehkegpgaadoor", sum := "06d03adef574399d3008e0ecf581811e91ad2a86edf692d74549b2adaa5e4c2c", func := "loop.example/pub-headerlines/laws.FnExactCode", spec := "fnExactCode", named := ["strconv.ErrSyntax", "strconv.ErrRange", "internal/strconv.uint64pow10", "math/bits.deBruijn32tab", "math/bits.deBruijn64tab", "io.EOF", "io.ErrUnexpectedEOF"], apart := false, laid := [("math/bits.deBruijn32tab", laid_math_bits_deBruijn32tab), ("math/bits.deBruijn64tab", laid_math_bits_deBruijn64tab), ("internal/strconv.uint64pow10", laid_internal_strconv_uint64pow10), ("strconv.ErrRange", laid_strconv_ErrRange), ("strconv.ErrSyntax", laid_strconv_ErrSyntax), ("io.EOF", laid_io_EOF), ("io.ErrUnexpectedEOF", laid_io_ErrUnexpectedEOF)], narrowed := true }
def FnExactCodeUptoSaid : Prop := fnExactCodeUptoRow.holds Tryd.pinned (OpenSpec.upto fnExactCodeSpec)

/-- 'laws.FnExactCodeLine', WHERE WHAT IT READS IS OF BULK AT MOST 1048576: true; the input reads as it did. -/
def fnExactCodeLineUptoRow : OpenClaim := { program := "ytfnkkjehkegpgaadoor", sum := "06d03adef574399d3008e0ecf581811e91ad2a86edf692d74549b2adaa5e4c2c", func := "loop.example/pub-headerlines/laws.FnExactCodeLine", spec := "fnExactCodeLine", inPlace := ["internal/bytealg.IndexByte"], unfollowed := true, recurses := true, named := ["loop.example/pub-headerlines/pub/textproto.errMessageTooLarge", "io.EOF", "io.ErrUnexpectedEOF", "bufio.errNegativeRead", "io.ErrNoProgress", "bufio.ErrInvalidUnreadByte", "bufio.ErrBufferFull", "strconv.ErrSyntax", "strconv.ErrRange", "internal/strconv.uint64pow10", "math/bits.deBruijn32tab", "math/bits.deBruijn64tab"], ifaces := true, apart := false, laid := [("math/bits.deBruijn32tab", laid_math_bits_deBruijn32tab), ("math/bits.deBruijn64tab", laid_math_bits_deBruijn64tab), ("internal/strconv.uint64pow10", laid_internal_strconv_uint64pow10), ("strconv.ErrRange", laid_strconv_ErrRange), ("strconv.ErrSyntax", laid_strconv_ErrSyntax), ("io.EOF", laid_io_EOF), ("io.ErrUnexpectedEOF", laid_io_ErrUnexpectedEOF), ("io.ErrNoProgress", laid_io_ErrNoProgress), ("bufio.ErrInvalidUnreadByte", laid_bufio_ErrInvalidUnreadByte), ("bufio.ErrBufferFull", laid_bufio_ErrBufferFull), ("bufio.errNegativeRead", laid_bufio_errNegativeRead), ("loop.example/pub-headerlines/pub/textproto.errMessageTooLarge", laid_loop_example_pub_headerlines_pub_textproto_errMessageTooLarge)], narrowed := true }
def FnExactCodeLineUptoSaid : Prop := fnExactCodeLineUptoRow.holds Tryd.pinned (OpenSpec.upto fnExactCodeLineSpec)

/-- 'laws.FnMany', WHERE WHAT IT READS IS OF BULK AT MOST 1048576: true; the input reads as it did. -/
def fnManyUptoRow : OpenClaim := { program := "ytfnkkjehkegpgaadoor", sum := "06d03adef574399d3008e0ecf581811e91ad2a86edf692d74549b2adaa5e4c2c", func := "loop.example/pub-headerlines/laws.FnMany", spec := "fnMany", inPlace := ["internal/bytealg.IndexByte"], unfollowed := true, recurses := true, named := ["loop.example/pub-headerlines/pub/textproto.errMessageTooLarge", "io.EOF", "io.ErrUnexpectedEOF", "bufio.errNegativeRead", "io.ErrNoProgress", "bufio.ErrInvalidUnreadByte", "bufio.ErrBufferFull", "strconv.ErrSyntax", "strconv.ErrRange", "internal/strconv.uint64pow10", "math/bits.deBruijn32tab", "math/bits.deBruijn64tab"], ifaces := true, apart := false, laid := [("math/bits.deBruijn32tab", laid_math_bits_deBruijn32tab), ("math/bits.deBruijn64tab", laid_math_bits_deBruijn64tab), ("internal/strconv.uint64pow10", laid_internal_strconv_uint64pow10), ("strconv.ErrRange", laid_strconv_ErrRange), ("strconv.ErrSyntax", laid_strconv_ErrSyntax), ("io.EOF", laid_io_EOF), ("io.ErrUnexpectedEOF", laid_io_ErrUnexpectedEOF), ("io.ErrNoProgress", laid_io_ErrNoProgress), ("bufio.ErrInvalidUnreadByte", laid_bufio_ErrInvalidUnreadByte), ("bufio.ErrBufferFull", laid_bufio_ErrBufferFull), ("bufio.errNegativeRead", laid_bufio_errNegativeRead), ("loop.example/pub-headerlines/pub/textproto.errMessageTooLarge", laid_loop_example_pub_headerlines_pub_textproto_errMessageTooLarge)], narrowed := true }
def FnManyUptoSaid : Prop := fnManyUptoRow.holds Tryd.pinned (OpenSpec.upto fnManySpec)

end Rows
end Go.Proofs.YtfnkkjehkegpgaaDoor
