/-
  NARROWER THAN 'FOR EVERY INPUT', by the rows' own cells (each row's printed sentence says how): FnDotPieces: laid · FnExactDotWrite: laid · FnDotReads: laid · FnDotCut: laid · FnExactDot: laid · FnExactLines: ifaces, laid · FnSlowLines: ifaces, laid · FnExactDotLines: ifaces, laid · FnExactContinued: ifaces, laid · FnDotBoth: ifaces, laid · FnDotRound: laid.
  DERIVED. THE GIVEN ROWS OF THIS SEAT. 11 by the template 'for every input the law returns true; each argument reads behind the call as it read before'; 0 by the template 'total and deterministic' (their statements: YteiiocibldpioaaDoorTotals.lean).
  GIVEN WITH THE SEED: the statements are not yours to turn. If you find one false, say at which input.
  Laid BY PROGRAM, IN A SANDBOX (cutbox-rows.mjs): the forced cells as the released guide's own fill.sh prints them over the translation 89dc571e5687ca13… (all of the seat's roots in one cut). By AI agents, Wed Nov 11 2026. No macro, syntax, notation, axiom, sorry.
-/
import Derived.Test.YteiiocibldpioaaDoorChecked
import GoSem.Claim
import GoSem.ClaimJoined
import GoSem.ClaimMapViews
import Derived.JoinedTies
import Derived.KernelRfl
namespace Go.Proofs.YteiiocibldpioaaDoor
/- THE CELL 'sum', in the pinned program and in every row, IS THE sha256 OF THE DUMP (.gsa) THAT YteiiocibldpioaaDoorProg.lean LOADS. Nothing in Lean hashes anything: it is a label: what it is worth is what the hold of that sum in a sandbox is worth. -/
noncomputable def Tryd.pinned : Pinned := { name := "yteiiocibldpioaadoor", sum := "89dc571e5687ca1310afeff1d7533e6dcc1aaf235170574b4dcd7d965c61d941", checked := Tryd.checked }
namespace Rows
def none {H : Type} : Left H := { results := [], args := [] }

/- WHAT THE LISTED PACKAGE-LEVEL VARIABLES READ AS WHEN THE CALL BEGINS. Each datum BY PROGRAM (the guide's laid-datum.mjs) off the statement by which the dump's own 'gosem.cut.vars' lays the variable. In a bare row this is a premise. The card (YteiiocibldpioaaDoorCards.lean) ties it to the program's text. -/
def laid_io_ErrShortWrite {H : Type} : DataW H := .iface "*errors.errorString" (.ptr (.agg [.lit (.string [115, 104, 111, 114, 116, 32, 119, 114, 105, 116, 101])]))
def laid_io_EOF {H : Type} : DataW H := .iface "*errors.errorString" (.ptr (.agg [.lit (.string [69, 79, 70])]))
def laid_io_ErrUnexpectedEOF {H : Type} : DataW H := .iface "*errors.errorString" (.ptr (.agg [.lit (.string [117, 110, 101, 120, 112, 101, 99, 116, 101, 100, 32, 69, 79, 70])]))
def laid_io_ErrNoProgress {H : Type} : DataW H := .iface "*errors.errorString" (.ptr (.agg [.lit (.string [109, 117, 108, 116, 105, 112, 108, 101, 32, 82, 101, 97, 100, 32, 99, 97, 108, 108, 115, 32, 114, 101, 116, 117, 114, 110, 32, 110, 111, 32, 100, 97, 116, 97, 32, 111, 114, 32, 101, 114, 114, 111, 114])]))
def laid_bufio_ErrInvalidUnreadByte {H : Type} : DataW H := .iface "*errors.errorString" (.ptr (.agg [.lit (.string [98, 117, 102, 105, 111, 58, 32, 105, 110, 118, 97, 108, 105, 100, 32, 117, 115, 101, 32, 111, 102, 32, 85, 110, 114, 101, 97, 100, 66, 121, 116, 101])]))
def laid_bufio_errNegativeRead {H : Type} : DataW H := .iface "*errors.errorString" (.ptr (.agg [.lit (.string [98, 117, 102, 105, 111, 58, 32, 114, 101, 97, 100, 101, 114, 32, 114, 101, 116, 117, 114, 110, 101, 100, 32, 110, 101, 103, 97, 116, 105, 118, 101, 32, 99, 111, 117, 110, 116, 32, 102, 114, 111, 109, 32, 82, 101, 97, 100])]))
def laid_bufio_ErrBufferFull {H : Type} : DataW H := .iface "*errors.errorString" (.ptr (.agg [.lit (.string [98, 117, 102, 105, 111, 58, 32, 98, 117, 102, 102, 101, 114, 32, 102, 117, 108, 108])]))
def laid_loop_example_pub_headerlines_pub_textproto_errMessageTooLarge {H : Type} : DataW H := .iface "*errors.errorString" (.ptr (.agg [.lit (.string [109, 101, 115, 115, 97, 103, 101, 32, 116, 111, 111, 32, 108, 97, 114, 103, 101])]))
def laid_bufio_ErrNegativeCount {H : Type} : DataW H := .iface "*errors.errorString" (.ptr (.agg [.lit (.string [98, 117, 102, 105, 111, 58, 32, 110, 101, 103, 97, 116, 105, 118, 101, 32, 99, 111, 117, 110, 116])]))

/-- 'laws.FnDotPieces': WHATEVER THE INPUT: true; the input reads as it did. -/
def fnDotPiecesSpec : ChangeSpec := { name := "fnDotPieces", fn := fun _ => fun
  | [d] => { results := [.lit (.bool true)], args := [d] }
  | _ => none }
def fnDotPiecesRow : OpenClaim := { program := "yteiiocibldpioaadoor", sum := "89dc571e5687ca1310afeff1d7533e6dcc1aaf235170574b4dcd7d965c61d941", func := "loop.example/pub-headerlines/laws.FnDotPieces", spec := "fnDotPieces", unfollowed := true, recurses := true, named := ["io.ErrShortWrite"], apart := false, laid := [("io.ErrShortWrite", laid_io_ErrShortWrite)] }
def FnDotPiecesSaid : Prop := fnDotPiecesRow.holds Tryd.pinned (OpenSpec.ofChange fnDotPiecesSpec)

/-- ITS FALSE NEIGHBOUR: 'it returns false'. Refute it at one input. -/
def fnDotPiecesWrong : ChangeSpec := { name := "fnDotPieces", fn := fun _ => fun
  | [d] => { results := [.lit (.bool false)], args := [d] }
  | _ => none }
def FnDotPiecesWrongFalsely : Prop := fnDotPiecesRow.holds Tryd.pinned (OpenSpec.ofChange fnDotPiecesWrong)

/-- 'laws.FnExactDotWrite': WHATEVER THE INPUT: true; the input reads as it did. -/
def fnExactDotWriteSpec : ChangeSpec := { name := "fnExactDotWrite", fn := fun _ => fun
  | [d] => { results := [.lit (.bool true)], args := [d] }
  | _ => none }
def fnExactDotWriteRow : OpenClaim := { program := "yteiiocibldpioaadoor", sum := "89dc571e5687ca1310afeff1d7533e6dcc1aaf235170574b4dcd7d965c61d941", func := "loop.example/pub-headerlines/laws.FnExactDotWrite", spec := "fnExactDotWrite", unfollowed := true, recurses := true, named := ["io.ErrShortWrite"], apart := false, laid := [("io.ErrShortWrite", laid_io_ErrShortWrite)] }
def FnExactDotWriteSaid : Prop := fnExactDotWriteRow.holds Tryd.pinned (OpenSpec.ofChange fnExactDotWriteSpec)

/-- ITS FALSE NEIGHBOUR: 'it returns false'. Refute it at one input. -/
def fnExactDotWriteWrong : ChangeSpec := { name := "fnExactDotWrite", fn := fun _ => fun
  | [d] => { results := [.lit (.bool false)], args := [d] }
  | _ => none }
def FnExactDotWriteWrongFalsely : Prop := fnExactDotWriteRow.holds Tryd.pinned (OpenSpec.ofChange fnExactDotWriteWrong)

/-- 'laws.FnDotReads': WHATEVER THE INPUT: true; the input reads as it did. -/
def fnDotReadsSpec : ChangeSpec := { name := "fnDotReads", fn := fun _ => fun
  | [d1, d2] => { results := [.lit (.bool true)], args := [d1, d2] }
  | _ => none }
def fnDotReadsRow : OpenClaim := { program := "yteiiocibldpioaadoor", sum := "89dc571e5687ca1310afeff1d7533e6dcc1aaf235170574b4dcd7d965c61d941", func := "loop.example/pub-headerlines/laws.FnDotReads", spec := "fnDotReads", unfollowed := true, recurses := true, named := ["io.EOF", "io.ErrUnexpectedEOF", "bufio.errNegativeRead", "io.ErrNoProgress", "bufio.ErrInvalidUnreadByte"], apart := false, laid := [("io.EOF", laid_io_EOF), ("io.ErrUnexpectedEOF", laid_io_ErrUnexpectedEOF), ("io.ErrNoProgress", laid_io_ErrNoProgress), ("bufio.ErrInvalidUnreadByte", laid_bufio_ErrInvalidUnreadByte), ("bufio.errNegativeRead", laid_bufio_errNegativeRead)] }
def FnDotReadsSaid : Prop := fnDotReadsRow.holds Tryd.pinned (OpenSpec.ofChange fnDotReadsSpec)

/-- ITS FALSE NEIGHBOUR: 'it returns false'. Refute it at one input. -/
def fnDotReadsWrong : ChangeSpec := { name := "fnDotReads", fn := fun _ => fun
  | [d1, d2] => { results := [.lit (.bool false)], args := [d1, d2] }
  | _ => none }
def FnDotReadsWrongFalsely : Prop := fnDotReadsRow.holds Tryd.pinned (OpenSpec.ofChange fnDotReadsWrong)

/-- 'laws.FnDotCut': WHATEVER THE INPUT: true; the input reads as it did. -/
def fnDotCutSpec : ChangeSpec := { name := "fnDotCut", fn := fun _ => fun
  | [d1, d2] => { results := [.lit (.bool true)], args := [d1, d2] }
  | _ => none }
def fnDotCutRow : OpenClaim := { program := "yteiiocibldpioaadoor", sum := "89dc571e5687ca1310afeff1d7533e6dcc1aaf235170574b4dcd7d965c61d941", func := "loop.example/pub-headerlines/laws.FnDotCut", spec := "fnDotCut", unfollowed := true, recurses := true, named := ["io.EOF", "io.ErrUnexpectedEOF", "bufio.errNegativeRead", "io.ErrNoProgress", "bufio.ErrInvalidUnreadByte"], apart := false, laid := [("io.EOF", laid_io_EOF), ("io.ErrUnexpectedEOF", laid_io_ErrUnexpectedEOF), ("io.ErrNoProgress", laid_io_ErrNoProgress), ("bufio.ErrInvalidUnreadByte", laid_bufio_ErrInvalidUnreadByte), ("bufio.errNegativeRead", laid_bufio_errNegativeRead)] }
def FnDotCutSaid : Prop := fnDotCutRow.holds Tryd.pinned (OpenSpec.ofChange fnDotCutSpec)

/-- ITS FALSE NEIGHBOUR: 'it returns false'. Refute it at one input. -/
def fnDotCutWrong : ChangeSpec := { name := "fnDotCut", fn := fun _ => fun
  | [d1, d2] => { results := [.lit (.bool false)], args := [d1, d2] }
  | _ => none }
def FnDotCutWrongFalsely : Prop := fnDotCutRow.holds Tryd.pinned (OpenSpec.ofChange fnDotCutWrong)

/-- 'laws.FnExactDot': WHATEVER THE INPUT: true; the input reads as it did. -/
def fnExactDotSpec : ChangeSpec := { name := "fnExactDot", fn := fun _ => fun
  | [d1, d2] => { results := [.lit (.bool true)], args := [d1, d2] }
  | _ => none }
def fnExactDotRow : OpenClaim := { program := "yteiiocibldpioaadoor", sum := "89dc571e5687ca1310afeff1d7533e6dcc1aaf235170574b4dcd7d965c61d941", func := "loop.example/pub-headerlines/laws.FnExactDot", spec := "fnExactDot", unfollowed := true, recurses := true, named := ["io.EOF", "io.ErrUnexpectedEOF", "bufio.errNegativeRead", "io.ErrNoProgress", "bufio.ErrInvalidUnreadByte"], apart := false, laid := [("io.EOF", laid_io_EOF), ("io.ErrUnexpectedEOF", laid_io_ErrUnexpectedEOF), ("io.ErrNoProgress", laid_io_ErrNoProgress), ("bufio.ErrInvalidUnreadByte", laid_bufio_ErrInvalidUnreadByte), ("bufio.errNegativeRead", laid_bufio_errNegativeRead)] }
def FnExactDotSaid : Prop := fnExactDotRow.holds Tryd.pinned (OpenSpec.ofChange fnExactDotSpec)

/-- ITS FALSE NEIGHBOUR: 'it returns false'. Refute it at one input. -/
def fnExactDotWrong : ChangeSpec := { name := "fnExactDot", fn := fun _ => fun
  | [d1, d2] => { results := [.lit (.bool false)], args := [d1, d2] }
  | _ => none }
def FnExactDotWrongFalsely : Prop := fnExactDotRow.holds Tryd.pinned (OpenSpec.ofChange fnExactDotWrong)

/-- 'laws.FnExactLines': WHATEVER THE INPUT: true; the input reads as it did. -/
def fnExactLinesSpec : ChangeSpec := { name := "fnExactLines", vars := ["loop.example/pub-headerlines/pub/textproto.errMessageTooLarge"], fn := fun _ => fun
  | [d, g1] => { results := [.lit (.bool true)], args := [d], vars := [g1] }
  | _ => none }
def fnExactLinesRow : OpenClaim := { program := "yteiiocibldpioaadoor", sum := "89dc571e5687ca1310afeff1d7533e6dcc1aaf235170574b4dcd7d965c61d941", func := "loop.example/pub-headerlines/laws.FnExactLines", spec := "fnExactLines", inPlace := ["internal/bytealg.IndexByte"], unfollowed := true, recurses := true, named := ["loop.example/pub-headerlines/pub/textproto.errMessageTooLarge", "io.EOF", "io.ErrUnexpectedEOF", "bufio.errNegativeRead", "io.ErrNoProgress", "bufio.ErrInvalidUnreadByte", "bufio.ErrBufferFull"], ifaces := true, apart := false, laid := [("io.EOF", laid_io_EOF), ("io.ErrUnexpectedEOF", laid_io_ErrUnexpectedEOF), ("io.ErrNoProgress", laid_io_ErrNoProgress), ("bufio.ErrInvalidUnreadByte", laid_bufio_ErrInvalidUnreadByte), ("bufio.ErrBufferFull", laid_bufio_ErrBufferFull), ("bufio.errNegativeRead", laid_bufio_errNegativeRead), ("loop.example/pub-headerlines/pub/textproto.errMessageTooLarge", laid_loop_example_pub_headerlines_pub_textproto_errMessageTooLarge)] }
def FnExactLinesSaid : Prop := fnExactLinesRow.holds Tryd.pinned (OpenSpec.ofChange fnExactLinesSpec)

/-- ITS FALSE NEIGHBOUR: 'it returns false'. Refute it at one input. -/
def fnExactLinesWrong : ChangeSpec := { name := "fnExactLines", vars := ["loop.example/pub-headerlines/pub/textproto.errMessageTooLarge"], fn := fun _ => fun
  | [d, g1] => { results := [.lit (.bool false)], args := [d], vars := [g1] }
  | _ => none }
def FnExactLinesWrongFalsely : Prop := fnExactLinesRow.holds Tryd.pinned (OpenSpec.ofChange fnExactLinesWrong)

/-- 'laws.FnSlowLines': WHATEVER THE INPUT: true; the input reads as it did. -/
def fnSlowLinesSpec : ChangeSpec := { name := "fnSlowLines", vars := ["loop.example/pub-headerlines/pub/textproto.errMessageTooLarge"], fn := fun _ => fun
  | [d1, d2, g1] => { results := [.lit (.bool true)], args := [d1, d2], vars := [g1] }
  | _ => none }
def fnSlowLinesRow : OpenClaim := { program := "yteiiocibldpioaadoor", sum := "89dc571e5687ca1310afeff1d7533e6dcc1aaf235170574b4dcd7d965c61d941", func := "loop.example/pub-headerlines/laws.FnSlowLines", spec := "fnSlowLines", inPlace := ["internal/bytealg.IndexByte"], unfollowed := true, recurses := true, named := ["loop.example/pub-headerlines/pub/textproto.errMessageTooLarge", "io.EOF", "io.ErrUnexpectedEOF", "bufio.errNegativeRead", "io.ErrNoProgress", "bufio.ErrInvalidUnreadByte", "bufio.ErrBufferFull"], ifaces := true, apart := false, laid := [("io.EOF", laid_io_EOF), ("io.ErrUnexpectedEOF", laid_io_ErrUnexpectedEOF), ("io.ErrNoProgress", laid_io_ErrNoProgress), ("bufio.ErrInvalidUnreadByte", laid_bufio_ErrInvalidUnreadByte), ("bufio.ErrBufferFull", laid_bufio_ErrBufferFull), ("bufio.errNegativeRead", laid_bufio_errNegativeRead), ("loop.example/pub-headerlines/pub/textproto.errMessageTooLarge", laid_loop_example_pub_headerlines_pub_textproto_errMessageTooLarge)] }
def FnSlowLinesSaid : Prop := fnSlowLinesRow.holds Tryd.pinned (OpenSpec.ofChange fnSlowLinesSpec)

/-- ITS FALSE NEIGHBOUR: 'it returns false'. Refute it at one input. -/
def fnSlowLinesWrong : ChangeSpec := { name := "fnSlowLines", vars := ["loop.example/pub-headerlines/pub/textproto.errMessageTooLarge"], fn := fun _ => fun
  | [d1, d2, g1] => { results := [.lit (.bool false)], args := [d1, d2], vars := [g1] }
  | _ => none }
def FnSlowLinesWrongFalsely : Prop := fnSlowLinesRow.holds Tryd.pinned (OpenSpec.ofChange fnSlowLinesWrong)

/-- 'laws.FnExactDotLines': WHATEVER THE INPUT: true; the input reads as it did. -/
def fnExactDotLinesSpec : ChangeSpec := { name := "fnExactDotLines", vars := ["loop.example/pub-headerlines/pub/textproto.errMessageTooLarge"], fn := fun _ => fun
  | [d1, d2, g1] => { results := [.lit (.bool true)], args := [d1, d2], vars := [g1] }
  | _ => none }
def fnExactDotLinesRow : OpenClaim := { program := "yteiiocibldpioaadoor", sum := "89dc571e5687ca1310afeff1d7533e6dcc1aaf235170574b4dcd7d965c61d941", func := "loop.example/pub-headerlines/laws.FnExactDotLines", spec := "fnExactDotLines", inPlace := ["internal/bytealg.IndexByte"], unfollowed := true, recurses := true, named := ["io.EOF", "io.ErrUnexpectedEOF", "loop.example/pub-headerlines/pub/textproto.errMessageTooLarge", "bufio.errNegativeRead", "io.ErrNoProgress", "bufio.ErrInvalidUnreadByte", "bufio.ErrBufferFull"], ifaces := true, apart := false, laid := [("io.EOF", laid_io_EOF), ("io.ErrUnexpectedEOF", laid_io_ErrUnexpectedEOF), ("io.ErrNoProgress", laid_io_ErrNoProgress), ("bufio.ErrInvalidUnreadByte", laid_bufio_ErrInvalidUnreadByte), ("bufio.ErrBufferFull", laid_bufio_ErrBufferFull), ("bufio.errNegativeRead", laid_bufio_errNegativeRead), ("loop.example/pub-headerlines/pub/textproto.errMessageTooLarge", laid_loop_example_pub_headerlines_pub_textproto_errMessageTooLarge)] }
def FnExactDotLinesSaid : Prop := fnExactDotLinesRow.holds Tryd.pinned (OpenSpec.ofChange fnExactDotLinesSpec)

/-- ITS FALSE NEIGHBOUR: 'it returns false'. Refute it at one input. -/
def fnExactDotLinesWrong : ChangeSpec := { name := "fnExactDotLines", vars := ["loop.example/pub-headerlines/pub/textproto.errMessageTooLarge"], fn := fun _ => fun
  | [d1, d2, g1] => { results := [.lit (.bool false)], args := [d1, d2], vars := [g1] }
  | _ => none }
def FnExactDotLinesWrongFalsely : Prop := fnExactDotLinesRow.holds Tryd.pinned (OpenSpec.ofChange fnExactDotLinesWrong)

/-- 'laws.FnExactContinued': WHATEVER THE INPUT: true; the input reads as it did. -/
def fnExactContinuedSpec : ChangeSpec := { name := "fnExactContinued", vars := ["loop.example/pub-headerlines/pub/textproto.errMessageTooLarge"], fn := fun _ => fun
  | [d, g1] => { results := [.lit (.bool true)], args := [d], vars := [g1] }
  | _ => none }
def fnExactContinuedRow : OpenClaim := { program := "yteiiocibldpioaadoor", sum := "89dc571e5687ca1310afeff1d7533e6dcc1aaf235170574b4dcd7d965c61d941", func := "loop.example/pub-headerlines/laws.FnExactContinued", spec := "fnExactContinued", inPlace := ["internal/bytealg.IndexByte"], unfollowed := true, recurses := true, named := ["loop.example/pub-headerlines/pub/textproto.errMessageTooLarge", "io.EOF", "io.ErrUnexpectedEOF", "bufio.errNegativeRead", "io.ErrNoProgress", "bufio.ErrInvalidUnreadByte", "bufio.ErrBufferFull", "bufio.ErrNegativeCount"], ifaces := true, apart := false, laid := [("io.EOF", laid_io_EOF), ("io.ErrUnexpectedEOF", laid_io_ErrUnexpectedEOF), ("io.ErrNoProgress", laid_io_ErrNoProgress), ("bufio.ErrInvalidUnreadByte", laid_bufio_ErrInvalidUnreadByte), ("bufio.ErrBufferFull", laid_bufio_ErrBufferFull), ("bufio.ErrNegativeCount", laid_bufio_ErrNegativeCount), ("bufio.errNegativeRead", laid_bufio_errNegativeRead), ("loop.example/pub-headerlines/pub/textproto.errMessageTooLarge", laid_loop_example_pub_headerlines_pub_textproto_errMessageTooLarge)] }
def FnExactContinuedSaid : Prop := fnExactContinuedRow.holds Tryd.pinned (OpenSpec.ofChange fnExactContinuedSpec)

/-- ITS FALSE NEIGHBOUR: 'it returns false'. Refute it at one input. -/
def fnExactContinuedWrong : ChangeSpec := { name := "fnExactContinued", vars := ["loop.example/pub-headerlines/pub/textproto.errMessageTooLarge"], fn := fun _ => fun
  | [d, g1] => { results := [.lit (.bool false)], args := [d], vars := [g1] }
  | _ => none }
def FnExactContinuedWrongFalsely : Prop := fnExactContinuedRow.holds Tryd.pinned (OpenSpec.ofChange fnExactContinuedWrong)

/-- 'laws.FnDotBoth': WHATEVER THE INPUT: true; the input reads as it did. -/
def fnDotBothSpec : ChangeSpec := { name := "fnDotBoth", vars := ["loop.example/pub-headerlines/pub/textproto.errMessageTooLarge"], fn := fun _ => fun
  | [d, g1] => { results := [.lit (.bool true)], args := [d], vars := [g1] }
  | _ => none }
def fnDotBothRow : OpenClaim := { program := "yteiiocibldpioaadoor", sum := "89dc571e5687ca1310afeff1d7533e6dcc1aaf235170574b4dcd7d965c61d941", func := "loop.example/pub-headerlines/laws.FnDotBoth", spec := "fnDotBoth", inPlace := ["internal/bytealg.IndexByte"], unfollowed := true, recurses := true, named := ["io.EOF", "io.ErrUnexpectedEOF", "loop.example/pub-headerlines/pub/textproto.errMessageTooLarge", "bufio.errNegativeRead", "io.ErrNoProgress", "bufio.ErrInvalidUnreadByte", "bufio.ErrBufferFull"], ifaces := true, apart := false, laid := [("io.EOF", laid_io_EOF), ("io.ErrUnexpectedEOF", laid_io_ErrUnexpectedEOF), ("io.ErrNoProgress", laid_io_ErrNoProgress), ("bufio.ErrInvalidUnreadByte", laid_bufio_ErrInvalidUnreadByte), ("bufio.ErrBufferFull", laid_bufio_ErrBufferFull), ("bufio.errNegativeRead", laid_bufio_errNegativeRead), ("loop.example/pub-headerlines/pub/textproto.errMessageTooLarge", laid_loop_example_pub_headerlines_pub_textproto_errMessageTooLarge)] }
def FnDotBothSaid : Prop := fnDotBothRow.holds Tryd.pinned (OpenSpec.ofChange fnDotBothSpec)

/-- ITS FALSE NEIGHBOUR: 'it returns false'. Refute it at one input. -/
def fnDotBothWrong : ChangeSpec := { name := "fnDotBoth", vars := ["loop.example/pub-headerlines/pub/textproto.errMessageTooLarge"], fn := fun _ => fun
  | [d, g1] => { results := [.lit (.bool false)], args := [d], vars := [g1] }
  | _ => none }
def FnDotBothWrongFalsely : Prop := fnDotBothRow.holds Tryd.pinned (OpenSpec.ofChange fnDotBothWrong)

/-- 'laws.FnDotRound': WHATEVER THE INPUT: true; the input reads as it did. -/
def fnDotRoundSpec : ChangeSpec := { name := "fnDotRound", fn := fun _ => fun
  | [d1, d2] => { results := [.lit (.bool true)], args := [d1, d2] }
  | _ => none }
def fnDotRoundRow : OpenClaim := { program := "yteiiocibldpioaadoor", sum := "89dc571e5687ca1310afeff1d7533e6dcc1aaf235170574b4dcd7d965c61d941", func := "loop.example/pub-headerlines/laws.FnDotRound", spec := "fnDotRound", unfollowed := true, recurses := true, named := ["io.ErrShortWrite", "io.EOF", "io.ErrUnexpectedEOF", "bufio.errNegativeRead", "io.ErrNoProgress", "bufio.ErrInvalidUnreadByte"], apart := false, laid := [("io.ErrShortWrite", laid_io_ErrShortWrite), ("io.EOF", laid_io_EOF), ("io.ErrUnexpectedEOF", laid_io_ErrUnexpectedEOF), ("io.ErrNoProgress", laid_io_ErrNoProgress), ("bufio.ErrInvalidUnreadByte", laid_bufio_ErrInvalidUnreadByte), ("bufio.errNegativeRead", laid_bufio_errNegativeRead)] }
def FnDotRoundSaid : Prop := fnDotRoundRow.holds Tryd.pinned (OpenSpec.ofChange fnDotRoundSpec)

/-- ITS FALSE NEIGHBOUR: 'it returns false'. Refute it at one input. -/
def fnDotRoundWrong : ChangeSpec := { name := "fnDotRound", fn := fun _ => fun
  | [d1, d2] => { results := [.lit (.bool false)], args := [d1, d2] }
  | _ => none }
def FnDotRoundWrongFalsely : Prop := fnDotRoundRow.holds Tryd.pinned (OpenSpec.ofChange fnDotRoundWrong)

/- THE SECOND FORM. 'bulk': how many values and letters a reading holds, each counted each time it is reached (what is shared counts as often as it is met; a slice's spare places count too). A statement '..UptoSaid' is the law's where the arguments, and the package variables that the reading takes, are together of bulk at most 1048576: NARROWER than '..Said'. Prove '..Said' where nothing that the law and all that it calls make is longer than what came in: it says more and counts as full. Else prove '..UptoSaid'. A law counts once. -/
mutual
def uptoBulk {H : Type} : DataW H → Nat
  | .lit (.string bytes) => bytes.length + 1
  | .lit _ => 1
  | .nil => 1
  | .ptr d => uptoBulk d + 1
  | .slice elems spare => uptoBulkAll elems + uptoBulkAll spare + 1
  | .agg parts => uptoBulkAll parts + 1
  | .iface _ d => uptoBulk d + 1
  | .map entries => uptoBulkEntries entries + 1
  | .held _ => 1
def uptoBulkAll {H : Type} : List (DataW H) → Nat
  | [] => 0
  | d :: r => uptoBulk d + uptoBulkAll r
def uptoBulkEntries {H : Type} : List (Lit × DataW H) → Nat
  | [] => 0
  | x :: r => uptoBulkEntry x + uptoBulkEntries r
def uptoBulkEntry {H : Type} : Lit × DataW H → Nat
  | (.string bytes, d) => bytes.length + uptoBulk d + 1
  | (_, d) => uptoBulk d + 1
 end
def uptoSmall : (H : Type) → List (DataW H) → Bool := fun _ ds => decide (uptoBulkAll ds ≤ 1048576)
def OpenSpec.upto (s : _root_.Go.ChangeSpec) : _root_.Go.OpenSpec := { _root_.Go.OpenSpec.ofChange s with cond := some uptoSmall }

/-- 'laws.FnDotPieces', WHERE WHAT IT READS IS OF BULK AT MOST 1048576: true; the input reads as it did. -/
def fnDotPiecesUptoRow : OpenClaim := { program := "yteiiocibldpioaadoor", sum := "89dc571e5687ca1310afeff1d7533e6dcc1aaf235170574b4dcd7d965c61d941", func := "loop.example/pub-headerlines/laws.FnDotPieces", spec := "fnDotPieces", unfollowed := true, recurses := true, named := ["io.ErrShortWrite"], apart := false, laid := [("io.ErrShortWrite", laid_io_ErrShortWrite)], narrowed := true }
def FnDotPiecesUptoSaid : Prop := fnDotPiecesUptoRow.holds Tryd.pinned (OpenSpec.upto fnDotPiecesSpec)

/-- 'laws.FnExactDotWrite', WHERE WHAT IT READS IS OF BULK AT MOST 1048576: true; the input reads as it did. -/
def fnExactDotWriteUptoRow : OpenClaim := { program := "yteiiocibldpioaadoor", sum := "89dc571e5687ca1310afeff1d7533e6dcc1aaf235170574b4dcd7d965c61d941", func := "loop.example/pub-headerlines/laws.FnExactDotWrite", spec := "fnExactDotWrite", unfollowed := true, recurses := true, named := ["io.ErrShortWrite"], apart := false, laid := [("io.ErrShortWrite", laid_io_ErrShortWrite)], narrowed := true }
def FnExactDotWriteUptoSaid : Prop := fnExactDotWriteUptoRow.holds Tryd.pinned (OpenSpec.upto fnExactDotWriteSpec)

/-- 'laws.FnDotReads', WHERE WHAT IT READS IS OF BULK AT MOST 1048576: true; the input reads as it did. -/
def fnDotReadsUptoRow : OpenClaim := { program := "yteiiocibldpioaadoor", sum := "89dc571e5687ca1310afeff1d7533e6dcc1aaf235170574b4dcd7d965c61d941", func := "loop.example/pub-headerlines/laws.FnDotReads", spec := "fnDotReads", unfollowed := true, recurses := true, named := ["io.EOF", "io.ErrUnexpectedEOF", "bufio.errNegativeRead", "io.ErrNoProgress", "bufio.ErrInvalidUnreadByte"], apart := false, laid := [("io.EOF", laid_io_EOF), ("io.ErrUnexpectedEOF", laid_io_ErrUnexpectedEOF), ("io.ErrNoProgress", laid_io_ErrNoProgress), ("bufio.ErrInvalidUnreadByte", laid_bufio_ErrInvalidUnreadByte), ("bufio.errNegativeRead", laid_bufio_errNegativeRead)], narrowed := true }
def FnDotReadsUptoSaid : Prop := fnDotReadsUptoRow.holds Tryd.pinned (OpenSpec.upto fnDotReadsSpec)

/-- 'laws.FnDotCut', WHERE WHAT IT READS IS OF BULK AT MOST 1048576: true; the input reads as it did. -/
def fnDotCutUptoRow : OpenClaim := { program := "yteiiocibldpioaadoor", sum := "89dc571e5687ca1310afeff1d7533e6dcc1aaf235170574b4dcd7d965c61d941", func := "loop.example/pub-headerlines/laws.FnDotCut", spec := "fnDotCut", unfollowed := true, recurses := true, named := ["io.EOF", "io.ErrUnexpectedEOF", "bufio.errNegativeRead", "io.ErrNoProgress", "bufio.ErrInvalidUnreadByte"], apart := false, laid := [("io.EOF", laid_io_EOF), ("io.ErrUnexpectedEOF", laid_io_ErrUnexpectedEOF), ("io.ErrNoProgress", laid_io_ErrNoProgress), ("bufio.ErrInvalidUnreadByte", laid_bufio_ErrInvalidUnreadByte), ("bufio.errNegativeRead", laid_bufio_errNegativeRead)], narrowed := true }
def FnDotCutUptoSaid : Prop := fnDotCutUptoRow.holds Tryd.pinned (OpenSpec.upto fnDotCutSpec)

/-- 'laws.FnExactDot', WHERE WHAT IT READS IS OF BULK AT MOST 1048576: true; the input reads as it did. -/
def fnExactDotUptoRow : OpenClaim := { program := "yteiiocibldpioaadoor", sum := "89dc571e5687ca1310afeff1d7533e6dcc1aaf235170574b4dcd7d965c61d941", func := "loop.example/pub-headerlines/laws.FnExactDot", spec := "fnExactDot", unfollowed := true, recurses := true, named := ["io.EOF", "io.ErrUnexpectedEOF", "bufio.errNegativeRead", "io.ErrNoProgress", "bufio.ErrInvalidUnreadByte"], apart := false, laid := [("io.EOF", laid_io_EOF), ("io.ErrUnexpectedEOF", laid_io_ErrUnexpectedEOF), ("io.ErrNoProgress", laid_io_ErrNoProgress), ("bufio.ErrInvalidUnreadByte", laid_bufio_ErrInvalidUnreadByte), ("bufio.errNegativeRead", laid_bufio_errNegativeRead)], narrowed := true }
def FnExactDotUptoSaid : Prop := fnExactDotUptoRow.holds Tryd.pinned (OpenSpec.upto fnExactDotSpec)

/-- 'laws.FnExactLines', WHERE WHAT IT READS IS OF BULK AT MOST 1048576: true; the input reads as it did. -/
def fnExactLinesUptoRow : OpenClaim := { program := "yteiiocibldpioaadoor", sum := "89dc571e5687ca1310afeff1d7533e6dcc1aaf235170574b4dcd7d965c61d941", func := "loop.example/pub-headerlines/laws.FnExactLines", spec := "fnExactLines", inPlace := ["internal/bytealg.IndexByte"], unfollowed := true, recurses := true, named := ["loop.example/pub-headerlines/pub/textproto.errMessageTooLarge", "io.EOF", "io.ErrUnexpectedEOF", "bufio.errNegativeRead", "io.ErrNoProgress", "bufio.ErrInvalidUnreadByte", "bufio.ErrBufferFull"], ifaces := true, apart := false, laid := [("io.EOF", laid_io_EOF), ("io.ErrUnexpectedEOF", laid_io_ErrUnexpectedEOF), ("io.ErrNoProgress", laid_io_ErrNoProgress), ("bufio.ErrInvalidUnreadByte", laid_bufio_ErrInvalidUnreadByte), ("bufio.ErrBufferFull", laid_bufio_ErrBufferFull), ("bufio.errNegativeRead", laid_bufio_errNegativeRead), ("loop.example/pub-headerlines/pub/textproto.errMessageTooLarge", laid_loop_example_pub_headerlines_pub_textproto_errMessageTooLarge)], narrowed := true }
def FnExactLinesUptoSaid : Prop := fnExactLinesUptoRow.holds Tryd.pinned (OpenSpec.upto fnExactLinesSpec)

/-- 'laws.FnSlowLines', WHERE WHAT IT READS IS OF BULK AT MOST 1048576: true; the input reads as it did. -/
def fnSlowLinesUptoRow : OpenClaim := { program := "yteiiocibldpioaadoor", sum := "89dc571e5687ca1310afeff1d7533e6dcc1aaf235170574b4dcd7d965c61d941", func := "loop.example/pub-headerlines/laws.FnSlowLines", spec := "fnSlowLines", inPlace := ["internal/bytealg.IndexByte"], unfollowed := true, recurses := true, named := ["loop.example/pub-headerlines/pub/textproto.errMessageTooLarge", "io.EOF", "io.ErrUnexpectedEOF", "bufio.errNegativeRead", "io.ErrNoProgress", "bufio.ErrInvalidUnreadByte", "bufio.ErrBufferFull"], ifaces := true, apart := false, laid := [("io.EOF", laid_io_EOF), ("io.ErrUnexpectedEOF", laid_io_ErrUnexpectedEOF), ("io.ErrNoProgress", laid_io_ErrNoProgress), ("bufio.ErrInvalidUnreadByte", laid_bufio_ErrInvalidUnreadByte), ("bufio.ErrBufferFull", laid_bufio_ErrBufferFull), ("bufio.errNegativeRead", laid_bufio_errNegativeRead), ("loop.example/pub-headerlines/pub/textproto.errMessageTooLarge", laid_loop_example_pub_headerlines_pub_textproto_errMessageTooLarge)], narrowed := true }
def FnSlowLinesUptoSaid : Prop := fnSlowLinesUptoRow.holds Tryd.pinned (OpenSpec.upto fnSlowLinesSpec)

/-- 'laws.FnExactDotLines', WHERE WHAT IT READS IS OF BULK AT MOST 1048576: true; the input reads as it did. -/
def fnExactDotLinesUptoRow : OpenClaim := { program := "yteiiocibldpioaadoor", sum := "89dc571e5687ca1310afeff1d7533e6dcc1aaf235170574b4dcd7d965c61d941", func := "loop.example/pub-headerlines/laws.FnExactDotLines", spec := "fnExactDotLines", inPlace := ["internal/bytealg.IndexByte"], unfollowed := true, recurses := true, named := ["io.EOF", "io.ErrUnexpectedEOF", "loop.example/pub-headerlines/pub/textproto.errMessageTooLarge", "bufio.errNegativeRead", "io.ErrNoProgress", "bufio.ErrInvalidUnreadByte", "bufio.ErrBufferFull"], ifaces := true, apart := false, laid := [("io.EOF", laid_io_EOF), ("io.ErrUnexpectedEOF", laid_io_ErrUnexpectedEOF), ("io.ErrNoProgress", laid_io_ErrNoProgress), ("bufio.ErrInvalidUnreadByte", laid_bufio_ErrInvalidUnreadByte), ("bufio.ErrBufferFull", laid_bufio_ErrBufferFull), ("bufio.errNegativeRead", laid_bufio_errNegativeRead), ("loop.example/pub-headerlines/pub/textproto.errMessageTooLarge", laid_loop_example_pub_headerlines_pub_textproto_errMessageTooLarge)], narrowed := true }
def FnExactDotLinesUptoSaid : Prop := fnExactDotLinesUptoRow.holds Tryd.pinned (OpenSpec.upto fnExactDotLinesSpec)

/-- 'laws.FnExactContinued', WHERE WHAT IT READS IS OF BULK AT MOST 1048576: true; the input reads as it did. -/
def fnExactContinuedUptoRow : OpenClaim := { program := "yteiiocibldpioaadoor", sum := "89dc571e5687ca1310afeff1d7533e6dcc1aaf235170574b4dcd7d965c61d941", func := "loop.example/pub-headerlines/laws.FnExactContinued", spec := "fnExactContinued", inPlace := ["internal/bytealg.IndexByte"], unfollowed := true, recurses := true, named := ["loop.example/pub-headerlines/pub/textproto.errMessageTooLarge", "io.EOF", "io.ErrUnexpectedEOF", "bufio.errNegativeRead", "io.ErrNoProgress", "bufio.ErrInvalidUnreadByte", "bufio.ErrBufferFull", "bufio.ErrNegativeCount"], ifaces := true, apart := false, laid := [("io.EOF", laid_io_EOF), ("io.ErrUnexpectedEOF", laid_io_ErrUnexpectedEOF), ("io.ErrNoProgress", laid_io_ErrNoProgress), ("bufio.ErrInvalidUnreadByte", laid_bufio_ErrInvalidUnreadByte), ("bufio.ErrBufferFull", laid_bufio_ErrBufferFull), ("bufio.ErrNegativeCount", laid_bufio_ErrNegativeCount), ("bufio.errNegativeRead", laid_bufio_errNegativeRead), ("loop.example/pub-headerlines/pub/textproto.errMessageTooLarge", laid_loop_example_pub_headerlines_pub_textproto_errMessageTooLarge)], narrowed := true }
def FnExactContinuedUptoSaid : Prop := fnExactContinuedUptoRow.holds Tryd.pinned (OpenSpec.upto fnExactContinuedSpec)

/-- 'laws.FnDotBoth', WHERE WHAT IT READS IS OF BULK AT MOST 1048576: true; the input reads as it did. -/
def fnDotBothUptoRow : OpenClaim := { program := "yteiiocibldpioaadoor", sum := "89dc571e5687ca1310afeff1d7533e6dcc1aaf235170574b4dcd7d965c61d941", func := "loop.example/pub-headerlines/laws.FnDotBoth", spec := "fnDotBoth", inPlace := ["internal/bytealg.IndexByte"], unfollowed := true, recurses := true, named := ["io.EOF", "io.ErrUnexpectedEOF", "loop.example/pub-headerlines/pub/textproto.errMessageTooLarge", "bufio.errNegativeRead", "io.ErrNoProgress", "bufio.ErrInvalidUnreadByte", "bufio.ErrBufferFull"], ifaces := true, apart := false, laid := [("io.EOF", laid_io_EOF), ("io.ErrUnexpectedEOF", laid_io_ErrUnexpectedEOF), ("io.ErrNoProgress", laid_io_ErrNoProgress), ("bufio.ErrInvalidUnreadByte", laid_bufio_ErrInvalidUnreadByte), ("bufio.ErrBufferFull", laid_bufio_ErrBufferFull), ("bufio.errNegativeRead", laid_bufio_errNegativeRead), ("loop.example/pub-headerlines/pub/textproto.errMessageTooLarge", laid_loop_example_pub_headerlines_pub_textproto_errMessageTooLarge)], narrowed := true }
def FnDotBothUptoSaid : Prop := fnDotBothUptoRow.holds Tryd.pinned (OpenSpec.upto fnDotBothSpec)

/-- 'laws.FnDotRound', WHERE WHAT IT READS IS OF BULK AT MOST 1048576: true; the input reads as it did. -/
def fnDotRoundUptoRow : OpenClaim := { program := "yteiiocibldpioaadoor", sum := "89dc571e5687ca1310afeff1d7533e6dcc1aaf235170574b4dcd7d965c61d941", func := "loop.example/pub-headerlines/laws.FnDotRound", spec := "fnDotRound", unfollowed := true, recurses := true, named := ["io.ErrShortWrite", "io.EOF", "io.ErrUnexpectedEOF", "bufio.errNegativeRead", "io.ErrNoProgress", "bufio.ErrInvalidUnreadByte"], apart := false, laid := [("io.ErrShortWrite", laid_io_ErrShortWrite), ("io.EOF", laid_io_EOF), ("io.ErrUnexpectedEOF", laid_io_ErrUnexpectedEOF), ("io.ErrNoProgress", laid_io_ErrNoProgress), ("bufio.ErrInvalidUnreadByte", laid_bufio_ErrInvalidUnreadByte), ("bufio.errNegativeRead", laid_bufio_errNegativeRead)], narrowed := true }
def FnDotRoundUptoSaid : Prop := fnDotRoundUptoRow.holds Tryd.pinned (OpenSpec.upto fnDotRoundSpec)

end Rows
end Go.Proofs.YteiiocibldpioaaDoor
