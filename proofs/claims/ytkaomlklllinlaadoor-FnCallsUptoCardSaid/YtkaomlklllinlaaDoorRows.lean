/-
  NARROWER THAN 'FOR EVERY INPUT', by the rows' own cells (each row's printed sentence says how): FnTakeTake: laid · FnCalls: laid · FnHeadIsBlocks: laid · FnBroken: laid · FnLayered: laid · FnBackBack: laid · FnDropDrop: laid · FnPieces: laid · FnStopIsTake: laid · FnStray: laid.
  DERIVED. THE GIVEN ROWS OF THIS SEAT. 10 by the template 'for every input the law returns true; each argument reads behind the call as it read before'; 0 by the template 'total and deterministic' (their statements: YtkaomlklllinlaaDoorTotals.lean).
  GIVEN WITH THE SEED: the statements are not yours to turn. If you find one false, say at which input.
  Laid BY PROGRAM, IN A SANDBOX (cutbox-rows.mjs): the forced cells as the released guide's own fill.sh prints them over the translation c83aa709626460f6… (all of the seat's roots in one cut). By AI agents, Wed Nov 11 2026. No macro, syntax, notation, axiom, sorry.
-/
import Derived.Test.YtkaomlklllinlaaDoorChecked
import GoSem.PinnedTables
import GoSem.Claim
import GoSem.ClaimJoined
import GoSem.ClaimMapViews
import Derived.JoinedTies
import Derived.KernelRfl
namespace Go.Proofs.YtkaomlklllinlaaDoor
/- THE CELL 'sum', in the pinned program and in every row, IS THE sha256 OF THE DUMP (.gsa) THAT YtkaomlklllinlaaDoorProg.lean LOADS. Nothing in Lean hashes anything: it is a label: what it is worth is what the hold of that sum in a sandbox is worth. -/
noncomputable def Tryd.pinned : Pinned := { name := "ytkaomlklllinlaadoor", sum := "c83aa709626460f6b9d98b38a96105d17cf6861bcef8c17f930562af9573dcc2", checked := Tryd.checked }
namespace Rows
def none {H : Type} : Left H := { results := [], args := [] }

/- WHAT THE LISTED PACKAGE-LEVEL VARIABLES READ AS WHEN THE CALL BEGINS. Each datum BY PROGRAM (the guide's laid-datum.mjs) off the statement by which the dump's own 'gosem.cut.vars' lays the variable. In a bare row this is a premise. The card (YtkaomlklllinlaaDoorCards.lean) ties it to the program's text. -/
def laid_unicode_utf8_acceptRanges {H : Type} : DataW H := .agg [.agg [.lit (.int .u8 128), .lit (.int .u8 191)], .agg [.lit (.int .u8 160), .lit (.int .u8 191)], .agg [.lit (.int .u8 128), .lit (.int .u8 159)], .agg [.lit (.int .u8 144), .lit (.int .u8 191)], .agg [.lit (.int .u8 128), .lit (.int .u8 143)], .agg [.lit (.int .u8 0), .lit (.int .u8 0)], .agg [.lit (.int .u8 0), .lit (.int .u8 0)], .agg [.lit (.int .u8 0), .lit (.int .u8 0)], .agg [.lit (.int .u8 0), .lit (.int .u8 0)], .agg [.lit (.int .u8 0), .lit (.int .u8 0)], .agg [.lit (.int .u8 0), .lit (.int .u8 0)], .agg [.lit (.int .u8 0), .lit (.int .u8 0)], .agg [.lit (.int .u8 0), .lit (.int .u8 0)], .agg [.lit (.int .u8 0), .lit (.int .u8 0)], .agg [.lit (.int .u8 0), .lit (.int .u8 0)], .agg [.lit (.int .u8 0), .lit (.int .u8 0)]]
def laid_io_EOF {H : Type} : DataW H := .iface "*errors.errorString" (.ptr (.agg [.lit (.string [69, 79, 70])]))
def laid_io_ErrNoProgress {H : Type} : DataW H := .iface "*errors.errorString" (.ptr (.agg [.lit (.string [109, 117, 108, 116, 105, 112, 108, 101, 32, 82, 101, 97, 100, 32, 99, 97, 108, 108, 115, 32, 114, 101, 116, 117, 114, 110, 32, 110, 111, 32, 100, 97, 116, 97, 32, 111, 114, 32, 101, 114, 114, 111, 114])]))
def laid_bufio_ErrTooLong {H : Type} : DataW H := .iface "*errors.errorString" (.ptr (.agg [.lit (.string [98, 117, 102, 105, 111, 46, 83, 99, 97, 110, 110, 101, 114, 58, 32, 116, 111, 107, 101, 110, 32, 116, 111, 111, 32, 108, 111, 110, 103])]))
def laid_bufio_ErrNegativeAdvance {H : Type} : DataW H := .iface "*errors.errorString" (.ptr (.agg [.lit (.string [98, 117, 102, 105, 111, 46, 83, 99, 97, 110, 110, 101, 114, 58, 32, 83, 112, 108, 105, 116, 70, 117, 110, 99, 32, 114, 101, 116, 117, 114, 110, 115, 32, 110, 101, 103, 97, 116, 105, 118, 101, 32, 97, 100, 118, 97, 110, 99, 101, 32, 99, 111, 117, 110, 116])]))
def laid_bufio_ErrAdvanceTooFar {H : Type} : DataW H := .iface "*errors.errorString" (.ptr (.agg [.lit (.string [98, 117, 102, 105, 111, 46, 83, 99, 97, 110, 110, 101, 114, 58, 32, 83, 112, 108, 105, 116, 70, 117, 110, 99, 32, 114, 101, 116, 117, 114, 110, 115, 32, 97, 100, 118, 97, 110, 99, 101, 32, 99, 111, 117, 110, 116, 32, 98, 101, 121, 111, 110, 100, 32, 105, 110, 112, 117, 116])]))
def laid_bufio_ErrBadReadCount {H : Type} : DataW H := .iface "*errors.errorString" (.ptr (.agg [.lit (.string [98, 117, 102, 105, 111, 46, 83, 99, 97, 110, 110, 101, 114, 58, 32, 82, 101, 97, 100, 32, 114, 101, 116, 117, 114, 110, 101, 100, 32, 105, 109, 112, 111, 115, 115, 105, 98, 108, 101, 32, 99, 111, 117, 110, 116])]))
def laid_bufio_ErrFinalToken {H : Type} : DataW H := .iface "*errors.errorString" (.ptr (.agg [.lit (.string [102, 105, 110, 97, 108, 32, 116, 111, 107, 101, 110])]))
def laid_lib_heddleeye_impl_errSplit {H : Type} : DataW H := .iface "*errors.errorString" (.ptr (.agg [.lit (.string [115, 112, 108, 105, 116])]))
def laid_lib_heddleeye_impl_errRead {H : Type} : DataW H := .iface "*errors.errorString" (.ptr (.agg [.lit (.string [114, 101, 97, 100])]))
/-- One of Go's own tables, pinned by name: the form's constant. -/
def laid_unicode_utf8_first : DataW Unit := Go.Pinned.utf8First

/-- 'laws.FnTakeTake': WHATEVER THE INPUT: true; the input reads as it did. -/
def fnTakeTakeSpec : ChangeSpec := { name := "fnTakeTake", fn := fun _ => fun
  | [d1, d2, d3, d4, d5] => { results := [.lit (.bool true)], args := [d1, d2, d3, d4, d5] }
  | _ => none }
def fnTakeTakeRow : OpenClaim := { program := "ytkaomlklllinlaadoor", sum := "c83aa709626460f6b9d98b38a96105d17cf6861bcef8c17f930562af9573dcc2", func := "lib-heddleeye/laws.FnTakeTake", spec := "fnTakeTake", inPlace := ["internal/bytealg.IndexByte", "internal/reflectlite.TypeOf"], unfollowed := true, recurses := true, named := ["unicode/utf8.first", "unicode/utf8.acceptRanges", "bufio.ErrFinalToken", "lib-heddleeye/impl.errSplit", "bufio.ErrTooLong", "bufio.ErrBadReadCount", "io.ErrNoProgress", "io.EOF", "bufio.ErrNegativeAdvance", "bufio.ErrAdvanceTooFar", "lib-heddleeye/impl.errRead"], apart := false, laid := [("unicode/utf8.acceptRanges", laid_unicode_utf8_acceptRanges), ("io.EOF", laid_io_EOF), ("io.ErrNoProgress", laid_io_ErrNoProgress), ("bufio.ErrTooLong", laid_bufio_ErrTooLong), ("bufio.ErrNegativeAdvance", laid_bufio_ErrNegativeAdvance), ("bufio.ErrAdvanceTooFar", laid_bufio_ErrAdvanceTooFar), ("bufio.ErrBadReadCount", laid_bufio_ErrBadReadCount), ("bufio.ErrFinalToken", laid_bufio_ErrFinalToken), ("lib-heddleeye/impl.errSplit", laid_lib_heddleeye_impl_errSplit), ("lib-heddleeye/impl.errRead", laid_lib_heddleeye_impl_errRead), ("unicode/utf8.first", laid_unicode_utf8_first)] }
def FnTakeTakeSaid : Prop := fnTakeTakeRow.holds Tryd.pinned (OpenSpec.ofChange fnTakeTakeSpec)

/-- ITS FALSE NEIGHBOUR: 'it returns false'. Refute it at one input. -/
def fnTakeTakeWrong : ChangeSpec := { name := "fnTakeTake", fn := fun _ => fun
  | [d1, d2, d3, d4, d5] => { results := [.lit (.bool false)], args := [d1, d2, d3, d4, d5] }
  | _ => none }
def FnTakeTakeWrongFalsely : Prop := fnTakeTakeRow.holds Tryd.pinned (OpenSpec.ofChange fnTakeTakeWrong)

/-- 'laws.FnCalls': WHATEVER THE INPUT: true; the input reads as it did. -/
def fnCallsSpec : ChangeSpec := { name := "fnCalls", fn := fun _ => fun
  | [d1, d2, d3, d4, d5] => { results := [.lit (.bool true)], args := [d1, d2, d3, d4, d5] }
  | _ => none }
def fnCallsRow : OpenClaim := { program := "ytkaomlklllinlaadoor", sum := "c83aa709626460f6b9d98b38a96105d17cf6861bcef8c17f930562af9573dcc2", func := "lib-heddleeye/laws.FnCalls", spec := "fnCalls", inPlace := ["internal/bytealg.IndexByte", "internal/reflectlite.TypeOf"], unfollowed := true, recurses := true, named := ["unicode/utf8.first", "unicode/utf8.acceptRanges", "bufio.ErrFinalToken", "lib-heddleeye/impl.errSplit", "io.EOF", "bufio.ErrTooLong", "bufio.ErrNegativeAdvance", "bufio.ErrAdvanceTooFar", "lib-heddleeye/impl.errRead", "bufio.ErrBadReadCount", "io.ErrNoProgress"], apart := false, laid := [("unicode/utf8.acceptRanges", laid_unicode_utf8_acceptRanges), ("io.EOF", laid_io_EOF), ("io.ErrNoProgress", laid_io_ErrNoProgress), ("bufio.ErrTooLong", laid_bufio_ErrTooLong), ("bufio.ErrNegativeAdvance", laid_bufio_ErrNegativeAdvance), ("bufio.ErrAdvanceTooFar", laid_bufio_ErrAdvanceTooFar), ("bufio.ErrBadReadCount", laid_bufio_ErrBadReadCount), ("bufio.ErrFinalToken", laid_bufio_ErrFinalToken), ("lib-heddleeye/impl.errSplit", laid_lib_heddleeye_impl_errSplit), ("lib-heddleeye/impl.errRead", laid_lib_heddleeye_impl_errRead), ("unicode/utf8.first", laid_unicode_utf8_first)] }
def FnCallsSaid : Prop := fnCallsRow.holds Tryd.pinned (OpenSpec.ofChange fnCallsSpec)

/-- ITS FALSE NEIGHBOUR: 'it returns false'. Refute it at one input. -/
def fnCallsWrong : ChangeSpec := { name := "fnCalls", fn := fun _ => fun
  | [d1, d2, d3, d4, d5] => { results := [.lit (.bool false)], args := [d1, d2, d3, d4, d5] }
  | _ => none }
def FnCallsWrongFalsely : Prop := fnCallsRow.holds Tryd.pinned (OpenSpec.ofChange fnCallsWrong)

/-- 'laws.FnHeadIsBlocks': WHATEVER THE INPUT: true; the input reads as it did. -/
def fnHeadIsBlocksSpec : ChangeSpec := { name := "fnHeadIsBlocks", fn := fun _ => fun
  | [d1, d2, d3, d4] => { results := [.lit (.bool true)], args := [d1, d2, d3, d4] }
  | _ => none }
def fnHeadIsBlocksRow : OpenClaim := { program := "ytkaomlklllinlaadoor", sum := "c83aa709626460f6b9d98b38a96105d17cf6861bcef8c17f930562af9573dcc2", func := "lib-heddleeye/laws.FnHeadIsBlocks", spec := "fnHeadIsBlocks", inPlace := ["internal/bytealg.IndexByte", "internal/reflectlite.TypeOf"], unfollowed := true, recurses := true, named := ["bufio.ErrFinalToken", "bufio.ErrTooLong", "bufio.ErrBadReadCount", "io.ErrNoProgress", "io.EOF", "bufio.ErrNegativeAdvance", "bufio.ErrAdvanceTooFar", "lib-heddleeye/impl.errSplit", "lib-heddleeye/impl.errRead", "unicode/utf8.first", "unicode/utf8.acceptRanges"], apart := false, laid := [("unicode/utf8.acceptRanges", laid_unicode_utf8_acceptRanges), ("io.EOF", laid_io_EOF), ("io.ErrNoProgress", laid_io_ErrNoProgress), ("bufio.ErrTooLong", laid_bufio_ErrTooLong), ("bufio.ErrNegativeAdvance", laid_bufio_ErrNegativeAdvance), ("bufio.ErrAdvanceTooFar", laid_bufio_ErrAdvanceTooFar), ("bufio.ErrBadReadCount", laid_bufio_ErrBadReadCount), ("bufio.ErrFinalToken", laid_bufio_ErrFinalToken), ("lib-heddleeye/impl.errSplit", laid_lib_heddleeye_impl_errSplit), ("lib-heddleeye/impl.errRead", laid_lib_heddleeye_impl_errRead), ("unicode/utf8.first", laid_unicode_utf8_first)] }
def FnHeadIsBlocksSaid : Prop := fnHeadIsBlocksRow.holds Tryd.pinned (OpenSpec.ofChange fnHeadIsBlocksSpec)

/-- ITS FALSE NEIGHBOUR: 'it returns false'. Refute it at one input. -/
def fnHeadIsBlocksWrong : ChangeSpec := { name := "fnHeadIsBlocks", fn := fun _ => fun
  | [d1, d2, d3, d4] => { results := [.lit (.bool false)], args := [d1, d2, d3, d4] }
  | _ => none }
def FnHeadIsBlocksWrongFalsely : Prop := fnHeadIsBlocksRow.holds Tryd.pinned (OpenSpec.ofChange fnHeadIsBlocksWrong)

/-- 'laws.FnBroken': WHATEVER THE INPUT: true; the input reads as it did. -/
def fnBrokenSpec : ChangeSpec := { name := "fnBroken", fn := fun _ => fun
  | [d1, d2, d3] => { results := [.lit (.bool true)], args := [d1, d2, d3] }
  | _ => none }
def fnBrokenRow : OpenClaim := { program := "ytkaomlklllinlaadoor", sum := "c83aa709626460f6b9d98b38a96105d17cf6861bcef8c17f930562af9573dcc2", func := "lib-heddleeye/laws.FnBroken", spec := "fnBroken", inPlace := ["internal/bytealg.IndexByte", "internal/reflectlite.TypeOf"], unfollowed := true, recurses := true, named := ["unicode/utf8.first", "unicode/utf8.acceptRanges", "bufio.ErrFinalToken", "lib-heddleeye/impl.errSplit", "bufio.ErrTooLong", "bufio.ErrBadReadCount", "io.ErrNoProgress", "io.EOF", "bufio.ErrNegativeAdvance", "bufio.ErrAdvanceTooFar", "lib-heddleeye/impl.errRead"], apart := false, laid := [("unicode/utf8.acceptRanges", laid_unicode_utf8_acceptRanges), ("io.EOF", laid_io_EOF), ("io.ErrNoProgress", laid_io_ErrNoProgress), ("bufio.ErrTooLong", laid_bufio_ErrTooLong), ("bufio.ErrNegativeAdvance", laid_bufio_ErrNegativeAdvance), ("bufio.ErrAdvanceTooFar", laid_bufio_ErrAdvanceTooFar), ("bufio.ErrBadReadCount", laid_bufio_ErrBadReadCount), ("bufio.ErrFinalToken", laid_bufio_ErrFinalToken), ("lib-heddleeye/impl.errSplit", laid_lib_heddleeye_impl_errSplit), ("lib-heddleeye/impl.errRead", laid_lib_heddleeye_impl_errRead), ("unicode/utf8.first", laid_unicode_utf8_first)] }
def FnBrokenSaid : Prop := fnBrokenRow.holds Tryd.pinned (OpenSpec.ofChange fnBrokenSpec)

/-- ITS FALSE NEIGHBOUR: 'it returns false'. Refute it at one input. -/
def fnBrokenWrong : ChangeSpec := { name := "fnBroken", fn := fun _ => fun
  | [d1, d2, d3] => { results := [.lit (.bool false)], args := [d1, d2, d3] }
  | _ => none }
def FnBrokenWrongFalsely : Prop := fnBrokenRow.holds Tryd.pinned (OpenSpec.ofChange fnBrokenWrong)

/-- 'laws.FnLayered': WHATEVER THE INPUT: true; the input reads as it did. -/
def fnLayeredSpec : ChangeSpec := { name := "fnLayered", fn := fun _ => fun
  | [d1, d2, d3, d4] => { results := [.lit (.bool true)], args := [d1, d2, d3, d4] }
  | _ => none }
def fnLayeredRow : OpenClaim := { program := "ytkaomlklllinlaadoor", sum := "c83aa709626460f6b9d98b38a96105d17cf6861bcef8c17f930562af9573dcc2", func := "lib-heddleeye/laws.FnLayered", spec := "fnLayered", inPlace := ["internal/bytealg.IndexByte", "internal/reflectlite.TypeOf"], unfollowed := true, recurses := true, named := ["unicode/utf8.first", "unicode/utf8.acceptRanges", "bufio.ErrFinalToken", "lib-heddleeye/impl.errSplit", "bufio.ErrTooLong", "bufio.ErrBadReadCount", "io.ErrNoProgress", "io.EOF", "bufio.ErrNegativeAdvance", "bufio.ErrAdvanceTooFar", "lib-heddleeye/impl.errRead"], apart := false, laid := [("unicode/utf8.acceptRanges", laid_unicode_utf8_acceptRanges), ("io.EOF", laid_io_EOF), ("io.ErrNoProgress", laid_io_ErrNoProgress), ("bufio.ErrTooLong", laid_bufio_ErrTooLong), ("bufio.ErrNegativeAdvance", laid_bufio_ErrNegativeAdvance), ("bufio.ErrAdvanceTooFar", laid_bufio_ErrAdvanceTooFar), ("bufio.ErrBadReadCount", laid_bufio_ErrBadReadCount), ("bufio.ErrFinalToken", laid_bufio_ErrFinalToken), ("lib-heddleeye/impl.errSplit", laid_lib_heddleeye_impl_errSplit), ("lib-heddleeye/impl.errRead", laid_lib_heddleeye_impl_errRead), ("unicode/utf8.first", laid_unicode_utf8_first)] }
def FnLayeredSaid : Prop := fnLayeredRow.holds Tryd.pinned (OpenSpec.ofChange fnLayeredSpec)

/-- ITS FALSE NEIGHBOUR: 'it returns false'. Refute it at one input. -/
def fnLayeredWrong : ChangeSpec := { name := "fnLayered", fn := fun _ => fun
  | [d1, d2, d3, d4] => { results := [.lit (.bool false)], args := [d1, d2, d3, d4] }
  | _ => none }
def FnLayeredWrongFalsely : Prop := fnLayeredRow.holds Tryd.pinned (OpenSpec.ofChange fnLayeredWrong)

/-- 'laws.FnBackBack': WHATEVER THE INPUT: true; the input reads as it did. -/
def fnBackBackSpec : ChangeSpec := { name := "fnBackBack", fn := fun _ => fun
  | [d1, d2, d3] => { results := [.lit (.bool true)], args := [d1, d2, d3] }
  | _ => none }
def fnBackBackRow : OpenClaim := { program := "ytkaomlklllinlaadoor", sum := "c83aa709626460f6b9d98b38a96105d17cf6861bcef8c17f930562af9573dcc2", func := "lib-heddleeye/laws.FnBackBack", spec := "fnBackBack", inPlace := ["internal/bytealg.IndexByte", "internal/reflectlite.TypeOf"], unfollowed := true, recurses := true, named := ["unicode/utf8.first", "unicode/utf8.acceptRanges", "bufio.ErrFinalToken", "lib-heddleeye/impl.errSplit", "bufio.ErrTooLong", "bufio.ErrBadReadCount", "io.ErrNoProgress", "io.EOF", "bufio.ErrNegativeAdvance", "bufio.ErrAdvanceTooFar", "lib-heddleeye/impl.errRead"], apart := false, laid := [("unicode/utf8.acceptRanges", laid_unicode_utf8_acceptRanges), ("io.EOF", laid_io_EOF), ("io.ErrNoProgress", laid_io_ErrNoProgress), ("bufio.ErrTooLong", laid_bufio_ErrTooLong), ("bufio.ErrNegativeAdvance", laid_bufio_ErrNegativeAdvance), ("bufio.ErrAdvanceTooFar", laid_bufio_ErrAdvanceTooFar), ("bufio.ErrBadReadCount", laid_bufio_ErrBadReadCount), ("bufio.ErrFinalToken", laid_bufio_ErrFinalToken), ("lib-heddleeye/impl.errSplit", laid_lib_heddleeye_impl_errSplit), ("lib-heddleeye/impl.errRead", laid_lib_heddleeye_impl_errRead), ("unicode/utf8.first", laid_unicode_utf8_first)] }
def FnBackBackSaid : Prop := fnBackBackRow.holds Tryd.pinned (OpenSpec.ofChange fnBackBackSpec)

/-- ITS FALSE NEIGHBOUR: 'it returns false'. Refute it at one input. -/
def fnBackBackWrong : ChangeSpec := { name := "fnBackBack", fn := fun _ => fun
  | [d1, d2, d3] => { results := [.lit (.bool false)], args := [d1, d2, d3] }
  | _ => none }
def FnBackBackWrongFalsely : Prop := fnBackBackRow.holds Tryd.pinned (OpenSpec.ofChange fnBackBackWrong)

/-- 'laws.FnDropDrop': WHATEVER THE INPUT: true; the input reads as it did. -/
def fnDropDropSpec : ChangeSpec := { name := "fnDropDrop", fn := fun _ => fun
  | [d1, d2, d3, d4] => { results := [.lit (.bool true)], args := [d1, d2, d3, d4] }
  | _ => none }
def fnDropDropRow : OpenClaim := { program := "ytkaomlklllinlaadoor", sum := "c83aa709626460f6b9d98b38a96105d17cf6861bcef8c17f930562af9573dcc2", func := "lib-heddleeye/laws.FnDropDrop", spec := "fnDropDrop", inPlace := ["internal/bytealg.IndexByte", "internal/reflectlite.TypeOf"], unfollowed := true, recurses := true, named := ["unicode/utf8.first", "unicode/utf8.acceptRanges", "bufio.ErrFinalToken", "lib-heddleeye/impl.errSplit", "bufio.ErrTooLong", "bufio.ErrBadReadCount", "io.ErrNoProgress", "io.EOF", "bufio.ErrNegativeAdvance", "bufio.ErrAdvanceTooFar", "lib-heddleeye/impl.errRead"], apart := false, laid := [("unicode/utf8.acceptRanges", laid_unicode_utf8_acceptRanges), ("io.EOF", laid_io_EOF), ("io.ErrNoProgress", laid_io_ErrNoProgress), ("bufio.ErrTooLong", laid_bufio_ErrTooLong), ("bufio.ErrNegativeAdvance", laid_bufio_ErrNegativeAdvance), ("bufio.ErrAdvanceTooFar", laid_bufio_ErrAdvanceTooFar), ("bufio.ErrBadReadCount", laid_bufio_ErrBadReadCount), ("bufio.ErrFinalToken", laid_bufio_ErrFinalToken), ("lib-heddleeye/impl.errSplit", laid_lib_heddleeye_impl_errSplit), ("lib-heddleeye/impl.errRead", laid_lib_heddleeye_impl_errRead), ("unicode/utf8.first", laid_unicode_utf8_first)] }
def FnDropDropSaid : Prop := fnDropDropRow.holds Tryd.pinned (OpenSpec.ofChange fnDropDropSpec)

/-- ITS FALSE NEIGHBOUR: 'it returns false'. Refute it at one input. -/
def fnDropDropWrong : ChangeSpec := { name := "fnDropDrop", fn := fun _ => fun
  | [d1, d2, d3, d4] => { results := [.lit (.bool false)], args := [d1, d2, d3, d4] }
  | _ => none }
def FnDropDropWrongFalsely : Prop := fnDropDropRow.holds Tryd.pinned (OpenSpec.ofChange fnDropDropWrong)

/-- 'laws.FnPieces': WHATEVER THE INPUT: true; the input reads as it did. -/
def fnPiecesSpec : ChangeSpec := { name := "fnPieces", fn := fun _ => fun
  | [d1, d2, d3, d4, d5, d6, d7] => { results := [.lit (.bool true)], args := [d1, d2, d3, d4, d5, d6, d7] }
  | _ => none }
def fnPiecesRow : OpenClaim := { program := "ytkaomlklllinlaadoor", sum := "c83aa709626460f6b9d98b38a96105d17cf6861bcef8c17f930562af9573dcc2", func := "lib-heddleeye/laws.FnPieces", spec := "fnPieces", inPlace := ["internal/bytealg.IndexByte", "internal/reflectlite.TypeOf"], unfollowed := true, recurses := true, named := ["unicode/utf8.first", "unicode/utf8.acceptRanges", "bufio.ErrFinalToken", "lib-heddleeye/impl.errSplit", "bufio.ErrTooLong", "bufio.ErrBadReadCount", "io.ErrNoProgress", "io.EOF", "bufio.ErrNegativeAdvance", "bufio.ErrAdvanceTooFar", "lib-heddleeye/impl.errRead"], apart := false, laid := [("unicode/utf8.acceptRanges", laid_unicode_utf8_acceptRanges), ("io.EOF", laid_io_EOF), ("io.ErrNoProgress", laid_io_ErrNoProgress), ("bufio.ErrTooLong", laid_bufio_ErrTooLong), ("bufio.ErrNegativeAdvance", laid_bufio_ErrNegativeAdvance), ("bufio.ErrAdvanceTooFar", laid_bufio_ErrAdvanceTooFar), ("bufio.ErrBadReadCount", laid_bufio_ErrBadReadCount), ("bufio.ErrFinalToken", laid_bufio_ErrFinalToken), ("lib-heddleeye/impl.errSplit", laid_lib_heddleeye_impl_errSplit), ("lib-heddleeye/impl.errRead", laid_lib_heddleeye_impl_errRead), ("unicode/utf8.first", laid_unicode_utf8_first)] }
def FnPiecesSaid : Prop := fnPiecesRow.holds Tryd.pinned (OpenSpec.ofChange fnPiecesSpec)

/-- ITS FALSE NEIGHBOUR: 'it returns false'. Refute it at one input. -/
def fnPiecesWrong : ChangeSpec := { name := "fnPieces", fn := fun _ => fun
  | [d1, d2, d3, d4, d5, d6, d7] => { results := [.lit (.bool false)], args := [d1, d2, d3, d4, d5, d6, d7] }
  | _ => none }
def FnPiecesWrongFalsely : Prop := fnPiecesRow.holds Tryd.pinned (OpenSpec.ofChange fnPiecesWrong)

/-- 'laws.FnStopIsTake': WHATEVER THE INPUT: true; the input reads as it did. -/
def fnStopIsTakeSpec : ChangeSpec := { name := "fnStopIsTake", fn := fun _ => fun
  | [d1, d2, d3, d4] => { results := [.lit (.bool true)], args := [d1, d2, d3, d4] }
  | _ => none }
def fnStopIsTakeRow : OpenClaim := { program := "ytkaomlklllinlaadoor", sum := "c83aa709626460f6b9d98b38a96105d17cf6861bcef8c17f930562af9573dcc2", func := "lib-heddleeye/laws.FnStopIsTake", spec := "fnStopIsTake", inPlace := ["internal/bytealg.IndexByte", "internal/reflectlite.TypeOf"], unfollowed := true, recurses := true, named := ["unicode/utf8.first", "unicode/utf8.acceptRanges", "bufio.ErrFinalToken", "lib-heddleeye/impl.errSplit", "bufio.ErrTooLong", "bufio.ErrBadReadCount", "io.ErrNoProgress", "io.EOF", "bufio.ErrNegativeAdvance", "bufio.ErrAdvanceTooFar", "lib-heddleeye/impl.errRead"], apart := false, laid := [("unicode/utf8.acceptRanges", laid_unicode_utf8_acceptRanges), ("io.EOF", laid_io_EOF), ("io.ErrNoProgress", laid_io_ErrNoProgress), ("bufio.ErrTooLong", laid_bufio_ErrTooLong), ("bufio.ErrNegativeAdvance", laid_bufio_ErrNegativeAdvance), ("bufio.ErrAdvanceTooFar", laid_bufio_ErrAdvanceTooFar), ("bufio.ErrBadReadCount", laid_bufio_ErrBadReadCount), ("bufio.ErrFinalToken", laid_bufio_ErrFinalToken), ("lib-heddleeye/impl.errSplit", laid_lib_heddleeye_impl_errSplit), ("lib-heddleeye/impl.errRead", laid_lib_heddleeye_impl_errRead), ("unicode/utf8.first", laid_unicode_utf8_first)] }
def FnStopIsTakeSaid : Prop := fnStopIsTakeRow.holds Tryd.pinned (OpenSpec.ofChange fnStopIsTakeSpec)

/-- ITS FALSE NEIGHBOUR: 'it returns false'. Refute it at one input. -/
def fnStopIsTakeWrong : ChangeSpec := { name := "fnStopIsTake", fn := fun _ => fun
  | [d1, d2, d3, d4] => { results := [.lit (.bool false)], args := [d1, d2, d3, d4] }
  | _ => none }
def FnStopIsTakeWrongFalsely : Prop := fnStopIsTakeRow.holds Tryd.pinned (OpenSpec.ofChange fnStopIsTakeWrong)

/-- 'laws.FnStray': WHATEVER THE INPUT: true; the input reads as it did. -/
def fnStraySpec : ChangeSpec := { name := "fnStray", fn := fun _ => fun
  | [d1, d2, d3, d4] => { results := [.lit (.bool true)], args := [d1, d2, d3, d4] }
  | _ => none }
def fnStrayRow : OpenClaim := { program := "ytkaomlklllinlaadoor", sum := "c83aa709626460f6b9d98b38a96105d17cf6861bcef8c17f930562af9573dcc2", func := "lib-heddleeye/laws.FnStray", spec := "fnStray", inPlace := ["internal/bytealg.IndexByte", "internal/reflectlite.TypeOf"], unfollowed := true, recurses := true, named := ["unicode/utf8.first", "unicode/utf8.acceptRanges", "bufio.ErrFinalToken", "lib-heddleeye/impl.errSplit", "bufio.ErrTooLong", "bufio.ErrBadReadCount", "io.ErrNoProgress", "io.EOF", "bufio.ErrNegativeAdvance", "bufio.ErrAdvanceTooFar", "lib-heddleeye/impl.errRead"], apart := false, laid := [("unicode/utf8.acceptRanges", laid_unicode_utf8_acceptRanges), ("io.EOF", laid_io_EOF), ("io.ErrNoProgress", laid_io_ErrNoProgress), ("bufio.ErrTooLong", laid_bufio_ErrTooLong), ("bufio.ErrNegativeAdvance", laid_bufio_ErrNegativeAdvance), ("bufio.ErrAdvanceTooFar", laid_bufio_ErrAdvanceTooFar), ("bufio.ErrBadReadCount", laid_bufio_ErrBadReadCount), ("bufio.ErrFinalToken", laid_bufio_ErrFinalToken), ("lib-heddleeye/impl.errSplit", laid_lib_heddleeye_impl_errSplit), ("lib-heddleeye/impl.errRead", laid_lib_heddleeye_impl_errRead), ("unicode/utf8.first", laid_unicode_utf8_first)] }
def FnStraySaid : Prop := fnStrayRow.holds Tryd.pinned (OpenSpec.ofChange fnStraySpec)

/-- ITS FALSE NEIGHBOUR: 'it returns false'. Refute it at one input. -/
def fnStrayWrong : ChangeSpec := { name := "fnStray", fn := fun _ => fun
  | [d1, d2, d3, d4] => { results := [.lit (.bool false)], args := [d1, d2, d3, d4] }
  | _ => none }
def FnStrayWrongFalsely : Prop := fnStrayRow.holds Tryd.pinned (OpenSpec.ofChange fnStrayWrong)

/- THE SECOND FORM. 'bulk': how many values and letters a reading holds, each counted each time it is reached (what is shared counts as often as it is met; a slice's spare places count too). A statement '..UptoSaid' is the law's where the arguments, and the package variables that the reading takes, are together of bulk at most 1048576: NARROWER than '..Said'. Prove '..Said' where nothing that the law and all that it calls make is longer than what came in: it says more and counts as full. Else prove '..UptoSaid'. A law counts once. -/
mutual
def uptoBulk {H : Type} : DataW H → Nat
  | .lit (.string bytes) => bytes.length + 1
  | .lit _ => 1
  | .nil => 1
  | .ptr d => uptoBulk d + 1
  | .slice elems spare => uptoBulkAll elems + uptoBulkAll spare + 1
  | .agg parts => uptoBulkAll parts + 1
  | .iface _ d => uptoBulk d + 1
  | .map entries => uptoBulkEntries entries + 1
  | .held _ => 1
def uptoBulkAll {H : Type} : List (DataW H) → Nat
  | [] => 0
  | d :: r => uptoBulk d + uptoBulkAll r
def uptoBulkEntries {H : Type} : List (Lit × DataW H) → Nat
  | [] => 0
  | x :: r => uptoBulkEntry x + uptoBulkEntries r
def uptoBulkEntry {H : Type} : Lit × DataW H → Nat
  | (.string bytes, d) => bytes.length + uptoBulk d + 1
  | (_, d) => uptoBulk d + 1
 end
def uptoSmall : (H : Type) → List (DataW H) → Bool := fun _ ds => decide (uptoBulkAll ds ≤ 1048576)
def OpenSpec.upto (s : _root_.Go.ChangeSpec) : _root_.Go.OpenSpec := { _root_.Go.OpenSpec.ofChange s with cond := some uptoSmall }

/-- 'laws.FnTakeTake', WHERE WHAT IT READS IS OF BULK AT MOST 1048576: true; the input reads as it did. -/
def fnTakeTakeUptoRow : OpenClaim := { program := "ytkaomlklllinlaadoor", sum := "c83aa709626460f6b9d98b38a96105d17cf6861bcef8c17f930562af9573dcc2", func := "lib-heddleeye/laws.FnTakeTake", spec := "fnTakeTake", inPlace := ["internal/bytealg.IndexByte", "internal/reflectlite.TypeOf"], unfollowed := true, recurses := true, named := ["unicode/utf8.first", "unicode/utf8.acceptRanges", "bufio.ErrFinalToken", "lib-heddleeye/impl.errSplit", "bufio.ErrTooLong", "bufio.ErrBadReadCount", "io.ErrNoProgress", "io.EOF", "bufio.ErrNegativeAdvance", "bufio.ErrAdvanceTooFar", "lib-heddleeye/impl.errRead"], apart := false, laid := [("unicode/utf8.acceptRanges", laid_unicode_utf8_acceptRanges), ("io.EOF", laid_io_EOF), ("io.ErrNoProgress", laid_io_ErrNoProgress), ("bufio.ErrTooLong", laid_bufio_ErrTooLong), ("bufio.ErrNegativeAdvance", laid_bufio_ErrNegativeAdvance), ("bufio.ErrAdvanceTooFar", laid_bufio_ErrAdvanceTooFar), ("bufio.ErrBadReadCount", laid_bufio_ErrBadReadCount), ("bufio.ErrFinalToken", laid_bufio_ErrFinalToken), ("lib-heddleeye/impl.errSplit", laid_lib_heddleeye_impl_errSplit), ("lib-heddleeye/impl.errRead", laid_lib_heddleeye_impl_errRead), ("unicode/utf8.first", laid_unicode_utf8_first)], narrowed := true }
def FnTakeTakeUptoSaid : Prop := fnTakeTakeUptoRow.holds Tryd.pinned (OpenSpec.upto fnTakeTakeSpec)

/-- 'laws.FnCalls', WHERE WHAT IT READS IS OF BULK AT MOST 1048576: true; the input reads as it did. -/
def fnCallsUptoRow : OpenClaim := { program := "ytkaomlklllinlaadoor", sum := "c83aa709626460f6b9d98b38a96105d17cf6861bcef8c17f930562af9573dcc2", func := "lib-heddleeye/laws.FnCalls", spec := "fnCalls", inPlace := ["internal/bytealg.IndexByte", "internal/reflectlite.TypeOf"], unfollowed := true, recurses := true, named := ["unicode/utf8.first", "unicode/utf8.acceptRanges", "bufio.ErrFinalToken", "lib-heddleeye/impl.errSplit", "io.EOF", "bufio.ErrTooLong", "bufio.ErrNegativeAdvance", "bufio.ErrAdvanceTooFar", "lib-heddleeye/impl.errRead", "bufio.ErrBadReadCount", "io.ErrNoProgress"], apart := false, laid := [("unicode/utf8.acceptRanges", laid_unicode_utf8_acceptRanges), ("io.EOF", laid_io_EOF), ("io.ErrNoProgress", laid_io_ErrNoProgress), ("bufio.ErrTooLong", laid_bufio_ErrTooLong), ("bufio.ErrNegativeAdvance", laid_bufio_ErrNegativeAdvance), ("bufio.ErrAdvanceTooFar", laid_bufio_ErrAdvanceTooFar), ("bufio.ErrBadReadCount", laid_bufio_ErrBadReadCount), ("bufio.ErrFinalToken", laid_bufio_ErrFinalToken), ("lib-heddleeye/impl.errSplit", laid_lib_heddleeye_impl_errSplit), ("lib-heddleeye/impl.errRead", laid_lib_heddleeye_impl_errRead), ("unicode/utf8.first", laid_unicode_utf8_first)], narrowed := true }
def FnCallsUptoSaid : Prop := fnCallsUptoRow.holds Tryd.pinned (OpenSpec.upto fnCallsSpec)

/-- 'laws.FnHeadIsBlocks', WHERE WHAT IT READS IS OF BULK AT MOST 1048576: true; the input reads as it did. -/
def fnHeadIsBlocksUptoRow : OpenClaim := { program := "ytkaomlklllinlaadoor", sum := "c83aa709626460f6b9d98b38a96105d17cf6861bcef8c17f930562af9573dcc2", func := "lib-heddleeye/laws.FnHeadIsBlocks", spec := "fnHeadIsBlocks", inPlace := ["internal/bytealg.IndexByte", "internal/reflectlite.TypeOf"], unfollowed := true, recurses := true, named := ["bufio.ErrFinalToken", "bufio.ErrTooLong", "bufio.ErrBadReadCount", "io.ErrNoProgress", "io.EOF", "bufio.ErrNegativeAdvance", "bufio.ErrAdvanceTooFar", "lib-heddleeye/impl.errSplit", "lib-heddleeye/impl.errRead", "unicode/utf8.first", "unicode/utf8.acceptRanges"], apart := false, laid := [("unicode/utf8.acceptRanges", laid_unicode_utf8_acceptRanges), ("io.EOF", laid_io_EOF), ("io.ErrNoProgress", laid_io_ErrNoProgress), ("bufio.ErrTooLong", laid_bufio_ErrTooLong), ("bufio.ErrNegativeAdvance", laid_bufio_ErrNegativeAdvance), ("bufio.ErrAdvanceTooFar", laid_bufio_ErrAdvanceTooFar), ("bufio.ErrBadReadCount", laid_bufio_ErrBadReadCount), ("bufio.ErrFinalToken", laid_bufio_ErrFinalToken), ("lib-heddleeye/impl.errSplit", laid_lib_heddleeye_impl_errSplit), ("lib-heddleeye/impl.errRead", laid_lib_heddleeye_impl_errRead), ("unicode/utf8.first", laid_unicode_utf8_first)], narrowed := true }
def FnHeadIsBlocksUptoSaid : Prop := fnHeadIsBlocksUptoRow.holds Tryd.pinned (OpenSpec.upto fnHeadIsBlocksSpec)

/-- 'laws.FnBroken', WHERE WHAT IT READS IS OF BULK AT MOST 1048576: true; the input reads as it did. -/
def fnBrokenUptoRow : OpenClaim := { program := "ytkaomlklllinlaadoor", sum := "c83aa709626460f6b9d98b38a96105d17cf6861bcef8c17f930562af9573dcc2", func := "lib-heddleeye/laws.FnBroken", spec := "fnBroken", inPlace := ["internal/bytealg.IndexByte", "internal/reflectlite.TypeOf"], unfollowed := true, recurses := true, named := ["unicode/utf8.first", "unicode/utf8.acceptRanges", "bufio.ErrFinalToken", "lib-heddleeye/impl.errSplit", "bufio.ErrTooLong", "bufio.ErrBadReadCount", "io.ErrNoProgress", "io.EOF", "bufio.ErrNegativeAdvance", "bufio.ErrAdvanceTooFar", "lib-heddleeye/impl.errRead"], apart := false, laid := [("unicode/utf8.acceptRanges", laid_unicode_utf8_acceptRanges), ("io.EOF", laid_io_EOF), ("io.ErrNoProgress", laid_io_ErrNoProgress), ("bufio.ErrTooLong", laid_bufio_ErrTooLong), ("bufio.ErrNegativeAdvance", laid_bufio_ErrNegativeAdvance), ("bufio.ErrAdvanceTooFar", laid_bufio_ErrAdvanceTooFar), ("bufio.ErrBadReadCount", laid_bufio_ErrBadReadCount), ("bufio.ErrFinalToken", laid_bufio_ErrFinalToken), ("lib-heddleeye/impl.errSplit", laid_lib_heddleeye_impl_errSplit), ("lib-heddleeye/impl.errRead", laid_lib_heddleeye_impl_errRead), ("unicode/utf8.first", laid_unicode_utf8_first)], narrowed := true }
def FnBrokenUptoSaid : Prop := fnBrokenUptoRow.holds Tryd.pinned (OpenSpec.upto fnBrokenSpec)

/-- 'laws.FnLayered', WHERE WHAT IT READS IS OF BULK AT MOST 1048576: true; the input reads as it did. -/
def fnLayeredUptoRow : OpenClaim := { program := "ytkaomlklllinlaadoor", sum := "c83aa709626460f6b9d98b38a96105d17cf6861bcef8c17f930562af9573dcc2", func := "lib-heddleeye/laws.FnLayered", spec := "fnLayered", inPlace := ["internal/bytealg.IndexByte", "internal/reflectlite.TypeOf"], unfollowed := true, recurses := true, named := ["unicode/utf8.first", "unicode/utf8.acceptRanges", "bufio.ErrFinalToken", "lib-heddleeye/impl.errSplit", "bufio.ErrTooLong", "bufio.ErrBadReadCount", "io.ErrNoProgress", "io.EOF", "bufio.ErrNegativeAdvance", "bufio.ErrAdvanceTooFar", "lib-heddleeye/impl.errRead"], apart := false, laid := [("unicode/utf8.acceptRanges", laid_unicode_utf8_acceptRanges), ("io.EOF", laid_io_EOF), ("io.ErrNoProgress", laid_io_ErrNoProgress), ("bufio.ErrTooLong", laid_bufio_ErrTooLong), ("bufio.ErrNegativeAdvance", laid_bufio_ErrNegativeAdvance), ("bufio.ErrAdvanceTooFar", laid_bufio_ErrAdvanceTooFar), ("bufio.ErrBadReadCount", laid_bufio_ErrBadReadCount), ("bufio.ErrFinalToken", laid_bufio_ErrFinalToken), ("lib-heddleeye/impl.errSplit", laid_lib_heddleeye_impl_errSplit), ("lib-heddleeye/impl.errRead", laid_lib_heddleeye_impl_errRead), ("unicode/utf8.first", laid_unicode_utf8_first)], narrowed := true }
def FnLayeredUptoSaid : Prop := fnLayeredUptoRow.holds Tryd.pinned (OpenSpec.upto fnLayeredSpec)

/-- 'laws.FnBackBack', WHERE WHAT IT READS IS OF BULK AT MOST 1048576: true; the input reads as it did. -/
def fnBackBackUptoRow : OpenClaim := { program := "ytkaomlklllinlaadoor", sum := "c83aa709626460f6b9d98b38a96105d17cf6861bcef8c17f930562af9573dcc2", func := "lib-heddleeye/laws.FnBackBack", spec := "fnBackBack", inPlace := ["internal/bytealg.IndexByte", "internal/reflectlite.TypeOf"], unfollowed := true, recurses := true, named := ["unicode/utf8.first", "unicode/utf8.acceptRanges", "bufio.ErrFinalToken", "lib-heddleeye/impl.errSplit", "bufio.ErrTooLong", "bufio.ErrBadReadCount", "io.ErrNoProgress", "io.EOF", "bufio.ErrNegativeAdvance", "bufio.ErrAdvanceTooFar", "lib-heddleeye/impl.errRead"], apart := false, laid := [("unicode/utf8.acceptRanges", laid_unicode_utf8_acceptRanges), ("io.EOF", laid_io_EOF), ("io.ErrNoProgress", laid_io_ErrNoProgress), ("bufio.ErrTooLong", laid_bufio_ErrTooLong), ("bufio.ErrNegativeAdvance", laid_bufio_ErrNegativeAdvance), ("bufio.ErrAdvanceTooFar", laid_bufio_ErrAdvanceTooFar), ("bufio.ErrBadReadCount", laid_bufio_ErrBadReadCount), ("bufio.ErrFinalToken", laid_bufio_ErrFinalToken), ("lib-heddleeye/impl.errSplit", laid_lib_heddleeye_impl_errSplit), ("lib-heddleeye/impl.errRead", laid_lib_heddleeye_impl_errRead), ("unicode/utf8.first", laid_unicode_utf8_first)], narrowed := true }
def FnBackBackUptoSaid : Prop := fnBackBackUptoRow.holds Tryd.pinned (OpenSpec.upto fnBackBackSpec)

/-- 'laws.FnDropDrop', WHERE WHAT IT READS IS OF BULK AT MOST 1048576: true; the input reads as it did. -/
def fnDropDropUptoRow : OpenClaim := { program := "ytkaomlklllinlaadoor", sum := "c83aa709626460f6b9d98b38a96105d17cf6861bcef8c17f930562af9573dcc2", func := "lib-heddleeye/laws.FnDropDrop", spec := "fnDropDrop", inPlace := ["internal/bytealg.IndexByte", "internal/reflectlite.TypeOf"], unfollowed := true, recurses := true, named := ["unicode/utf8.first", "unicode/utf8.acceptRanges", "bufio.ErrFinalToken", "lib-heddleeye/impl.errSplit", "bufio.ErrTooLong", "bufio.ErrBadReadCount", "io.ErrNoProgress", "io.EOF", "bufio.ErrNegativeAdvance", "bufio.ErrAdvanceTooFar", "lib-heddleeye/impl.errRead"], apart := false, laid := [("unicode/utf8.acceptRanges", laid_unicode_utf8_acceptRanges), ("io.EOF", laid_io_EOF), ("io.ErrNoProgress", laid_io_ErrNoProgress), ("bufio.ErrTooLong", laid_bufio_ErrTooLong), ("bufio.ErrNegativeAdvance", laid_bufio_ErrNegativeAdvance), ("bufio.ErrAdvanceTooFar", laid_bufio_ErrAdvanceTooFar), ("bufio.ErrBadReadCount", laid_bufio_ErrBadReadCount), ("bufio.ErrFinalToken", laid_bufio_ErrFinalToken), ("lib-heddleeye/impl.errSplit", laid_lib_heddleeye_impl_errSplit), ("lib-heddleeye/impl.errRead", laid_lib_heddleeye_impl_errRead), ("unicode/utf8.first", laid_unicode_utf8_first)], narrowed := true }
def FnDropDropUptoSaid : Prop := fnDropDropUptoRow.holds Tryd.pinned (OpenSpec.upto fnDropDropSpec)

/-- 'laws.FnPieces', WHERE WHAT IT READS IS OF BULK AT MOST 1048576: true; the input reads as it did. -/
def fnPiecesUptoRow : OpenClaim := { program := "ytkaomlklllinlaadoor", sum := "c83aa709626460f6b9d98b38a96105d17cf6861bcef8c17f930562af9573dcc2", func := "lib-heddleeye/laws.FnPieces", spec := "fnPieces", inPlace := ["internal/bytealg.IndexByte", "internal/reflectlite.TypeOf"], unfollowed := true, recurses := true, named := ["unicode/utf8.first", "unicode/utf8.acceptRanges", "bufio.ErrFinalToken", "lib-heddleeye/impl.errSplit", "bufio.ErrTooLong", "bufio.ErrBadReadCount", "io.ErrNoProgress", "io.EOF", "bufio.ErrNegativeAdvance", "bufio.ErrAdvanceTooFar", "lib-heddleeye/impl.errRead"], apart := false, laid := [("unicode/utf8.acceptRanges", laid_unicode_utf8_acceptRanges), ("io.EOF", laid_io_EOF), ("io.ErrNoProgress", laid_io_ErrNoProgress), ("bufio.ErrTooLong", laid_bufio_ErrTooLong), ("bufio.ErrNegativeAdvance", laid_bufio_ErrNegativeAdvance), ("bufio.ErrAdvanceTooFar", laid_bufio_ErrAdvanceTooFar), ("bufio.ErrBadReadCount", laid_bufio_ErrBadReadCount), ("bufio.ErrFinalToken", laid_bufio_ErrFinalToken), ("lib-heddleeye/impl.errSplit", laid_lib_heddleeye_impl_errSplit), ("lib-heddleeye/impl.errRead", laid_lib_heddleeye_impl_errRead), ("unicode/utf8.first", laid_unicode_utf8_first)], narrowed := true }
def FnPiecesUptoSaid : Prop := fnPiecesUptoRow.holds Tryd.pinned (OpenSpec.upto fnPiecesSpec)

/-- 'laws.FnStopIsTake', WHERE WHAT IT READS IS OF BULK AT MOST 1048576: true; the input reads as it did. -/
def fnStopIsTakeUptoRow : OpenClaim := { program := "ytkaomlklllinlaadoor", sum := "c83aa709626460f6b9d98b38a96105d17cf6861bcef8c17f930562af9573dcc2", func := "lib-heddleeye/laws.FnStopIsTake", spec := "fnStopIsTake", inPlace := ["internal/bytealg.IndexByte", "internal/reflectlite.TypeOf"], unfollowed := true, recurses := true, named := ["unicode/utf8.first", "unicode/utf8.acceptRanges", "bufio.ErrFinalToken", "lib-heddleeye/impl.errSplit", "bufio.ErrTooLong", "bufio.ErrBadReadCount", "io.ErrNoProgress", "io.EOF", "bufio.ErrNegativeAdvance", "bufio.ErrAdvanceTooFar", "lib-heddleeye/impl.errRead"], apart := false, laid := [("unicode/utf8.acceptRanges", laid_unicode_utf8_acceptRanges), ("io.EOF", laid_io_EOF), ("io.ErrNoProgress", laid_io_ErrNoProgress), ("bufio.ErrTooLong", laid_bufio_ErrTooLong), ("bufio.ErrNegativeAdvance", laid_bufio_ErrNegativeAdvance), ("bufio.ErrAdvanceTooFar", laid_bufio_ErrAdvanceTooFar), ("bufio.ErrBadReadCount", laid_bufio_ErrBadReadCount), ("bufio.ErrFinalToken", laid_bufio_ErrFinalToken), ("lib-heddleeye/impl.errSplit", laid_lib_heddleeye_impl_errSplit), ("lib-heddleeye/impl.errRead", laid_lib_heddleeye_impl_errRead), ("unicode/utf8.first", laid_unicode_utf8_first)], narrowed := true }
def FnStopIsTakeUptoSaid : Prop := fnStopIsTakeUptoRow.holds Tryd.pinned (OpenSpec.upto fnStopIsTakeSpec)

/-- 'laws.FnStray', WHERE WHAT IT READS IS OF BULK AT MOST 1048576: true; the input reads as it did. -/
def fnStrayUptoRow : OpenClaim := { program := "ytkaomlklllinlaadoor", sum := "c83aa709626460f6b9d98b38a96105d17cf6861bcef8c17f930562af9573dcc2", func := "lib-heddleeye/laws.FnStray", spec := "fnStray", inPlace := ["internal/bytealg.IndexByte", "internal/reflectlite.TypeOf"], unfollowed := true, recurses := true, named := ["unicode/utf8.first", "unicode/utf8.acceptRanges", "bufio.ErrFinalToken", "lib-heddleeye/impl.errSplit", "bufio.ErrTooLong", "bufio.ErrBadReadCount", "io.ErrNoProgress", "io.EOF", "bufio.ErrNegativeAdvance", "bufio.ErrAdvanceTooFar", "lib-heddleeye/impl.errRead"], apart := false, laid := [("unicode/utf8.acceptRanges", laid_unicode_utf8_acceptRanges), ("io.EOF", laid_io_EOF), ("io.ErrNoProgress", laid_io_ErrNoProgress), ("bufio.ErrTooLong", laid_bufio_ErrTooLong), ("bufio.ErrNegativeAdvance", laid_bufio_ErrNegativeAdvance), ("bufio.ErrAdvanceTooFar", laid_bufio_ErrAdvanceTooFar), ("bufio.ErrBadReadCount", laid_bufio_ErrBadReadCount), ("bufio.ErrFinalToken", laid_bufio_ErrFinalToken), ("lib-heddleeye/impl.errSplit", laid_lib_heddleeye_impl_errSplit), ("lib-heddleeye/impl.errRead", laid_lib_heddleeye_impl_errRead), ("unicode/utf8.first", laid_unicode_utf8_first)], narrowed := true }
def FnStrayUptoSaid : Prop := fnStrayUptoRow.holds Tryd.pinned (OpenSpec.upto fnStraySpec)

end Rows
end Go.Proofs.YtkaomlklllinlaaDoor
