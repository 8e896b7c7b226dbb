/-
  NARROWER THAN 'FOR EVERY INPUT', by the rows' own cells (each row's printed sentence says how): FnFrames: laid · FnFramesAgain: laid · FnFramesEmpty: laid · FnFramesTooLong: laid · FnNested: laid · FnNestedAgain: laid · FnBigFrames: laid.
  DERIVED. THE GIVEN ROWS OF THIS SEAT. 7 by the template 'for every input the law returns true; each argument reads behind the call as it read before'; 0 by the template 'total and deterministic' (their statements: YtbmmiohamdegdaaDoorTotals.lean).
  GIVEN WITH THE SEED: the statements are not yours to turn. If you find one false, say at which input.
  Laid BY PROGRAM, IN A SANDBOX (cutbox-rows.mjs): the forced cells as the released guide's own fill.sh prints them over the translation c7bbece467fe7f55… (all of the seat's roots in one cut). By AI agents, Wed Nov 11 2026. No macro, syntax, notation, axiom, sorry.
-/
import Derived.Test.YtbmmiohamdegdaaDoorChecked
import GoSem.Claim
import GoSem.ClaimJoined
import GoSem.ClaimMapViews
import Derived.JoinedTies
import Derived.KernelRfl
namespace Go.Proofs.YtbmmiohamdegdaaDoor
/- THE CELL 'sum', in the pinned program and in every row, IS THE sha256 OF THE DUMP (.gsa) THAT YtbmmiohamdegdaaDoorProg.lean LOADS. Nothing in Lean hashes anything: it is a label: what it is worth is what the hold of that sum in a sandbox is worth. -/
noncomputable def Tryd.pinned : Pinned := { name := "ytbmmiohamdegdaadoor", sum := "c7bbece467fe7f554234b0f69baf9d82ea517abedf292c925ce6375ca71e0293", checked := Tryd.checked }
namespace Rows
def none {H : Type} : Left H := { results := [], args := [] }

/- WHAT THE LISTED PACKAGE-LEVEL VARIABLES READ AS WHEN THE CALL BEGINS. Each datum BY PROGRAM (the guide's laid-datum.mjs) off the statement by which the dump's own 'gosem.cut.vars' lays the variable. In a bare row this is a premise. The card (YtbmmiohamdegdaaDoorCards.lean) ties it to the program's text. -/
def laid_io_EOF {H : Type} : DataW H := .iface "*errors.errorString" (.ptr (.agg [.lit (.string [69, 79, 70])]))
def laid_io_ErrNoProgress {H : Type} : DataW H := .iface "*errors.errorString" (.ptr (.agg [.lit (.string [109, 117, 108, 116, 105, 112, 108, 101, 32, 82, 101, 97, 100, 32, 99, 97, 108, 108, 115, 32, 114, 101, 116, 117, 114, 110, 32, 110, 111, 32, 100, 97, 116, 97, 32, 111, 114, 32, 101, 114, 114, 111, 114])]))
def laid_bufio_ErrTooLong {H : Type} : DataW H := .iface "*errors.errorString" (.ptr (.agg [.lit (.string [98, 117, 102, 105, 111, 46, 83, 99, 97, 110, 110, 101, 114, 58, 32, 116, 111, 107, 101, 110, 32, 116, 111, 111, 32, 108, 111, 110, 103])]))
def laid_bufio_ErrNegativeAdvance {H : Type} : DataW H := .iface "*errors.errorString" (.ptr (.agg [.lit (.string [98, 117, 102, 105, 111, 46, 83, 99, 97, 110, 110, 101, 114, 58, 32, 83, 112, 108, 105, 116, 70, 117, 110, 99, 32, 114, 101, 116, 117, 114, 110, 115, 32, 110, 101, 103, 97, 116, 105, 118, 101, 32, 97, 100, 118, 97, 110, 99, 101, 32, 99, 111, 117, 110, 116])]))
def laid_bufio_ErrAdvanceTooFar {H : Type} : DataW H := .iface "*errors.errorString" (.ptr (.agg [.lit (.string [98, 117, 102, 105, 111, 46, 83, 99, 97, 110, 110, 101, 114, 58, 32, 83, 112, 108, 105, 116, 70, 117, 110, 99, 32, 114, 101, 116, 117, 114, 110, 115, 32, 97, 100, 118, 97, 110, 99, 101, 32, 99, 111, 117, 110, 116, 32, 98, 101, 121, 111, 110, 100, 32, 105, 110, 112, 117, 116])]))
def laid_bufio_ErrBadReadCount {H : Type} : DataW H := .iface "*errors.errorString" (.ptr (.agg [.lit (.string [98, 117, 102, 105, 111, 46, 83, 99, 97, 110, 110, 101, 114, 58, 32, 82, 101, 97, 100, 32, 114, 101, 116, 117, 114, 110, 101, 100, 32, 105, 109, 112, 111, 115, 115, 105, 98, 108, 101, 32, 99, 111, 117, 110, 116])]))
def laid_bufio_ErrFinalToken {H : Type} : DataW H := .iface "*errors.errorString" (.ptr (.agg [.lit (.string [102, 105, 110, 97, 108, 32, 116, 111, 107, 101, 110])]))
def laid_lib_heddleeye_impl_errSplit {H : Type} : DataW H := .iface "*errors.errorString" (.ptr (.agg [.lit (.string [115, 112, 108, 105, 116])]))
def laid_lib_heddleeye_impl_errRead {H : Type} : DataW H := .iface "*errors.errorString" (.ptr (.agg [.lit (.string [114, 101, 97, 100])]))

/-- 'laws.FnFrames': WHATEVER THE INPUT: true; the input reads as it did. -/
def fnFramesSpec : ChangeSpec := { name := "fnFrames", fn := fun _ => fun
  | [d1, d2, d3] => { results := [.lit (.bool true)], args := [d1, d2, d3] }
  | _ => none }
def fnFramesRow : OpenClaim := { program := "ytbmmiohamdegdaadoor", sum := "c7bbece467fe7f554234b0f69baf9d82ea517abedf292c925ce6375ca71e0293", func := "lib-heddleeye/laws.FnFrames", spec := "fnFrames", inPlace := ["internal/bytealg.IndexByte", "internal/reflectlite.TypeOf"], unfollowed := true, recurses := true, named := ["lib-heddleeye/impl.errSplit", "bufio.ErrFinalToken", "bufio.ErrTooLong", "bufio.ErrBadReadCount", "io.ErrNoProgress", "io.EOF", "bufio.ErrNegativeAdvance", "bufio.ErrAdvanceTooFar", "lib-heddleeye/impl.errRead"], apart := false, laid := [("io.EOF", laid_io_EOF), ("io.ErrNoProgress", laid_io_ErrNoProgress), ("bufio.ErrTooLong", laid_bufio_ErrTooLong), ("bufio.ErrNegativeAdvance", laid_bufio_ErrNegativeAdvance), ("bufio.ErrAdvanceTooFar", laid_bufio_ErrAdvanceTooFar), ("bufio.ErrBadReadCount", laid_bufio_ErrBadReadCount), ("bufio.ErrFinalToken", laid_bufio_ErrFinalToken), ("lib-heddleeye/impl.errSplit", laid_lib_heddleeye_impl_errSplit), ("lib-heddleeye/impl.errRead", laid_lib_heddleeye_impl_errRead)] }
def FnFramesSaid : Prop := fnFramesRow.holds Tryd.pinned (OpenSpec.ofChange fnFramesSpec)

/-- ITS FALSE NEIGHBOUR: 'it returns false'. Refute it at one input. -/
def fnFramesWrong : ChangeSpec := { name := "fnFrames", fn := fun _ => fun
  | [d1, d2, d3] => { results := [.lit (.bool false)], args := [d1, d2, d3] }
  | _ => none }
def FnFramesWrongFalsely : Prop := fnFramesRow.holds Tryd.pinned (OpenSpec.ofChange fnFramesWrong)

/-- 'laws.FnFramesAgain': WHATEVER THE INPUT: true; the input reads as it did. -/
def fnFramesAgainSpec : ChangeSpec := { name := "fnFramesAgain", fn := fun _ => fun
  | [d1, d2, d3, d4, d5] => { results := [.lit (.bool true)], args := [d1, d2, d3, d4, d5] }
  | _ => none }
def fnFramesAgainRow : OpenClaim := { program := "ytbmmiohamdegdaadoor", sum := "c7bbece467fe7f554234b0f69baf9d82ea517abedf292c925ce6375ca71e0293", func := "lib-heddleeye/laws.FnFramesAgain", spec := "fnFramesAgain", inPlace := ["internal/bytealg.IndexByte", "internal/reflectlite.TypeOf"], unfollowed := true, recurses := true, named := ["lib-heddleeye/impl.errSplit", "bufio.ErrFinalToken", "bufio.ErrTooLong", "bufio.ErrBadReadCount", "io.ErrNoProgress", "io.EOF", "bufio.ErrNegativeAdvance", "bufio.ErrAdvanceTooFar", "lib-heddleeye/impl.errRead"], apart := false, laid := [("io.EOF", laid_io_EOF), ("io.ErrNoProgress", laid_io_ErrNoProgress), ("bufio.ErrTooLong", laid_bufio_ErrTooLong), ("bufio.ErrNegativeAdvance", laid_bufio_ErrNegativeAdvance), ("bufio.ErrAdvanceTooFar", laid_bufio_ErrAdvanceTooFar), ("bufio.ErrBadReadCount", laid_bufio_ErrBadReadCount), ("bufio.ErrFinalToken", laid_bufio_ErrFinalToken), ("lib-heddleeye/impl.errSplit", laid_lib_heddleeye_impl_errSplit), ("lib-heddleeye/impl.errRead", laid_lib_heddleeye_impl_errRead)] }
def FnFramesAgainSaid : Prop := fnFramesAgainRow.holds Tryd.pinned (OpenSpec.ofChange fnFramesAgainSpec)

/-- ITS FALSE NEIGHBOUR: 'it returns false'. Refute it at one input. -/
def fnFramesAgainWrong : ChangeSpec := { name := "fnFramesAgain", fn := fun _ => fun
  | [d1, d2, d3, d4, d5] => { results := [.lit (.bool false)], args := [d1, d2, d3, d4, d5] }
  | _ => none }
def FnFramesAgainWrongFalsely : Prop := fnFramesAgainRow.holds Tryd.pinned (OpenSpec.ofChange fnFramesAgainWrong)

/-- 'laws.FnFramesEmpty': WHATEVER THE INPUT: true; the input reads as it did. -/
def fnFramesEmptySpec : ChangeSpec := { name := "fnFramesEmpty", fn := fun _ => fun
  | [d1, d2, d3] => { results := [.lit (.bool true)], args := [d1, d2, d3] }
  | _ => none }
def fnFramesEmptyRow : OpenClaim := { program := "ytbmmiohamdegdaadoor", sum := "c7bbece467fe7f554234b0f69baf9d82ea517abedf292c925ce6375ca71e0293", func := "lib-heddleeye/laws.FnFramesEmpty", spec := "fnFramesEmpty", inPlace := ["internal/bytealg.IndexByte", "internal/reflectlite.TypeOf"], unfollowed := true, recurses := true, named := ["lib-heddleeye/impl.errSplit", "bufio.ErrFinalToken", "bufio.ErrTooLong", "bufio.ErrBadReadCount", "io.ErrNoProgress", "io.EOF", "bufio.ErrNegativeAdvance", "bufio.ErrAdvanceTooFar", "lib-heddleeye/impl.errRead"], apart := false, laid := [("io.EOF", laid_io_EOF), ("io.ErrNoProgress", laid_io_ErrNoProgress), ("bufio.ErrTooLong", laid_bufio_ErrTooLong), ("bufio.ErrNegativeAdvance", laid_bufio_ErrNegativeAdvance), ("bufio.ErrAdvanceTooFar", laid_bufio_ErrAdvanceTooFar), ("bufio.ErrBadReadCount", laid_bufio_ErrBadReadCount), ("bufio.ErrFinalToken", laid_bufio_ErrFinalToken), ("lib-heddleeye/impl.errSplit", laid_lib_heddleeye_impl_errSplit), ("lib-heddleeye/impl.errRead", laid_lib_heddleeye_impl_errRead)] }
def FnFramesEmptySaid : Prop := fnFramesEmptyRow.holds Tryd.pinned (OpenSpec.ofChange fnFramesEmptySpec)

/-- ITS FALSE NEIGHBOUR: 'it returns false'. Refute it at one input. -/
def fnFramesEmptyWrong : ChangeSpec := { name := "fnFramesEmpty", fn := fun _ => fun
  | [d1, d2, d3] => { results := [.lit (.bool false)], args := [d1, d2, d3] }
  | _ => none }
def FnFramesEmptyWrongFalsely : Prop := fnFramesEmptyRow.holds Tryd.pinned (OpenSpec.ofChange fnFramesEmptyWrong)

/-- 'laws.FnFramesTooLong': WHATEVER THE INPUT: true; the input reads as it did. -/
def fnFramesTooLongSpec : ChangeSpec := { name := "fnFramesTooLong", fn := fun _ => fun
  | [d1, d2, d3] => { results := [.lit (.bool true)], args := [d1, d2, d3] }
  | _ => none }
def fnFramesTooLongRow : OpenClaim := { program := "ytbmmiohamdegdaadoor", sum := "c7bbece467fe7f554234b0f69baf9d82ea517abedf292c925ce6375ca71e0293", func := "lib-heddleeye/laws.FnFramesTooLong", spec := "fnFramesTooLong", inPlace := ["internal/bytealg.IndexByte", "internal/reflectlite.TypeOf"], unfollowed := true, recurses := true, named := ["lib-heddleeye/impl.errSplit", "bufio.ErrFinalToken", "bufio.ErrTooLong", "bufio.ErrBadReadCount", "io.ErrNoProgress", "io.EOF", "bufio.ErrNegativeAdvance", "bufio.ErrAdvanceTooFar", "lib-heddleeye/impl.errRead"], apart := false, laid := [("io.EOF", laid_io_EOF), ("io.ErrNoProgress", laid_io_ErrNoProgress), ("bufio.ErrTooLong", laid_bufio_ErrTooLong), ("bufio.ErrNegativeAdvance", laid_bufio_ErrNegativeAdvance), ("bufio.ErrAdvanceTooFar", laid_bufio_ErrAdvanceTooFar), ("bufio.ErrBadReadCount", laid_bufio_ErrBadReadCount), ("bufio.ErrFinalToken", laid_bufio_ErrFinalToken), ("lib-heddleeye/impl.errSplit", laid_lib_heddleeye_impl_errSplit), ("lib-heddleeye/impl.errRead", laid_lib_heddleeye_impl_errRead)] }
def FnFramesTooLongSaid : Prop := fnFramesTooLongRow.holds Tryd.pinned (OpenSpec.ofChange fnFramesTooLongSpec)

/-- ITS FALSE NEIGHBOUR: 'it returns false'. Refute it at one input. -/
def fnFramesTooLongWrong : ChangeSpec := { name := "fnFramesTooLong", fn := fun _ => fun
  | [d1, d2, d3] => { results := [.lit (.bool false)], args := [d1, d2, d3] }
  | _ => none }
def FnFramesTooLongWrongFalsely : Prop := fnFramesTooLongRow.holds Tryd.pinned (OpenSpec.ofChange fnFramesTooLongWrong)

/-- 'laws.FnNested': WHATEVER THE INPUT: true; the input reads as it did. -/
def fnNestedSpec : ChangeSpec := { name := "fnNested", fn := fun _ => fun
  | [d1, d2, d3] => { results := [.lit (.bool true)], args := [d1, d2, d3] }
  | _ => none }
def fnNestedRow : OpenClaim := { program := "ytbmmiohamdegdaadoor", sum := "c7bbece467fe7f554234b0f69baf9d82ea517abedf292c925ce6375ca71e0293", func := "lib-heddleeye/laws.FnNested", spec := "fnNested", inPlace := ["internal/bytealg.IndexByte", "internal/reflectlite.TypeOf"], unfollowed := true, recurses := true, named := ["lib-heddleeye/impl.errSplit", "bufio.ErrFinalToken", "bufio.ErrTooLong", "bufio.ErrBadReadCount", "io.ErrNoProgress", "io.EOF", "bufio.ErrNegativeAdvance", "bufio.ErrAdvanceTooFar", "lib-heddleeye/impl.errRead"], apart := false, laid := [("io.EOF", laid_io_EOF), ("io.ErrNoProgress", laid_io_ErrNoProgress), ("bufio.ErrTooLong", laid_bufio_ErrTooLong), ("bufio.ErrNegativeAdvance", laid_bufio_ErrNegativeAdvance), ("bufio.ErrAdvanceTooFar", laid_bufio_ErrAdvanceTooFar), ("bufio.ErrBadReadCount", laid_bufio_ErrBadReadCount), ("bufio.ErrFinalToken", laid_bufio_ErrFinalToken), ("lib-heddleeye/impl.errSplit", laid_lib_heddleeye_impl_errSplit), ("lib-heddleeye/impl.errRead", laid_lib_heddleeye_impl_errRead)] }
def FnNestedSaid : Prop := fnNestedRow.holds Tryd.pinned (OpenSpec.ofChange fnNestedSpec)

/-- ITS FALSE NEIGHBOUR: 'it returns false'. Refute it at one input. -/
def fnNestedWrong : ChangeSpec := { name := "fnNested", fn := fun _ => fun
  | [d1, d2, d3] => { results := [.lit (.bool false)], args := [d1, d2, d3] }
  | _ => none }
def FnNestedWrongFalsely : Prop := fnNestedRow.holds Tryd.pinned (OpenSpec.ofChange fnNestedWrong)

/-- 'laws.FnNestedAgain': WHATEVER THE INPUT: true; the input reads as it did. -/
def fnNestedAgainSpec : ChangeSpec := { name := "fnNestedAgain", fn := fun _ => fun
  | [d1, d2, d3, d4] => { results := [.lit (.bool true)], args := [d1, d2, d3, d4] }
  | _ => none }
def fnNestedAgainRow : OpenClaim := { program := "ytbmmiohamdegdaadoor", sum := "c7bbece467fe7f554234b0f69baf9d82ea517abedf292c925ce6375ca71e0293", func := "lib-heddleeye/laws.FnNestedAgain", spec := "fnNestedAgain", inPlace := ["internal/bytealg.IndexByte", "internal/reflectlite.TypeOf"], unfollowed := true, recurses := true, named := ["lib-heddleeye/impl.errSplit", "bufio.ErrFinalToken", "bufio.ErrTooLong", "bufio.ErrBadReadCount", "io.ErrNoProgress", "io.EOF", "bufio.ErrNegativeAdvance", "bufio.ErrAdvanceTooFar", "lib-heddleeye/impl.errRead"], apart := false, laid := [("io.EOF", laid_io_EOF), ("io.ErrNoProgress", laid_io_ErrNoProgress), ("bufio.ErrTooLong", laid_bufio_ErrTooLong), ("bufio.ErrNegativeAdvance", laid_bufio_ErrNegativeAdvance), ("bufio.ErrAdvanceTooFar", laid_bufio_ErrAdvanceTooFar), ("bufio.ErrBadReadCount", laid_bufio_ErrBadReadCount), ("bufio.ErrFinalToken", laid_bufio_ErrFinalToken), ("lib-heddleeye/impl.errSplit", laid_lib_heddleeye_impl_errSplit), ("lib-heddleeye/impl.errRead", laid_lib_heddleeye_impl_errRead)] }
def FnNestedAgainSaid : Prop := fnNestedAgainRow.holds Tryd.pinned (OpenSpec.ofChange fnNestedAgainSpec)

/-- ITS FALSE NEIGHBOUR: 'it returns false'. Refute it at one input. -/
def fnNestedAgainWrong : ChangeSpec := { name := "fnNestedAgain", fn := fun _ => fun
  | [d1, d2, d3, d4] => { results := [.lit (.bool false)], args := [d1, d2, d3, d4] }
  | _ => none }
def FnNestedAgainWrongFalsely : Prop := fnNestedAgainRow.holds Tryd.pinned (OpenSpec.ofChange fnNestedAgainWrong)

/-- 'laws.FnBigFrames': WHATEVER THE INPUT: true; the input reads as it did. -/
def fnBigFramesSpec : ChangeSpec := { name := "fnBigFrames", fn := fun _ => fun
  | [d1, d2, d3] => { results := [.lit (.bool true)], args := [d1, d2, d3] }
  | _ => none }
def fnBigFramesRow : OpenClaim := { program := "ytbmmiohamdegdaadoor", sum := "c7bbece467fe7f554234b0f69baf9d82ea517abedf292c925ce6375ca71e0293", func := "lib-heddleeye/laws.FnBigFrames", spec := "fnBigFrames", inPlace := ["internal/bytealg.IndexByte", "internal/reflectlite.TypeOf"], unfollowed := true, recurses := true, named := ["lib-heddleeye/impl.errSplit", "bufio.ErrFinalToken", "bufio.ErrTooLong", "bufio.ErrBadReadCount", "io.ErrNoProgress", "io.EOF", "bufio.ErrNegativeAdvance", "bufio.ErrAdvanceTooFar", "lib-heddleeye/impl.errRead"], apart := false, laid := [("io.EOF", laid_io_EOF), ("io.ErrNoProgress", laid_io_ErrNoProgress), ("bufio.ErrTooLong", laid_bufio_ErrTooLong), ("bufio.ErrNegativeAdvance", laid_bufio_ErrNegativeAdvance), ("bufio.ErrAdvanceTooFar", laid_bufio_ErrAdvanceTooFar), ("bufio.ErrBadReadCount", laid_bufio_ErrBadReadCount), ("bufio.ErrFinalToken", laid_bufio_ErrFinalToken), ("lib-heddleeye/impl.errSplit", laid_lib_heddleeye_impl_errSplit), ("lib-heddleeye/impl.errRead", laid_lib_heddleeye_impl_errRead)] }
def FnBigFramesSaid : Prop := fnBigFramesRow.holds Tryd.pinned (OpenSpec.ofChange fnBigFramesSpec)

/-- ITS FALSE NEIGHBOUR: 'it returns false'. Refute it at one input. -/
def fnBigFramesWrong : ChangeSpec := { name := "fnBigFrames", fn := fun _ => fun
  | [d1, d2, d3] => { results := [.lit (.bool false)], args := [d1, d2, d3] }
  | _ => none }
def FnBigFramesWrongFalsely : Prop := fnBigFramesRow.holds Tryd.pinned (OpenSpec.ofChange fnBigFramesWrong)

/- THE SECOND FORM. 'bulk': how many values and letters a reading holds, each counted each time it is reached (what is shared counts as often as it is met; a slice's spare places count too). A statement '..UptoSaid' is the law's where the arguments, and the package variables that the reading takes, are together of bulk at most 1048576: NARROWER than '..Said'. Prove '..Said' where nothing that the law and all that it calls make is longer than what came in: it says more and counts as full. Else prove '..UptoSaid'. A law counts once. -/
mutual
def uptoBulk {H : Type} : DataW H → Nat
  | .lit (.string bytes) => bytes.length + 1
  | .lit _ => 1
  | .nil => 1
  | .ptr d => uptoBulk d + 1
  | .slice elems spare => uptoBulkAll elems + uptoBulkAll spare + 1
  | .agg parts => uptoBulkAll parts + 1
  | .iface _ d => uptoBulk d + 1
  | .map entries => uptoBulkEntries entries + 1
  | .held _ => 1
def uptoBulkAll {H : Type} : List (DataW H) → Nat
  | [] => 0
  | d :: r => uptoBulk d + uptoBulkAll r
def uptoBulkEntries {H : Type} : List (Lit × DataW H) → Nat
  | [] => 0
  | x :: r => uptoBulkEntry x + uptoBulkEntries r
def uptoBulkEntry {H : Type} : Lit × DataW H → Nat
  | (.string bytes, d) => bytes.length + uptoBulk d + 1
  | (_, d) => uptoBulk d + 1
 end
def uptoSmall : (H : Type) → List (DataW H) → Bool := fun _ ds => decide (uptoBulkAll ds ≤ 1048576)
def OpenSpec.upto (s : _root_.Go.ChangeSpec) : _root_.Go.OpenSpec := { _root_.Go.OpenSpec.ofChange s with cond := some uptoSmall }

/-- 'laws.FnFrames', WHERE WHAT IT READS IS OF BULK AT MOST 1048576: true; the input reads as it did. -/
def fnFramesUptoRow : OpenClaim := { program := "ytbmmiohamdegdaadoor", sum := "c7bbece467fe7f554234b0f69baf9d82ea517abedf292c925ce6375ca71e0293", func := "lib-heddleeye/laws.FnFrames", spec := "fnFrames", inPlace := ["internal/bytealg.IndexByte", "internal/reflectlite.TypeOf"], unfollowed := true, recurses := true, named := ["lib-heddleeye/impl.errSplit", "bufio.ErrFinalToken", "bufio.ErrTooLong", "bufio.ErrBadReadCount", "io.ErrNoProgress", "io.EOF", "bufio.ErrNegativeAdvance", "bufio.ErrAdvanceTooFar", "lib-heddleeye/impl.errRead"], apart := false, laid := [("io.EOF", laid_io_EOF), ("io.ErrNoProgress", laid_io_ErrNoProgress), ("bufio.ErrTooLong", laid_bufio_ErrTooLong), ("bufio.ErrNegativeAdvance", laid_bufio_ErrNegativeAdvance), ("bufio.ErrAdvanceTooFar", laid_bufio_ErrAdvanceTooFar), ("bufio.ErrBadReadCount", laid_bufio_ErrBadReadCount), ("bufio.ErrFinalToken", laid_bufio_ErrFinalToken), ("lib-heddleeye/impl.errSplit", laid_lib_heddleeye_impl_errSplit), ("lib-heddleeye/impl.errRead", laid_lib_heddleeye_impl_errRead)], narrowed := true }
def FnFramesUptoSaid : Prop := fnFramesUptoRow.holds Tryd.pinned (OpenSpec.upto fnFramesSpec)

/-- 'laws.FnFramesAgain', WHERE WHAT IT READS IS OF BULK AT MOST 1048576: true; the input reads as it did. -/
def fnFramesAgainUptoRow : OpenClaim := { program := "ytbmmiohamdegdaadoor", sum := "c7bbece467fe7f554234b0f69baf9d82ea517abedf292c925ce6375ca71e0293", func := "lib-heddleeye/laws.FnFramesAgain", spec := "fnFramesAgain", inPlace := ["internal/bytealg.IndexByte", "internal/reflectlite.TypeOf"], unfollowed := true, recurses := true, named := ["lib-heddleeye/impl.errSplit", "bufio.ErrFinalToken", "bufio.ErrTooLong", "bufio.ErrBadReadCount", "io.ErrNoProgress", "io.EOF", "bufio.ErrNegativeAdvance", "bufio.ErrAdvanceTooFar", "lib-heddleeye/impl.errRead"], apart := false, laid := [("io.EOF", laid_io_EOF), ("io.ErrNoProgress", laid_io_ErrNoProgress), ("bufio.ErrTooLong", laid_bufio_ErrTooLong), ("bufio.ErrNegativeAdvance", laid_bufio_ErrNegativeAdvance), ("bufio.ErrAdvanceTooFar", laid_bufio_ErrAdvanceTooFar), ("bufio.ErrBadReadCount", laid_bufio_ErrBadReadCount), ("bufio.ErrFinalToken", laid_bufio_ErrFinalToken), ("lib-heddleeye/impl.errSplit", laid_lib_heddleeye_impl_errSplit), ("lib-heddleeye/impl.errRead", laid_lib_heddleeye_impl_errRead)], narrowed := true }
def FnFramesAgainUptoSaid : Prop := fnFramesAgainUptoRow.holds Tryd.pinned (OpenSpec.upto fnFramesAgainSpec)

/-- 'laws.FnFramesEmpty', WHERE WHAT IT READS IS OF BULK AT MOST 1048576: true; the input reads as it did. -/
def fnFramesEmptyUptoRow : OpenClaim := { program := "ytbmmiohamdegdaadoor", sum := "c7bbece467fe7f554234b0f69baf9d82ea517abedf292c925ce6375ca71e0293", func := "lib-heddleeye/laws.FnFramesEmpty", spec := "fnFramesEmpty", inPlace := ["internal/bytealg.IndexByte", "internal/reflectlite.TypeOf"], unfollowed := true, recurses := true, named := ["lib-heddleeye/impl.errSplit", "bufio.ErrFinalToken", "bufio.ErrTooLong", "bufio.ErrBadReadCount", "io.ErrNoProgress", "io.EOF", "bufio.ErrNegativeAdvance", "bufio.ErrAdvanceTooFar", "lib-heddleeye/impl.errRead"], apart := false, laid := [("io.EOF", laid_io_EOF), ("io.ErrNoProgress", laid_io_ErrNoProgress), ("bufio.ErrTooLong", laid_bufio_ErrTooLong), ("bufio.ErrNegativeAdvance", laid_bufio_ErrNegativeAdvance), ("bufio.ErrAdvanceTooFar", laid_bufio_ErrAdvanceTooFar), ("bufio.ErrBadReadCount", laid_bufio_ErrBadReadCount), ("bufio.ErrFinalToken", laid_bufio_ErrFinalToken), ("lib-heddleeye/impl.errSplit", laid_lib_heddleeye_impl_errSplit), ("lib-heddleeye/impl.errRead", laid_lib_heddleeye_impl_errRead)], narrowed := true }
def FnFramesEmptyUptoSaid : Prop := fnFramesEmptyUptoRow.holds Tryd.pinned (OpenSpec.upto fnFramesEmptySpec)

/-- 'laws.FnFramesTooLong', WHERE WHAT IT READS IS OF BULK AT MOST 1048576: true; the input reads as it did. -/
def fnFramesTooLongUptoRow : OpenClaim := { program := "ytbmmiohamdegdaadoor", sum := "c7bbece467fe7f554234b0f69baf9d82ea517abedf292c925ce6375ca71e0293", func := "lib-heddleeye/laws.FnFramesTooLong", spec := "fnFramesTooLong", inPlace := ["internal/bytealg.IndexByte", "internal/reflectlite.TypeOf"], unfollowed := true, recurses := true, named := ["lib-heddleeye/impl.errSplit", "bufio.ErrFinalToken", "bufio.ErrTooLong", "bufio.ErrBadReadCount", "io.ErrNoProgress", "io.EOF", "bufio.ErrNegativeAdvance", "bufio.ErrAdvanceTooFar", "lib-heddleeye/impl.errRead"], apart := false, laid := [("io.EOF", laid_io_EOF), ("io.ErrNoProgress", laid_io_ErrNoProgress), ("bufio.ErrTooLong", laid_bufio_ErrTooLong), ("bufio.ErrNegativeAdvance", laid_bufio_ErrNegativeAdvance), ("bufio.ErrAdvanceTooFar", laid_bufio_ErrAdvanceTooFar), ("bufio.ErrBadReadCount", laid_bufio_ErrBadReadCount), ("bufio.ErrFinalToken", laid_bufio_ErrFinalToken), ("lib-heddleeye/impl.errSplit", laid_lib_heddleeye_impl_errSplit), ("lib-heddleeye/impl.errRead", laid_lib_heddleeye_impl_errRead)], narrowed := true }
def FnFramesTooLongUptoSaid : Prop := fnFramesTooLongUptoRow.holds Tryd.pinned (OpenSpec.upto fnFramesTooLongSpec)

/-- 'laws.FnNested', WHERE WHAT IT READS IS OF BULK AT MOST 1048576: true; the input reads as it did. -/
def fnNestedUptoRow : OpenClaim := { program := "ytbmmiohamdegdaadoor", sum := "c7bbece467fe7f554234b0f69baf9d82ea517abedf292c925ce6375ca71e0293", func := "lib-heddleeye/laws.FnNested", spec := "fnNested", inPlace := ["internal/bytealg.IndexByte", "internal/reflectlite.TypeOf"], unfollowed := true, recurses := true, named := ["lib-heddleeye/impl.errSplit", "bufio.ErrFinalToken", "bufio.ErrTooLong", "bufio.ErrBadReadCount", "io.ErrNoProgress", "io.EOF", "bufio.ErrNegativeAdvance", "bufio.ErrAdvanceTooFar", "lib-heddleeye/impl.errRead"], apart := false, laid := [("io.EOF", laid_io_EOF), ("io.ErrNoProgress", laid_io_ErrNoProgress), ("bufio.ErrTooLong", laid_bufio_ErrTooLong), ("bufio.ErrNegativeAdvance", laid_bufio_ErrNegativeAdvance), ("bufio.ErrAdvanceTooFar", laid_bufio_ErrAdvanceTooFar), ("bufio.ErrBadReadCount", laid_bufio_ErrBadReadCount), ("bufio.ErrFinalToken", laid_bufio_ErrFinalToken), ("lib-heddleeye/impl.errSplit", laid_lib_heddleeye_impl_errSplit), ("lib-heddleeye/impl.errRead", laid_lib_heddleeye_impl_errRead)], narrowed := true }
def FnNestedUptoSaid : Prop := fnNestedUptoRow.holds Tryd.pinned (OpenSpec.upto fnNestedSpec)

/-- 'laws.FnNestedAgain', WHERE WHAT IT READS IS OF BULK AT MOST 1048576: true; the input reads as it did. -/
def fnNestedAgainUptoRow : OpenClaim := { program := "ytbmmiohamdegdaadoor", sum := "c7bbece467fe7f554234b0f69baf9d82ea517abedf292c925ce6375ca71e0293", func := "lib-heddleeye/laws.FnNestedAgain", spec := "fnNestedAgain", inPlace := ["internal/bytealg.IndexByte", "internal/reflectlite.TypeOf"], unfollowed := true, recurses := true, named := ["lib-heddleeye/impl.errSplit", "bufio.ErrFinalToken", "bufio.ErrTooLong", "bufio.ErrBadReadCount", "io.ErrNoProgress", "io.EOF", "bufio.ErrNegativeAdvance", "bufio.ErrAdvanceTooFar", "lib-heddleeye/impl.errRead"], apart := false, laid := [("io.EOF", laid_io_EOF), ("io.ErrNoProgress", laid_io_ErrNoProgress), ("bufio.ErrTooLong", laid_bufio_ErrTooLong), ("bufio.ErrNegativeAdvance", laid_bufio_ErrNegativeAdvance), ("bufio.ErrAdvanceTooFar", laid_bufio_ErrAdvanceTooFar), ("bufio.ErrBadReadCount", laid_bufio_ErrBadReadCount), ("bufio.ErrFinalToken", laid_bufio_ErrFinalToken), ("lib-heddleeye/impl.errSplit", laid_lib_heddleeye_impl_errSplit), ("lib-heddleeye/impl.errRead", laid_lib_heddleeye_impl_errRead)], narrowed := true }
def FnNestedAgainUptoSaid : Prop := fnNestedAgainUptoRow.holds Tryd.pinned (OpenSpec.upto fnNestedAgainSpec)

/-- 'laws.FnBigFrames', WHERE WHAT IT READS IS OF BULK AT MOST 1048576: true; the input reads as it did. -/
def fnBigFramesUptoRow : OpenClaim := { program := "ytbmmiohamdegdaadoor", sum := "c7bbece467fe7f554234b0f69baf9d82ea517abedf292c925ce6375ca71e0293", func := "lib-heddleeye/laws.FnBigFrames", spec := "fnBigFrames", inPlace := ["internal/bytealg.IndexByte", "internal/reflectlite.TypeOf"], unfollowed := true, recurses := true, named := ["lib-heddleeye/impl.errSplit", "bufio.ErrFinalToken", "bufio.ErrTooLong", "bufio.ErrBadReadCount", "io.ErrNoProgress", "io.EOF", "bufio.ErrNegativeAdvance", "bufio.ErrAdvanceTooFar", "lib-heddleeye/impl.errRead"], apart := false, laid := [("io.EOF", laid_io_EOF), ("io.ErrNoProgress", laid_io_ErrNoProgress), ("bufio.ErrTooLong", laid_bufio_ErrTooLong), ("bufio.ErrNegativeAdvance", laid_bufio_ErrNegativeAdvance), ("bufio.ErrAdvanceTooFar", laid_bufio_ErrAdvanceTooFar), ("bufio.ErrBadReadCount", laid_bufio_ErrBadReadCount), ("bufio.ErrFinalToken", laid_bufio_ErrFinalToken), ("lib-heddleeye/impl.errSplit", laid_lib_heddleeye_impl_errSplit), ("lib-heddleeye/impl.errRead", laid_lib_heddleeye_impl_errRead)], narrowed := true }
def FnBigFramesUptoSaid : Prop := fnBigFramesUptoRow.holds Tryd.pinned (OpenSpec.upto fnBigFramesSpec)

end Rows
end Go.Proofs.YtbmmiohamdegdaaDoor
