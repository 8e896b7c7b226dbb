/-
  NARROWER THAN 'FOR EVERY INPUT', by the rows' own cells (each row's printed sentence says how): FnBytesStep: laid · FnBytes: laid · FnBytesJoined: laid · FnRuns: laid · FnRunsDoubled: laid · FnRunsJoined: laid · FnRunsTooLong: laid · FnBlocks: laid · FnBlocksJoined: laid · FnBlocksOfBlocks: laid · FnBlocksTooLong: laid · FnBytesAreBlocks: laid.
  DERIVED. THE GIVEN ROWS OF THIS SEAT. 12 by the template 'for every input the law returns true; each argument reads behind the call as it read before'; 0 by the template 'total and deterministic' (their statements: YtjalppojdomcoaaDoorTotals.lean).
  GIVEN WITH THE SEED: the statements are not yours to turn. If you find one false, say at which input.
  Laid BY PROGRAM, IN A SANDBOX (cutbox-rows.mjs): the forced cells as the released guide's own fill.sh prints them over the translation 4256214991b192bb… (all of the seat's roots in one cut). By AI agents, Wed Nov 11 2026. No macro, syntax, notation, axiom, sorry.
-/
import Derived.Test.YtjalppojdomcoaaDoorChecked
import GoSem.Claim
import GoSem.ClaimJoined
import GoSem.ClaimMapViews
import Derived.JoinedTies
import Derived.KernelRfl
namespace Go.Proofs.YtjalppojdomcoaaDoor
/- THE CELL 'sum', in the pinned program and in every row, IS THE sha256 OF THE DUMP (.gsa) THAT YtjalppojdomcoaaDoorProg.lean LOADS. Nothing in Lean hashes anything: it is a label: what it is worth is what the hold of that sum in a sandbox is worth. -/
noncomputable def Tryd.pinned : Pinned := { name := "ytjalppojdomcoaadoor", sum := "4256214991b192bb97d9692f9e4862a63f50fee32fb56c84893843517075e969", checked := Tryd.checked }
namespace Rows
def none {H : Type} : Left H := { results := [], args := [] }

/- WHAT THE LISTED PACKAGE-LEVEL VARIABLES READ AS WHEN THE CALL BEGINS. Each datum BY PROGRAM (the guide's laid-datum.mjs) off the statement by which the dump's own 'gosem.cut.vars' lays the variable. In a bare row this is a premise. The card (YtjalppojdomcoaaDoorCards.lean) ties it to the program's text. -/
def laid_bufio_ErrTooLong {H : Type} : DataW H := .iface "*errors.errorString" (.ptr (.agg [.lit (.string [98, 117, 102, 105, 111, 46, 83, 99, 97, 110, 110, 101, 114, 58, 32, 116, 111, 107, 101, 110, 32, 116, 111, 111, 32, 108, 111, 110, 103])]))
def laid_bufio_ErrNegativeAdvance {H : Type} : DataW H := .iface "*errors.errorString" (.ptr (.agg [.lit (.string [98, 117, 102, 105, 111, 46, 83, 99, 97, 110, 110, 101, 114, 58, 32, 83, 112, 108, 105, 116, 70, 117, 110, 99, 32, 114, 101, 116, 117, 114, 110, 115, 32, 110, 101, 103, 97, 116, 105, 118, 101, 32, 97, 100, 118, 97, 110, 99, 101, 32, 99, 111, 117, 110, 116])]))
def laid_bufio_ErrAdvanceTooFar {H : Type} : DataW H := .iface "*errors.errorString" (.ptr (.agg [.lit (.string [98, 117, 102, 105, 111, 46, 83, 99, 97, 110, 110, 101, 114, 58, 32, 83, 112, 108, 105, 116, 70, 117, 110, 99, 32, 114, 101, 116, 117, 114, 110, 115, 32, 97, 100, 118, 97, 110, 99, 101, 32, 99, 111, 117, 110, 116, 32, 98, 101, 121, 111, 110, 100, 32, 105, 110, 112, 117, 116])]))
def laid_lib_heddleeye_impl_errSplit {H : Type} : DataW H := .iface "*errors.errorString" (.ptr (.agg [.lit (.string [115, 112, 108, 105, 116])]))
def laid_lib_heddleeye_impl_errRead {H : Type} : DataW H := .iface "*errors.errorString" (.ptr (.agg [.lit (.string [114, 101, 97, 100])]))
def laid_io_EOF {H : Type} : DataW H := .iface "*errors.errorString" (.ptr (.agg [.lit (.string [69, 79, 70])]))
def laid_io_ErrNoProgress {H : Type} : DataW H := .iface "*errors.errorString" (.ptr (.agg [.lit (.string [109, 117, 108, 116, 105, 112, 108, 101, 32, 82, 101, 97, 100, 32, 99, 97, 108, 108, 115, 32, 114, 101, 116, 117, 114, 110, 32, 110, 111, 32, 100, 97, 116, 97, 32, 111, 114, 32, 101, 114, 114, 111, 114])]))
def laid_bufio_ErrBadReadCount {H : Type} : DataW H := .iface "*errors.errorString" (.ptr (.agg [.lit (.string [98, 117, 102, 105, 111, 46, 83, 99, 97, 110, 110, 101, 114, 58, 32, 82, 101, 97, 100, 32, 114, 101, 116, 117, 114, 110, 101, 100, 32, 105, 109, 112, 111, 115, 115, 105, 98, 108, 101, 32, 99, 111, 117, 110, 116])]))
def laid_bufio_ErrFinalToken {H : Type} : DataW H := .iface "*errors.errorString" (.ptr (.agg [.lit (.string [102, 105, 110, 97, 108, 32, 116, 111, 107, 101, 110])]))

/-- 'laws.FnBytesStep': WHATEVER THE INPUT: true; the input reads as it did. -/
def fnBytesStepSpec : ChangeSpec := { name := "fnBytesStep", fn := fun _ => fun
  | [d1, d2] => { results := [.lit (.bool true)], args := [d1, d2] }
  | _ => none }
def fnBytesStepRow : OpenClaim := { program := "ytjalppojdomcoaadoor", sum := "4256214991b192bb97d9692f9e4862a63f50fee32fb56c84893843517075e969", func := "lib-heddleeye/laws.FnBytesStep", spec := "fnBytesStep", inPlace := ["internal/reflectlite.TypeOf"], unfollowed := true, recurses := true, named := ["bufio.ErrTooLong", "bufio.ErrNegativeAdvance", "bufio.ErrAdvanceTooFar", "lib-heddleeye/impl.errSplit", "lib-heddleeye/impl.errRead"], apart := false, laid := [("bufio.ErrTooLong", laid_bufio_ErrTooLong), ("bufio.ErrNegativeAdvance", laid_bufio_ErrNegativeAdvance), ("bufio.ErrAdvanceTooFar", laid_bufio_ErrAdvanceTooFar), ("lib-heddleeye/impl.errSplit", laid_lib_heddleeye_impl_errSplit), ("lib-heddleeye/impl.errRead", laid_lib_heddleeye_impl_errRead)] }
def FnBytesStepSaid : Prop := fnBytesStepRow.holds Tryd.pinned (OpenSpec.ofChange fnBytesStepSpec)

/-- ITS FALSE NEIGHBOUR: 'it returns false'. Refute it at one input. -/
def fnBytesStepWrong : ChangeSpec := { name := "fnBytesStep", fn := fun _ => fun
  | [d1, d2] => { results := [.lit (.bool false)], args := [d1, d2] }
  | _ => none }
def FnBytesStepWrongFalsely : Prop := fnBytesStepRow.holds Tryd.pinned (OpenSpec.ofChange fnBytesStepWrong)

/-- 'laws.FnBytes': WHATEVER THE INPUT: true; the input reads as it did. -/
def fnBytesSpec : ChangeSpec := { name := "fnBytes", fn := fun _ => fun
  | [d1, d2] => { results := [.lit (.bool true)], args := [d1, d2] }
  | _ => none }
def fnBytesRow : OpenClaim := { program := "ytjalppojdomcoaadoor", sum := "4256214991b192bb97d9692f9e4862a63f50fee32fb56c84893843517075e969", func := "lib-heddleeye/laws.FnBytes", spec := "fnBytes", inPlace := ["internal/bytealg.IndexByte", "internal/reflectlite.TypeOf"], unfollowed := true, recurses := true, named := ["bufio.ErrFinalToken", "bufio.ErrTooLong", "bufio.ErrBadReadCount", "io.ErrNoProgress", "io.EOF", "bufio.ErrNegativeAdvance", "bufio.ErrAdvanceTooFar", "lib-heddleeye/impl.errSplit", "lib-heddleeye/impl.errRead"], apart := false, laid := [("io.EOF", laid_io_EOF), ("io.ErrNoProgress", laid_io_ErrNoProgress), ("bufio.ErrTooLong", laid_bufio_ErrTooLong), ("bufio.ErrNegativeAdvance", laid_bufio_ErrNegativeAdvance), ("bufio.ErrAdvanceTooFar", laid_bufio_ErrAdvanceTooFar), ("bufio.ErrBadReadCount", laid_bufio_ErrBadReadCount), ("bufio.ErrFinalToken", laid_bufio_ErrFinalToken), ("lib-heddleeye/impl.errSplit", laid_lib_heddleeye_impl_errSplit), ("lib-heddleeye/impl.errRead", laid_lib_heddleeye_impl_errRead)] }
def FnBytesSaid : Prop := fnBytesRow.holds Tryd.pinned (OpenSpec.ofChange fnBytesSpec)

/-- ITS FALSE NEIGHBOUR: 'it returns false'. Refute it at one input. -/
def fnBytesWrong : ChangeSpec := { name := "fnBytes", fn := fun _ => fun
  | [d1, d2] => { results := [.lit (.bool false)], args := [d1, d2] }
  | _ => none }
def FnBytesWrongFalsely : Prop := fnBytesRow.holds Tryd.pinned (OpenSpec.ofChange fnBytesWrong)

/-- 'laws.FnBytesJoined': WHATEVER THE INPUT: true; the input reads as it did. -/
def fnBytesJoinedSpec : ChangeSpec := { name := "fnBytesJoined", fn := fun _ => fun
  | [d1, d2] => { results := [.lit (.bool true)], args := [d1, d2] }
  | _ => none }
def fnBytesJoinedRow : OpenClaim := { program := "ytjalppojdomcoaadoor", sum := "4256214991b192bb97d9692f9e4862a63f50fee32fb56c84893843517075e969", func := "lib-heddleeye/laws.FnBytesJoined", spec := "fnBytesJoined", inPlace := ["internal/bytealg.IndexByte", "internal/reflectlite.TypeOf"], unfollowed := true, recurses := true, named := ["bufio.ErrFinalToken", "bufio.ErrTooLong", "bufio.ErrBadReadCount", "io.ErrNoProgress", "io.EOF", "bufio.ErrNegativeAdvance", "bufio.ErrAdvanceTooFar", "lib-heddleeye/impl.errSplit", "lib-heddleeye/impl.errRead"], apart := false, laid := [("io.EOF", laid_io_EOF), ("io.ErrNoProgress", laid_io_ErrNoProgress), ("bufio.ErrTooLong", laid_bufio_ErrTooLong), ("bufio.ErrNegativeAdvance", laid_bufio_ErrNegativeAdvance), ("bufio.ErrAdvanceTooFar", laid_bufio_ErrAdvanceTooFar), ("bufio.ErrBadReadCount", laid_bufio_ErrBadReadCount), ("bufio.ErrFinalToken", laid_bufio_ErrFinalToken), ("lib-heddleeye/impl.errSplit", laid_lib_heddleeye_impl_errSplit), ("lib-heddleeye/impl.errRead", laid_lib_heddleeye_impl_errRead)] }
def FnBytesJoinedSaid : Prop := fnBytesJoinedRow.holds Tryd.pinned (OpenSpec.ofChange fnBytesJoinedSpec)

/-- ITS FALSE NEIGHBOUR: 'it returns false'. Refute it at one input. -/
def fnBytesJoinedWrong : ChangeSpec := { name := "fnBytesJoined", fn := fun _ => fun
  | [d1, d2] => { results := [.lit (.bool false)], args := [d1, d2] }
  | _ => none }
def FnBytesJoinedWrongFalsely : Prop := fnBytesJoinedRow.holds Tryd.pinned (OpenSpec.ofChange fnBytesJoinedWrong)

/-- 'laws.FnRuns': WHATEVER THE INPUT: true; the input reads as it did. -/
def fnRunsSpec : ChangeSpec := { name := "fnRuns", fn := fun _ => fun
  | [d1, d2] => { results := [.lit (.bool true)], args := [d1, d2] }
  | _ => none }
def fnRunsRow : OpenClaim := { program := "ytjalppojdomcoaadoor", sum := "4256214991b192bb97d9692f9e4862a63f50fee32fb56c84893843517075e969", func := "lib-heddleeye/laws.FnRuns", spec := "fnRuns", inPlace := ["internal/bytealg.IndexByte", "internal/reflectlite.TypeOf"], unfollowed := true, recurses := true, named := ["bufio.ErrFinalToken", "bufio.ErrTooLong", "bufio.ErrBadReadCount", "io.ErrNoProgress", "io.EOF", "bufio.ErrNegativeAdvance", "bufio.ErrAdvanceTooFar", "lib-heddleeye/impl.errSplit", "lib-heddleeye/impl.errRead"], apart := false, laid := [("io.EOF", laid_io_EOF), ("io.ErrNoProgress", laid_io_ErrNoProgress), ("bufio.ErrTooLong", laid_bufio_ErrTooLong), ("bufio.ErrNegativeAdvance", laid_bufio_ErrNegativeAdvance), ("bufio.ErrAdvanceTooFar", laid_bufio_ErrAdvanceTooFar), ("bufio.ErrBadReadCount", laid_bufio_ErrBadReadCount), ("bufio.ErrFinalToken", laid_bufio_ErrFinalToken), ("lib-heddleeye/impl.errSplit", laid_lib_heddleeye_impl_errSplit), ("lib-heddleeye/impl.errRead", laid_lib_heddleeye_impl_errRead)] }
def FnRunsSaid : Prop := fnRunsRow.holds Tryd.pinned (OpenSpec.ofChange fnRunsSpec)

/-- ITS FALSE NEIGHBOUR: 'it returns false'. Refute it at one input. -/
def fnRunsWrong : ChangeSpec := { name := "fnRuns", fn := fun _ => fun
  | [d1, d2] => { results := [.lit (.bool false)], args := [d1, d2] }
  | _ => none }
def FnRunsWrongFalsely : Prop := fnRunsRow.holds Tryd.pinned (OpenSpec.ofChange fnRunsWrong)

/-- 'laws.FnRunsDoubled': WHATEVER THE INPUT: true; the input reads as it did. -/
def fnRunsDoubledSpec : ChangeSpec := { name := "fnRunsDoubled", fn := fun _ => fun
  | [d1, d2, d3] => { results := [.lit (.bool true)], args := [d1, d2, d3] }
  | _ => none }
def fnRunsDoubledRow : OpenClaim := { program := "ytjalppojdomcoaadoor", sum := "4256214991b192bb97d9692f9e4862a63f50fee32fb56c84893843517075e969", func := "lib-heddleeye/laws.FnRunsDoubled", spec := "fnRunsDoubled", inPlace := ["internal/bytealg.IndexByte", "internal/reflectlite.TypeOf"], unfollowed := true, recurses := true, named := ["bufio.ErrFinalToken", "bufio.ErrTooLong", "bufio.ErrBadReadCount", "io.ErrNoProgress", "io.EOF", "bufio.ErrNegativeAdvance", "bufio.ErrAdvanceTooFar", "lib-heddleeye/impl.errSplit", "lib-heddleeye/impl.errRead"], apart := false, laid := [("io.EOF", laid_io_EOF), ("io.ErrNoProgress", laid_io_ErrNoProgress), ("bufio.ErrTooLong", laid_bufio_ErrTooLong), ("bufio.ErrNegativeAdvance", laid_bufio_ErrNegativeAdvance), ("bufio.ErrAdvanceTooFar", laid_bufio_ErrAdvanceTooFar), ("bufio.ErrBadReadCount", laid_bufio_ErrBadReadCount), ("bufio.ErrFinalToken", laid_bufio_ErrFinalToken), ("lib-heddleeye/impl.errSplit", laid_lib_heddleeye_impl_errSplit), ("lib-heddleeye/impl.errRead", laid_lib_heddleeye_impl_errRead)] }
def FnRunsDoubledSaid : Prop := fnRunsDoubledRow.holds Tryd.pinned (OpenSpec.ofChange fnRunsDoubledSpec)

/-- ITS FALSE NEIGHBOUR: 'it returns false'. Refute it at one input. -/
def fnRunsDoubledWrong : ChangeSpec := { name := "fnRunsDoubled", fn := fun _ => fun
  | [d1, d2, d3] => { results := [.lit (.bool false)], args := [d1, d2, d3] }
  | _ => none }
def FnRunsDoubledWrongFalsely : Prop := fnRunsDoubledRow.holds Tryd.pinned (OpenSpec.ofChange fnRunsDoubledWrong)

/-- 'laws.FnRunsJoined': WHATEVER THE INPUT: true; the input reads as it did. -/
def fnRunsJoinedSpec : ChangeSpec := { name := "fnRunsJoined", fn := fun _ => fun
  | [d1, d2] => { results := [.lit (.bool true)], args := [d1, d2] }
  | _ => none }
def fnRunsJoinedRow : OpenClaim := { program := "ytjalppojdomcoaadoor", sum := "4256214991b192bb97d9692f9e4862a63f50fee32fb56c84893843517075e969", func := "lib-heddleeye/laws.FnRunsJoined", spec := "fnRunsJoined", inPlace := ["internal/bytealg.IndexByte", "internal/reflectlite.TypeOf"], unfollowed := true, recurses := true, named := ["bufio.ErrFinalToken", "bufio.ErrTooLong", "bufio.ErrBadReadCount", "io.ErrNoProgress", "io.EOF", "bufio.ErrNegativeAdvance", "bufio.ErrAdvanceTooFar", "lib-heddleeye/impl.errSplit", "lib-heddleeye/impl.errRead"], apart := false, laid := [("io.EOF", laid_io_EOF), ("io.ErrNoProgress", laid_io_ErrNoProgress), ("bufio.ErrTooLong", laid_bufio_ErrTooLong), ("bufio.ErrNegativeAdvance", laid_bufio_ErrNegativeAdvance), ("bufio.ErrAdvanceTooFar", laid_bufio_ErrAdvanceTooFar), ("bufio.ErrBadReadCount", laid_bufio_ErrBadReadCount), ("bufio.ErrFinalToken", laid_bufio_ErrFinalToken), ("lib-heddleeye/impl.errSplit", laid_lib_heddleeye_impl_errSplit), ("lib-heddleeye/impl.errRead", laid_lib_heddleeye_impl_errRead)] }
def FnRunsJoinedSaid : Prop := fnRunsJoinedRow.holds Tryd.pinned (OpenSpec.ofChange fnRunsJoinedSpec)

/-- ITS FALSE NEIGHBOUR: 'it returns false'. Refute it at one input. -/
def fnRunsJoinedWrong : ChangeSpec := { name := "fnRunsJoined", fn := fun _ => fun
  | [d1, d2] => { results := [.lit (.bool false)], args := [d1, d2] }
  | _ => none }
def FnRunsJoinedWrongFalsely : Prop := fnRunsJoinedRow.holds Tryd.pinned (OpenSpec.ofChange fnRunsJoinedWrong)

/-- 'laws.FnRunsTooLong': WHATEVER THE INPUT: true; the input reads as it did. -/
def fnRunsTooLongSpec : ChangeSpec := { name := "fnRunsTooLong", fn := fun _ => fun
  | [d1, d2] => { results := [.lit (.bool true)], args := [d1, d2] }
  | _ => none }
def fnRunsTooLongRow : OpenClaim := { program := "ytjalppojdomcoaadoor", sum := "4256214991b192bb97d9692f9e4862a63f50fee32fb56c84893843517075e969", func := "lib-heddleeye/laws.FnRunsTooLong", spec := "fnRunsTooLong", inPlace := ["internal/bytealg.IndexByte", "internal/reflectlite.TypeOf"], unfollowed := true, recurses := true, named := ["bufio.ErrFinalToken", "bufio.ErrTooLong", "bufio.ErrBadReadCount", "io.ErrNoProgress", "io.EOF", "bufio.ErrNegativeAdvance", "bufio.ErrAdvanceTooFar", "lib-heddleeye/impl.errSplit", "lib-heddleeye/impl.errRead"], apart := false, laid := [("io.EOF", laid_io_EOF), ("io.ErrNoProgress", laid_io_ErrNoProgress), ("bufio.ErrTooLong", laid_bufio_ErrTooLong), ("bufio.ErrNegativeAdvance", laid_bufio_ErrNegativeAdvance), ("bufio.ErrAdvanceTooFar", laid_bufio_ErrAdvanceTooFar), ("bufio.ErrBadReadCount", laid_bufio_ErrBadReadCount), ("bufio.ErrFinalToken", laid_bufio_ErrFinalToken), ("lib-heddleeye/impl.errSplit", laid_lib_heddleeye_impl_errSplit), ("lib-heddleeye/impl.errRead", laid_lib_heddleeye_impl_errRead)] }
def FnRunsTooLongSaid : Prop := fnRunsTooLongRow.holds Tryd.pinned (OpenSpec.ofChange fnRunsTooLongSpec)

/-- ITS FALSE NEIGHBOUR: 'it returns false'. Refute it at one input. -/
def fnRunsTooLongWrong : ChangeSpec := { name := "fnRunsTooLong", fn := fun _ => fun
  | [d1, d2] => { results := [.lit (.bool false)], args := [d1, d2] }
  | _ => none }
def FnRunsTooLongWrongFalsely : Prop := fnRunsTooLongRow.holds Tryd.pinned (OpenSpec.ofChange fnRunsTooLongWrong)

/-- 'laws.FnBlocks': WHATEVER THE INPUT: true; the input reads as it did. -/
def fnBlocksSpec : ChangeSpec := { name := "fnBlocks", fn := fun _ => fun
  | [d1, d2, d3] => { results := [.lit (.bool true)], args := [d1, d2, d3] }
  | _ => none }
def fnBlocksRow : OpenClaim := { program := "ytjalppojdomcoaadoor", sum := "4256214991b192bb97d9692f9e4862a63f50fee32fb56c84893843517075e969", func := "lib-heddleeye/laws.FnBlocks", spec := "fnBlocks", inPlace := ["internal/bytealg.IndexByte", "internal/reflectlite.TypeOf"], unfollowed := true, recurses := true, named := ["bufio.ErrFinalToken", "bufio.ErrTooLong", "bufio.ErrBadReadCount", "io.ErrNoProgress", "io.EOF", "bufio.ErrNegativeAdvance", "bufio.ErrAdvanceTooFar", "lib-heddleeye/impl.errSplit", "lib-heddleeye/impl.errRead"], apart := false, laid := [("io.EOF", laid_io_EOF), ("io.ErrNoProgress", laid_io_ErrNoProgress), ("bufio.ErrTooLong", laid_bufio_ErrTooLong), ("bufio.ErrNegativeAdvance", laid_bufio_ErrNegativeAdvance), ("bufio.ErrAdvanceTooFar", laid_bufio_ErrAdvanceTooFar), ("bufio.ErrBadReadCount", laid_bufio_ErrBadReadCount), ("bufio.ErrFinalToken", laid_bufio_ErrFinalToken), ("lib-heddleeye/impl.errSplit", laid_lib_heddleeye_impl_errSplit), ("lib-heddleeye/impl.errRead", laid_lib_heddleeye_impl_errRead)] }
def FnBlocksSaid : Prop := fnBlocksRow.holds Tryd.pinned (OpenSpec.ofChange fnBlocksSpec)

/-- ITS FALSE NEIGHBOUR: 'it returns false'. Refute it at one input. -/
def fnBlocksWrong : ChangeSpec := { name := "fnBlocks", fn := fun _ => fun
  | [d1, d2, d3] => { results := [.lit (.bool false)], args := [d1, d2, d3] }
  | _ => none }
def FnBlocksWrongFalsely : Prop := fnBlocksRow.holds Tryd.pinned (OpenSpec.ofChange fnBlocksWrong)

/-- 'laws.FnBlocksJoined': WHATEVER THE INPUT: true; the input reads as it did. -/
def fnBlocksJoinedSpec : ChangeSpec := { name := "fnBlocksJoined", fn := fun _ => fun
  | [d1, d2, d3] => { results := [.lit (.bool true)], args := [d1, d2, d3] }
  | _ => none }
def fnBlocksJoinedRow : OpenClaim := { program := "ytjalppojdomcoaadoor", sum := "4256214991b192bb97d9692f9e4862a63f50fee32fb56c84893843517075e969", func := "lib-heddleeye/laws.FnBlocksJoined", spec := "fnBlocksJoined", inPlace := ["internal/bytealg.IndexByte", "internal/reflectlite.TypeOf"], unfollowed := true, recurses := true, named := ["bufio.ErrFinalToken", "bufio.ErrTooLong", "bufio.ErrBadReadCount", "io.ErrNoProgress", "io.EOF", "bufio.ErrNegativeAdvance", "bufio.ErrAdvanceTooFar", "lib-heddleeye/impl.errSplit", "lib-heddleeye/impl.errRead"], apart := false, laid := [("io.EOF", laid_io_EOF), ("io.ErrNoProgress", laid_io_ErrNoProgress), ("bufio.ErrTooLong", laid_bufio_ErrTooLong), ("bufio.ErrNegativeAdvance", laid_bufio_ErrNegativeAdvance), ("bufio.ErrAdvanceTooFar", laid_bufio_ErrAdvanceTooFar), ("bufio.ErrBadReadCount", laid_bufio_ErrBadReadCount), ("bufio.ErrFinalToken", laid_bufio_ErrFinalToken), ("lib-heddleeye/impl.errSplit", laid_lib_heddleeye_impl_errSplit), ("lib-heddleeye/impl.errRead", laid_lib_heddleeye_impl_errRead)] }
def FnBlocksJoinedSaid : Prop := fnBlocksJoinedRow.holds Tryd.pinned (OpenSpec.ofChange fnBlocksJoinedSpec)

/-- ITS FALSE NEIGHBOUR: 'it returns false'. Refute it at one input. -/
def fnBlocksJoinedWrong : ChangeSpec := { name := "fnBlocksJoined", fn := fun _ => fun
  | [d1, d2, d3] => { results := [.lit (.bool false)], args := [d1, d2, d3] }
  | _ => none }
def FnBlocksJoinedWrongFalsely : Prop := fnBlocksJoinedRow.holds Tryd.pinned (OpenSpec.ofChange fnBlocksJoinedWrong)

/-- 'laws.FnBlocksOfBlocks': WHATEVER THE INPUT: true; the input reads as it did. -/
def fnBlocksOfBlocksSpec : ChangeSpec := { name := "fnBlocksOfBlocks", fn := fun _ => fun
  | [d1, d2, d3, d4] => { results := [.lit (.bool true)], args := [d1, d2, d3, d4] }
  | _ => none }
def fnBlocksOfBlocksRow : OpenClaim := { program := "ytjalppojdomcoaadoor", sum := "4256214991b192bb97d9692f9e4862a63f50fee32fb56c84893843517075e969", func := "lib-heddleeye/laws.FnBlocksOfBlocks", spec := "fnBlocksOfBlocks", inPlace := ["internal/bytealg.IndexByte", "internal/reflectlite.TypeOf"], unfollowed := true, recurses := true, named := ["bufio.ErrFinalToken", "bufio.ErrTooLong", "bufio.ErrBadReadCount", "io.ErrNoProgress", "io.EOF", "bufio.ErrNegativeAdvance", "bufio.ErrAdvanceTooFar", "lib-heddleeye/impl.errSplit", "lib-heddleeye/impl.errRead"], apart := false, laid := [("io.EOF", laid_io_EOF), ("io.ErrNoProgress", laid_io_ErrNoProgress), ("bufio.ErrTooLong", laid_bufio_ErrTooLong), ("bufio.ErrNegativeAdvance", laid_bufio_ErrNegativeAdvance), ("bufio.ErrAdvanceTooFar", laid_bufio_ErrAdvanceTooFar), ("bufio.ErrBadReadCount", laid_bufio_ErrBadReadCount), ("bufio.ErrFinalToken", laid_bufio_ErrFinalToken), ("lib-heddleeye/impl.errSplit", laid_lib_heddleeye_impl_errSplit), ("lib-heddleeye/impl.errRead", laid_lib_heddleeye_impl_errRead)] }
def FnBlocksOfBlocksSaid : Prop := fnBlocksOfBlocksRow.holds Tryd.pinned (OpenSpec.ofChange fnBlocksOfBlocksSpec)

/-- ITS FALSE NEIGHBOUR: 'it returns false'. Refute it at one input. -/
def fnBlocksOfBlocksWrong : ChangeSpec := { name := "fnBlocksOfBlocks", fn := fun _ => fun
  | [d1, d2, d3, d4] => { results := [.lit (.bool false)], args := [d1, d2, d3, d4] }
  | _ => none }
def FnBlocksOfBlocksWrongFalsely : Prop := fnBlocksOfBlocksRow.holds Tryd.pinned (OpenSpec.ofChange fnBlocksOfBlocksWrong)

/-- 'laws.FnBlocksTooLong': WHATEVER THE INPUT: true; the input reads as it did. -/
def fnBlocksTooLongSpec : ChangeSpec := { name := "fnBlocksTooLong", fn := fun _ => fun
  | [d1, d2, d3] => { results := [.lit (.bool true)], args := [d1, d2, d3] }
  | _ => none }
def fnBlocksTooLongRow : OpenClaim := { program := "ytjalppojdomcoaadoor", sum := "4256214991b192bb97d9692f9e4862a63f50fee32fb56c84893843517075e969", func := "lib-heddleeye/laws.FnBlocksTooLong", spec := "fnBlocksTooLong", inPlace := ["internal/bytealg.IndexByte", "internal/reflectlite.TypeOf"], unfollowed := true, recurses := true, named := ["bufio.ErrFinalToken", "bufio.ErrTooLong", "bufio.ErrBadReadCount", "io.ErrNoProgress", "io.EOF", "bufio.ErrNegativeAdvance", "bufio.ErrAdvanceTooFar", "lib-heddleeye/impl.errSplit", "lib-heddleeye/impl.errRead"], apart := false, laid := [("io.EOF", laid_io_EOF), ("io.ErrNoProgress", laid_io_ErrNoProgress), ("bufio.ErrTooLong", laid_bufio_ErrTooLong), ("bufio.ErrNegativeAdvance", laid_bufio_ErrNegativeAdvance), ("bufio.ErrAdvanceTooFar", laid_bufio_ErrAdvanceTooFar), ("bufio.ErrBadReadCount", laid_bufio_ErrBadReadCount), ("bufio.ErrFinalToken", laid_bufio_ErrFinalToken), ("lib-heddleeye/impl.errSplit", laid_lib_heddleeye_impl_errSplit), ("lib-heddleeye/impl.errRead", laid_lib_heddleeye_impl_errRead)] }
def FnBlocksTooLongSaid : Prop := fnBlocksTooLongRow.holds Tryd.pinned (OpenSpec.ofChange fnBlocksTooLongSpec)

/-- ITS FALSE NEIGHBOUR: 'it returns false'. Refute it at one input. -/
def fnBlocksTooLongWrong : ChangeSpec := { name := "fnBlocksTooLong", fn := fun _ => fun
  | [d1, d2, d3] => { results := [.lit (.bool false)], args := [d1, d2, d3] }
  | _ => none }
def FnBlocksTooLongWrongFalsely : Prop := fnBlocksTooLongRow.holds Tryd.pinned (OpenSpec.ofChange fnBlocksTooLongWrong)

/-- 'laws.FnBytesAreBlocks': WHATEVER THE INPUT: true; the input reads as it did. -/
def fnBytesAreBlocksSpec : ChangeSpec := { name := "fnBytesAreBlocks", fn := fun _ => fun
  | [d1, d2] => { results := [.lit (.bool true)], args := [d1, d2] }
  | _ => none }
def fnBytesAreBlocksRow : OpenClaim := { program := "ytjalppojdomcoaadoor", sum := "4256214991b192bb97d9692f9e4862a63f50fee32fb56c84893843517075e969", func := "lib-heddleeye/laws.FnBytesAreBlocks", spec := "fnBytesAreBlocks", inPlace := ["internal/bytealg.IndexByte", "internal/reflectlite.TypeOf"], unfollowed := true, recurses := true, named := ["bufio.ErrFinalToken", "bufio.ErrTooLong", "bufio.ErrBadReadCount", "io.ErrNoProgress", "io.EOF", "bufio.ErrNegativeAdvance", "bufio.ErrAdvanceTooFar", "lib-heddleeye/impl.errSplit", "lib-heddleeye/impl.errRead"], apart := false, laid := [("io.EOF", laid_io_EOF), ("io.ErrNoProgress", laid_io_ErrNoProgress), ("bufio.ErrTooLong", laid_bufio_ErrTooLong), ("bufio.ErrNegativeAdvance", laid_bufio_ErrNegativeAdvance), ("bufio.ErrAdvanceTooFar", laid_bufio_ErrAdvanceTooFar), ("bufio.ErrBadReadCount", laid_bufio_ErrBadReadCount), ("bufio.ErrFinalToken", laid_bufio_ErrFinalToken), ("lib-heddleeye/impl.errSplit", laid_lib_heddleeye_impl_errSplit), ("lib-heddleeye/impl.errRead", laid_lib_heddleeye_impl_errRead)] }
def FnBytesAreBlocksSaid : Prop := fnBytesAreBlocksRow.holds Tryd.pinned (OpenSpec.ofChange fnBytesAreBlocksSpec)

/-- ITS FALSE NEIGHBOUR: 'it returns false'. Refute it at one input. -/
def fnBytesAreBlocksWrong : ChangeSpec := { name := "fnBytesAreBlocks", fn := fun _ => fun
  | [d1, d2] => { results := [.lit (.bool false)], args := [d1, d2] }
  | _ => none }
def FnBytesAreBlocksWrongFalsely : Prop := fnBytesAreBlocksRow.holds Tryd.pinned (OpenSpec.ofChange fnBytesAreBlocksWrong)

/- THE SECOND FORM. 'bulk': how many values and letters a reading holds, each counted each time it is reached (what is shared counts as often as it is met; a slice's spare places count too). A statement '..UptoSaid' is the law's where the arguments, and the package variables that the reading takes, are together of bulk at most 1048576: NARROWER than '..Said'. Prove '..Said' where nothing that the law and all that it calls make is longer than what came in: it says more and counts as full. Else prove '..UptoSaid'. A law counts once. -/
mutual
def uptoBulk {H : Type} : DataW H → Nat
  | .lit (.string bytes) => bytes.length + 1
  | .lit _ => 1
  | .nil => 1
  | .ptr d => uptoBulk d + 1
  | .slice elems spare => uptoBulkAll elems + uptoBulkAll spare + 1
  | .agg parts => uptoBulkAll parts + 1
  | .iface _ d => uptoBulk d + 1
  | .map entries => uptoBulkEntries entries + 1
  | .held _ => 1
def uptoBulkAll {H : Type} : List (DataW H) → Nat
  | [] => 0
  | d :: r => uptoBulk d + uptoBulkAll r
def uptoBulkEntries {H : Type} : List (Lit × DataW H) → Nat
  | [] => 0
  | x :: r => uptoBulkEntry x + uptoBulkEntries r
def uptoBulkEntry {H : Type} : Lit × DataW H → Nat
  | (.string bytes, d) => bytes.length + uptoBulk d + 1
  | (_, d) => uptoBulk d + 1
 end
def uptoSmall : (H : Type) → List (DataW H) → Bool := fun _ ds => decide (uptoBulkAll ds ≤ 1048576)
def OpenSpec.upto (s : _root_.Go.ChangeSpec) : _root_.Go.OpenSpec := { _root_.Go.OpenSpec.ofChange s with cond := some uptoSmall }

/-- 'laws.FnBytesStep', WHERE WHAT IT READS IS OF BULK AT MOST 1048576: true; the input reads as it did. -/
def fnBytesStepUptoRow : OpenClaim := { program := "ytjalppojdomcoaadoor", sum := "4256214991b192bb97d9692f9e4862a63f50fee32fb56c84893843517075e969", func := "lib-heddleeye/laws.FnBytesStep", spec := "fnBytesStep", inPlace := ["internal/reflectlite.TypeOf"], unfollowed := true, recurses := true, named := ["bufio.ErrTooLong", "bufio.ErrNegativeAdvance", "bufio.ErrAdvanceTooFar", "lib-heddleeye/impl.errSplit", "lib-heddleeye/impl.errRead"], apart := false, laid := [("bufio.ErrTooLong", laid_bufio_ErrTooLong), ("bufio.ErrNegativeAdvance", laid_bufio_ErrNegativeAdvance), ("bufio.ErrAdvanceTooFar", laid_bufio_ErrAdvanceTooFar), ("lib-heddleeye/impl.errSplit", laid_lib_heddleeye_impl_errSplit), ("lib-heddleeye/impl.errRead", laid_lib_heddleeye_impl_errRead)], narrowed := true }
def FnBytesStepUptoSaid : Prop := fnBytesStepUptoRow.holds Tryd.pinned (OpenSpec.upto fnBytesStepSpec)

/-- 'laws.FnBytes', WHERE WHAT IT READS IS OF BULK AT MOST 1048576: true; the input reads as it did. -/
def fnBytesUptoRow : OpenClaim := { program := "ytjalppojdomcoaadoor", sum := "4256214991b192bb97d9692f9e4862a63f50fee32fb56c84893843517075e969", func := "lib-heddleeye/laws.FnBytes", spec := "fnBytes", inPlace := ["internal/bytealg.IndexByte", "internal/reflectlite.TypeOf"], unfollowed := true, recurses := true, named := ["bufio.ErrFinalToken", "bufio.ErrTooLong", "bufio.ErrBadReadCount", "io.ErrNoProgress", "io.EOF", "bufio.ErrNegativeAdvance", "bufio.ErrAdvanceTooFar", "lib-heddleeye/impl.errSplit", "lib-heddleeye/impl.errRead"], apart := false, laid := [("io.EOF", laid_io_EOF), ("io.ErrNoProgress", laid_io_ErrNoProgress), ("bufio.ErrTooLong", laid_bufio_ErrTooLong), ("bufio.ErrNegativeAdvance", laid_bufio_ErrNegativeAdvance), ("bufio.ErrAdvanceTooFar", laid_bufio_ErrAdvanceTooFar), ("bufio.ErrBadReadCount", laid_bufio_ErrBadReadCount), ("bufio.ErrFinalToken", laid_bufio_ErrFinalToken), ("lib-heddleeye/impl.errSplit", laid_lib_heddleeye_impl_errSplit), ("lib-heddleeye/impl.errRead", laid_lib_heddleeye_impl_errRead)], narrowed := true }
def FnBytesUptoSaid : Prop := fnBytesUptoRow.holds Tryd.pinned (OpenSpec.upto fnBytesSpec)

/-- 'laws.FnBytesJoined', WHERE WHAT IT READS IS OF BULK AT MOST 1048576: true; the input reads as it did. -/
def fnBytesJoinedUptoRow : OpenClaim := { program := "ytjalppojdomcoaadoor", sum := "4256214991b192bb97d9692f9e4862a63f50fee32fb56c84893843517075e969", func := "lib-heddleeye/laws.FnBytesJoined", spec := "fnBytesJoined", inPlace := ["internal/bytealg.IndexByte", "internal/reflectlite.TypeOf"], unfollowed := true, recurses := true, named := ["bufio.ErrFinalToken", "bufio.ErrTooLong", "bufio.ErrBadReadCount", "io.ErrNoProgress", "io.EOF", "bufio.ErrNegativeAdvance", "bufio.ErrAdvanceTooFar", "lib-heddleeye/impl.errSplit", "lib-heddleeye/impl.errRead"], apart := false, laid := [("io.EOF", laid_io_EOF), ("io.ErrNoProgress", laid_io_ErrNoProgress), ("bufio.ErrTooLong", laid_bufio_ErrTooLong), ("bufio.ErrNegativeAdvance", laid_bufio_ErrNegativeAdvance), ("bufio.ErrAdvanceTooFar", laid_bufio_ErrAdvanceTooFar), ("bufio.ErrBadReadCount", laid_bufio_ErrBadReadCount), ("bufio.ErrFinalToken", laid_bufio_ErrFinalToken), ("lib-heddleeye/impl.errSplit", laid_lib_heddleeye_impl_errSplit), ("lib-heddleeye/impl.errRead", laid_lib_heddleeye_impl_errRead)], narrowed := true }
def FnBytesJoinedUptoSaid : Prop := fnBytesJoinedUptoRow.holds Tryd.pinned (OpenSpec.upto fnBytesJoinedSpec)

/-- 'laws.FnRuns', WHERE WHAT IT READS IS OF BULK AT MOST 1048576: true; the input reads as it did. -/
def fnRunsUptoRow : OpenClaim := { program := "ytjalppojdomcoaadoor", sum := "4256214991b192bb97d9692f9e4862a63f50fee32fb56c84893843517075e969", func := "lib-heddleeye/laws.FnRuns", spec := "fnRuns", inPlace := ["internal/bytealg.IndexByte", "internal/reflectlite.TypeOf"], unfollowed := true, recurses := true, named := ["bufio.ErrFinalToken", "bufio.ErrTooLong", "bufio.ErrBadReadCount", "io.ErrNoProgress", "io.EOF", "bufio.ErrNegativeAdvance", "bufio.ErrAdvanceTooFar", "lib-heddleeye/impl.errSplit", "lib-heddleeye/impl.errRead"], apart := false, laid := [("io.EOF", laid_io_EOF), ("io.ErrNoProgress", laid_io_ErrNoProgress), ("bufio.ErrTooLong", laid_bufio_ErrTooLong), ("bufio.ErrNegativeAdvance", laid_bufio_ErrNegativeAdvance), ("bufio.ErrAdvanceTooFar", laid_bufio_ErrAdvanceTooFar), ("bufio.ErrBadReadCount", laid_bufio_ErrBadReadCount), ("bufio.ErrFinalToken", laid_bufio_ErrFinalToken), ("lib-heddleeye/impl.errSplit", laid_lib_heddleeye_impl_errSplit), ("lib-heddleeye/impl.errRead", laid_lib_heddleeye_impl_errRead)], narrowed := true }
def FnRunsUptoSaid : Prop := fnRunsUptoRow.holds Tryd.pinned (OpenSpec.upto fnRunsSpec)

/-- 'laws.FnRunsDoubled', WHERE WHAT IT READS IS OF BULK AT MOST 1048576: true; the input reads as it did. -/
def fnRunsDoubledUptoRow : OpenClaim := { program := "ytjalppojdomcoaadoor", sum := "4256214991b192bb97d9692f9e4862a63f50fee32fb56c84893843517075e969", func := "lib-heddleeye/laws.FnRunsDoubled", spec := "fnRunsDoubled", inPlace := ["internal/bytealg.IndexByte", "internal/reflectlite.TypeOf"], unfollowed := true, recurses := true, named := ["bufio.ErrFinalToken", "bufio.ErrTooLong", "bufio.ErrBadReadCount", "io.ErrNoProgress", "io.EOF", "bufio.ErrNegativeAdvance", "bufio.ErrAdvanceTooFar", "lib-heddleeye/impl.errSplit", "lib-heddleeye/impl.errRead"], apart := false, laid := [("io.EOF", laid_io_EOF), ("io.ErrNoProgress", laid_io_ErrNoProgress), ("bufio.ErrTooLong", laid_bufio_ErrTooLong), ("bufio.ErrNegativeAdvance", laid_bufio_ErrNegativeAdvance), ("bufio.ErrAdvanceTooFar", laid_bufio_ErrAdvanceTooFar), ("bufio.ErrBadReadCount", laid_bufio_ErrBadReadCount), ("bufio.ErrFinalToken", laid_bufio_ErrFinalToken), ("lib-heddleeye/impl.errSplit", laid_lib_heddleeye_impl_errSplit), ("lib-heddleeye/impl.errRead", laid_lib_heddleeye_impl_errRead)], narrowed := true }
def FnRunsDoubledUptoSaid : Prop := fnRunsDoubledUptoRow.holds Tryd.pinned (OpenSpec.upto fnRunsDoubledSpec)

/-- 'laws.FnRunsJoined', WHERE WHAT IT READS IS OF BULK AT MOST 1048576: true; the input reads as it did. -/
def fnRunsJoinedUptoRow : OpenClaim := { program := "ytjalppojdomcoaadoor", sum := "4256214991b192bb97d9692f9e4862a63f50fee32fb56c84893843517075e969", func := "lib-heddleeye/laws.FnRunsJoined", spec := "fnRunsJoined", inPlace := ["internal/bytealg.IndexByte", "internal/reflectlite.TypeOf"], unfollowed := true, recurses := true, named := ["bufio.ErrFinalToken", "bufio.ErrTooLong", "bufio.ErrBadReadCount", "io.ErrNoProgress", "io.EOF", "bufio.ErrNegativeAdvance", "bufio.ErrAdvanceTooFar", "lib-heddleeye/impl.errSplit", "lib-heddleeye/impl.errRead"], apart := false, laid := [("io.EOF", laid_io_EOF), ("io.ErrNoProgress", laid_io_ErrNoProgress), ("bufio.ErrTooLong", laid_bufio_ErrTooLong), ("bufio.ErrNegativeAdvance", laid_bufio_ErrNegativeAdvance), ("bufio.ErrAdvanceTooFar", laid_bufio_ErrAdvanceTooFar), ("bufio.ErrBadReadCount", laid_bufio_ErrBadReadCount), ("bufio.ErrFinalToken", laid_bufio_ErrFinalToken), ("lib-heddleeye/impl.errSplit", laid_lib_heddleeye_impl_errSplit), ("lib-heddleeye/impl.errRead", laid_lib_heddleeye_impl_errRead)], narrowed := true }
def FnRunsJoinedUptoSaid : Prop := fnRunsJoinedUptoRow.holds Tryd.pinned (OpenSpec.upto fnRunsJoinedSpec)

/-- 'laws.FnRunsTooLong', WHERE WHAT IT READS IS OF BULK AT MOST 1048576: true; the input reads as it did. -/
def fnRunsTooLongUptoRow : OpenClaim := { program := "ytjalppojdomcoaadoor", sum := "4256214991b192bb97d9692f9e4862a63f50fee32fb56c84893843517075e969", func := "lib-heddleeye/laws.FnRunsTooLong", spec := "fnRunsTooLong", inPlace := ["internal/bytealg.IndexByte", "internal/reflectlite.TypeOf"], unfollowed := true, recurses := true, named := ["bufio.ErrFinalToken", "bufio.ErrTooLong", "bufio.ErrBadReadCount", "io.ErrNoProgress", "io.EOF", "bufio.ErrNegativeAdvance", "bufio.ErrAdvanceTooFar", "lib-heddleeye/impl.errSplit", "lib-heddleeye/impl.errRead"], apart := false, laid := [("io.EOF", laid_io_EOF), ("io.ErrNoProgress", laid_io_ErrNoProgress), ("bufio.ErrTooLong", laid_bufio_ErrTooLong), ("bufio.ErrNegativeAdvance", laid_bufio_ErrNegativeAdvance), ("bufio.ErrAdvanceTooFar", laid_bufio_ErrAdvanceTooFar), ("bufio.ErrBadReadCount", laid_bufio_ErrBadReadCount), ("bufio.ErrFinalToken", laid_bufio_ErrFinalToken), ("lib-heddleeye/impl.errSplit", laid_lib_heddleeye_impl_errSplit), ("lib-heddleeye/impl.errRead", laid_lib_heddleeye_impl_errRead)], narrowed := true }
def FnRunsTooLongUptoSaid : Prop := fnRunsTooLongUptoRow.holds Tryd.pinned (OpenSpec.upto fnRunsTooLongSpec)

/-- 'laws.FnBlocks', WHERE WHAT IT READS IS OF BULK AT MOST 1048576: true; the input reads as it did. -/
def fnBlocksUptoRow : OpenClaim := { program := "ytjalppojdomcoaadoor", sum := "4256214991b192bb97d9692f9e4862a63f50fee32fb56c84893843517075e969", func := "lib-heddleeye/laws.FnBlocks", spec := "fnBlocks", inPlace := ["internal/bytealg.IndexByte", "internal/reflectlite.TypeOf"], unfollowed := true, recurses := true, named := ["bufio.ErrFinalToken", "bufio.ErrTooLong", "bufio.ErrBadReadCount", "io.ErrNoProgress", "io.EOF", "bufio.ErrNegativeAdvance", "bufio.ErrAdvanceTooFar", "lib-heddleeye/impl.errSplit", "lib-heddleeye/impl.errRead"], apart := false, laid := [("io.EOF", laid_io_EOF), ("io.ErrNoProgress", laid_io_ErrNoProgress), ("bufio.ErrTooLong", laid_bufio_ErrTooLong), ("bufio.ErrNegativeAdvance", laid_bufio_ErrNegativeAdvance), ("bufio.ErrAdvanceTooFar", laid_bufio_ErrAdvanceTooFar), ("bufio.ErrBadReadCount", laid_bufio_ErrBadReadCount), ("bufio.ErrFinalToken", laid_bufio_ErrFinalToken), ("lib-heddleeye/impl.errSplit", laid_lib_heddleeye_impl_errSplit), ("lib-heddleeye/impl.errRead", laid_lib_heddleeye_impl_errRead)], narrowed := true }
def FnBlocksUptoSaid : Prop := fnBlocksUptoRow.holds Tryd.pinned (OpenSpec.upto fnBlocksSpec)

/-- 'laws.FnBlocksJoined', WHERE WHAT IT READS IS OF BULK AT MOST 1048576: true; the input reads as it did. -/
def fnBlocksJoinedUptoRow : OpenClaim := { program := "ytjalppojdomcoaadoor", sum := "4256214991b192bb97d9692f9e4862a63f50fee32fb56c84893843517075e969", func := "lib-heddleeye/laws.FnBlocksJoined", spec := "fnBlocksJoined", inPlace := ["internal/bytealg.IndexByte", "internal/reflectlite.TypeOf"], unfollowed := true, recurses := true, named := ["bufio.ErrFinalToken", "bufio.ErrTooLong", "bufio.ErrBadReadCount", "io.ErrNoProgress", "io.EOF", "bufio.ErrNegativeAdvance", "bufio.ErrAdvanceTooFar", "lib-heddleeye/impl.errSplit", "lib-heddleeye/impl.errRead"], apart := false, laid := [("io.EOF", laid_io_EOF), ("io.ErrNoProgress", laid_io_ErrNoProgress), ("bufio.ErrTooLong", laid_bufio_ErrTooLong), ("bufio.ErrNegativeAdvance", laid_bufio_ErrNegativeAdvance), ("bufio.ErrAdvanceTooFar", laid_bufio_ErrAdvanceTooFar), ("bufio.ErrBadReadCount", laid_bufio_ErrBadReadCount), ("bufio.ErrFinalToken", laid_bufio_ErrFinalToken), ("lib-heddleeye/impl.errSplit", laid_lib_heddleeye_impl_errSplit), ("lib-heddleeye/impl.errRead", laid_lib_heddleeye_impl_errRead)], narrowed := true }
def FnBlocksJoinedUptoSaid : Prop := fnBlocksJoinedUptoRow.holds Tryd.pinned (OpenSpec.upto fnBlocksJoinedSpec)

/-- 'laws.FnBlocksOfBlocks', WHERE WHAT IT READS IS OF BULK AT MOST 1048576: true; the input reads as it did. -/
def fnBlocksOfBlocksUptoRow : OpenClaim := { program := "ytjalppojdomcoaadoor", sum := "4256214991b192bb97d9692f9e4862a63f50fee32fb56c84893843517075e969", func := "lib-heddleeye/laws.FnBlocksOfBlocks", spec := "fnBlocksOfBlocks", inPlace := ["internal/bytealg.IndexByte", "internal/reflectlite.TypeOf"], unfollowed := true, recurses := true, named := ["bufio.ErrFinalToken", "bufio.ErrTooLong", "bufio.ErrBadReadCount", "io.ErrNoProgress", "io.EOF", "bufio.ErrNegativeAdvance", "bufio.ErrAdvanceTooFar", "lib-heddleeye/impl.errSplit", "lib-heddleeye/impl.errRead"], apart := false, laid := [("io.EOF", laid_io_EOF), ("io.ErrNoProgress", laid_io_ErrNoProgress), ("bufio.ErrTooLong", laid_bufio_ErrTooLong), ("bufio.ErrNegativeAdvance", laid_bufio_ErrNegativeAdvance), ("bufio.ErrAdvanceTooFar", laid_bufio_ErrAdvanceTooFar), ("bufio.ErrBadReadCount", laid_bufio_ErrBadReadCount), ("bufio.ErrFinalToken", laid_bufio_ErrFinalToken), ("lib-heddleeye/impl.errSplit", laid_lib_heddleeye_impl_errSplit), ("lib-heddleeye/impl.errRead", laid_lib_heddleeye_impl_errRead)], narrowed := true }
def FnBlocksOfBlocksUptoSaid : Prop := fnBlocksOfBlocksUptoRow.holds Tryd.pinned (OpenSpec.upto fnBlocksOfBlocksSpec)

/-- 'laws.FnBlocksTooLong', WHERE WHAT IT READS IS OF BULK AT MOST 1048576: true; the input reads as it did. -/
def fnBlocksTooLongUptoRow : OpenClaim := { program := "ytjalppojdomcoaadoor", sum := "4256214991b192bb97d9692f9e4862a63f50fee32fb56c84893843517075e969", func := "lib-heddleeye/laws.FnBlocksTooLong", spec := "fnBlocksTooLong", inPlace := ["internal/bytealg.IndexByte", "internal/reflectlite.TypeOf"], unfollowed := true, recurses := true, named := ["bufio.ErrFinalToken", "bufio.ErrTooLong", "bufio.ErrBadReadCount", "io.ErrNoProgress", "io.EOF", "bufio.ErrNegativeAdvance", "bufio.ErrAdvanceTooFar", "lib-heddleeye/impl.errSplit", "lib-heddleeye/impl.errRead"], apart := false, laid := [("io.EOF", laid_io_EOF), ("io.ErrNoProgress", laid_io_ErrNoProgress), ("bufio.ErrTooLong", laid_bufio_ErrTooLong), ("bufio.ErrNegativeAdvance", laid_bufio_ErrNegativeAdvance), ("bufio.ErrAdvanceTooFar", laid_bufio_ErrAdvanceTooFar), ("bufio.ErrBadReadCount", laid_bufio_ErrBadReadCount), ("bufio.ErrFinalToken", laid_bufio_ErrFinalToken), ("lib-heddleeye/impl.errSplit", laid_lib_heddleeye_impl_errSplit), ("lib-heddleeye/impl.errRead", laid_lib_heddleeye_impl_errRead)], narrowed := true }
def FnBlocksTooLongUptoSaid : Prop := fnBlocksTooLongUptoRow.holds Tryd.pinned (OpenSpec.upto fnBlocksTooLongSpec)

/-- 'laws.FnBytesAreBlocks', WHERE WHAT IT READS IS OF BULK AT MOST 1048576: true; the input reads as it did. -/
def fnBytesAreBlocksUptoRow : OpenClaim := { program := "ytjalppojdomcoaadoor", sum := "4256214991b192bb97d9692f9e4862a63f50fee32fb56c84893843517075e969", func := "lib-heddleeye/laws.FnBytesAreBlocks", spec := "fnBytesAreBlocks", inPlace := ["internal/bytealg.IndexByte", "internal/reflectlite.TypeOf"], unfollowed := true, recurses := true, named := ["bufio.ErrFinalToken", "bufio.ErrTooLong", "bufio.ErrBadReadCount", "io.ErrNoProgress", "io.EOF", "bufio.ErrNegativeAdvance", "bufio.ErrAdvanceTooFar", "lib-heddleeye/impl.errSplit", "lib-heddleeye/impl.errRead"], apart := false, laid := [("io.EOF", laid_io_EOF), ("io.ErrNoProgress", laid_io_ErrNoProgress), ("bufio.ErrTooLong", laid_bufio_ErrTooLong), ("bufio.ErrNegativeAdvance", laid_bufio_ErrNegativeAdvance), ("bufio.ErrAdvanceTooFar", laid_bufio_ErrAdvanceTooFar), ("bufio.ErrBadReadCount", laid_bufio_ErrBadReadCount), ("bufio.ErrFinalToken", laid_bufio_ErrFinalToken), ("lib-heddleeye/impl.errSplit", laid_lib_heddleeye_impl_errSplit), ("lib-heddleeye/impl.errRead", laid_lib_heddleeye_impl_errRead)], narrowed := true }
def FnBytesAreBlocksUptoSaid : Prop := fnBytesAreBlocksUptoRow.holds Tryd.pinned (OpenSpec.upto fnBytesAreBlocksSpec)

end Rows
end Go.Proofs.YtjalppojdomcoaaDoor
