/-
  NARROWER THAN 'FOR EVERY INPUT', by the rows' own cells (each row's printed sentence says how): FnParts: laid · FnPartsAgain: laid · FnPartsConcat: laid · FnPartsJoined: laid · FnPartsTooLong: laid · FnFields: laid · FnFieldsAgain: laid · FnFieldsPlain: laid · FnMunch: laid · FnMunchJoined: laid · FnMunchLongest: laid.
  DERIVED. THE GIVEN ROWS OF THIS SEAT. 11 by the template 'for every input the law returns true; each argument reads behind the call as it read before'; 0 by the template 'total and deterministic' (their statements: YtmiioacpejmndaaDoorTotals.lean).
  GIVEN WITH THE SEED: the statements are not yours to turn. If you find one false, say at which input.
  Laid BY PROGRAM, IN A SANDBOX (cutbox-rows.mjs): the forced cells as the released guide's own fill.sh prints them over the translation ce18f3ff7c7e4554… (all of the seat's roots in one cut). By AI agents, Wed Nov 11 2026. No macro, syntax, notation, axiom, sorry.
-/
import Derived.Test.YtmiioacpejmndaaDoorChecked
import GoSem.Claim
import GoSem.ClaimJoined
import GoSem.ClaimMapViews
import Derived.JoinedTies
import Derived.KernelRfl
namespace Go.Proofs.YtmiioacpejmndaaDoor
/- THE CELL 'sum', in the pinned program and in every row, IS THE sha256 OF THE DUMP (.gsa) THAT YtmiioacpejmndaaDoorProg.lean LOADS. Nothing in Lean hashes anything: it is a label: what it is worth is what the hold of that sum in a sandbox is worth. -/
noncomputable def Tryd.pinned : Pinned := { name := "ytmiioacpejmndaadoor", sum := "ce18f3ff7c7e45544a0c219bba1d18f0761b45e03a72db9462647b0cb6387b0d", checked := Tryd.checked }
namespace Rows
def none {H : Type} : Left H := { results := [], args := [] }

/- WHAT THE LISTED PACKAGE-LEVEL VARIABLES READ AS WHEN THE CALL BEGINS. Each datum BY PROGRAM (the guide's laid-datum.mjs) off the statement by which the dump's own 'gosem.cut.vars' lays the variable. In a bare row this is a premise. The card (YtmiioacpejmndaaDoorCards.lean) ties it to the program's text. -/
def laid_io_EOF {H : Type} : DataW H := .iface "*errors.errorString" (.ptr (.agg [.lit (.string [69, 79, 70])]))
def laid_io_ErrNoProgress {H : Type} : DataW H := .iface "*errors.errorString" (.ptr (.agg [.lit (.string [109, 117, 108, 116, 105, 112, 108, 101, 32, 82, 101, 97, 100, 32, 99, 97, 108, 108, 115, 32, 114, 101, 116, 117, 114, 110, 32, 110, 111, 32, 100, 97, 116, 97, 32, 111, 114, 32, 101, 114, 114, 111, 114])]))
def laid_bufio_ErrTooLong {H : Type} : DataW H := .iface "*errors.errorString" (.ptr (.agg [.lit (.string [98, 117, 102, 105, 111, 46, 83, 99, 97, 110, 110, 101, 114, 58, 32, 116, 111, 107, 101, 110, 32, 116, 111, 111, 32, 108, 111, 110, 103])]))
def laid_bufio_ErrNegativeAdvance {H : Type} : DataW H := .iface "*errors.errorString" (.ptr (.agg [.lit (.string [98, 117, 102, 105, 111, 46, 83, 99, 97, 110, 110, 101, 114, 58, 32, 83, 112, 108, 105, 116, 70, 117, 110, 99, 32, 114, 101, 116, 117, 114, 110, 115, 32, 110, 101, 103, 97, 116, 105, 118, 101, 32, 97, 100, 118, 97, 110, 99, 101, 32, 99, 111, 117, 110, 116])]))
def laid_bufio_ErrAdvanceTooFar {H : Type} : DataW H := .iface "*errors.errorString" (.ptr (.agg [.lit (.string [98, 117, 102, 105, 111, 46, 83, 99, 97, 110, 110, 101, 114, 58, 32, 83, 112, 108, 105, 116, 70, 117, 110, 99, 32, 114, 101, 116, 117, 114, 110, 115, 32, 97, 100, 118, 97, 110, 99, 101, 32, 99, 111, 117, 110, 116, 32, 98, 101, 121, 111, 110, 100, 32, 105, 110, 112, 117, 116])]))
def laid_bufio_ErrBadReadCount {H : Type} : DataW H := .iface "*errors.errorString" (.ptr (.agg [.lit (.string [98, 117, 102, 105, 111, 46, 83, 99, 97, 110, 110, 101, 114, 58, 32, 82, 101, 97, 100, 32, 114, 101, 116, 117, 114, 110, 101, 100, 32, 105, 109, 112, 111, 115, 115, 105, 98, 108, 101, 32, 99, 111, 117, 110, 116])]))
def laid_bufio_ErrFinalToken {H : Type} : DataW H := .iface "*errors.errorString" (.ptr (.agg [.lit (.string [102, 105, 110, 97, 108, 32, 116, 111, 107, 101, 110])]))
def laid_lib_heddleeye_impl_errSplit {H : Type} : DataW H := .iface "*errors.errorString" (.ptr (.agg [.lit (.string [115, 112, 108, 105, 116])]))
def laid_lib_heddleeye_impl_errRead {H : Type} : DataW H := .iface "*errors.errorString" (.ptr (.agg [.lit (.string [114, 101, 97, 100])]))

/-- 'laws.FnParts': WHATEVER THE INPUT: true; the input reads as it did. -/
def fnPartsSpec : ChangeSpec := { name := "fnParts", fn := fun _ => fun
  | [d1, d2, d3] => { results := [.lit (.bool true)], args := [d1, d2, d3] }
  | _ => none }
def fnPartsRow : OpenClaim := { program := "ytmiioacpejmndaadoor", sum := "ce18f3ff7c7e45544a0c219bba1d18f0761b45e03a72db9462647b0cb6387b0d", func := "lib-heddleeye/laws.FnParts", spec := "fnParts", inPlace := ["internal/bytealg.IndexByte", "internal/reflectlite.TypeOf"], unfollowed := true, recurses := true, named := ["bufio.ErrFinalToken", "bufio.ErrTooLong", "bufio.ErrBadReadCount", "io.ErrNoProgress", "io.EOF", "bufio.ErrNegativeAdvance", "bufio.ErrAdvanceTooFar", "lib-heddleeye/impl.errSplit", "lib-heddleeye/impl.errRead"], apart := false, laid := [("io.EOF", laid_io_EOF), ("io.ErrNoProgress", laid_io_ErrNoProgress), ("bufio.ErrTooLong", laid_bufio_ErrTooLong), ("bufio.ErrNegativeAdvance", laid_bufio_ErrNegativeAdvance), ("bufio.ErrAdvanceTooFar", laid_bufio_ErrAdvanceTooFar), ("bufio.ErrBadReadCount", laid_bufio_ErrBadReadCount), ("bufio.ErrFinalToken", laid_bufio_ErrFinalToken), ("lib-heddleeye/impl.errSplit", laid_lib_heddleeye_impl_errSplit), ("lib-heddleeye/impl.errRead", laid_lib_heddleeye_impl_errRead)] }
def FnPartsSaid : Prop := fnPartsRow.holds Tryd.pinned (OpenSpec.ofChange fnPartsSpec)

/-- ITS FALSE NEIGHBOUR: 'it returns false'. Refute it at one input. -/
def fnPartsWrong : ChangeSpec := { name := "fnParts", fn := fun _ => fun
  | [d1, d2, d3] => { results := [.lit (.bool false)], args := [d1, d2, d3] }
  | _ => none }
def FnPartsWrongFalsely : Prop := fnPartsRow.holds Tryd.pinned (OpenSpec.ofChange fnPartsWrong)

/-- 'laws.FnPartsAgain': WHATEVER THE INPUT: true; the input reads as it did. -/
def fnPartsAgainSpec : ChangeSpec := { name := "fnPartsAgain", fn := fun _ => fun
  | [d1, d2, d3, d4] => { results := [.lit (.bool true)], args := [d1, d2, d3, d4] }
  | _ => none }
def fnPartsAgainRow : OpenClaim := { program := "ytmiioacpejmndaadoor", sum := "ce18f3ff7c7e45544a0c219bba1d18f0761b45e03a72db9462647b0cb6387b0d", func := "lib-heddleeye/laws.FnPartsAgain", spec := "fnPartsAgain", inPlace := ["internal/bytealg.IndexByte", "internal/reflectlite.TypeOf"], unfollowed := true, recurses := true, named := ["bufio.ErrFinalToken", "bufio.ErrTooLong", "bufio.ErrBadReadCount", "io.ErrNoProgress", "io.EOF", "bufio.ErrNegativeAdvance", "bufio.ErrAdvanceTooFar", "lib-heddleeye/impl.errSplit", "lib-heddleeye/impl.errRead"], apart := false, laid := [("io.EOF", laid_io_EOF), ("io.ErrNoProgress", laid_io_ErrNoProgress), ("bufio.ErrTooLong", laid_bufio_ErrTooLong), ("bufio.ErrNegativeAdvance", laid_bufio_ErrNegativeAdvance), ("bufio.ErrAdvanceTooFar", laid_bufio_ErrAdvanceTooFar), ("bufio.ErrBadReadCount", laid_bufio_ErrBadReadCount), ("bufio.ErrFinalToken", laid_bufio_ErrFinalToken), ("lib-heddleeye/impl.errSplit", laid_lib_heddleeye_impl_errSplit), ("lib-heddleeye/impl.errRead", laid_lib_heddleeye_impl_errRead)] }
def FnPartsAgainSaid : Prop := fnPartsAgainRow.holds Tryd.pinned (OpenSpec.ofChange fnPartsAgainSpec)

/-- ITS FALSE NEIGHBOUR: 'it returns false'. Refute it at one input. -/
def fnPartsAgainWrong : ChangeSpec := { name := "fnPartsAgain", fn := fun _ => fun
  | [d1, d2, d3, d4] => { results := [.lit (.bool false)], args := [d1, d2, d3, d4] }
  | _ => none }
def FnPartsAgainWrongFalsely : Prop := fnPartsAgainRow.holds Tryd.pinned (OpenSpec.ofChange fnPartsAgainWrong)

/-- 'laws.FnPartsConcat': WHATEVER THE INPUT: true; the input reads as it did. -/
def fnPartsConcatSpec : ChangeSpec := { name := "fnPartsConcat", fn := fun _ => fun
  | [d1, d2, d3, d4] => { results := [.lit (.bool true)], args := [d1, d2, d3, d4] }
  | _ => none }
def fnPartsConcatRow : OpenClaim := { program := "ytmiioacpejmndaadoor", sum := "ce18f3ff7c7e45544a0c219bba1d18f0761b45e03a72db9462647b0cb6387b0d", func := "lib-heddleeye/laws.FnPartsConcat", spec := "fnPartsConcat", inPlace := ["internal/bytealg.IndexByte", "internal/reflectlite.TypeOf"], unfollowed := true, recurses := true, named := ["bufio.ErrFinalToken", "bufio.ErrTooLong", "bufio.ErrBadReadCount", "io.ErrNoProgress", "io.EOF", "bufio.ErrNegativeAdvance", "bufio.ErrAdvanceTooFar", "lib-heddleeye/impl.errSplit", "lib-heddleeye/impl.errRead"], apart := false, laid := [("io.EOF", laid_io_EOF), ("io.ErrNoProgress", laid_io_ErrNoProgress), ("bufio.ErrTooLong", laid_bufio_ErrTooLong), ("bufio.ErrNegativeAdvance", laid_bufio_ErrNegativeAdvance), ("bufio.ErrAdvanceTooFar", laid_bufio_ErrAdvanceTooFar), ("bufio.ErrBadReadCount", laid_bufio_ErrBadReadCount), ("bufio.ErrFinalToken", laid_bufio_ErrFinalToken), ("lib-heddleeye/impl.errSplit", laid_lib_heddleeye_impl_errSplit), ("lib-heddleeye/impl.errRead", laid_lib_heddleeye_impl_errRead)] }
def FnPartsConcatSaid : Prop := fnPartsConcatRow.holds Tryd.pinned (OpenSpec.ofChange fnPartsConcatSpec)

/-- ITS FALSE NEIGHBOUR: 'it returns false'. Refute it at one input. -/
def fnPartsConcatWrong : ChangeSpec := { name := "fnPartsConcat", fn := fun _ => fun
  | [d1, d2, d3, d4] => { results := [.lit (.bool false)], args := [d1, d2, d3, d4] }
  | _ => none }
def FnPartsConcatWrongFalsely : Prop := fnPartsConcatRow.holds Tryd.pinned (OpenSpec.ofChange fnPartsConcatWrong)

/-- 'laws.FnPartsJoined': WHATEVER THE INPUT: true; the input reads as it did. -/
def fnPartsJoinedSpec : ChangeSpec := { name := "fnPartsJoined", fn := fun _ => fun
  | [d1, d2, d3] => { results := [.lit (.bool true)], args := [d1, d2, d3] }
  | _ => none }
def fnPartsJoinedRow : OpenClaim := { program := "ytmiioacpejmndaadoor", sum := "ce18f3ff7c7e45544a0c219bba1d18f0761b45e03a72db9462647b0cb6387b0d", func := "lib-heddleeye/laws.FnPartsJoined", spec := "fnPartsJoined", inPlace := ["internal/bytealg.IndexByte", "internal/reflectlite.TypeOf"], unfollowed := true, recurses := true, named := ["bufio.ErrFinalToken", "bufio.ErrTooLong", "bufio.ErrBadReadCount", "io.ErrNoProgress", "io.EOF", "bufio.ErrNegativeAdvance", "bufio.ErrAdvanceTooFar", "lib-heddleeye/impl.errSplit", "lib-heddleeye/impl.errRead"], apart := false, laid := [("io.EOF", laid_io_EOF), ("io.ErrNoProgress", laid_io_ErrNoProgress), ("bufio.ErrTooLong", laid_bufio_ErrTooLong), ("bufio.ErrNegativeAdvance", laid_bufio_ErrNegativeAdvance), ("bufio.ErrAdvanceTooFar", laid_bufio_ErrAdvanceTooFar), ("bufio.ErrBadReadCount", laid_bufio_ErrBadReadCount), ("bufio.ErrFinalToken", laid_bufio_ErrFinalToken), ("lib-heddleeye/impl.errSplit", laid_lib_heddleeye_impl_errSplit), ("lib-heddleeye/impl.errRead", laid_lib_heddleeye_impl_errRead)] }
def FnPartsJoinedSaid : Prop := fnPartsJoinedRow.holds Tryd.pinned (OpenSpec.ofChange fnPartsJoinedSpec)

/-- ITS FALSE NEIGHBOUR: 'it returns false'. Refute it at one input. -/
def fnPartsJoinedWrong : ChangeSpec := { name := "fnPartsJoined", fn := fun _ => fun
  | [d1, d2, d3] => { results := [.lit (.bool false)], args := [d1, d2, d3] }
  | _ => none }
def FnPartsJoinedWrongFalsely : Prop := fnPartsJoinedRow.holds Tryd.pinned (OpenSpec.ofChange fnPartsJoinedWrong)

/-- 'laws.FnPartsTooLong': WHATEVER THE INPUT: true; the input reads as it did. -/
def fnPartsTooLongSpec : ChangeSpec := { name := "fnPartsTooLong", fn := fun _ => fun
  | [d1, d2, d3] => { results := [.lit (.bool true)], args := [d1, d2, d3] }
  | _ => none }
def fnPartsTooLongRow : OpenClaim := { program := "ytmiioacpejmndaadoor", sum := "ce18f3ff7c7e45544a0c219bba1d18f0761b45e03a72db9462647b0cb6387b0d", func := "lib-heddleeye/laws.FnPartsTooLong", spec := "fnPartsTooLong", inPlace := ["internal/bytealg.IndexByte", "internal/reflectlite.TypeOf"], unfollowed := true, recurses := true, named := ["bufio.ErrFinalToken", "bufio.ErrTooLong", "bufio.ErrBadReadCount", "io.ErrNoProgress", "io.EOF", "bufio.ErrNegativeAdvance", "bufio.ErrAdvanceTooFar", "lib-heddleeye/impl.errSplit", "lib-heddleeye/impl.errRead"], apart := false, laid := [("io.EOF", laid_io_EOF), ("io.ErrNoProgress", laid_io_ErrNoProgress), ("bufio.ErrTooLong", laid_bufio_ErrTooLong), ("bufio.ErrNegativeAdvance", laid_bufio_ErrNegativeAdvance), ("bufio.ErrAdvanceTooFar", laid_bufio_ErrAdvanceTooFar), ("bufio.ErrBadReadCount", laid_bufio_ErrBadReadCount), ("bufio.ErrFinalToken", laid_bufio_ErrFinalToken), ("lib-heddleeye/impl.errSplit", laid_lib_heddleeye_impl_errSplit), ("lib-heddleeye/impl.errRead", laid_lib_heddleeye_impl_errRead)] }
def FnPartsTooLongSaid : Prop := fnPartsTooLongRow.holds Tryd.pinned (OpenSpec.ofChange fnPartsTooLongSpec)

/-- ITS FALSE NEIGHBOUR: 'it returns false'. Refute it at one input. -/
def fnPartsTooLongWrong : ChangeSpec := { name := "fnPartsTooLong", fn := fun _ => fun
  | [d1, d2, d3] => { results := [.lit (.bool false)], args := [d1, d2, d3] }
  | _ => none }
def FnPartsTooLongWrongFalsely : Prop := fnPartsTooLongRow.holds Tryd.pinned (OpenSpec.ofChange fnPartsTooLongWrong)

/-- 'laws.FnFields': WHATEVER THE INPUT: true; the input reads as it did. -/
def fnFieldsSpec : ChangeSpec := { name := "fnFields", fn := fun _ => fun
  | [d1, d2, d3, d4] => { results := [.lit (.bool true)], args := [d1, d2, d3, d4] }
  | _ => none }
def fnFieldsRow : OpenClaim := { program := "ytmiioacpejmndaadoor", sum := "ce18f3ff7c7e45544a0c219bba1d18f0761b45e03a72db9462647b0cb6387b0d", func := "lib-heddleeye/laws.FnFields", spec := "fnFields", inPlace := ["internal/bytealg.IndexByte", "internal/reflectlite.TypeOf"], unfollowed := true, recurses := true, named := ["lib-heddleeye/impl.errSplit", "bufio.ErrFinalToken", "bufio.ErrTooLong", "bufio.ErrBadReadCount", "io.ErrNoProgress", "io.EOF", "bufio.ErrNegativeAdvance", "bufio.ErrAdvanceTooFar", "lib-heddleeye/impl.errRead"], apart := false, laid := [("io.EOF", laid_io_EOF), ("io.ErrNoProgress", laid_io_ErrNoProgress), ("bufio.ErrTooLong", laid_bufio_ErrTooLong), ("bufio.ErrNegativeAdvance", laid_bufio_ErrNegativeAdvance), ("bufio.ErrAdvanceTooFar", laid_bufio_ErrAdvanceTooFar), ("bufio.ErrBadReadCount", laid_bufio_ErrBadReadCount), ("bufio.ErrFinalToken", laid_bufio_ErrFinalToken), ("lib-heddleeye/impl.errSplit", laid_lib_heddleeye_impl_errSplit), ("lib-heddleeye/impl.errRead", laid_lib_heddleeye_impl_errRead)] }
def FnFieldsSaid : Prop := fnFieldsRow.holds Tryd.pinned (OpenSpec.ofChange fnFieldsSpec)

/-- ITS FALSE NEIGHBOUR: 'it returns false'. Refute it at one input. -/
def fnFieldsWrong : ChangeSpec := { name := "fnFields", fn := fun _ => fun
  | [d1, d2, d3, d4] => { results := [.lit (.bool false)], args := [d1, d2, d3, d4] }
  | _ => none }
def FnFieldsWrongFalsely : Prop := fnFieldsRow.holds Tryd.pinned (OpenSpec.ofChange fnFieldsWrong)

/-- 'laws.FnFieldsAgain': WHATEVER THE INPUT: true; the input reads as it did. -/
def fnFieldsAgainSpec : ChangeSpec := { name := "fnFieldsAgain", fn := fun _ => fun
  | [d1, d2, d3, d4, d5] => { results := [.lit (.bool true)], args := [d1, d2, d3, d4, d5] }
  | _ => none }
def fnFieldsAgainRow : OpenClaim := { program := "ytmiioacpejmndaadoor", sum := "ce18f3ff7c7e45544a0c219bba1d18f0761b45e03a72db9462647b0cb6387b0d", func := "lib-heddleeye/laws.FnFieldsAgain", spec := "fnFieldsAgain", inPlace := ["internal/bytealg.IndexByte", "internal/reflectlite.TypeOf"], unfollowed := true, recurses := true, named := ["lib-heddleeye/impl.errSplit", "bufio.ErrFinalToken", "bufio.ErrTooLong", "bufio.ErrBadReadCount", "io.ErrNoProgress", "io.EOF", "bufio.ErrNegativeAdvance", "bufio.ErrAdvanceTooFar", "lib-heddleeye/impl.errRead"], apart := false, laid := [("io.EOF", laid_io_EOF), ("io.ErrNoProgress", laid_io_ErrNoProgress), ("bufio.ErrTooLong", laid_bufio_ErrTooLong), ("bufio.ErrNegativeAdvance", laid_bufio_ErrNegativeAdvance), ("bufio.ErrAdvanceTooFar", laid_bufio_ErrAdvanceTooFar), ("bufio.ErrBadReadCount", laid_bufio_ErrBadReadCount), ("bufio.ErrFinalToken", laid_bufio_ErrFinalToken), ("lib-heddleeye/impl.errSplit", laid_lib_heddleeye_impl_errSplit), ("lib-heddleeye/impl.errRead", laid_lib_heddleeye_impl_errRead)] }
def FnFieldsAgainSaid : Prop := fnFieldsAgainRow.holds Tryd.pinned (OpenSpec.ofChange fnFieldsAgainSpec)

/-- ITS FALSE NEIGHBOUR: 'it returns false'. Refute it at one input. -/
def fnFieldsAgainWrong : ChangeSpec := { name := "fnFieldsAgain", fn := fun _ => fun
  | [d1, d2, d3, d4, d5] => { results := [.lit (.bool false)], args := [d1, d2, d3, d4, d5] }
  | _ => none }
def FnFieldsAgainWrongFalsely : Prop := fnFieldsAgainRow.holds Tryd.pinned (OpenSpec.ofChange fnFieldsAgainWrong)

/-- 'laws.FnFieldsPlain': WHATEVER THE INPUT: true; the input reads as it did. -/
def fnFieldsPlainSpec : ChangeSpec := { name := "fnFieldsPlain", fn := fun _ => fun
  | [d1, d2, d3, d4] => { results := [.lit (.bool true)], args := [d1, d2, d3, d4] }
  | _ => none }
def fnFieldsPlainRow : OpenClaim := { program := "ytmiioacpejmndaadoor", sum := "ce18f3ff7c7e45544a0c219bba1d18f0761b45e03a72db9462647b0cb6387b0d", func := "lib-heddleeye/laws.FnFieldsPlain", spec := "fnFieldsPlain", inPlace := ["internal/bytealg.IndexByte", "internal/reflectlite.TypeOf"], unfollowed := true, recurses := true, named := ["lib-heddleeye/impl.errSplit", "bufio.ErrFinalToken", "bufio.ErrTooLong", "bufio.ErrBadReadCount", "io.ErrNoProgress", "io.EOF", "bufio.ErrNegativeAdvance", "bufio.ErrAdvanceTooFar", "lib-heddleeye/impl.errRead"], apart := false, laid := [("io.EOF", laid_io_EOF), ("io.ErrNoProgress", laid_io_ErrNoProgress), ("bufio.ErrTooLong", laid_bufio_ErrTooLong), ("bufio.ErrNegativeAdvance", laid_bufio_ErrNegativeAdvance), ("bufio.ErrAdvanceTooFar", laid_bufio_ErrAdvanceTooFar), ("bufio.ErrBadReadCount", laid_bufio_ErrBadReadCount), ("bufio.ErrFinalToken", laid_bufio_ErrFinalToken), ("lib-heddleeye/impl.errSplit", laid_lib_heddleeye_impl_errSplit), ("lib-heddleeye/impl.errRead", laid_lib_heddleeye_impl_errRead)] }
def FnFieldsPlainSaid : Prop := fnFieldsPlainRow.holds Tryd.pinned (OpenSpec.ofChange fnFieldsPlainSpec)

/-- ITS FALSE NEIGHBOUR: 'it returns false'. Refute it at one input. -/
def fnFieldsPlainWrong : ChangeSpec := { name := "fnFieldsPlain", fn := fun _ => fun
  | [d1, d2, d3, d4] => { results := [.lit (.bool false)], args := [d1, d2, d3, d4] }
  | _ => none }
def FnFieldsPlainWrongFalsely : Prop := fnFieldsPlainRow.holds Tryd.pinned (OpenSpec.ofChange fnFieldsPlainWrong)

/-- 'laws.FnMunch': WHATEVER THE INPUT: true; the input reads as it did. -/
def fnMunchSpec : ChangeSpec := { name := "fnMunch", fn := fun _ => fun
  | [d1, d2, d3] => { results := [.lit (.bool true)], args := [d1, d2, d3] }
  | _ => none }
def fnMunchRow : OpenClaim := { program := "ytmiioacpejmndaadoor", sum := "ce18f3ff7c7e45544a0c219bba1d18f0761b45e03a72db9462647b0cb6387b0d", func := "lib-heddleeye/laws.FnMunch", spec := "fnMunch", inPlace := ["internal/bytealg.IndexByte", "internal/reflectlite.TypeOf"], unfollowed := true, recurses := true, named := ["lib-heddleeye/impl.errSplit", "bufio.ErrFinalToken", "bufio.ErrTooLong", "bufio.ErrBadReadCount", "io.ErrNoProgress", "io.EOF", "bufio.ErrNegativeAdvance", "bufio.ErrAdvanceTooFar", "lib-heddleeye/impl.errRead"], apart := false, laid := [("io.EOF", laid_io_EOF), ("io.ErrNoProgress", laid_io_ErrNoProgress), ("bufio.ErrTooLong", laid_bufio_ErrTooLong), ("bufio.ErrNegativeAdvance", laid_bufio_ErrNegativeAdvance), ("bufio.ErrAdvanceTooFar", laid_bufio_ErrAdvanceTooFar), ("bufio.ErrBadReadCount", laid_bufio_ErrBadReadCount), ("bufio.ErrFinalToken", laid_bufio_ErrFinalToken), ("lib-heddleeye/impl.errSplit", laid_lib_heddleeye_impl_errSplit), ("lib-heddleeye/impl.errRead", laid_lib_heddleeye_impl_errRead)] }
def FnMunchSaid : Prop := fnMunchRow.holds Tryd.pinned (OpenSpec.ofChange fnMunchSpec)

/-- ITS FALSE NEIGHBOUR: 'it returns false'. Refute it at one input. -/
def fnMunchWrong : ChangeSpec := { name := "fnMunch", fn := fun _ => fun
  | [d1, d2, d3] => { results := [.lit (.bool false)], args := [d1, d2, d3] }
  | _ => none }
def FnMunchWrongFalsely : Prop := fnMunchRow.holds Tryd.pinned (OpenSpec.ofChange fnMunchWrong)

/-- 'laws.FnMunchJoined': WHATEVER THE INPUT: true; the input reads as it did. -/
def fnMunchJoinedSpec : ChangeSpec := { name := "fnMunchJoined", fn := fun _ => fun
  | [d1, d2, d3] => { results := [.lit (.bool true)], args := [d1, d2, d3] }
  | _ => none }
def fnMunchJoinedRow : OpenClaim := { program := "ytmiioacpejmndaadoor", sum := "ce18f3ff7c7e45544a0c219bba1d18f0761b45e03a72db9462647b0cb6387b0d", func := "lib-heddleeye/laws.FnMunchJoined", spec := "fnMunchJoined", inPlace := ["internal/bytealg.IndexByte", "internal/reflectlite.TypeOf"], unfollowed := true, recurses := true, named := ["lib-heddleeye/impl.errSplit", "bufio.ErrFinalToken", "bufio.ErrTooLong", "bufio.ErrBadReadCount", "io.ErrNoProgress", "io.EOF", "bufio.ErrNegativeAdvance", "bufio.ErrAdvanceTooFar", "lib-heddleeye/impl.errRead"], apart := false, laid := [("io.EOF", laid_io_EOF), ("io.ErrNoProgress", laid_io_ErrNoProgress), ("bufio.ErrTooLong", laid_bufio_ErrTooLong), ("bufio.ErrNegativeAdvance", laid_bufio_ErrNegativeAdvance), ("bufio.ErrAdvanceTooFar", laid_bufio_ErrAdvanceTooFar), ("bufio.ErrBadReadCount", laid_bufio_ErrBadReadCount), ("bufio.ErrFinalToken", laid_bufio_ErrFinalToken), ("lib-heddleeye/impl.errSplit", laid_lib_heddleeye_impl_errSplit), ("lib-heddleeye/impl.errRead", laid_lib_heddleeye_impl_errRead)] }
def FnMunchJoinedSaid : Prop := fnMunchJoinedRow.holds Tryd.pinned (OpenSpec.ofChange fnMunchJoinedSpec)

/-- ITS FALSE NEIGHBOUR: 'it returns false'. Refute it at one input. -/
def fnMunchJoinedWrong : ChangeSpec := { name := "fnMunchJoined", fn := fun _ => fun
  | [d1, d2, d3] => { results := [.lit (.bool false)], args := [d1, d2, d3] }
  | _ => none }
def FnMunchJoinedWrongFalsely : Prop := fnMunchJoinedRow.holds Tryd.pinned (OpenSpec.ofChange fnMunchJoinedWrong)

/-- 'laws.FnMunchLongest': WHATEVER THE INPUT: true; the input reads as it did. -/
def fnMunchLongestSpec : ChangeSpec := { name := "fnMunchLongest", fn := fun _ => fun
  | [d1, d2, d3] => { results := [.lit (.bool true)], args := [d1, d2, d3] }
  | _ => none }
def fnMunchLongestRow : OpenClaim := { program := "ytmiioacpejmndaadoor", sum := "ce18f3ff7c7e45544a0c219bba1d18f0761b45e03a72db9462647b0cb6387b0d", func := "lib-heddleeye/laws.FnMunchLongest", spec := "fnMunchLongest", inPlace := ["internal/bytealg.IndexByte", "internal/reflectlite.TypeOf"], unfollowed := true, recurses := true, named := ["lib-heddleeye/impl.errSplit", "bufio.ErrFinalToken", "bufio.ErrTooLong", "bufio.ErrBadReadCount", "io.ErrNoProgress", "io.EOF", "bufio.ErrNegativeAdvance", "bufio.ErrAdvanceTooFar", "lib-heddleeye/impl.errRead"], apart := false, laid := [("io.EOF", laid_io_EOF), ("io.ErrNoProgress", laid_io_ErrNoProgress), ("bufio.ErrTooLong", laid_bufio_ErrTooLong), ("bufio.ErrNegativeAdvance", laid_bufio_ErrNegativeAdvance), ("bufio.ErrAdvanceTooFar", laid_bufio_ErrAdvanceTooFar), ("bufio.ErrBadReadCount", laid_bufio_ErrBadReadCount), ("bufio.ErrFinalToken", laid_bufio_ErrFinalToken), ("lib-heddleeye/impl.errSplit", laid_lib_heddleeye_impl_errSplit), ("lib-heddleeye/impl.errRead", laid_lib_heddleeye_impl_errRead)] }
def FnMunchLongestSaid : Prop := fnMunchLongestRow.holds Tryd.pinned (OpenSpec.ofChange fnMunchLongestSpec)

/-- ITS FALSE NEIGHBOUR: 'it returns false'. Refute it at one input. -/
def fnMunchLongestWrong : ChangeSpec := { name := "fnMunchLongest", fn := fun _ => fun
  | [d1, d2, d3] => { results := [.lit (.bool false)], args := [d1, d2, d3] }
  | _ => none }
def FnMunchLongestWrongFalsely : Prop := fnMunchLongestRow.holds Tryd.pinned (OpenSpec.ofChange fnMunchLongestWrong)

/- THE SECOND FORM. 'bulk': how many values and letters a reading holds, each counted each time it is reached (what is shared counts as often as it is met; a slice's spare places count too). A statement '..UptoSaid' is the law's where the arguments, and the package variables that the reading takes, are together of bulk at most 1048576: NARROWER than '..Said'. Prove '..Said' where nothing that the law and all that it calls make is longer than what came in: it says more and counts as full. Else prove '..UptoSaid'. A law counts once. -/
mutual
def uptoBulk {H : Type} : DataW H → Nat
  | .lit (.string bytes) => bytes.length + 1
  | .lit _ => 1
  | .nil => 1
  | .ptr d => uptoBulk d + 1
  | .slice elems spare => uptoBulkAll elems + uptoBulkAll spare + 1
  | .agg parts => uptoBulkAll parts + 1
  | .iface _ d => uptoBulk d + 1
  | .map entries => uptoBulkEntries entries + 1
  | .held _ => 1
def uptoBulkAll {H : Type} : List (DataW H) → Nat
  | [] => 0
  | d :: r => uptoBulk d + uptoBulkAll r
def uptoBulkEntries {H : Type} : List (Lit × DataW H) → Nat
  | [] => 0
  | x :: r => uptoBulkEntry x + uptoBulkEntries r
def uptoBulkEntry {H : Type} : Lit × DataW H → Nat
  | (.string bytes, d) => bytes.length + uptoBulk d + 1
  | (_, d) => uptoBulk d + 1
 end
def uptoSmall : (H : Type) → List (DataW H) → Bool := fun _ ds => decide (uptoBulkAll ds ≤ 1048576)
def OpenSpec.upto (s : _root_.Go.ChangeSpec) : _root_.Go.OpenSpec := { _root_.Go.OpenSpec.ofChange s with cond := some uptoSmall }

/-- 'laws.FnParts', WHERE WHAT IT READS IS OF BULK AT MOST 1048576: true; the input reads as it did. -/
def fnPartsUptoRow : OpenClaim := { program := "ytmiioacpejmndaadoor", sum := "ce18f3ff7c7e45544a0c219bba1d18f0761b45e03a72db9462647b0cb6387b0d", func := "lib-heddleeye/laws.FnParts", spec := "fnParts", inPlace := ["internal/bytealg.IndexByte", "internal/reflectlite.TypeOf"], unfollowed := true, recurses := true, named := ["bufio.ErrFinalToken", "bufio.ErrTooLong", "bufio.ErrBadReadCount", "io.ErrNoProgress", "io.EOF", "bufio.ErrNegativeAdvance", "bufio.ErrAdvanceTooFar", "lib-heddleeye/impl.errSplit", "lib-heddleeye/impl.errRead"], apart := false, laid := [("io.EOF", laid_io_EOF), ("io.ErrNoProgress", laid_io_ErrNoProgress), ("bufio.ErrTooLong", laid_bufio_ErrTooLong), ("bufio.ErrNegativeAdvance", laid_bufio_ErrNegativeAdvance), ("bufio.ErrAdvanceTooFar", laid_bufio_ErrAdvanceTooFar), ("bufio.ErrBadReadCount", laid_bufio_ErrBadReadCount), ("bufio.ErrFinalToken", laid_bufio_ErrFinalToken), ("lib-heddleeye/impl.errSplit", laid_lib_heddleeye_impl_errSplit), ("lib-heddleeye/impl.errRead", laid_lib_heddleeye_impl_errRead)], narrowed := true }
def FnPartsUptoSaid : Prop := fnPartsUptoRow.holds Tryd.pinned (OpenSpec.upto fnPartsSpec)

/-- 'laws.FnPartsAgain', WHERE WHAT IT READS IS OF BULK AT MOST 1048576: true; the input reads as it did. -/
def fnPartsAgainUptoRow : OpenClaim := { program := "ytmiioacpejmndaadoor", sum := "ce18f3ff7c7e45544a0c219bba1d18f0761b45e03a72db9462647b0cb6387b0d", func := "lib-heddleeye/laws.FnPartsAgain", spec := "fnPartsAgain", inPlace := ["internal/bytealg.IndexByte", "internal/reflectlite.TypeOf"], unfollowed := true, recurses := true, named := ["bufio.ErrFinalToken", "bufio.ErrTooLong", "bufio.ErrBadReadCount", "io.ErrNoProgress", "io.EOF", "bufio.ErrNegativeAdvance", "bufio.ErrAdvanceTooFar", "lib-heddleeye/impl.errSplit", "lib-heddleeye/impl.errRead"], apart := false, laid := [("io.EOF", laid_io_EOF), ("io.ErrNoProgress", laid_io_ErrNoProgress), ("bufio.ErrTooLong", laid_bufio_ErrTooLong), ("bufio.ErrNegativeAdvance", laid_bufio_ErrNegativeAdvance), ("bufio.ErrAdvanceTooFar", laid_bufio_ErrAdvanceTooFar), ("bufio.ErrBadReadCount", laid_bufio_ErrBadReadCount), ("bufio.ErrFinalToken", laid_bufio_ErrFinalToken), ("lib-heddleeye/impl.errSplit", laid_lib_heddleeye_impl_errSplit), ("lib-heddleeye/impl.errRead", laid_lib_heddleeye_impl_errRead)], narrowed := true }
def FnPartsAgainUptoSaid : Prop := fnPartsAgainUptoRow.holds Tryd.pinned (OpenSpec.upto fnPartsAgainSpec)

/-- 'laws.FnPartsConcat', WHERE WHAT IT READS IS OF BULK AT MOST 1048576: true; the input reads as it did. -/
def fnPartsConcatUptoRow : OpenClaim := { program := "ytmiioacpejmndaadoor", sum := "ce18f3ff7c7e45544a0c219bba1d18f0761b45e03a72db9462647b0cb6387b0d", func := "lib-heddleeye/laws.FnPartsConcat", spec := "fnPartsConcat", inPlace := ["internal/bytealg.IndexByte", "internal/reflectlite.TypeOf"], unfollowed := true, recurses := true, named := ["bufio.ErrFinalToken", "bufio.ErrTooLong", "bufio.ErrBadReadCount", "io.ErrNoProgress", "io.EOF", "bufio.ErrNegativeAdvance", "bufio.ErrAdvanceTooFar", "lib-heddleeye/impl.errSplit", "lib-heddleeye/impl.errRead"], apart := false, laid := [("io.EOF", laid_io_EOF), ("io.ErrNoProgress", laid_io_ErrNoProgress), ("bufio.ErrTooLong", laid_bufio_ErrTooLong), ("bufio.ErrNegativeAdvance", laid_bufio_ErrNegativeAdvance), ("bufio.ErrAdvanceTooFar", laid_bufio_ErrAdvanceTooFar), ("bufio.ErrBadReadCount", laid_bufio_ErrBadReadCount), ("bufio.ErrFinalToken", laid_bufio_ErrFinalToken), ("lib-heddleeye/impl.errSplit", laid_lib_heddleeye_impl_errSplit), ("lib-heddleeye/impl.errRead", laid_lib_heddleeye_impl_errRead)], narrowed := true }
def FnPartsConcatUptoSaid : Prop := fnPartsConcatUptoRow.holds Tryd.pinned (OpenSpec.upto fnPartsConcatSpec)

/-- 'laws.FnPartsJoined', WHERE WHAT IT READS IS OF BULK AT MOST 1048576: true; the input reads as it did. -/
def fnPartsJoinedUptoRow : OpenClaim := { program := "ytmiioacpejmndaadoor", sum := "ce18f3ff7c7e45544a0c219bba1d18f0761b45e03a72db9462647b0cb6387b0d", func := "lib-heddleeye/laws.FnPartsJoined", spec := "fnPartsJoined", inPlace := ["internal/bytealg.IndexByte", "internal/reflectlite.TypeOf"], unfollowed := true, recurses := true, named := ["bufio.ErrFinalToken", "bufio.ErrTooLong", "bufio.ErrBadReadCount", "io.ErrNoProgress", "io.EOF", "bufio.ErrNegativeAdvance", "bufio.ErrAdvanceTooFar", "lib-heddleeye/impl.errSplit", "lib-heddleeye/impl.errRead"], apart := false, laid := [("io.EOF", laid_io_EOF), ("io.ErrNoProgress", laid_io_ErrNoProgress), ("bufio.ErrTooLong", laid_bufio_ErrTooLong), ("bufio.ErrNegativeAdvance", laid_bufio_ErrNegativeAdvance), ("bufio.ErrAdvanceTooFar", laid_bufio_ErrAdvanceTooFar), ("bufio.ErrBadReadCount", laid_bufio_ErrBadReadCount), ("bufio.ErrFinalToken", laid_bufio_ErrFinalToken), ("lib-heddleeye/impl.errSplit", laid_lib_heddleeye_impl_errSplit), ("lib-heddleeye/impl.errRead", laid_lib_heddleeye_impl_errRead)], narrowed := true }
def FnPartsJoinedUptoSaid : Prop := fnPartsJoinedUptoRow.holds Tryd.pinned (OpenSpec.upto fnPartsJoinedSpec)

/-- 'laws.FnPartsTooLong', WHERE WHAT IT READS IS OF BULK AT MOST 1048576: true; the input reads as it did. -/
def fnPartsTooLongUptoRow : OpenClaim := { program := "ytmiioacpejmndaadoor", sum := "ce18f3ff7c7e45544a0c219bba1d18f0761b45e03a72db9462647b0cb6387b0d", func := "lib-heddleeye/laws.FnPartsTooLong", spec := "fnPartsTooLong", inPlace := ["internal/bytealg.IndexByte", "internal/reflectlite.TypeOf"], unfollowed := true, recurses := true, named := ["bufio.ErrFinalToken", "bufio.ErrTooLong", "bufio.ErrBadReadCount", "io.ErrNoProgress", "io.EOF", "bufio.ErrNegativeAdvance", "bufio.ErrAdvanceTooFar", "lib-heddleeye/impl.errSplit", "lib-heddleeye/impl.errRead"], apart := false, laid := [("io.EOF", laid_io_EOF), ("io.ErrNoProgress", laid_io_ErrNoProgress), ("bufio.ErrTooLong", laid_bufio_ErrTooLong), ("bufio.ErrNegativeAdvance", laid_bufio_ErrNegativeAdvance), ("bufio.ErrAdvanceTooFar", laid_bufio_ErrAdvanceTooFar), ("bufio.ErrBadReadCount", laid_bufio_ErrBadReadCount), ("bufio.ErrFinalToken", laid_bufio_ErrFinalToken), ("lib-heddleeye/impl.errSplit", laid_lib_heddleeye_impl_errSplit), ("lib-heddleeye/impl.errRead", laid_lib_heddleeye_impl_errRead)], narrowed := true }
def FnPartsTooLongUptoSaid : Prop := fnPartsTooLongUptoRow.holds Tryd.pinned (OpenSpec.upto fnPartsTooLongSpec)

/-- 'laws.FnFields', WHERE WHAT IT READS IS OF BULK AT MOST 1048576: true; the input reads as it did. -/
def fnFieldsUptoRow : OpenClaim := { program := "ytmiioacpejmndaadoor", sum := "ce18f3ff7c7e45544a0c219bba1d18f0761b45e03a72db9462647b0cb6387b0d", func := "lib-heddleeye/laws.FnFields", spec := "fnFields", inPlace := ["internal/bytealg.IndexByte", "internal/reflectlite.TypeOf"], unfollowed := true, recurses := true, named := ["lib-heddleeye/impl.errSplit", "bufio.ErrFinalToken", "bufio.ErrTooLong", "bufio.ErrBadReadCount", "io.ErrNoProgress", "io.EOF", "bufio.ErrNegativeAdvance", "bufio.ErrAdvanceTooFar", "lib-heddleeye/impl.errRead"], apart := false, laid := [("io.EOF", laid_io_EOF), ("io.ErrNoProgress", laid_io_ErrNoProgress), ("bufio.ErrTooLong", laid_bufio_ErrTooLong), ("bufio.ErrNegativeAdvance", laid_bufio_ErrNegativeAdvance), ("bufio.ErrAdvanceTooFar", laid_bufio_ErrAdvanceTooFar), ("bufio.ErrBadReadCount", laid_bufio_ErrBadReadCount), ("bufio.ErrFinalToken", laid_bufio_ErrFinalToken), ("lib-heddleeye/impl.errSplit", laid_lib_heddleeye_impl_errSplit), ("lib-heddleeye/impl.errRead", laid_lib_heddleeye_impl_errRead)], narrowed := true }
def FnFieldsUptoSaid : Prop := fnFieldsUptoRow.holds Tryd.pinned (OpenSpec.upto fnFieldsSpec)

/-- 'laws.FnFieldsAgain', WHERE WHAT IT READS IS OF BULK AT MOST 1048576: true; the input reads as it did. -/
def fnFieldsAgainUptoRow : OpenClaim := { program := "ytmiioacpejmndaadoor", sum := "ce18f3ff7c7e45544a0c219bba1d18f0761b45e03a72db9462647b0cb6387b0d", func := "lib-heddleeye/laws.FnFieldsAgain", spec := "fnFieldsAgain", inPlace := ["internal/bytealg.IndexByte", "internal/reflectlite.TypeOf"], unfollowed := true, recurses := true, named := ["lib-heddleeye/impl.errSplit", "bufio.ErrFinalToken", "bufio.ErrTooLong", "bufio.ErrBadReadCount", "io.ErrNoProgress", "io.EOF", "bufio.ErrNegativeAdvance", "bufio.ErrAdvanceTooFar", "lib-heddleeye/impl.errRead"], apart := false, laid := [("io.EOF", laid_io_EOF), ("io.ErrNoProgress", laid_io_ErrNoProgress), ("bufio.ErrTooLong", laid_bufio_ErrTooLong), ("bufio.ErrNegativeAdvance", laid_bufio_ErrNegativeAdvance), ("bufio.ErrAdvanceTooFar", laid_bufio_ErrAdvanceTooFar), ("bufio.ErrBadReadCount", laid_bufio_ErrBadReadCount), ("bufio.ErrFinalToken", laid_bufio_ErrFinalToken), ("lib-heddleeye/impl.errSplit", laid_lib_heddleeye_impl_errSplit), ("lib-heddleeye/impl.errRead", laid_lib_heddleeye_impl_errRead)], narrowed := true }
def FnFieldsAgainUptoSaid : Prop := fnFieldsAgainUptoRow.holds Tryd.pinned (OpenSpec.upto fnFieldsAgainSpec)

/-- 'laws.FnFieldsPlain', WHERE WHAT IT READS IS OF BULK AT MOST 1048576: true; the input reads as it did. -/
def fnFieldsPlainUptoRow : OpenClaim := { program := "ytmiioacpejmndaadoor", sum := "ce18f3ff7c7e45544a0c219bba1d18f0761b45e03a72db9462647b0cb6387b0d", func := "lib-heddleeye/laws.FnFieldsPlain", spec := "fnFieldsPlain", inPlace := ["internal/bytealg.IndexByte", "internal/reflectlite.TypeOf"], unfollowed := true, recurses := true, named := ["lib-heddleeye/impl.errSplit", "bufio.ErrFinalToken", "bufio.ErrTooLong", "bufio.ErrBadReadCount", "io.ErrNoProgress", "io.EOF", "bufio.ErrNegativeAdvance", "bufio.ErrAdvanceTooFar", "lib-heddleeye/impl.errRead"], apart := false, laid := [("io.EOF", laid_io_EOF), ("io.ErrNoProgress", laid_io_ErrNoProgress), ("bufio.ErrTooLong", laid_bufio_ErrTooLong), ("bufio.ErrNegativeAdvance", laid_bufio_ErrNegativeAdvance), ("bufio.ErrAdvanceTooFar", laid_bufio_ErrAdvanceTooFar), ("bufio.ErrBadReadCount", laid_bufio_ErrBadReadCount), ("bufio.ErrFinalToken", laid_bufio_ErrFinalToken), ("lib-heddleeye/impl.errSplit", laid_lib_heddleeye_impl_errSplit), ("lib-heddleeye/impl.errRead", laid_lib_heddleeye_impl_errRead)], narrowed := true }
def FnFieldsPlainUptoSaid : Prop := fnFieldsPlainUptoRow.holds Tryd.pinned (OpenSpec.upto fnFieldsPlainSpec)

/-- 'laws.FnMunch', WHERE WHAT IT READS IS OF BULK AT MOST 1048576: true; the input reads as it did. -/
def fnMunchUptoRow : OpenClaim := { program := "ytmiioacpejmndaadoor", sum := "ce18f3ff7c7e45544a0c219bba1d18f0761b45e03a72db9462647b0cb6387b0d", func := "lib-heddleeye/laws.FnMunch", spec := "fnMunch", inPlace := ["internal/bytealg.IndexByte", "internal/reflectlite.TypeOf"], unfollowed := true, recurses := true, named := ["lib-heddleeye/impl.errSplit", "bufio.ErrFinalToken", "bufio.ErrTooLong", "bufio.ErrBadReadCount", "io.ErrNoProgress", "io.EOF", "bufio.ErrNegativeAdvance", "bufio.ErrAdvanceTooFar", "lib-heddleeye/impl.errRead"], apart := false, laid := [("io.EOF", laid_io_EOF), ("io.ErrNoProgress", laid_io_ErrNoProgress), ("bufio.ErrTooLong", laid_bufio_ErrTooLong), ("bufio.ErrNegativeAdvance", laid_bufio_ErrNegativeAdvance), ("bufio.ErrAdvanceTooFar", laid_bufio_ErrAdvanceTooFar), ("bufio.ErrBadReadCount", laid_bufio_ErrBadReadCount), ("bufio.ErrFinalToken", laid_bufio_ErrFinalToken), ("lib-heddleeye/impl.errSplit", laid_lib_heddleeye_impl_errSplit), ("lib-heddleeye/impl.errRead", laid_lib_heddleeye_impl_errRead)], narrowed := true }
def FnMunchUptoSaid : Prop := fnMunchUptoRow.holds Tryd.pinned (OpenSpec.upto fnMunchSpec)

/-- 'laws.FnMunchJoined', WHERE WHAT IT READS IS OF BULK AT MOST 1048576: true; the input reads as it did. -/
def fnMunchJoinedUptoRow : OpenClaim := { program := "ytmiioacpejmndaadoor", sum := "ce18f3ff7c7e45544a0c219bba1d18f0761b45e03a72db9462647b0cb6387b0d", func := "lib-heddleeye/laws.FnMunchJoined", spec := "fnMunchJoined", inPlace := ["internal/bytealg.IndexByte", "internal/reflectlite.TypeOf"], unfollowed := true, recurses := true, named := ["lib-heddleeye/impl.errSplit", "bufio.ErrFinalToken", "bufio.ErrTooLong", "bufio.ErrBadReadCount", "io.ErrNoProgress", "io.EOF", "bufio.ErrNegativeAdvance", "bufio.ErrAdvanceTooFar", "lib-heddleeye/impl.errRead"], apart := false, laid := [("io.EOF", laid_io_EOF), ("io.ErrNoProgress", laid_io_ErrNoProgress), ("bufio.ErrTooLong", laid_bufio_ErrTooLong), ("bufio.ErrNegativeAdvance", laid_bufio_ErrNegativeAdvance), ("bufio.ErrAdvanceTooFar", laid_bufio_ErrAdvanceTooFar), ("bufio.ErrBadReadCount", laid_bufio_ErrBadReadCount), ("bufio.ErrFinalToken", laid_bufio_ErrFinalToken), ("lib-heddleeye/impl.errSplit", laid_lib_heddleeye_impl_errSplit), ("lib-heddleeye/impl.errRead", laid_lib_heddleeye_impl_errRead)], narrowed := true }
def FnMunchJoinedUptoSaid : Prop := fnMunchJoinedUptoRow.holds Tryd.pinned (OpenSpec.upto fnMunchJoinedSpec)

/-- 'laws.FnMunchLongest', WHERE WHAT IT READS IS OF BULK AT MOST 1048576: true; the input reads as it did. -/
def fnMunchLongestUptoRow : OpenClaim := { program := "ytmiioacpejmndaadoor", sum := "ce18f3ff7c7e45544a0c219bba1d18f0761b45e03a72db9462647b0cb6387b0d", func := "lib-heddleeye/laws.FnMunchLongest", spec := "fnMunchLongest", inPlace := ["internal/bytealg.IndexByte", "internal/reflectlite.TypeOf"], unfollowed := true, recurses := true, named := ["lib-heddleeye/impl.errSplit", "bufio.ErrFinalToken", "bufio.ErrTooLong", "bufio.ErrBadReadCount", "io.ErrNoProgress", "io.EOF", "bufio.ErrNegativeAdvance", "bufio.ErrAdvanceTooFar", "lib-heddleeye/impl.errRead"], apart := false, laid := [("io.EOF", laid_io_EOF), ("io.ErrNoProgress", laid_io_ErrNoProgress), ("bufio.ErrTooLong", laid_bufio_ErrTooLong), ("bufio.ErrNegativeAdvance", laid_bufio_ErrNegativeAdvance), ("bufio.ErrAdvanceTooFar", laid_bufio_ErrAdvanceTooFar), ("bufio.ErrBadReadCount", laid_bufio_ErrBadReadCount), ("bufio.ErrFinalToken", laid_bufio_ErrFinalToken), ("lib-heddleeye/impl.errSplit", laid_lib_heddleeye_impl_errSplit), ("lib-heddleeye/impl.errRead", laid_lib_heddleeye_impl_errRead)], narrowed := true }
def FnMunchLongestUptoSaid : Prop := fnMunchLongestUptoRow.holds Tryd.pinned (OpenSpec.upto fnMunchLongestSpec)

end Rows
end Go.Proofs.YtmiioacpejmndaaDoor
