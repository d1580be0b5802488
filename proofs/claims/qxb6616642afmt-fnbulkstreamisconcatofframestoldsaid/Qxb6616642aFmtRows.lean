/-
  NARROWER THAN 'FOR EVERY INPUT', by the rows' own cells (each row's printed sentence says how): FnBulkFramesReadBack: laid · FnBulkStreamIsConcatOfFrames: laid · FnNullFramesReadBack: laid · FnLineFrameIsOneCleanLine: laid · FnLineSplitsAtAnyCut: laid.
  DERIVED. THE GIVEN ROWS OF THIS SEAT. 5 by the template 'for every input the law returns true; each argument reads behind the call as it read before'; 0 by the template 'total and deterministic' (their statements: Qxb6616642aFmtTotals.lean).
  GIVEN WITH THE SEED: the statements are not yours to turn. If you find one false, say at which input.
  Laid BY PROGRAM, IN A SANDBOX (cutbox-rows.mjs): the forced cells as the released guide's own fill.sh prints them over the translation 6bb0faf2d1eb6d3c… (all of the seat's roots in one cut). By AI agents, Wed Nov 11 2026. No macro, syntax, notation, axiom, sorry.
-/
import Derived.Test.Qxb6616642aFmtChecked
import GoSem.Claim
import GoSem.ClaimJoined
import GoSem.ClaimMapViews
import Derived.JoinedTies
import Derived.KernelRfl
namespace Go.Proofs.Qxb6616642aFmt
/- THE CELL 'sum', in the pinned program and in every row, IS THE sha256 OF THE DUMP (.gsa) THAT Qxb6616642aFmtProg.lean LOADS. Nothing in Lean hashes anything: it is a label: what it is worth is what the hold of that sum in a sandbox is worth. -/
noncomputable def Tryf.pinned : Pinned := { name := "qxb6616642afmt", sum := "6bb0faf2d1eb6d3c991f05fe66c549ec6d3a22303c8afd8b6fc24728fea046c1", checked := Tryf.checked }
namespace Rows
def none {H : Type} : Left H := { results := [], args := [] }

/- WHAT THE LISTED PACKAGE-LEVEL VARIABLES READ AS WHEN THE CALL BEGINS. Each datum BY PROGRAM (the guide's laid-datum.mjs) off the statement by which the dump's own 'gosem.cut.vars' lays the variable. In a bare row this is a premise. The card (Qxb6616642aFmtCards.lean) ties it to the program's text. -/
def laid_math_bits_deBruijn32tab {H : Type} : DataW H := .agg [.lit (.int .u8 0), .lit (.int .u8 1), .lit (.int .u8 28), .lit (.int .u8 2), .lit (.int .u8 29), .lit (.int .u8 14), .lit (.int .u8 24), .lit (.int .u8 3), .lit (.int .u8 30), .lit (.int .u8 22), .lit (.int .u8 20), .lit (.int .u8 15), .lit (.int .u8 25), .lit (.int .u8 17), .lit (.int .u8 4), .lit (.int .u8 8), .lit (.int .u8 31), .lit (.int .u8 27), .lit (.int .u8 13), .lit (.int .u8 23), .lit (.int .u8 21), .lit (.int .u8 19), .lit (.int .u8 16), .lit (.int .u8 7), .lit (.int .u8 26), .lit (.int .u8 12), .lit (.int .u8 18), .lit (.int .u8 6), .lit (.int .u8 11), .lit (.int .u8 5), .lit (.int .u8 10), .lit (.int .u8 9)]
def laid_math_bits_deBruijn64tab {H : Type} : DataW H := .agg [.lit (.int .u8 0), .lit (.int .u8 1), .lit (.int .u8 56), .lit (.int .u8 2), .lit (.int .u8 57), .lit (.int .u8 49), .lit (.int .u8 28), .lit (.int .u8 3), .lit (.int .u8 61), .lit (.int .u8 58), .lit (.int .u8 42), .lit (.int .u8 50), .lit (.int .u8 38), .lit (.int .u8 29), .lit (.int .u8 17), .lit (.int .u8 4), .lit (.int .u8 62), .lit (.int .u8 47), .lit (.int .u8 59), .lit (.int .u8 36), .lit (.int .u8 45), .lit (.int .u8 43), .lit (.int .u8 51), .lit (.int .u8 22), .lit (.int .u8 53), .lit (.int .u8 39), .lit (.int .u8 33), .lit (.int .u8 30), .lit (.int .u8 24), .lit (.int .u8 18), .lit (.int .u8 12), .lit (.int .u8 5), .lit (.int .u8 63), .lit (.int .u8 55), .lit (.int .u8 48), .lit (.int .u8 27), .lit (.int .u8 60), .lit (.int .u8 41), .lit (.int .u8 37), .lit (.int .u8 16), .lit (.int .u8 46), .lit (.int .u8 35), .lit (.int .u8 44), .lit (.int .u8 21), .lit (.int .u8 52), .lit (.int .u8 32), .lit (.int .u8 23), .lit (.int .u8 11), .lit (.int .u8 54), .lit (.int .u8 26), .lit (.int .u8 40), .lit (.int .u8 15), .lit (.int .u8 34), .lit (.int .u8 20), .lit (.int .u8 31), .lit (.int .u8 10), .lit (.int .u8 25), .lit (.int .u8 14), .lit (.int .u8 19), .lit (.int .u8 9), .lit (.int .u8 13), .lit (.int .u8 8), .lit (.int .u8 7), .lit (.int .u8 6)]
def laid_internal_strconv_uint64pow10 {H : Type} : DataW H := .agg [.lit (.int .u64 1), .lit (.int .u64 10), .lit (.int .u64 100), .lit (.int .u64 1000), .lit (.int .u64 10000), .lit (.int .u64 100000), .lit (.int .u64 1000000), .lit (.int .u64 10000000), .lit (.int .u64 100000000), .lit (.int .u64 1000000000), .lit (.int .u64 10000000000), .lit (.int .u64 100000000000), .lit (.int .u64 1000000000000), .lit (.int .u64 10000000000000), .lit (.int .u64 100000000000000), .lit (.int .u64 1000000000000000), .lit (.int .u64 10000000000000000), .lit (.int .u64 100000000000000000), .lit (.int .u64 1000000000000000000), .lit (.int .u64 10000000000000000000)]
def laid_io_ErrShortWrite {H : Type} : DataW H := .iface "*errors.errorString" (.ptr (.agg [.lit (.string [115, 104, 111, 114, 116, 32, 119, 114, 105, 116, 101])]))

/-- 'zzlaws_pkg_resp_b1.FnBulkFramesReadBack': WHATEVER THE INPUT: true; the input reads as it did. -/
def fnBulkFramesReadBackSpec : ChangeSpec := { name := "fnBulkFramesReadBack", fn := fun _ => fun
  | [d1, d2] => { results := [.lit (.bool true)], args := [d1, d2] }
  | _ => none }
def fnBulkFramesReadBackRow : OpenClaim := { program := "qxb6616642afmt", sum := "6bb0faf2d1eb6d3c991f05fe66c549ec6d3a22303c8afd8b6fc24728fea046c1", func := "example.com/cardinality/cardinality/zzlaws_pkg_resp_b1.FnBulkFramesReadBack", spec := "fnBulkFramesReadBack", stops := ["fmt.errorf"], inPlace := ["fmt.errorf"], unfollowed := true, recurses := true, named := ["internal/strconv.uint64pow10", "math/bits.deBruijn32tab", "math/bits.deBruijn64tab", "io.ErrShortWrite"], apart := false, laid := [("math/bits.deBruijn32tab", laid_math_bits_deBruijn32tab), ("math/bits.deBruijn64tab", laid_math_bits_deBruijn64tab), ("internal/strconv.uint64pow10", laid_internal_strconv_uint64pow10), ("io.ErrShortWrite", laid_io_ErrShortWrite)] }
/-- NO THEOREM (fmt's text is open here; it may be false): for the released tool's asking of the row's closed facts alone. THE STATEMENT IS 'FnBulkFramesReadBackToldSaid' (Qxb6616642aFmtCards.lean). -/
def FnBulkFramesReadBackFormAsk : Prop := fnBulkFramesReadBackRow.holds Tryf.pinned (OpenSpec.ofChange fnBulkFramesReadBackSpec)

/-- ITS FALSE NEIGHBOUR: 'it returns false'. Refute it at one input. -/
def fnBulkFramesReadBackWrong : ChangeSpec := { name := "fnBulkFramesReadBack", fn := fun _ => fun
  | [d1, d2] => { results := [.lit (.bool false)], args := [d1, d2] }
  | _ => none }
def FnBulkFramesReadBackWrongFormAsk : Prop := fnBulkFramesReadBackRow.holds Tryf.pinned (OpenSpec.ofChange fnBulkFramesReadBackWrong)

/-- 'zzlaws_pkg_resp_b1.FnBulkStreamIsConcatOfFrames': WHATEVER THE INPUT: true; the input reads as it did. -/
def fnBulkStreamIsConcatOfFramesSpec : ChangeSpec := { name := "fnBulkStreamIsConcatOfFrames", fn := fun _ => fun
  | [d1, d2] => { results := [.lit (.bool true)], args := [d1, d2] }
  | _ => none }
def fnBulkStreamIsConcatOfFramesRow : OpenClaim := { program := "qxb6616642afmt", sum := "6bb0faf2d1eb6d3c991f05fe66c549ec6d3a22303c8afd8b6fc24728fea046c1", func := "example.com/cardinality/cardinality/zzlaws_pkg_resp_b1.FnBulkStreamIsConcatOfFrames", spec := "fnBulkStreamIsConcatOfFrames", stops := ["fmt.errorf"], inPlace := ["fmt.errorf"], unfollowed := true, recurses := true, named := ["internal/strconv.uint64pow10", "math/bits.deBruijn32tab", "math/bits.deBruijn64tab", "io.ErrShortWrite"], apart := false, laid := [("math/bits.deBruijn32tab", laid_math_bits_deBruijn32tab), ("math/bits.deBruijn64tab", laid_math_bits_deBruijn64tab), ("internal/strconv.uint64pow10", laid_internal_strconv_uint64pow10), ("io.ErrShortWrite", laid_io_ErrShortWrite)] }
/-- NO THEOREM (fmt's text is open here; it may be false): for the released tool's asking of the row's closed facts alone. THE STATEMENT IS 'FnBulkStreamIsConcatOfFramesToldSaid' (Qxb6616642aFmtCards.lean). -/
def FnBulkStreamIsConcatOfFramesFormAsk : Prop := fnBulkStreamIsConcatOfFramesRow.holds Tryf.pinned (OpenSpec.ofChange fnBulkStreamIsConcatOfFramesSpec)

/-- ITS FALSE NEIGHBOUR: 'it returns false'. Refute it at one input. -/
def fnBulkStreamIsConcatOfFramesWrong : ChangeSpec := { name := "fnBulkStreamIsConcatOfFrames", fn := fun _ => fun
  | [d1, d2] => { results := [.lit (.bool false)], args := [d1, d2] }
  | _ => none }
def FnBulkStreamIsConcatOfFramesWrongFormAsk : Prop := fnBulkStreamIsConcatOfFramesRow.holds Tryf.pinned (OpenSpec.ofChange fnBulkStreamIsConcatOfFramesWrong)

/-- 'zzlaws_pkg_resp_b1.FnNullFramesReadBack': WHATEVER THE INPUT: true; the input reads as it did. -/
def fnNullFramesReadBackSpec : ChangeSpec := { name := "fnNullFramesReadBack", fn := fun _ => fun
  | [d] => { results := [.lit (.bool true)], args := [d] }
  | _ => none }
def fnNullFramesReadBackRow : OpenClaim := { program := "qxb6616642afmt", sum := "6bb0faf2d1eb6d3c991f05fe66c549ec6d3a22303c8afd8b6fc24728fea046c1", func := "example.com/cardinality/cardinality/zzlaws_pkg_resp_b1.FnNullFramesReadBack", spec := "fnNullFramesReadBack", stops := ["fmt.errorf"], inPlace := ["fmt.errorf"], unfollowed := true, recurses := true, named := ["internal/strconv.uint64pow10", "math/bits.deBruijn32tab", "math/bits.deBruijn64tab", "io.ErrShortWrite"], apart := false, laid := [("math/bits.deBruijn32tab", laid_math_bits_deBruijn32tab), ("math/bits.deBruijn64tab", laid_math_bits_deBruijn64tab), ("internal/strconv.uint64pow10", laid_internal_strconv_uint64pow10), ("io.ErrShortWrite", laid_io_ErrShortWrite)] }
/-- NO THEOREM (fmt's text is open here; it may be false): for the released tool's asking of the row's closed facts alone. THE STATEMENT IS 'FnNullFramesReadBackToldSaid' (Qxb6616642aFmtCards.lean). -/
def FnNullFramesReadBackFormAsk : Prop := fnNullFramesReadBackRow.holds Tryf.pinned (OpenSpec.ofChange fnNullFramesReadBackSpec)

/-- ITS FALSE NEIGHBOUR: 'it returns false'. Refute it at one input. -/
def fnNullFramesReadBackWrong : ChangeSpec := { name := "fnNullFramesReadBack", fn := fun _ => fun
  | [d] => { results := [.lit (.bool false)], args := [d] }
  | _ => none }
def FnNullFramesReadBackWrongFormAsk : Prop := fnNullFramesReadBackRow.holds Tryf.pinned (OpenSpec.ofChange fnNullFramesReadBackWrong)

/-- 'zzlaws_pkg_resp_b1.FnLineFrameIsOneCleanLine': WHATEVER THE INPUT: true; the input reads as it did. -/
def fnLineFrameIsOneCleanLineSpec : ChangeSpec := { name := "fnLineFrameIsOneCleanLine", fn := fun _ => fun
  | [d1, d2] => { results := [.lit (.bool true)], args := [d1, d2] }
  | _ => none }
def fnLineFrameIsOneCleanLineRow : OpenClaim := { program := "qxb6616642afmt", sum := "6bb0faf2d1eb6d3c991f05fe66c549ec6d3a22303c8afd8b6fc24728fea046c1", func := "example.com/cardinality/cardinality/zzlaws_pkg_resp_b1.FnLineFrameIsOneCleanLine", spec := "fnLineFrameIsOneCleanLine", stops := ["fmt.errorf"], inPlace := ["internal/bytealg.IndexByteString", "fmt.errorf"], unfollowed := true, recurses := true, named := ["io.ErrShortWrite"], apart := false, laid := [("io.ErrShortWrite", laid_io_ErrShortWrite)] }
/-- NO THEOREM (fmt's text is open here; it may be false): for the released tool's asking of the row's closed facts alone. THE STATEMENT IS 'FnLineFrameIsOneCleanLineToldSaid' (Qxb6616642aFmtCards.lean). -/
def FnLineFrameIsOneCleanLineFormAsk : Prop := fnLineFrameIsOneCleanLineRow.holds Tryf.pinned (OpenSpec.ofChange fnLineFrameIsOneCleanLineSpec)

/-- ITS FALSE NEIGHBOUR: 'it returns false'. Refute it at one input. -/
def fnLineFrameIsOneCleanLineWrong : ChangeSpec := { name := "fnLineFrameIsOneCleanLine", fn := fun _ => fun
  | [d1, d2] => { results := [.lit (.bool false)], args := [d1, d2] }
  | _ => none }
def FnLineFrameIsOneCleanLineWrongFormAsk : Prop := fnLineFrameIsOneCleanLineRow.holds Tryf.pinned (OpenSpec.ofChange fnLineFrameIsOneCleanLineWrong)

/-- 'zzlaws_pkg_resp_b1.FnLineSplitsAtAnyCut': WHATEVER THE INPUT: true; the input reads as it did. -/
def fnLineSplitsAtAnyCutSpec : ChangeSpec := { name := "fnLineSplitsAtAnyCut", fn := fun _ => fun
  | [d1, d2, d3] => { results := [.lit (.bool true)], args := [d1, d2, d3] }
  | _ => none }
def fnLineSplitsAtAnyCutRow : OpenClaim := { program := "qxb6616642afmt", sum := "6bb0faf2d1eb6d3c991f05fe66c549ec6d3a22303c8afd8b6fc24728fea046c1", func := "example.com/cardinality/cardinality/zzlaws_pkg_resp_b1.FnLineSplitsAtAnyCut", spec := "fnLineSplitsAtAnyCut", stops := ["fmt.errorf"], inPlace := ["internal/bytealg.IndexByteString", "fmt.errorf"], unfollowed := true, recurses := true, named := ["io.ErrShortWrite"], apart := false, laid := [("io.ErrShortWrite", laid_io_ErrShortWrite)] }
/-- NO THEOREM (fmt's text is open here; it may be false): for the released tool's asking of the row's closed facts alone. THE STATEMENT IS 'FnLineSplitsAtAnyCutToldSaid' (Qxb6616642aFmtCards.lean). -/
def FnLineSplitsAtAnyCutFormAsk : Prop := fnLineSplitsAtAnyCutRow.holds Tryf.pinned (OpenSpec.ofChange fnLineSplitsAtAnyCutSpec)

/-- ITS FALSE NEIGHBOUR: 'it returns false'. Refute it at one input. -/
def fnLineSplitsAtAnyCutWrong : ChangeSpec := { name := "fnLineSplitsAtAnyCut", fn := fun _ => fun
  | [d1, d2, d3] => { results := [.lit (.bool false)], args := [d1, d2, d3] }
  | _ => none }
def FnLineSplitsAtAnyCutWrongFormAsk : Prop := fnLineSplitsAtAnyCutRow.holds Tryf.pinned (OpenSpec.ofChange fnLineSplitsAtAnyCutWrong)

end Rows
end Go.Proofs.Qxb6616642aFmt
