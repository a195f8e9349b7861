/-
  NARROWER THAN 'FOR EVERY INPUT', by the rows' own cells (each row's printed sentence says how): FnOpen: laid · FnNumbers: laid · FnAgain: laid · FnSave: laid.
  DERIVED. THE GIVEN ROWS OF THIS SEAT. 4 by the template 'for every input the law returns true; each argument reads behind the call as it read before'; 0 by the template 'total and deterministic' (their statements: YtfnncdngfggcjaaGreatDoorTotals.lean).
  GIVEN WITH THE SEED: the statements are not yours to turn. If you find one false, say at which input.
  Laid BY PROGRAM, IN A SANDBOX (cutbox-rows.mjs): the forced cells as the released guide's own fill.sh prints them over the translation bba246b46db45284… (all of the seat's roots in one cut). By AI agents, Wed Nov 11 2026. No macro, syntax, notation, axiom, sorry.
-/
import Derived.Test.YtfnncdngfggcjaaGreatDoorChecked
import GoSem.Claim
import GoSem.ClaimJoined
import GoSem.ClaimMapViews
import Derived.JoinedTies
import Derived.KernelRfl
namespace Go.Proofs.YtfnncdngfggcjaaGreatDoor
/- THE CELL 'sum', in the pinned program and in every row, IS THE sha256 OF THE DUMP (.gsa) THAT YtfnncdngfggcjaaGreatDoorProg.lean LOADS. Nothing in Lean hashes anything: it is a label: what it is worth is what the hold of that sum in a sandbox is worth. -/
noncomputable def Tryz.pinned : Pinned := { name := "ytfnncdngfggcjaagreatdoor", sum := "bba246b46db452848c72816a32dd8474bcc8205612add1698af891ed875ab913", checked := Tryz.checked }
namespace Rows
def none {H : Type} : Left H := { results := [], args := [] }

/- WHAT THE LISTED PACKAGE-LEVEL VARIABLES READ AS WHEN THE CALL BEGINS. Each datum BY PROGRAM (the guide's laid-datum.mjs) off the statement by which the dump's own 'gosem.cut.vars' lays the variable. In a bare row this is a premise. The card (YtfnncdngfggcjaaGreatDoorCards.lean) ties it to the program's text. -/
def laid_math_bits_deBruijn32tab {H : Type} : DataW H := .agg [.lit (.int .u8 0), .lit (.int .u8 1), .lit (.int .u8 28), .lit (.int .u8 2), .lit (.int .u8 29), .lit (.int .u8 14), .lit (.int .u8 24), .lit (.int .u8 3), .lit (.int .u8 30), .lit (.int .u8 22), .lit (.int .u8 20), .lit (.int .u8 15), .lit (.int .u8 25), .lit (.int .u8 17), .lit (.int .u8 4), .lit (.int .u8 8), .lit (.int .u8 31), .lit (.int .u8 27), .lit (.int .u8 13), .lit (.int .u8 23), .lit (.int .u8 21), .lit (.int .u8 19), .lit (.int .u8 16), .lit (.int .u8 7), .lit (.int .u8 26), .lit (.int .u8 12), .lit (.int .u8 18), .lit (.int .u8 6), .lit (.int .u8 11), .lit (.int .u8 5), .lit (.int .u8 10), .lit (.int .u8 9)]
def laid_math_bits_deBruijn64tab {H : Type} : DataW H := .agg [.lit (.int .u8 0), .lit (.int .u8 1), .lit (.int .u8 56), .lit (.int .u8 2), .lit (.int .u8 57), .lit (.int .u8 49), .lit (.int .u8 28), .lit (.int .u8 3), .lit (.int .u8 61), .lit (.int .u8 58), .lit (.int .u8 42), .lit (.int .u8 50), .lit (.int .u8 38), .lit (.int .u8 29), .lit (.int .u8 17), .lit (.int .u8 4), .lit (.int .u8 62), .lit (.int .u8 47), .lit (.int .u8 59), .lit (.int .u8 36), .lit (.int .u8 45), .lit (.int .u8 43), .lit (.int .u8 51), .lit (.int .u8 22), .lit (.int .u8 53), .lit (.int .u8 39), .lit (.int .u8 33), .lit (.int .u8 30), .lit (.int .u8 24), .lit (.int .u8 18), .lit (.int .u8 12), .lit (.int .u8 5), .lit (.int .u8 63), .lit (.int .u8 55), .lit (.int .u8 48), .lit (.int .u8 27), .lit (.int .u8 60), .lit (.int .u8 41), .lit (.int .u8 37), .lit (.int .u8 16), .lit (.int .u8 46), .lit (.int .u8 35), .lit (.int .u8 44), .lit (.int .u8 21), .lit (.int .u8 52), .lit (.int .u8 32), .lit (.int .u8 23), .lit (.int .u8 11), .lit (.int .u8 54), .lit (.int .u8 26), .lit (.int .u8 40), .lit (.int .u8 15), .lit (.int .u8 34), .lit (.int .u8 20), .lit (.int .u8 31), .lit (.int .u8 10), .lit (.int .u8 25), .lit (.int .u8 14), .lit (.int .u8 19), .lit (.int .u8 9), .lit (.int .u8 13), .lit (.int .u8 8), .lit (.int .u8 7), .lit (.int .u8 6)]
def laid_strconv_ErrSyntax {H : Type} : DataW H := .iface "*errors.errorString" (.ptr (.agg [.lit (.string [105, 110, 118, 97, 108, 105, 100, 32, 115, 121, 110, 116, 97, 120])]))
def laid_io_EOF {H : Type} : DataW H := .iface "*errors.errorString" (.ptr (.agg [.lit (.string [69, 79, 70])]))
def laid_strings_asciiSpace {H : Type} : DataW H := .agg [.lit (.int .u8 0), .lit (.int .u8 0), .lit (.int .u8 0), .lit (.int .u8 0), .lit (.int .u8 0), .lit (.int .u8 0), .lit (.int .u8 0), .lit (.int .u8 0), .lit (.int .u8 0), .lit (.int .u8 1), .lit (.int .u8 1), .lit (.int .u8 1), .lit (.int .u8 1), .lit (.int .u8 1), .lit (.int .u8 0), .lit (.int .u8 0), .lit (.int .u8 0), .lit (.int .u8 0), .lit (.int .u8 0), .lit (.int .u8 0), .lit (.int .u8 0), .lit (.int .u8 0), .lit (.int .u8 0), .lit (.int .u8 0), .lit (.int .u8 0), .lit (.int .u8 0), .lit (.int .u8 0), .lit (.int .u8 0), .lit (.int .u8 0), .lit (.int .u8 0), .lit (.int .u8 0), .lit (.int .u8 0), .lit (.int .u8 1), .lit (.int .u8 0), .lit (.int .u8 0), .lit (.int .u8 0), .lit (.int .u8 0), .lit (.int .u8 0), .lit (.int .u8 0), .lit (.int .u8 0), .lit (.int .u8 0), .lit (.int .u8 0), .lit (.int .u8 0), .lit (.int .u8 0), .lit (.int .u8 0), .lit (.int .u8 0), .lit (.int .u8 0), .lit (.int .u8 0), .lit (.int .u8 0), .lit (.int .u8 0), .lit (.int .u8 0), .lit (.int .u8 0), .lit (.int .u8 0), .lit (.int .u8 0), .lit (.int .u8 0), .lit (.int .u8 0), .lit (.int .u8 0), .lit (.int .u8 0), .lit (.int .u8 0), .lit (.int .u8 0), .lit (.int .u8 0), .lit (.int .u8 0), .lit (.int .u8 0), .lit (.int .u8 0), .lit (.int .u8 0), .lit (.int .u8 0), .lit (.int .u8 0), .lit (.int .u8 0), .lit (.int .u8 0), .lit (.int .u8 0), .lit (.int .u8 0), .lit (.int .u8 0), .lit (.int .u8 0), .lit (.int .u8 0), .lit (.int .u8 0), .lit (.int .u8 0), .lit (.int .u8 0), .lit (.int .u8 0), .lit (.int .u8 0), .lit (.int .u8 0), .lit (.int .u8 0), .lit (.int .u8 0), .lit (.int .u8 0), .lit (.int .u8 0), .lit (.int .u8 0), .lit (.int .u8 0), .lit (.int .u8 0), .lit (.int .u8 0), .lit (.int .u8 0), .lit (.int .u8 0), .lit (.int .u8 0), .lit (.int .u8 0), .lit (.int .u8 0), .lit (.int .u8 0), .lit (.int .u8 0), .lit (.int .u8 0), .lit (.int .u8 0), .lit (.int .u8 0), .lit (.int .u8 0), .lit (.int .u8 0), .lit (.int .u8 0), .lit (.int .u8 0), .lit (.int .u8 0), .lit (.int .u8 0), .lit (.int .u8 0), .lit (.int .u8 0), .lit (.int .u8 0), .lit (.int .u8 0), .lit (.int .u8 0), .lit (.int .u8 0), .lit (.int .u8 0), .lit (.int .u8 0), .lit (.int .u8 0), .lit (.int .u8 0), .lit (.int .u8 0), .lit (.int .u8 0), .lit (.int .u8 0), .lit (.int .u8 0), .lit (.int .u8 0), .lit (.int .u8 0), .lit (.int .u8 0), .lit (.int .u8 0), .lit (.int .u8 0), .lit (.int .u8 0), .lit (.int .u8 0), .lit (.int .u8 0), .lit (.int .u8 0), .lit (.int .u8 0), .lit (.int .u8 0), .lit (.int .u8 0), .lit (.int .u8 0), .lit (.int .u8 0), .lit (.int .u8 0), .lit (.int .u8 0), .lit (.int .u8 0), .lit (.int .u8 0), .lit (.int .u8 0), .lit (.int .u8 0), .lit (.int .u8 0), .lit (.int .u8 0), .lit (.int .u8 0), .lit (.int .u8 0), .lit (.int .u8 0), .lit (.int .u8 0), .lit (.int .u8 0), .lit (.int .u8 0), .lit (.int .u8 0), .lit (.int .u8 0), .lit (.int .u8 0), .lit (.int .u8 0), .lit (.int .u8 0), .lit (.int .u8 0), .lit (.int .u8 0), .lit (.int .u8 0), .lit (.int .u8 0), .lit (.int .u8 0), .lit (.int .u8 0), .lit (.int .u8 0), .lit (.int .u8 0), .lit (.int .u8 0), .lit (.int .u8 0), .lit (.int .u8 0), .lit (.int .u8 0), .lit (.int .u8 0), .lit (.int .u8 0), .lit (.int .u8 0), .lit (.int .u8 0), .lit (.int .u8 0), .lit (.int .u8 0), .lit (.int .u8 0), .lit (.int .u8 0), .lit (.int .u8 0), .lit (.int .u8 0), .lit (.int .u8 0), .lit (.int .u8 0), .lit (.int .u8 0), .lit (.int .u8 0), .lit (.int .u8 0), .lit (.int .u8 0), .lit (.int .u8 0), .lit (.int .u8 0), .lit (.int .u8 0), .lit (.int .u8 0), .lit (.int .u8 0), .lit (.int .u8 0), .lit (.int .u8 0), .lit (.int .u8 0), .lit (.int .u8 0), .lit (.int .u8 0), .lit (.int .u8 0), .lit (.int .u8 0), .lit (.int .u8 0), .lit (.int .u8 0), .lit (.int .u8 0), .lit (.int .u8 0), .lit (.int .u8 0), .lit (.int .u8 0), .lit (.int .u8 0), .lit (.int .u8 0), .lit (.int .u8 0), .lit (.int .u8 0), .lit (.int .u8 0), .lit (.int .u8 0), .lit (.int .u8 0), .lit (.int .u8 0), .lit (.int .u8 0), .lit (.int .u8 0), .lit (.int .u8 0), .lit (.int .u8 0), .lit (.int .u8 0), .lit (.int .u8 0), .lit (.int .u8 0), .lit (.int .u8 0), .lit (.int .u8 0), .lit (.int .u8 0), .lit (.int .u8 0), .lit (.int .u8 0), .lit (.int .u8 0), .lit (.int .u8 0), .lit (.int .u8 0), .lit (.int .u8 0), .lit (.int .u8 0), .lit (.int .u8 0), .lit (.int .u8 0), .lit (.int .u8 0), .lit (.int .u8 0), .lit (.int .u8 0), .lit (.int .u8 0), .lit (.int .u8 0), .lit (.int .u8 0), .lit (.int .u8 0), .lit (.int .u8 0), .lit (.int .u8 0), .lit (.int .u8 0), .lit (.int .u8 0), .lit (.int .u8 0), .lit (.int .u8 0), .lit (.int .u8 0), .lit (.int .u8 0), .lit (.int .u8 0), .lit (.int .u8 0), .lit (.int .u8 0), .lit (.int .u8 0), .lit (.int .u8 0), .lit (.int .u8 0), .lit (.int .u8 0), .lit (.int .u8 0), .lit (.int .u8 0), .lit (.int .u8 0), .lit (.int .u8 0), .lit (.int .u8 0), .lit (.int .u8 0), .lit (.int .u8 0), .lit (.int .u8 0), .lit (.int .u8 0), .lit (.int .u8 0)]
def laid_bufio_ErrBufferFull {H : Type} : DataW H := .iface "*errors.errorString" (.ptr (.agg [.lit (.string [98, 117, 102, 105, 111, 58, 32, 98, 117, 102, 102, 101, 114, 32, 102, 117, 108, 108])]))

/-- 'laws.FnOpen': WHATEVER THE INPUT: true; the input reads as it did. -/
def fnOpenSpec : ChangeSpec := { name := "fnOpen", fn := fun _ => fun
  | [d1, d2] => { results := [.lit (.bool true)], args := [d1, d2] }
  | _ => none }
def fnOpenRow : OpenClaim := { program := "ytfnncdngfggcjaagreatdoor", sum := "bba246b46db452848c72816a32dd8474bcc8205612add1698af891ed875ab913", func := "loop.example/pub-g03070/laws.FnOpen", spec := "fnOpen", inPlace := ["internal/abi.NoEscape", "internal/bytealg.MakeNoZero", "internal/bytealg.IndexByte", "internal/bytealg.IndexByteString"], unfollowed := true, recurses := true, named := ["io.EOF", "bufio.ErrNegativeCount", "bufio.ErrBufferFull", "bufio.errNegativeRead", "io.ErrNoProgress", "unicode/utf8.first", "unicode/utf8.acceptRanges", "unicode.CaseRanges", "bytes.asciiSpace", "unicode.White_Space", "bytes.ErrTooLarge", "strings.asciiSpace", "unicode.asciiFold", "unicode.caseOrbit", "internal/strconv.uint64pow10", "math/bits.deBruijn32tab", "math/bits.deBruijn64tab"], apart := false, laid := [("math/bits.deBruijn32tab", laid_math_bits_deBruijn32tab), ("math/bits.deBruijn64tab", laid_math_bits_deBruijn64tab)] }
def FnOpenSaid : Prop := fnOpenRow.holds Tryz.pinned (OpenSpec.ofChange fnOpenSpec)

/-- ITS FALSE NEIGHBOUR: 'it returns false'. Refute it at one input. -/
def fnOpenWrong : ChangeSpec := { name := "fnOpen", fn := fun _ => fun
  | [d1, d2] => { results := [.lit (.bool false)], args := [d1, d2] }
  | _ => none }
def FnOpenWrongFalsely : Prop := fnOpenRow.holds Tryz.pinned (OpenSpec.ofChange fnOpenWrong)

/-- 'laws.FnNumbers': WHATEVER THE INPUT: true; the input reads as it did. -/
def fnNumbersSpec : ChangeSpec := { name := "fnNumbers", fn := fun _ => fun
  | [d1, d2, d3] => { results := [.lit (.bool true)], args := [d1, d2, d3] }
  | _ => none }
def fnNumbersRow : OpenClaim := { program := "ytfnncdngfggcjaagreatdoor", sum := "bba246b46db452848c72816a32dd8474bcc8205612add1698af891ed875ab913", func := "loop.example/pub-g03070/laws.FnNumbers", spec := "fnNumbers", inPlace := ["internal/abi.NoEscape", "internal/bytealg.MakeNoZero", "internal/bytealg.IndexByte", "internal/bytealg.IndexByteString"], unfollowed := true, recurses := true, named := ["io.EOF", "bufio.ErrNegativeCount", "bufio.ErrBufferFull", "bufio.errNegativeRead", "io.ErrNoProgress", "unicode/utf8.first", "unicode/utf8.acceptRanges", "unicode.CaseRanges", "bytes.asciiSpace", "unicode.White_Space", "bytes.ErrTooLarge", "strings.asciiSpace", "unicode.asciiFold", "unicode.caseOrbit", "internal/strconv.uint64pow10", "math/bits.deBruijn32tab", "math/bits.deBruijn64tab", "strconv.ErrSyntax", "strconv.ErrRange"], apart := false, laid := [("math/bits.deBruijn32tab", laid_math_bits_deBruijn32tab), ("math/bits.deBruijn64tab", laid_math_bits_deBruijn64tab), ("strconv.ErrSyntax", laid_strconv_ErrSyntax), ("io.EOF", laid_io_EOF), ("strings.asciiSpace", laid_strings_asciiSpace), ("bufio.ErrBufferFull", laid_bufio_ErrBufferFull)] }
def FnNumbersSaid : Prop := fnNumbersRow.holds Tryz.pinned (OpenSpec.ofChange fnNumbersSpec)

/-- ITS FALSE NEIGHBOUR: 'it returns false'. Refute it at one input. -/
def fnNumbersWrong : ChangeSpec := { name := "fnNumbers", fn := fun _ => fun
  | [d1, d2, d3] => { results := [.lit (.bool false)], args := [d1, d2, d3] }
  | _ => none }
def FnNumbersWrongFalsely : Prop := fnNumbersRow.holds Tryz.pinned (OpenSpec.ofChange fnNumbersWrong)

/-- 'laws.FnAgain': WHATEVER THE INPUT: true; the input reads as it did. -/
def fnAgainSpec : ChangeSpec := { name := "fnAgain", fn := fun _ => fun
  | [d] => { results := [.lit (.bool true)], args := [d] }
  | _ => none }
def fnAgainRow : OpenClaim := { program := "ytfnncdngfggcjaagreatdoor", sum := "bba246b46db452848c72816a32dd8474bcc8205612add1698af891ed875ab913", func := "loop.example/pub-g03070/laws.FnAgain", spec := "fnAgain", inPlace := ["internal/abi.NoEscape", "internal/bytealg.MakeNoZero", "internal/bytealg.IndexByte", "internal/bytealg.IndexByteString"], unfollowed := true, recurses := true, named := ["io.EOF", "bufio.ErrNegativeCount", "bufio.ErrBufferFull", "bufio.errNegativeRead", "io.ErrNoProgress", "unicode/utf8.first", "unicode/utf8.acceptRanges", "unicode.CaseRanges", "bytes.asciiSpace", "unicode.White_Space", "bytes.ErrTooLarge", "strings.asciiSpace", "unicode.asciiFold", "unicode.caseOrbit", "internal/strconv.uint64pow10", "math/bits.deBruijn32tab", "math/bits.deBruijn64tab", "io.ErrShortWrite"], apart := false, laid := [("math/bits.deBruijn32tab", laid_math_bits_deBruijn32tab), ("math/bits.deBruijn64tab", laid_math_bits_deBruijn64tab)] }
def FnAgainSaid : Prop := fnAgainRow.holds Tryz.pinned (OpenSpec.ofChange fnAgainSpec)

/-- ITS FALSE NEIGHBOUR: 'it returns false'. Refute it at one input. -/
def fnAgainWrong : ChangeSpec := { name := "fnAgain", fn := fun _ => fun
  | [d] => { results := [.lit (.bool false)], args := [d] }
  | _ => none }
def FnAgainWrongFalsely : Prop := fnAgainRow.holds Tryz.pinned (OpenSpec.ofChange fnAgainWrong)

/-- 'laws.FnSave': WHATEVER THE INPUT: true; the input reads as it did. -/
def fnSaveSpec : ChangeSpec := { name := "fnSave", fn := fun _ => fun
  | [d] => { results := [.lit (.bool true)], args := [d] }
  | _ => none }
def fnSaveRow : OpenClaim := { program := "ytfnncdngfggcjaagreatdoor", sum := "bba246b46db452848c72816a32dd8474bcc8205612add1698af891ed875ab913", func := "loop.example/pub-g03070/laws.FnSave", spec := "fnSave", inPlace := ["internal/abi.NoEscape", "internal/bytealg.MakeNoZero", "internal/bytealg.IndexByte", "internal/bytealg.IndexByteString"], unfollowed := true, recurses := true, named := ["io.EOF", "bufio.ErrNegativeCount", "bufio.ErrBufferFull", "bufio.errNegativeRead", "io.ErrNoProgress", "unicode/utf8.first", "unicode/utf8.acceptRanges", "unicode.CaseRanges", "bytes.asciiSpace", "unicode.White_Space", "bytes.ErrTooLarge", "strings.asciiSpace", "unicode.asciiFold", "unicode.caseOrbit", "internal/strconv.uint64pow10", "math/bits.deBruijn32tab", "math/bits.deBruijn64tab", "io.ErrShortWrite"], apart := false, laid := [("math/bits.deBruijn32tab", laid_math_bits_deBruijn32tab), ("math/bits.deBruijn64tab", laid_math_bits_deBruijn64tab)] }
def FnSaveSaid : Prop := fnSaveRow.holds Tryz.pinned (OpenSpec.ofChange fnSaveSpec)

/-- ITS FALSE NEIGHBOUR: 'it returns false'. Refute it at one input. -/
def fnSaveWrong : ChangeSpec := { name := "fnSave", fn := fun _ => fun
  | [d] => { results := [.lit (.bool false)], args := [d] }
  | _ => none }
def FnSaveWrongFalsely : Prop := fnSaveRow.holds Tryz.pinned (OpenSpec.ofChange fnSaveWrong)

/- THE SECOND FORM. 'bulk': how many values and letters a reading holds, each counted each time it is reached (what is shared counts as often as it is met; a slice's spare places count too). A statement '..UptoSaid' is the law's where the arguments, and the package variables that the reading takes, are together of bulk at most 1048576: NARROWER than '..Said'. Prove '..Said' where nothing that the law and all that it calls make is longer than what came in: it says more and counts as full. Else prove '..UptoSaid'. A law counts once. -/
mutual
def uptoBulk {H : Type} : DataW H → Nat
  | .lit (.string bytes) => bytes.length + 1
  | .lit _ => 1
  | .nil => 1
  | .ptr d => uptoBulk d + 1
  | .slice elems spare => uptoBulkAll elems + uptoBulkAll spare + 1
  | .agg parts => uptoBulkAll parts + 1
  | .iface _ d => uptoBulk d + 1
  | .map entries => uptoBulkEntries entries + 1
  | .held _ => 1
def uptoBulkAll {H : Type} : List (DataW H) → Nat
  | [] => 0
  | d :: r => uptoBulk d + uptoBulkAll r
def uptoBulkEntries {H : Type} : List (Lit × DataW H) → Nat
  | [] => 0
  | x :: r => uptoBulkEntry x + uptoBulkEntries r
def uptoBulkEntry {H : Type} : Lit × DataW H → Nat
  | (.string bytes, d) => bytes.length + uptoBulk d + 1
  | (_, d) => uptoBulk d + 1
 end
def uptoSmall : (H : Type) → List (DataW H) → Bool := fun _ ds => decide (uptoBulkAll ds ≤ 1048576)
def OpenSpec.upto (s : _root_.Go.ChangeSpec) : _root_.Go.OpenSpec := { _root_.Go.OpenSpec.ofChange s with cond := some uptoSmall }

/-- 'laws.FnOpen', WHERE WHAT IT READS IS OF BULK AT MOST 1048576: true; the input reads as it did. -/
def fnOpenUptoRow : OpenClaim := { program := "ytfnncdngfggcjaagreatdoor", sum := "bba246b46db452848c72816a32dd8474bcc8205612add1698af891ed875ab913", func := "loop.example/pub-g03070/laws.FnOpen", spec := "fnOpen", inPlace := ["internal/abi.NoEscape", "internal/bytealg.MakeNoZero", "internal/bytealg.IndexByte", "internal/bytealg.IndexByteString"], unfollowed := true, recurses := true, named := ["io.EOF", "bufio.ErrNegativeCount", "bufio.ErrBufferFull", "bufio.errNegativeRead", "io.ErrNoProgress", "unicode/utf8.first", "unicode/utf8.acceptRanges", "unicode.CaseRanges", "bytes.asciiSpace", "unicode.White_Space", "bytes.ErrTooLarge", "strings.asciiSpace", "unicode.asciiFold", "unicode.caseOrbit", "internal/strconv.uint64pow10", "math/bits.deBruijn32tab", "math/bits.deBruijn64tab"], apart := false, laid := [("math/bits.deBruijn32tab", laid_math_bits_deBruijn32tab), ("math/bits.deBruijn64tab", laid_math_bits_deBruijn64tab)], narrowed := true }
def FnOpenUptoSaid : Prop := fnOpenUptoRow.holds Tryz.pinned (OpenSpec.upto fnOpenSpec)

/-- 'laws.FnNumbers', WHERE WHAT IT READS IS OF BULK AT MOST 1048576: true; the input reads as it did. -/
def fnNumbersUptoRow : OpenClaim := { program := "ytfnncdngfggcjaagreatdoor", sum := "bba246b46db452848c72816a32dd8474bcc8205612add1698af891ed875ab913", func := "loop.example/pub-g03070/laws.FnNumbers", spec := "fnNumbers", inPlace := ["internal/abi.NoEscape", "internal/bytealg.MakeNoZero", "internal/bytealg.IndexByte", "internal/bytealg.IndexByteString"], unfollowed := true, recurses := true, named := ["io.EOF", "bufio.ErrNegativeCount", "bufio.ErrBufferFull", "bufio.errNegativeRead", "io.ErrNoProgress", "unicode/utf8.first", "unicode/utf8.acceptRanges", "unicode.CaseRanges", "bytes.asciiSpace", "unicode.White_Space", "bytes.ErrTooLarge", "strings.asciiSpace", "unicode.asciiFold", "unicode.caseOrbit", "internal/strconv.uint64pow10", "math/bits.deBruijn32tab", "math/bits.deBruijn64tab", "strconv.ErrSyntax", "strconv.ErrRange"], apart := false, laid := [("math/bits.deBruijn32tab", laid_math_bits_deBruijn32tab), ("math/bits.deBruijn64tab", laid_math_bits_deBruijn64tab), ("strconv.ErrSyntax", laid_strconv_ErrSyntax), ("io.EOF", laid_io_EOF), ("strings.asciiSpace", laid_strings_asciiSpace), ("bufio.ErrBufferFull", laid_bufio_ErrBufferFull)], narrowed := true }
def FnNumbersUptoSaid : Prop := fnNumbersUptoRow.holds Tryz.pinned (OpenSpec.upto fnNumbersSpec)

/-- 'laws.FnAgain', WHERE WHAT IT READS IS OF BULK AT MOST 1048576: true; the input reads as it did. -/
def fnAgainUptoRow : OpenClaim := { program := "ytfnncdngfggcjaagreatdoor", sum := "bba246b46db452848c72816a32dd8474bcc8205612add1698af891ed875ab913", func := "loop.example/pub-g03070/laws.FnAgain", spec := "fnAgain", inPlace := ["internal/abi.NoEscape", "internal/bytealg.MakeNoZero", "internal/bytealg.IndexByte", "internal/bytealg.IndexByteString"], unfollowed := true, recurses := true, named := ["io.EOF", "bufio.ErrNegativeCount", "bufio.ErrBufferFull", "bufio.errNegativeRead", "io.ErrNoProgress", "unicode/utf8.first", "unicode/utf8.acceptRanges", "unicode.CaseRanges", "bytes.asciiSpace", "unicode.White_Space", "bytes.ErrTooLarge", "strings.asciiSpace", "unicode.asciiFold", "unicode.caseOrbit", "internal/strconv.uint64pow10", "math/bits.deBruijn32tab", "math/bits.deBruijn64tab", "io.ErrShortWrite"], apart := false, laid := [("math/bits.deBruijn32tab", laid_math_bits_deBruijn32tab), ("math/bits.deBruijn64tab", laid_math_bits_deBruijn64tab)], narrowed := true }
def FnAgainUptoSaid : Prop := fnAgainUptoRow.holds Tryz.pinned (OpenSpec.upto fnAgainSpec)

/-- 'laws.FnSave', WHERE WHAT IT READS IS OF BULK AT MOST 1048576: true; the input reads as it did. -/
def fnSaveUptoRow : OpenClaim := { program := "ytfnncdngfggcjaagreatdoor", sum := "bba246b46db452848c72816a32dd8474bcc8205612add1698af891ed875ab913", func := "loop.example/pub-g03070/laws.FnSave", spec := "fnSave", inPlace := ["internal/abi.NoEscape", "internal/bytealg.MakeNoZero", "internal/bytealg.IndexByte", "internal/bytealg.IndexByteString"], unfollowed := true, recurses := true, named := ["io.EOF", "bufio.ErrNegativeCount", "bufio.ErrBufferFull", "bufio.errNegativeRead", "io.ErrNoProgress", "unicode/utf8.first", "unicode/utf8.acceptRanges", "unicode.CaseRanges", "bytes.asciiSpace", "unicode.White_Space", "bytes.ErrTooLarge", "strings.asciiSpace", "unicode.asciiFold", "unicode.caseOrbit", "internal/strconv.uint64pow10", "math/bits.deBruijn32tab", "math/bits.deBruijn64tab", "io.ErrShortWrite"], apart := false, laid := [("math/bits.deBruijn32tab", laid_math_bits_deBruijn32tab), ("math/bits.deBruijn64tab", laid_math_bits_deBruijn64tab)], narrowed := true }
def FnSaveUptoSaid : Prop := fnSaveUptoRow.holds Tryz.pinned (OpenSpec.upto fnSaveSpec)

end Rows
end Go.Proofs.YtfnncdngfggcjaaGreatDoor
