/-
  NARROWER THAN 'FOR EVERY INPUT', by the rows' own cells (each row's printed sentence says how): FnFmtQcPlusExactASCIIQuote: ifaces, laid · FnFmtQcPlainLiteralOrEscape: ifaces, laid · FnFmtFloatIntegerValuedExact: ifaces, laid · FnFmtFloatNonFiniteTable: ifaces, laid · FnFmtbufWriteAppendsExactly: ifaces, laid · FnFmtbufWriteSplitInvariant: ifaces, laid · FnFmtbufWriteStringAppendsExactly: ifaces, laid · FnFmtbufWriteStringScriptAgreesWithWrite: ifaces, laid.
  DERIVED. THE GIVEN ROWS OF THIS SEAT. 8 by the template 'for every input the law returns true; each argument reads behind the call as it read before'; 0 by the template 'total and deterministic' (their statements: YoebuwDoorTotals.lean).
  GIVEN WITH THE SEED: the statements are not yours to turn. If you find one false, say at which input.
  Laid BY PROGRAM, IN A SANDBOX (cutbox-rows.mjs): the forced cells as the released guide's own fill.sh prints them over the translation bf3a56bedec47be6… (all of the seat's roots in one cut). By AI agents, Wed Nov 11 2026. No macro, syntax, notation, axiom, sorry.
-/
import Derived.Test.YoebuwDoorChecked
import GoSem.PinnedTables
import GoSem.Claim
import GoSem.ClaimJoined
import GoSem.ClaimMapViews
import Derived.JoinedTies
import Derived.KernelRfl
namespace Go.Proofs.YoebuwDoor
/- THE CELL 'sum', in the pinned program and in every row, IS THE sha256 OF THE DUMP (.gsa) THAT YoebuwDoorProg.lean LOADS. Nothing in Lean hashes anything: it is a label: what it is worth is what the hold of that sum in a sandbox is worth. -/
noncomputable def Ebug.pinned : Pinned := { name := "yoebuwdoor", sum := "bf3a56bedec47be692708720788d8b465df40f9390d3f359ea4bc27cf3fdf316", checked := Ebug.checked }
namespace Rows
def none {H : Type} : Left H := { results := [], args := [] }

/- WHAT THE LISTED PACKAGE-LEVEL VARIABLES READ AS WHEN THE CALL BEGINS. Each datum BY PROGRAM (the guide's laid-datum.mjs) off the statement by which the dump's own 'gosem.cut.vars' lays the variable. In a bare row this is a premise. The card (YoebuwDoorCards.lean) ties it to the program's text. -/
def laid_github_com_d5_tengo_v2_ErrStringLimit {H : Type} : DataW H := .iface "*errors.errorString" (.ptr (.agg [.lit (.string [101, 120, 99, 101, 101, 100, 105, 110, 103, 32, 115, 116, 114, 105, 110, 103, 32, 115, 105, 122, 101, 32, 108, 105, 109, 105, 116])]))
def laid_github_com_d5_tengo_v2_MaxStringLen {H : Type} : DataW H := .lit (.int .i64 2147483647)
/-- One of Go's own tables, pinned by name: the form's constant. -/
def laid_strconv_isGraphic : DataW Unit := Go.Pinned.isGraphic
/-- One of Go's own tables, pinned by name: the form's constant. -/
def laid_strconv_isNotPrint16 : DataW Unit := Go.Pinned.isNotPrint16
/-- One of Go's own tables, pinned by name: the form's constant. -/
def laid_strconv_isNotPrint32 : DataW Unit := Go.Pinned.isNotPrint32
/-- One of Go's own tables, pinned by name: the form's constant. -/
def laid_strconv_isPrint16 : DataW Unit := Go.Pinned.isPrint16
/-- One of Go's own tables, pinned by name: the form's constant. -/
def laid_strconv_isPrint32 : DataW Unit := Go.Pinned.isPrint32
def laid_math_bits_deBruijn32tab {H : Type} : DataW H := .agg [.lit (.int .u8 0), .lit (.int .u8 1), .lit (.int .u8 28), .lit (.int .u8 2), .lit (.int .u8 29), .lit (.int .u8 14), .lit (.int .u8 24), .lit (.int .u8 3), .lit (.int .u8 30), .lit (.int .u8 22), .lit (.int .u8 20), .lit (.int .u8 15), .lit (.int .u8 25), .lit (.int .u8 17), .lit (.int .u8 4), .lit (.int .u8 8), .lit (.int .u8 31), .lit (.int .u8 27), .lit (.int .u8 13), .lit (.int .u8 23), .lit (.int .u8 21), .lit (.int .u8 19), .lit (.int .u8 16), .lit (.int .u8 7), .lit (.int .u8 26), .lit (.int .u8 12), .lit (.int .u8 18), .lit (.int .u8 6), .lit (.int .u8 11), .lit (.int .u8 5), .lit (.int .u8 10), .lit (.int .u8 9)]
def laid_math_bits_deBruijn64tab {H : Type} : DataW H := .agg [.lit (.int .u8 0), .lit (.int .u8 1), .lit (.int .u8 56), .lit (.int .u8 2), .lit (.int .u8 57), .lit (.int .u8 49), .lit (.int .u8 28), .lit (.int .u8 3), .lit (.int .u8 61), .lit (.int .u8 58), .lit (.int .u8 42), .lit (.int .u8 50), .lit (.int .u8 38), .lit (.int .u8 29), .lit (.int .u8 17), .lit (.int .u8 4), .lit (.int .u8 62), .lit (.int .u8 47), .lit (.int .u8 59), .lit (.int .u8 36), .lit (.int .u8 45), .lit (.int .u8 43), .lit (.int .u8 51), .lit (.int .u8 22), .lit (.int .u8 53), .lit (.int .u8 39), .lit (.int .u8 33), .lit (.int .u8 30), .lit (.int .u8 24), .lit (.int .u8 18), .lit (.int .u8 12), .lit (.int .u8 5), .lit (.int .u8 63), .lit (.int .u8 55), .lit (.int .u8 48), .lit (.int .u8 27), .lit (.int .u8 60), .lit (.int .u8 41), .lit (.int .u8 37), .lit (.int .u8 16), .lit (.int .u8 46), .lit (.int .u8 35), .lit (.int .u8 44), .lit (.int .u8 21), .lit (.int .u8 52), .lit (.int .u8 32), .lit (.int .u8 23), .lit (.int .u8 11), .lit (.int .u8 54), .lit (.int .u8 26), .lit (.int .u8 40), .lit (.int .u8 15), .lit (.int .u8 34), .lit (.int .u8 20), .lit (.int .u8 31), .lit (.int .u8 10), .lit (.int .u8 25), .lit (.int .u8 14), .lit (.int .u8 19), .lit (.int .u8 9), .lit (.int .u8 13), .lit (.int .u8 8), .lit (.int .u8 7), .lit (.int .u8 6)]
def laid_internal_strconv_optimize {H : Type} : DataW H := .lit (.bool true)
def laid_internal_strconv_uint64pow10 {H : Type} : DataW H := .agg [.lit (.int .u64 1), .lit (.int .u64 10), .lit (.int .u64 100), .lit (.int .u64 1000), .lit (.int .u64 10000), .lit (.int .u64 100000), .lit (.int .u64 1000000), .lit (.int .u64 10000000), .lit (.int .u64 100000000), .lit (.int .u64 1000000000), .lit (.int .u64 10000000000), .lit (.int .u64 100000000000), .lit (.int .u64 1000000000000), .lit (.int .u64 10000000000000), .lit (.int .u64 100000000000000), .lit (.int .u64 1000000000000000), .lit (.int .u64 10000000000000000), .lit (.int .u64 100000000000000000), .lit (.int .u64 1000000000000000000), .lit (.int .u64 10000000000000000000)]
/-- One of Go's own tables, pinned by name: the form's constant. -/
def laid_internal_strconv_leftcheats : DataW Unit := Go.Pinned.leftcheats
/-- One of Go's own tables, pinned by name: the form's constant. -/
def laid_internal_strconv_pow10Tab : DataW Unit := Go.Pinned.pow10Tab

/-- 'zzlaws_root_b2.FnFmtQcPlusExactASCIIQuote': WHATEVER THE INPUT: true; the input reads as it did. -/
def fnFmtQcPlusExactASCIIQuoteSpec : ChangeSpec := { name := "fnFmtQcPlusExactASCIIQuote", vars := ["github.com/d5/tengo/v2.MaxStringLen", "github.com/d5/tengo/v2.ErrStringLimit"], fn := fun _ => fun
  | [d1, d2, d3, d4, d5, d6, g1, g2] => { results := [.lit (.bool true)], args := [d1, d2, d3, d4, d5, d6], vars := [g1, g2] }
  | _ => none }
def fnFmtQcPlusExactASCIIQuoteRow : OpenClaim := { program := "yoebuwdoor", sum := "bf3a56bedec47be692708720788d8b465df40f9390d3f359ea4bc27cf3fdf316", func := "github.com/d5/tengo/v2/zzlaws_root_b2.FnFmtQcPlusExactASCIIQuote", spec := "fnFmtQcPlusExactASCIIQuote", named := ["strconv.isPrint16", "strconv.isNotPrint16", "strconv.isPrint32", "strconv.isNotPrint32", "strconv.isGraphic", "github.com/d5/tengo/v2.MaxStringLen", "github.com/d5/tengo/v2.ErrStringLimit"], ifaces := true, apart := false, laid := [("github.com/d5/tengo/v2.ErrStringLimit", laid_github_com_d5_tengo_v2_ErrStringLimit), ("github.com/d5/tengo/v2.MaxStringLen", laid_github_com_d5_tengo_v2_MaxStringLen), ("strconv.isGraphic", laid_strconv_isGraphic), ("strconv.isNotPrint16", laid_strconv_isNotPrint16), ("strconv.isNotPrint32", laid_strconv_isNotPrint32), ("strconv.isPrint16", laid_strconv_isPrint16), ("strconv.isPrint32", laid_strconv_isPrint32)] }
def FnFmtQcPlusExactASCIIQuoteSaid : Prop := fnFmtQcPlusExactASCIIQuoteRow.holds Ebug.pinned (OpenSpec.ofChange fnFmtQcPlusExactASCIIQuoteSpec)

/-- ITS FALSE NEIGHBOUR: 'it returns false'. Refute it at one input. -/
def fnFmtQcPlusExactASCIIQuoteWrong : ChangeSpec := { name := "fnFmtQcPlusExactASCIIQuote", vars := ["github.com/d5/tengo/v2.MaxStringLen", "github.com/d5/tengo/v2.ErrStringLimit"], fn := fun _ => fun
  | [d1, d2, d3, d4, d5, d6, g1, g2] => { results := [.lit (.bool false)], args := [d1, d2, d3, d4, d5, d6], vars := [g1, g2] }
  | _ => none }
def FnFmtQcPlusExactASCIIQuoteWrongFalsely : Prop := fnFmtQcPlusExactASCIIQuoteRow.holds Ebug.pinned (OpenSpec.ofChange fnFmtQcPlusExactASCIIQuoteWrong)

/-- 'zzlaws_root_b2.FnFmtQcPlainLiteralOrEscape': WHATEVER THE INPUT: true; the input reads as it did. -/
def fnFmtQcPlainLiteralOrEscapeSpec : ChangeSpec := { name := "fnFmtQcPlainLiteralOrEscape", vars := ["github.com/d5/tengo/v2.MaxStringLen", "github.com/d5/tengo/v2.ErrStringLimit"], fn := fun _ => fun
  | [d1, d2, g1, g2] => { results := [.lit (.bool true)], args := [d1, d2], vars := [g1, g2] }
  | _ => none }
def fnFmtQcPlainLiteralOrEscapeRow : OpenClaim := { program := "yoebuwdoor", sum := "bf3a56bedec47be692708720788d8b465df40f9390d3f359ea4bc27cf3fdf316", func := "github.com/d5/tengo/v2/zzlaws_root_b2.FnFmtQcPlainLiteralOrEscape", spec := "fnFmtQcPlainLiteralOrEscape", named := ["strconv.isPrint16", "strconv.isNotPrint16", "strconv.isPrint32", "strconv.isNotPrint32", "strconv.isGraphic", "github.com/d5/tengo/v2.MaxStringLen", "github.com/d5/tengo/v2.ErrStringLimit"], ifaces := true, apart := false, laid := [("github.com/d5/tengo/v2.ErrStringLimit", laid_github_com_d5_tengo_v2_ErrStringLimit), ("github.com/d5/tengo/v2.MaxStringLen", laid_github_com_d5_tengo_v2_MaxStringLen), ("strconv.isGraphic", laid_strconv_isGraphic), ("strconv.isNotPrint16", laid_strconv_isNotPrint16), ("strconv.isNotPrint32", laid_strconv_isNotPrint32), ("strconv.isPrint16", laid_strconv_isPrint16), ("strconv.isPrint32", laid_strconv_isPrint32)] }
def FnFmtQcPlainLiteralOrEscapeSaid : Prop := fnFmtQcPlainLiteralOrEscapeRow.holds Ebug.pinned (OpenSpec.ofChange fnFmtQcPlainLiteralOrEscapeSpec)

/-- ITS FALSE NEIGHBOUR: 'it returns false'. Refute it at one input. -/
def fnFmtQcPlainLiteralOrEscapeWrong : ChangeSpec := { name := "fnFmtQcPlainLiteralOrEscape", vars := ["github.com/d5/tengo/v2.MaxStringLen", "github.com/d5/tengo/v2.ErrStringLimit"], fn := fun _ => fun
  | [d1, d2, g1, g2] => { results := [.lit (.bool false)], args := [d1, d2], vars := [g1, g2] }
  | _ => none }
def FnFmtQcPlainLiteralOrEscapeWrongFalsely : Prop := fnFmtQcPlainLiteralOrEscapeRow.holds Ebug.pinned (OpenSpec.ofChange fnFmtQcPlainLiteralOrEscapeWrong)

/-- 'zzlaws_root_b2.FnFmtFloatIntegerValuedExact': WHATEVER THE INPUT: true; the input reads as it did. -/
def fnFmtFloatIntegerValuedExactSpec : ChangeSpec := { name := "fnFmtFloatIntegerValuedExact", vars := ["github.com/d5/tengo/v2.MaxStringLen", "github.com/d5/tengo/v2.ErrStringLimit"], fn := fun _ => fun
  | [d1, d2, d3, d4, d5, d6, d7, d8, d9, g1, g2] => { results := [.lit (.bool true)], args := [d1, d2, d3, d4, d5, d6, d7, d8, d9], vars := [g1, g2] }
  | _ => none }
def fnFmtFloatIntegerValuedExactRow : OpenClaim := { program := "yoebuwdoor", sum := "bf3a56bedec47be692708720788d8b465df40f9390d3f359ea4bc27cf3fdf316", func := "github.com/d5/tengo/v2/zzlaws_root_b2.FnFmtFloatIntegerValuedExact", spec := "fnFmtFloatIntegerValuedExact", inPlace := ["internal/strconv.float32bits", "internal/strconv.float64bits"], named := ["internal/strconv.optimize", "internal/strconv.uint64pow10", "math/bits.deBruijn32tab", "math/bits.deBruijn64tab", "internal/strconv.pow10Tab", "internal/strconv.leftcheats", "github.com/d5/tengo/v2.MaxStringLen", "github.com/d5/tengo/v2.ErrStringLimit"], ifaces := true, apart := false, laid := [("math/bits.deBruijn32tab", laid_math_bits_deBruijn32tab), ("math/bits.deBruijn64tab", laid_math_bits_deBruijn64tab), ("internal/strconv.optimize", laid_internal_strconv_optimize), ("internal/strconv.uint64pow10", laid_internal_strconv_uint64pow10), ("github.com/d5/tengo/v2.ErrStringLimit", laid_github_com_d5_tengo_v2_ErrStringLimit), ("github.com/d5/tengo/v2.MaxStringLen", laid_github_com_d5_tengo_v2_MaxStringLen), ("internal/strconv.leftcheats", laid_internal_strconv_leftcheats), ("internal/strconv.pow10Tab", laid_internal_strconv_pow10Tab)] }
def FnFmtFloatIntegerValuedExactSaid : Prop := fnFmtFloatIntegerValuedExactRow.holds Ebug.pinned (OpenSpec.ofChange fnFmtFloatIntegerValuedExactSpec)

/-- ITS FALSE NEIGHBOUR: 'it returns false'. Refute it at one input. -/
def fnFmtFloatIntegerValuedExactWrong : ChangeSpec := { name := "fnFmtFloatIntegerValuedExact", vars := ["github.com/d5/tengo/v2.MaxStringLen", "github.com/d5/tengo/v2.ErrStringLimit"], fn := fun _ => fun
  | [d1, d2, d3, d4, d5, d6, d7, d8, d9, g1, g2] => { results := [.lit (.bool false)], args := [d1, d2, d3, d4, d5, d6, d7, d8, d9], vars := [g1, g2] }
  | _ => none }
def FnFmtFloatIntegerValuedExactWrongFalsely : Prop := fnFmtFloatIntegerValuedExactRow.holds Ebug.pinned (OpenSpec.ofChange fnFmtFloatIntegerValuedExactWrong)

/-- 'zzlaws_root_b2.FnFmtFloatNonFiniteTable': WHATEVER THE INPUT: true; the input reads as it did. -/
def fnFmtFloatNonFiniteTableSpec : ChangeSpec := { name := "fnFmtFloatNonFiniteTable", vars := ["github.com/d5/tengo/v2.MaxStringLen", "github.com/d5/tengo/v2.ErrStringLimit"], fn := fun _ => fun
  | [d1, d2, d3, d4, d5, d6, d7, d8, d9, d10, d11, g1, g2] => { results := [.lit (.bool true)], args := [d1, d2, d3, d4, d5, d6, d7, d8, d9, d10, d11], vars := [g1, g2] }
  | _ => none }
def fnFmtFloatNonFiniteTableRow : OpenClaim := { program := "yoebuwdoor", sum := "bf3a56bedec47be692708720788d8b465df40f9390d3f359ea4bc27cf3fdf316", func := "github.com/d5/tengo/v2/zzlaws_root_b2.FnFmtFloatNonFiniteTable", spec := "fnFmtFloatNonFiniteTable", inPlace := ["internal/strconv.float32bits", "internal/strconv.float64bits"], named := ["internal/strconv.optimize", "internal/strconv.uint64pow10", "math/bits.deBruijn32tab", "math/bits.deBruijn64tab", "internal/strconv.pow10Tab", "internal/strconv.leftcheats", "github.com/d5/tengo/v2.MaxStringLen", "github.com/d5/tengo/v2.ErrStringLimit"], ifaces := true, apart := false, laid := [("math/bits.deBruijn32tab", laid_math_bits_deBruijn32tab), ("math/bits.deBruijn64tab", laid_math_bits_deBruijn64tab), ("internal/strconv.optimize", laid_internal_strconv_optimize), ("internal/strconv.uint64pow10", laid_internal_strconv_uint64pow10), ("github.com/d5/tengo/v2.ErrStringLimit", laid_github_com_d5_tengo_v2_ErrStringLimit), ("github.com/d5/tengo/v2.MaxStringLen", laid_github_com_d5_tengo_v2_MaxStringLen), ("internal/strconv.leftcheats", laid_internal_strconv_leftcheats), ("internal/strconv.pow10Tab", laid_internal_strconv_pow10Tab)] }
def FnFmtFloatNonFiniteTableSaid : Prop := fnFmtFloatNonFiniteTableRow.holds Ebug.pinned (OpenSpec.ofChange fnFmtFloatNonFiniteTableSpec)

/-- ITS FALSE NEIGHBOUR: 'it returns false'. Refute it at one input. -/
def fnFmtFloatNonFiniteTableWrong : ChangeSpec := { name := "fnFmtFloatNonFiniteTable", vars := ["github.com/d5/tengo/v2.MaxStringLen", "github.com/d5/tengo/v2.ErrStringLimit"], fn := fun _ => fun
  | [d1, d2, d3, d4, d5, d6, d7, d8, d9, d10, d11, g1, g2] => { results := [.lit (.bool false)], args := [d1, d2, d3, d4, d5, d6, d7, d8, d9, d10, d11], vars := [g1, g2] }
  | _ => none }
def FnFmtFloatNonFiniteTableWrongFalsely : Prop := fnFmtFloatNonFiniteTableRow.holds Ebug.pinned (OpenSpec.ofChange fnFmtFloatNonFiniteTableWrong)

/-- 'zzlaws_root_b2.FnFmtbufWriteAppendsExactly': WHATEVER THE INPUT: true; the input reads as it did. -/
def fnFmtbufWriteAppendsExactlySpec : ChangeSpec := { name := "fnFmtbufWriteAppendsExactly", vars := ["github.com/d5/tengo/v2.MaxStringLen", "github.com/d5/tengo/v2.ErrStringLimit"], fn := fun _ => fun
  | [d1, d2, g1, g2] => { results := [.lit (.bool true)], args := [d1, d2], vars := [g1, g2] }
  | _ => none }
def fnFmtbufWriteAppendsExactlyRow : OpenClaim := { program := "yoebuwdoor", sum := "bf3a56bedec47be692708720788d8b465df40f9390d3f359ea4bc27cf3fdf316", func := "github.com/d5/tengo/v2/zzlaws_root_b2.FnFmtbufWriteAppendsExactly", spec := "fnFmtbufWriteAppendsExactly", named := ["github.com/d5/tengo/v2.MaxStringLen", "github.com/d5/tengo/v2.ErrStringLimit"], ifaces := true, apart := false, laid := [("github.com/d5/tengo/v2.ErrStringLimit", laid_github_com_d5_tengo_v2_ErrStringLimit), ("github.com/d5/tengo/v2.MaxStringLen", laid_github_com_d5_tengo_v2_MaxStringLen)] }
def FnFmtbufWriteAppendsExactlySaid : Prop := fnFmtbufWriteAppendsExactlyRow.holds Ebug.pinned (OpenSpec.ofChange fnFmtbufWriteAppendsExactlySpec)

/-- ITS FALSE NEIGHBOUR: 'it returns false'. Refute it at one input. -/
def fnFmtbufWriteAppendsExactlyWrong : ChangeSpec := { name := "fnFmtbufWriteAppendsExactly", vars := ["github.com/d5/tengo/v2.MaxStringLen", "github.com/d5/tengo/v2.ErrStringLimit"], fn := fun _ => fun
  | [d1, d2, g1, g2] => { results := [.lit (.bool false)], args := [d1, d2], vars := [g1, g2] }
  | _ => none }
def FnFmtbufWriteAppendsExactlyWrongFalsely : Prop := fnFmtbufWriteAppendsExactlyRow.holds Ebug.pinned (OpenSpec.ofChange fnFmtbufWriteAppendsExactlyWrong)

/-- 'zzlaws_root_b2.FnFmtbufWriteSplitInvariant': WHATEVER THE INPUT: true; the input reads as it did. -/
def fnFmtbufWriteSplitInvariantSpec : ChangeSpec := { name := "fnFmtbufWriteSplitInvariant", vars := ["github.com/d5/tengo/v2.MaxStringLen", "github.com/d5/tengo/v2.ErrStringLimit"], fn := fun _ => fun
  | [d1, d2, d3, g1, g2] => { results := [.lit (.bool true)], args := [d1, d2, d3], vars := [g1, g2] }
  | _ => none }
def fnFmtbufWriteSplitInvariantRow : OpenClaim := { program := "yoebuwdoor", sum := "bf3a56bedec47be692708720788d8b465df40f9390d3f359ea4bc27cf3fdf316", func := "github.com/d5/tengo/v2/zzlaws_root_b2.FnFmtbufWriteSplitInvariant", spec := "fnFmtbufWriteSplitInvariant", named := ["github.com/d5/tengo/v2.MaxStringLen", "github.com/d5/tengo/v2.ErrStringLimit"], ifaces := true, apart := false, laid := [("github.com/d5/tengo/v2.ErrStringLimit", laid_github_com_d5_tengo_v2_ErrStringLimit), ("github.com/d5/tengo/v2.MaxStringLen", laid_github_com_d5_tengo_v2_MaxStringLen)] }
def FnFmtbufWriteSplitInvariantSaid : Prop := fnFmtbufWriteSplitInvariantRow.holds Ebug.pinned (OpenSpec.ofChange fnFmtbufWriteSplitInvariantSpec)

/-- ITS FALSE NEIGHBOUR: 'it returns false'. Refute it at one input. -/
def fnFmtbufWriteSplitInvariantWrong : ChangeSpec := { name := "fnFmtbufWriteSplitInvariant", vars := ["github.com/d5/tengo/v2.MaxStringLen", "github.com/d5/tengo/v2.ErrStringLimit"], fn := fun _ => fun
  | [d1, d2, d3, g1, g2] => { results := [.lit (.bool false)], args := [d1, d2, d3], vars := [g1, g2] }
  | _ => none }
def FnFmtbufWriteSplitInvariantWrongFalsely : Prop := fnFmtbufWriteSplitInvariantRow.holds Ebug.pinned (OpenSpec.ofChange fnFmtbufWriteSplitInvariantWrong)

/-- 'zzlaws_root_b2.FnFmtbufWriteStringAppendsExactly': WHATEVER THE INPUT: true; the input reads as it did. -/
def fnFmtbufWriteStringAppendsExactlySpec : ChangeSpec := { name := "fnFmtbufWriteStringAppendsExactly", vars := ["github.com/d5/tengo/v2.MaxStringLen", "github.com/d5/tengo/v2.ErrStringLimit"], fn := fun _ => fun
  | [d1, d2, g1, g2] => { results := [.lit (.bool true)], args := [d1, d2], vars := [g1, g2] }
  | _ => none }
def fnFmtbufWriteStringAppendsExactlyRow : OpenClaim := { program := "yoebuwdoor", sum := "bf3a56bedec47be692708720788d8b465df40f9390d3f359ea4bc27cf3fdf316", func := "github.com/d5/tengo/v2/zzlaws_root_b2.FnFmtbufWriteStringAppendsExactly", spec := "fnFmtbufWriteStringAppendsExactly", named := ["github.com/d5/tengo/v2.MaxStringLen", "github.com/d5/tengo/v2.ErrStringLimit"], ifaces := true, apart := false, laid := [("github.com/d5/tengo/v2.ErrStringLimit", laid_github_com_d5_tengo_v2_ErrStringLimit), ("github.com/d5/tengo/v2.MaxStringLen", laid_github_com_d5_tengo_v2_MaxStringLen)] }
def FnFmtbufWriteStringAppendsExactlySaid : Prop := fnFmtbufWriteStringAppendsExactlyRow.holds Ebug.pinned (OpenSpec.ofChange fnFmtbufWriteStringAppendsExactlySpec)

/-- ITS FALSE NEIGHBOUR: 'it returns false'. Refute it at one input. -/
def fnFmtbufWriteStringAppendsExactlyWrong : ChangeSpec := { name := "fnFmtbufWriteStringAppendsExactly", vars := ["github.com/d5/tengo/v2.MaxStringLen", "github.com/d5/tengo/v2.ErrStringLimit"], fn := fun _ => fun
  | [d1, d2, g1, g2] => { results := [.lit (.bool false)], args := [d1, d2], vars := [g1, g2] }
  | _ => none }
def FnFmtbufWriteStringAppendsExactlyWrongFalsely : Prop := fnFmtbufWriteStringAppendsExactlyRow.holds Ebug.pinned (OpenSpec.ofChange fnFmtbufWriteStringAppendsExactlyWrong)

/-- 'zzlaws_root_b2.FnFmtbufWriteStringScriptAgreesWithWrite': WHATEVER THE INPUT: true; the input reads as it did. -/
def fnFmtbufWriteStringScriptAgreesWithWriteSpec : ChangeSpec := { name := "fnFmtbufWriteStringScriptAgreesWithWrite", vars := ["github.com/d5/tengo/v2.MaxStringLen", "github.com/d5/tengo/v2.ErrStringLimit"], fn := fun _ => fun
  | [d1, d2, d3, g1, g2] => { results := [.lit (.bool true)], args := [d1, d2, d3], vars := [g1, g2] }
  | _ => none }
def fnFmtbufWriteStringScriptAgreesWithWriteRow : OpenClaim := { program := "yoebuwdoor", sum := "bf3a56bedec47be692708720788d8b465df40f9390d3f359ea4bc27cf3fdf316", func := "github.com/d5/tengo/v2/zzlaws_root_b2.FnFmtbufWriteStringScriptAgreesWithWrite", spec := "fnFmtbufWriteStringScriptAgreesWithWrite", named := ["github.com/d5/tengo/v2.MaxStringLen", "github.com/d5/tengo/v2.ErrStringLimit"], ifaces := true, apart := false, laid := [("github.com/d5/tengo/v2.ErrStringLimit", laid_github_com_d5_tengo_v2_ErrStringLimit), ("github.com/d5/tengo/v2.MaxStringLen", laid_github_com_d5_tengo_v2_MaxStringLen)] }
def FnFmtbufWriteStringScriptAgreesWithWriteSaid : Prop := fnFmtbufWriteStringScriptAgreesWithWriteRow.holds Ebug.pinned (OpenSpec.ofChange fnFmtbufWriteStringScriptAgreesWithWriteSpec)

/-- ITS FALSE NEIGHBOUR: 'it returns false'. Refute it at one input. -/
def fnFmtbufWriteStringScriptAgreesWithWriteWrong : ChangeSpec := { name := "fnFmtbufWriteStringScriptAgreesWithWrite", vars := ["github.com/d5/tengo/v2.MaxStringLen", "github.com/d5/tengo/v2.ErrStringLimit"], fn := fun _ => fun
  | [d1, d2, d3, g1, g2] => { results := [.lit (.bool false)], args := [d1, d2, d3], vars := [g1, g2] }
  | _ => none }
def FnFmtbufWriteStringScriptAgreesWithWriteWrongFalsely : Prop := fnFmtbufWriteStringScriptAgreesWithWriteRow.holds Ebug.pinned (OpenSpec.ofChange fnFmtbufWriteStringScriptAgreesWithWriteWrong)

end Rows
end Go.Proofs.YoebuwDoor
