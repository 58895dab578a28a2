/-
  DERIVED. GIVEN WITH THE SEED: THE PROGRAM's TIES (one call each: nine closed facts by the kernel) AND EACH ROW's TIE, after the 31st guide's Derived/Test/Toyas{Tie, Card}.lean. No idea stands in it: it is a product of the set-up. Laid BY PROGRAM, IN A SANDBOX (cutbox-door.mjs). By AI agents, Wed Nov 11 2026. No macro, syntax, notation, axiom, sorry.
-/
import Derived.Test.YoebuwDoorRows
import Derived.LaidByTextLater
import Derived.SevenTiedAt
import Derived.LaidSub
import Derived.LaidOnce
namespace Go.Proofs.YoebuwDoor
open Go
set_option maxRecDepth 100000
theorem seatTie1 : Ebug.prog.laidByTextLater [("math/bits.deBruijn32tab", Rows.laid_math_bits_deBruijn32tab), ("math/bits.deBruijn64tab", Rows.laid_math_bits_deBruijn64tab), ("internal/strconv.optimize", Rows.laid_internal_strconv_optimize), ("internal/strconv.uint64pow10", Rows.laid_internal_strconv_uint64pow10), ("github.com/d5/tengo/v2.ErrStringLimit", Rows.laid_github_com_d5_tengo_v2_ErrStringLimit), ("github.com/d5/tengo/v2.MaxStringLen", Rows.laid_github_com_d5_tengo_v2_MaxStringLen)] [.data, .data, .data, .data, .called, .data] true :=
  Program.laidByTextLater_by_one 51 8 65 (by kernel_rfl) (by kernel_rfl) (by kernel_rfl) (by kernel_rfl) (by kernel_rfl) (by kernel_rfl) (fun _ _ => by kernel_rfl)
theorem pin_laid_strconv_isGraphic : Ebug.pinned.checked.prog.pinnedFits "strconv.isGraphic" = true := by kernel_rfl
theorem pin_laid_strconv_isNotPrint16 : Ebug.pinned.checked.prog.pinnedFits "strconv.isNotPrint16" = true := by kernel_rfl
theorem pin_laid_strconv_isNotPrint32 : Ebug.pinned.checked.prog.pinnedFits "strconv.isNotPrint32" = true := by kernel_rfl
theorem pin_laid_strconv_isPrint16 : Ebug.pinned.checked.prog.pinnedFits "strconv.isPrint16" = true := by kernel_rfl
theorem pin_laid_strconv_isPrint32 : Ebug.pinned.checked.prog.pinnedFits "strconv.isPrint32" = true := by kernel_rfl
theorem pin_laid_internal_strconv_leftcheats : Ebug.pinned.checked.prog.pinnedFits "internal/strconv.leftcheats" = true := by kernel_rfl
theorem pin_laid_internal_strconv_pow10Tab : Ebug.pinned.checked.prog.pinnedFits "internal/strconv.pow10Tab" = true := by kernel_rfl
theorem noOwnUnsafe : Ebug.pinned.checked.prog.headLifts.contains "ownunsafe" = false := by kernel_rfl
theorem fits1 : Ebug.pinned.checked.prog.listedFits [("github.com/d5/tengo/v2.ErrStringLimit", Rows.laid_github_com_d5_tengo_v2_ErrStringLimit), ("github.com/d5/tengo/v2.MaxStringLen", Rows.laid_github_com_d5_tengo_v2_MaxStringLen), ("strconv.isGraphic", Rows.laid_strconv_isGraphic), ("strconv.isNotPrint16", Rows.laid_strconv_isNotPrint16), ("strconv.isNotPrint32", Rows.laid_strconv_isNotPrint32), ("strconv.isPrint16", Rows.laid_strconv_isPrint16), ("strconv.isPrint32", Rows.laid_strconv_isPrint32)] = true := by
  unfold Program.listedFits
  rw [noOwnUnsafe]
  kernel_rfl
theorem tie : Ebug.prog.laidByTextLater [("github.com/d5/tengo/v2.ErrStringLimit", Rows.laid_github_com_d5_tengo_v2_ErrStringLimit), ("github.com/d5/tengo/v2.MaxStringLen", Rows.laid_github_com_d5_tengo_v2_MaxStringLen)] [.called, .data] true :=
  Program.laidByTextLater.sub seatTie1 ["github.com/d5/tengo/v2.ErrStringLimit", "github.com/d5/tengo/v2.MaxStringLen"] (by kernel_rfl) (by kernel_rfl)
theorem fnFmtQcPlusExactASCIIQuote_row_tie : Rows.fnFmtQcPlusExactASCIIQuoteRow.laidByTextAt .later Ebug.pinned [.called, .data, .pinned, .pinned, .pinned, .pinned, .pinned] true :=
  OpenClaim.laidByTextAt_pinned rfl rfl tie rfl rfl rfl rfl (fun y hy _e => by
    simp only [Rows.fnFmtQcPlusExactASCIIQuoteRow, List.zip_cons_cons, List.zip_nil_right, List.mem_cons, List.mem_nil_iff, or_false] at hy
    rcases hy with rfl | rfl | rfl | rfl | rfl | rfl | rfl
    · cases _e
    · cases _e
    · exact ⟨pin_laid_strconv_isGraphic, by kernel_rfl⟩
    · exact ⟨pin_laid_strconv_isNotPrint16, by kernel_rfl⟩
    · exact ⟨pin_laid_strconv_isNotPrint32, by kernel_rfl⟩
    · exact ⟨pin_laid_strconv_isPrint16, by kernel_rfl⟩
    · exact ⟨pin_laid_strconv_isPrint32, by kernel_rfl⟩) fits1
theorem fnFmtQcPlainLiteralOrEscape_row_tie : Rows.fnFmtQcPlainLiteralOrEscapeRow.laidByTextAt .later Ebug.pinned [.called, .data, .pinned, .pinned, .pinned, .pinned, .pinned] true :=
  OpenClaim.laidByTextAt_pinned rfl rfl tie rfl rfl rfl rfl (fun y hy _e => by
    simp only [Rows.fnFmtQcPlainLiteralOrEscapeRow, List.zip_cons_cons, List.zip_nil_right, List.mem_cons, List.mem_nil_iff, or_false] at hy
    rcases hy with rfl | rfl | rfl | rfl | rfl | rfl | rfl
    · cases _e
    · cases _e
    · exact ⟨pin_laid_strconv_isGraphic, by kernel_rfl⟩
    · exact ⟨pin_laid_strconv_isNotPrint16, by kernel_rfl⟩
    · exact ⟨pin_laid_strconv_isNotPrint32, by kernel_rfl⟩
    · exact ⟨pin_laid_strconv_isPrint16, by kernel_rfl⟩
    · exact ⟨pin_laid_strconv_isPrint32, by kernel_rfl⟩) fits1
theorem fits2 : Ebug.pinned.checked.prog.listedFits [("math/bits.deBruijn32tab", Rows.laid_math_bits_deBruijn32tab), ("math/bits.deBruijn64tab", Rows.laid_math_bits_deBruijn64tab), ("internal/strconv.optimize", Rows.laid_internal_strconv_optimize), ("internal/strconv.uint64pow10", Rows.laid_internal_strconv_uint64pow10), ("github.com/d5/tengo/v2.ErrStringLimit", Rows.laid_github_com_d5_tengo_v2_ErrStringLimit), ("github.com/d5/tengo/v2.MaxStringLen", Rows.laid_github_com_d5_tengo_v2_MaxStringLen), ("internal/strconv.leftcheats", Rows.laid_internal_strconv_leftcheats), ("internal/strconv.pow10Tab", Rows.laid_internal_strconv_pow10Tab)] = true := by
  unfold Program.listedFits
  rw [noOwnUnsafe]
  kernel_rfl
theorem tie2 : Ebug.prog.laidByTextLater [("math/bits.deBruijn32tab", Rows.laid_math_bits_deBruijn32tab), ("math/bits.deBruijn64tab", Rows.laid_math_bits_deBruijn64tab), ("internal/strconv.optimize", Rows.laid_internal_strconv_optimize), ("internal/strconv.uint64pow10", Rows.laid_internal_strconv_uint64pow10), ("github.com/d5/tengo/v2.ErrStringLimit", Rows.laid_github_com_d5_tengo_v2_ErrStringLimit), ("github.com/d5/tengo/v2.MaxStringLen", Rows.laid_github_com_d5_tengo_v2_MaxStringLen)] [.data, .data, .data, .data, .called, .data] true :=
  Program.laidByTextLater.sub seatTie1 ["math/bits.deBruijn32tab", "math/bits.deBruijn64tab", "internal/strconv.optimize", "internal/strconv.uint64pow10", "github.com/d5/tengo/v2.ErrStringLimit", "github.com/d5/tengo/v2.MaxStringLen"] (by kernel_rfl) (by kernel_rfl)
theorem fnFmtFloatIntegerValuedExact_row_tie : Rows.fnFmtFloatIntegerValuedExactRow.laidByTextAt .later Ebug.pinned [.data, .data, .data, .data, .called, .data, .pinned, .pinned] true :=
  OpenClaim.laidByTextAt_pinned rfl rfl tie2 rfl rfl rfl rfl (fun y hy _e => by
    simp only [Rows.fnFmtFloatIntegerValuedExactRow, List.zip_cons_cons, List.zip_nil_right, List.mem_cons, List.mem_nil_iff, or_false] at hy
    rcases hy with rfl | rfl | rfl | rfl | rfl | rfl | rfl | rfl
    · cases _e
    · cases _e
    · cases _e
    · cases _e
    · cases _e
    · cases _e
    · exact ⟨pin_laid_internal_strconv_leftcheats, by kernel_rfl⟩
    · exact ⟨pin_laid_internal_strconv_pow10Tab, by kernel_rfl⟩) fits2
theorem fnFmtFloatNonFiniteTable_row_tie : Rows.fnFmtFloatNonFiniteTableRow.laidByTextAt .later Ebug.pinned [.data, .data, .data, .data, .called, .data, .pinned, .pinned] true :=
  OpenClaim.laidByTextAt_pinned rfl rfl tie2 rfl rfl rfl rfl (fun y hy _e => by
    simp only [Rows.fnFmtFloatNonFiniteTableRow, List.zip_cons_cons, List.zip_nil_right, List.mem_cons, List.mem_nil_iff, or_false] at hy
    rcases hy with rfl | rfl | rfl | rfl | rfl | rfl | rfl | rfl
    · cases _e
    · cases _e
    · cases _e
    · cases _e
    · cases _e
    · cases _e
    · exact ⟨pin_laid_internal_strconv_leftcheats, by kernel_rfl⟩
    · exact ⟨pin_laid_internal_strconv_pow10Tab, by kernel_rfl⟩) fits2
theorem tie3 : Ebug.prog.laidByTextLater [("github.com/d5/tengo/v2.ErrStringLimit", Rows.laid_github_com_d5_tengo_v2_ErrStringLimit), ("github.com/d5/tengo/v2.MaxStringLen", Rows.laid_github_com_d5_tengo_v2_MaxStringLen)] [.called, .data] true :=
  Program.laidByTextLater.sub seatTie1 ["github.com/d5/tengo/v2.ErrStringLimit", "github.com/d5/tengo/v2.MaxStringLen"] (by kernel_rfl) (by kernel_rfl)
theorem fnFmtbufWriteAppendsExactly_row_tie : Rows.fnFmtbufWriteAppendsExactlyRow.laidByTextAt .later Ebug.pinned [.called, .data] true :=
  OpenClaim.laidByTextAt_later rfl rfl tie3 noOwnUnsafe
theorem fnFmtbufWriteSplitInvariant_row_tie : Rows.fnFmtbufWriteSplitInvariantRow.laidByTextAt .later Ebug.pinned [.called, .data] true :=
  OpenClaim.laidByTextAt_later rfl rfl tie3 noOwnUnsafe
theorem fnFmtbufWriteStringAppendsExactly_row_tie : Rows.fnFmtbufWriteStringAppendsExactlyRow.laidByTextAt .later Ebug.pinned [.called, .data] true :=
  OpenClaim.laidByTextAt_later rfl rfl tie3 noOwnUnsafe
theorem fnFmtbufWriteStringScriptAgreesWithWrite_row_tie : Rows.fnFmtbufWriteStringScriptAgreesWithWriteRow.laidByTextAt .later Ebug.pinned [.called, .data] true :=
  OpenClaim.laidByTextAt_later rfl rfl tie3 noOwnUnsafe
end Go.Proofs.YoebuwDoor
