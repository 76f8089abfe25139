/-
  DERIVED. GIVEN WITH THE SEED: THE PROGRAM's TIES (one call each: nine closed facts by the kernel) AND EACH ROW's TIE, after the 31st guide's Derived/Test/Toyas{Tie, Card}.lean. No idea stands in it: it is a product of the set-up. Laid BY PROGRAM, IN A SANDBOX (cutbox-door.mjs). By AI agents, Wed Nov 11 2026. No macro, syntax, notation, axiom, sorry.
-/
import Derived.Test.YbulkbzioDoorRows
import Derived.LaidByTextLater
import Derived.SevenTiedAt
import Derived.LaidSub
import Derived.LaidOnce
namespace Go.Proofs.YbulkbzioDoor
open Go
set_option maxRecDepth 100000
theorem seatTie1 : Ybad.prog.laidByTextLater [("unicode/utf8.acceptRanges", Rows.laid_unicode_utf8_acceptRanges), ("example.com/marshalry/marshalry/internal/enums.typeBool", Rows.laid_example_com_marshalry_marshalry_internal_enums_typeBool), ("example.com/marshalry/marshalry/internal/enums.typeChar", Rows.laid_example_com_marshalry_marshalry_internal_enums_typeChar), ("example.com/marshalry/marshalry/internal/enums.typeSChar", Rows.laid_example_com_marshalry_marshalry_internal_enums_typeSChar), ("example.com/marshalry/marshalry/internal/enums.typeUChar", Rows.laid_example_com_marshalry_marshalry_internal_enums_typeUChar), ("example.com/marshalry/marshalry/internal/enums.typeShort", Rows.laid_example_com_marshalry_marshalry_internal_enums_typeShort), ("example.com/marshalry/marshalry/internal/enums.typeUShort", Rows.laid_example_com_marshalry_marshalry_internal_enums_typeUShort), ("example.com/marshalry/marshalry/internal/enums.typeInt", Rows.laid_example_com_marshalry_marshalry_internal_enums_typeInt), ("example.com/marshalry/marshalry/internal/enums.typeUInt", Rows.laid_example_com_marshalry_marshalry_internal_enums_typeUInt), ("example.com/marshalry/marshalry/internal/enums.typeLong", Rows.laid_example_com_marshalry_marshalry_internal_enums_typeLong), ("example.com/marshalry/marshalry/internal/enums.typeULong", Rows.laid_example_com_marshalry_marshalry_internal_enums_typeULong), ("example.com/marshalry/marshalry/internal/enums.typeLongLong", Rows.laid_example_com_marshalry_marshalry_internal_enums_typeLongLong), ("example.com/marshalry/marshalry/internal/enums.typeULongLong", Rows.laid_example_com_marshalry_marshalry_internal_enums_typeULongLong)] [.data, .data, .data, .data, .data, .data, .data, .data, .data, .data, .data, .data, .data] true :=
  Program.laidByTextLater_by_one 79 8 33 (by kernel_rfl) (by kernel_rfl) (by kernel_rfl) (by kernel_rfl) (by kernel_rfl) (by kernel_rfl) (fun _ _ => by kernel_rfl)
theorem pin_laid_unicode_utf8_first : Ybad.pinned.checked.prog.pinnedFits "unicode/utf8.first" = true := by kernel_rfl
theorem noOwnUnsafe : Ybad.pinned.checked.prog.headLifts.contains "ownunsafe" = false := by kernel_rfl
theorem tie : Ybad.prog.laidByTextLater [("example.com/marshalry/marshalry/internal/enums.typeBool", Rows.laid_example_com_marshalry_marshalry_internal_enums_typeBool), ("example.com/marshalry/marshalry/internal/enums.typeChar", Rows.laid_example_com_marshalry_marshalry_internal_enums_typeChar), ("example.com/marshalry/marshalry/internal/enums.typeSChar", Rows.laid_example_com_marshalry_marshalry_internal_enums_typeSChar), ("example.com/marshalry/marshalry/internal/enums.typeUChar", Rows.laid_example_com_marshalry_marshalry_internal_enums_typeUChar), ("example.com/marshalry/marshalry/internal/enums.typeShort", Rows.laid_example_com_marshalry_marshalry_internal_enums_typeShort), ("example.com/marshalry/marshalry/internal/enums.typeUShort", Rows.laid_example_com_marshalry_marshalry_internal_enums_typeUShort), ("example.com/marshalry/marshalry/internal/enums.typeInt", Rows.laid_example_com_marshalry_marshalry_internal_enums_typeInt), ("example.com/marshalry/marshalry/internal/enums.typeUInt", Rows.laid_example_com_marshalry_marshalry_internal_enums_typeUInt), ("example.com/marshalry/marshalry/internal/enums.typeLong", Rows.laid_example_com_marshalry_marshalry_internal_enums_typeLong), ("example.com/marshalry/marshalry/internal/enums.typeULong", Rows.laid_example_com_marshalry_marshalry_internal_enums_typeULong), ("example.com/marshalry/marshalry/internal/enums.typeLongLong", Rows.laid_example_com_marshalry_marshalry_internal_enums_typeLongLong), ("example.com/marshalry/marshalry/internal/enums.typeULongLong", Rows.laid_example_com_marshalry_marshalry_internal_enums_typeULongLong)] [.data, .data, .data, .data, .data, .data, .data, .data, .data, .data, .data, .data] true :=
  Program.laidByTextLater.sub seatTie1 ["example.com/marshalry/marshalry/internal/enums.typeBool", "example.com/marshalry/marshalry/internal/enums.typeChar", "example.com/marshalry/marshalry/internal/enums.typeSChar", "example.com/marshalry/marshalry/internal/enums.typeUChar", "example.com/marshalry/marshalry/internal/enums.typeShort", "example.com/marshalry/marshalry/internal/enums.typeUShort", "example.com/marshalry/marshalry/internal/enums.typeInt", "example.com/marshalry/marshalry/internal/enums.typeUInt", "example.com/marshalry/marshalry/internal/enums.typeLong", "example.com/marshalry/marshalry/internal/enums.typeULong", "example.com/marshalry/marshalry/internal/enums.typeLongLong", "example.com/marshalry/marshalry/internal/enums.typeULongLong"] (by kernel_rfl) (by kernel_rfl)
theorem lawS3784AModel_row_tie : Rows.lawS3784AModelRow.laidByTextAt .later Ybad.pinned [.data, .data, .data, .data, .data, .data, .data, .data, .data, .data, .data, .data] true :=
  OpenClaim.laidByTextAt_later rfl rfl tie noOwnUnsafe
theorem lawS3784AValid_row_tie : Rows.lawS3784AValidRow.laidByTextAt .later Ybad.pinned [.data, .data, .data, .data, .data, .data, .data, .data, .data, .data, .data, .data] true :=
  OpenClaim.laidByTextAt_later rfl rfl tie noOwnUnsafe
theorem fits2 : Ybad.pinned.checked.prog.listedFits [("unicode/utf8.acceptRanges", Rows.laid_unicode_utf8_acceptRanges), ("unicode/utf8.first", Rows.laid_unicode_utf8_first)] = true := by
  unfold Program.listedFits
  rw [noOwnUnsafe]
  kernel_rfl
theorem tie2 : Ybad.prog.laidByTextLater [("unicode/utf8.acceptRanges", Rows.laid_unicode_utf8_acceptRanges)] [.data] true :=
  Program.laidByTextLater.sub seatTie1 ["unicode/utf8.acceptRanges"] (by kernel_rfl) (by kernel_rfl)
theorem lawS3784CModel_row_tie : Rows.lawS3784CModelRow.laidByTextAt .later Ybad.pinned [.data, .pinned] true :=
  OpenClaim.laidByTextAt_pinned rfl rfl tie2 rfl rfl rfl rfl (fun y hy _e => by
    simp only [Rows.lawS3784CModelRow, List.zip_cons_cons, List.zip_nil_right, List.mem_cons, List.mem_nil_iff, or_false] at hy
    rcases hy with rfl | rfl
    · cases _e
    · exact ⟨pin_laid_unicode_utf8_first, by kernel_rfl⟩) fits2
theorem lawS3784CBuilt_row_tie : Rows.lawS3784CBuiltRow.laidByTextAt .later Ybad.pinned [.data, .pinned] true :=
  OpenClaim.laidByTextAt_pinned rfl rfl tie2 rfl rfl rfl rfl (fun y hy _e => by
    simp only [Rows.lawS3784CBuiltRow, List.zip_cons_cons, List.zip_nil_right, List.mem_cons, List.mem_nil_iff, or_false] at hy
    rcases hy with rfl | rfl
    · cases _e
    · exact ⟨pin_laid_unicode_utf8_first, by kernel_rfl⟩) fits2
end Go.Proofs.YbulkbzioDoor
