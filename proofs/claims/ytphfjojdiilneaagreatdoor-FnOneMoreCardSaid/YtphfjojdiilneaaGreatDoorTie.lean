/-
  DERIVED. GIVEN WITH THE SEED: THE PROGRAM's TIES (one call each: nine closed facts by the kernel) AND EACH ROW's TIE, after the 31st guide's Derived/Test/Toyas{Tie, Card}.lean. No idea stands in it: it is a product of the set-up. Laid BY PROGRAM, IN A SANDBOX (cutbox-door.mjs). By AI agents, Wed Nov 11 2026. No macro, syntax, notation, axiom, sorry.
-/
import Derived.Test.YtphfjojdiilneaaGreatDoorRows
import Derived.LaidByTextLater
import Derived.SevenTiedAt
import Derived.LaidSub
import Derived.LaidOnce
namespace Go.Proofs.YtphfjojdiilneaaGreatDoor
open Go
set_option maxRecDepth 100000
theorem seatTie1 : Tryz.prog.laidByTextLater [("stowage/pub/gotypes.basicSizes", Rows.laid_stowage_pub_gotypes_basicSizes)] [.data] true :=
  Program.laidByTextLater_by_one 29 8 257 (by kernel_rfl) (by kernel_rfl) (by kernel_rfl) (by kernel_rfl) (by kernel_rfl) (by kernel_rfl) (fun _ _ => by kernel_rfl)
theorem noOwnUnsafe : Tryz.pinned.checked.prog.headLifts.contains "ownunsafe" = false := by kernel_rfl
theorem tie : Tryz.prog.laidByTextLater [("stowage/pub/gotypes.basicSizes", Rows.laid_stowage_pub_gotypes_basicSizes)] [.data] true :=
  Program.laidByTextLater.sub seatTie1 ["stowage/pub/gotypes.basicSizes"] (by kernel_rfl) (by kernel_rfl)
theorem fnAlignParts_row_tie : Rows.fnAlignPartsRow.laidByTextAt .later Tryz.pinned [.data] true :=
  OpenClaim.laidByTextAt_later rfl rfl tie noOwnUnsafe
theorem fnAlignof_row_tie : Rows.fnAlignofRow.laidByTextAt .later Tryz.pinned [.data] true :=
  OpenClaim.laidByTextAt_later rfl rfl tie noOwnUnsafe
theorem fnAlignofAny_row_tie : Rows.fnAlignofAnyRow.laidByTextAt .later Tryz.pinned [.data] true :=
  OpenClaim.laidByTextAt_later rfl rfl tie noOwnUnsafe
theorem fnArrayStruct_row_tie : Rows.fnArrayStructRow.laidByTextAt .later Tryz.pinned [.data] true :=
  OpenClaim.laidByTextAt_later rfl rfl tie noOwnUnsafe
theorem fnGuaranteed_row_tie : Rows.fnGuaranteedRow.laidByTextAt .later Tryz.pinned [.data] true :=
  OpenClaim.laidByTextAt_later rfl rfl tie noOwnUnsafe
theorem fnNothing_row_tie : Rows.fnNothingRow.laidByTextAt .later Tryz.pinned [.data] true :=
  OpenClaim.laidByTextAt_later rfl rfl tie noOwnUnsafe
theorem fnSizeof_row_tie : Rows.fnSizeofRow.laidByTextAt .later Tryz.pinned [.data] true :=
  OpenClaim.laidByTextAt_later rfl rfl tie noOwnUnsafe
theorem fnSizeofAny_row_tie : Rows.fnSizeofAnyRow.laidByTextAt .later Tryz.pinned [.data] true :=
  OpenClaim.laidByTextAt_later rfl rfl tie noOwnUnsafe
theorem fnWords_row_tie : Rows.fnWordsRow.laidByTextAt .later Tryz.pinned [.data] true :=
  OpenClaim.laidByTextAt_later rfl rfl tie noOwnUnsafe
theorem fnOffsetsof_row_tie : Rows.fnOffsetsofRow.laidByTextAt .later Tryz.pinned [.data] true :=
  OpenClaim.laidByTextAt_later rfl rfl tie noOwnUnsafe
theorem fnOneMore_row_tie : Rows.fnOneMoreRow.laidByTextAt .later Tryz.pinned [.data] true :=
  OpenClaim.laidByTextAt_later rfl rfl tie noOwnUnsafe
theorem fnOffsetsApart_row_tie : Rows.fnOffsetsApartRow.laidByTextAt .later Tryz.pinned [.data] true :=
  OpenClaim.laidByTextAt_later rfl rfl tie noOwnUnsafe
theorem fnAlignPartsUpto_row_tie : Rows.fnAlignPartsUptoRow.laidByTextAt .later Tryz.pinned [.data] true :=
  OpenClaim.laidByTextAt_later rfl rfl tie noOwnUnsafe
theorem fnAlignofUpto_row_tie : Rows.fnAlignofUptoRow.laidByTextAt .later Tryz.pinned [.data] true :=
  OpenClaim.laidByTextAt_later rfl rfl tie noOwnUnsafe
theorem fnAlignofAnyUpto_row_tie : Rows.fnAlignofAnyUptoRow.laidByTextAt .later Tryz.pinned [.data] true :=
  OpenClaim.laidByTextAt_later rfl rfl tie noOwnUnsafe
theorem fnArrayStructUpto_row_tie : Rows.fnArrayStructUptoRow.laidByTextAt .later Tryz.pinned [.data] true :=
  OpenClaim.laidByTextAt_later rfl rfl tie noOwnUnsafe
theorem fnGuaranteedUpto_row_tie : Rows.fnGuaranteedUptoRow.laidByTextAt .later Tryz.pinned [.data] true :=
  OpenClaim.laidByTextAt_later rfl rfl tie noOwnUnsafe
theorem fnNothingUpto_row_tie : Rows.fnNothingUptoRow.laidByTextAt .later Tryz.pinned [.data] true :=
  OpenClaim.laidByTextAt_later rfl rfl tie noOwnUnsafe
theorem fnSizeofUpto_row_tie : Rows.fnSizeofUptoRow.laidByTextAt .later Tryz.pinned [.data] true :=
  OpenClaim.laidByTextAt_later rfl rfl tie noOwnUnsafe
theorem fnSizeofAnyUpto_row_tie : Rows.fnSizeofAnyUptoRow.laidByTextAt .later Tryz.pinned [.data] true :=
  OpenClaim.laidByTextAt_later rfl rfl tie noOwnUnsafe
theorem fnWordsUpto_row_tie : Rows.fnWordsUptoRow.laidByTextAt .later Tryz.pinned [.data] true :=
  OpenClaim.laidByTextAt_later rfl rfl tie noOwnUnsafe
theorem fnOffsetsofUpto_row_tie : Rows.fnOffsetsofUptoRow.laidByTextAt .later Tryz.pinned [.data] true :=
  OpenClaim.laidByTextAt_later rfl rfl tie noOwnUnsafe
theorem fnOneMoreUpto_row_tie : Rows.fnOneMoreUptoRow.laidByTextAt .later Tryz.pinned [.data] true :=
  OpenClaim.laidByTextAt_later rfl rfl tie noOwnUnsafe
theorem fnOffsetsApartUpto_row_tie : Rows.fnOffsetsApartUptoRow.laidByTextAt .later Tryz.pinned [.data] true :=
  OpenClaim.laidByTextAt_later rfl rfl tie noOwnUnsafe
end Go.Proofs.YtphfjojdiilneaaGreatDoor
