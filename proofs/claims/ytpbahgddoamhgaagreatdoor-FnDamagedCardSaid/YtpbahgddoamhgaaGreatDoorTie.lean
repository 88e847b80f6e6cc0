/-
  DERIVED. GIVEN WITH THE SEED: THE PROGRAM's TIES (one call each: nine closed facts by the kernel) AND EACH ROW's TIE, after the 31st guide's Derived/Test/Toyas{Tie, Card}.lean. No idea stands in it: it is a product of the set-up. Laid BY PROGRAM, IN A SANDBOX (cutbox-door.mjs). By AI agents, Wed Nov 11 2026. No macro, syntax, notation, axiom, sorry.
-/
import Derived.Test.YtpbahgddoamhgaaGreatDoorRows
import Derived.LaidByTextLater
import Derived.SevenTiedAt
import Derived.LaidSub
import Derived.LaidOnce
namespace Go.Proofs.YtpbahgddoamhgaaGreatDoor
open Go
set_option maxRecDepth 100000
theorem seatTie1 : Tryz.prog.laidByTextLater [("io.ErrShortBuffer", Rows.laid_io_ErrShortBuffer), ("io.EOF", Rows.laid_io_EOF), ("io.ErrUnexpectedEOF", Rows.laid_io_ErrUnexpectedEOF), ("cratestrap/pub/flate.codeOrder", Rows.laid_cratestrap_pub_flate_codeOrder), ("cratestrap/pub/zlib.ErrChecksum", Rows.laid_cratestrap_pub_zlib_ErrChecksum), ("cratestrap/pub/zlib.ErrDictionary", Rows.laid_cratestrap_pub_zlib_ErrDictionary), ("cratestrap/pub/zlib.ErrHeader", Rows.laid_cratestrap_pub_zlib_ErrHeader)] [.sentinel, .sentinel, .sentinel, .data, .sentinel, .sentinel, .sentinel] true :=
  Program.laidByTextLater_by_one 166 8 20 (by kernel_rfl) (by kernel_rfl) (by kernel_rfl) (by kernel_rfl) (by kernel_rfl) (by kernel_rfl) (fun _ _ => by kernel_rfl)
theorem noOwnUnsafe : Tryz.pinned.checked.prog.headLifts.contains "ownunsafe" = false := by kernel_rfl
theorem tie : Tryz.prog.laidByTextLater [("io.ErrShortBuffer", Rows.laid_io_ErrShortBuffer), ("io.EOF", Rows.laid_io_EOF), ("io.ErrUnexpectedEOF", Rows.laid_io_ErrUnexpectedEOF), ("cratestrap/pub/flate.codeOrder", Rows.laid_cratestrap_pub_flate_codeOrder), ("cratestrap/pub/zlib.ErrChecksum", Rows.laid_cratestrap_pub_zlib_ErrChecksum), ("cratestrap/pub/zlib.ErrDictionary", Rows.laid_cratestrap_pub_zlib_ErrDictionary), ("cratestrap/pub/zlib.ErrHeader", Rows.laid_cratestrap_pub_zlib_ErrHeader)] [.sentinel, .sentinel, .sentinel, .data, .sentinel, .sentinel, .sentinel] true :=
  Program.laidByTextLater.sub seatTie1 ["io.ErrShortBuffer", "io.EOF", "io.ErrUnexpectedEOF", "cratestrap/pub/flate.codeOrder", "cratestrap/pub/zlib.ErrChecksum", "cratestrap/pub/zlib.ErrDictionary", "cratestrap/pub/zlib.ErrHeader"] (by kernel_rfl) (by kernel_rfl)
theorem fnDamaged_row_tie : Rows.fnDamagedRow.laidByTextAt .later Tryz.pinned [.sentinel, .sentinel, .sentinel, .data, .sentinel, .sentinel, .sentinel] true :=
  OpenClaim.laidByTextAt_later rfl rfl tie noOwnUnsafe
theorem fnRaw_row_tie : Rows.fnRawRow.laidByTextAt .later Tryz.pinned [.sentinel, .sentinel, .sentinel, .data, .sentinel, .sentinel, .sentinel] true :=
  OpenClaim.laidByTextAt_later rfl rfl tie noOwnUnsafe
theorem fnDamagedUpto_row_tie : Rows.fnDamagedUptoRow.laidByTextAt .later Tryz.pinned [.sentinel, .sentinel, .sentinel, .data, .sentinel, .sentinel, .sentinel] true :=
  OpenClaim.laidByTextAt_later rfl rfl tie noOwnUnsafe
theorem fnRawUpto_row_tie : Rows.fnRawUptoRow.laidByTextAt .later Tryz.pinned [.sentinel, .sentinel, .sentinel, .data, .sentinel, .sentinel, .sentinel] true :=
  OpenClaim.laidByTextAt_later rfl rfl tie noOwnUnsafe
end Go.Proofs.YtpbahgddoamhgaaGreatDoor
