/-
  DERIVED. GIVEN WITH THE SEED: THE PROGRAM's TIES (one call each: nine closed facts by the kernel) AND EACH ROW's TIE, after the 31st guide's Derived/Test/Toyas{Tie, Card}.lean. No idea stands in it: it is a product of the set-up. Laid BY PROGRAM, IN A SANDBOX (cutbox-door.mjs). By AI agents, Wed Nov 11 2026. No macro, syntax, notation, axiom, sorry.
-/
import Derived.Test.YtmkdpjicgjhhjaaGreatDoorRows
import Derived.LaidByTextLater
import Derived.SevenTiedAt
import Derived.LaidSub
import Derived.LaidOnce
namespace Go.Proofs.YtmkdpjicgjhhjaaGreatDoor
open Go
set_option maxRecDepth 100000
theorem seatTie1 : Tryz.prog.laidByTextLater [("io.EOF", Rows.laid_io_EOF), ("bytes.ErrTooLarge", Rows.laid_bytes_ErrTooLarge), ("logsandtables/pub/goleveldb/leveldb/comparer.DefaultComparer", Rows.laid_logsandtables_pub_goleveldb_leveldb_comparer_DefaultComparer), ("logsandtables/pub/goleveldb/leveldb/opt.DefaultBlockRestartInterval", Rows.laid_logsandtables_pub_goleveldb_leveldb_opt_DefaultBlockRestartInterval), ("logsandtables/pub/goleveldb/leveldb/opt.DefaultBlockSize", Rows.laid_logsandtables_pub_goleveldb_leveldb_opt_DefaultBlockSize), ("logsandtables/pub/goleveldb/leveldb/opt.DefaultCompressionType", Rows.laid_logsandtables_pub_goleveldb_leveldb_opt_DefaultCompressionType)] [.sentinel, .sentinel, .wider, .data, .data, .data] true :=
  Program.laidByTextLater_by_one 83 8 2 (by kernel_rfl) (by kernel_rfl) (by kernel_rfl) (by kernel_rfl) (by kernel_rfl) (by kernel_rfl) (fun _ _ => by kernel_rfl)
theorem noOwnUnsafe : Tryz.pinned.checked.prog.headLifts.contains "ownunsafe" = false := by kernel_rfl
theorem tie : Tryz.prog.laidByTextLater [("io.EOF", Rows.laid_io_EOF), ("bytes.ErrTooLarge", Rows.laid_bytes_ErrTooLarge), ("logsandtables/pub/goleveldb/leveldb/comparer.DefaultComparer", Rows.laid_logsandtables_pub_goleveldb_leveldb_comparer_DefaultComparer), ("logsandtables/pub/goleveldb/leveldb/opt.DefaultBlockRestartInterval", Rows.laid_logsandtables_pub_goleveldb_leveldb_opt_DefaultBlockRestartInterval), ("logsandtables/pub/goleveldb/leveldb/opt.DefaultBlockSize", Rows.laid_logsandtables_pub_goleveldb_leveldb_opt_DefaultBlockSize), ("logsandtables/pub/goleveldb/leveldb/opt.DefaultCompressionType", Rows.laid_logsandtables_pub_goleveldb_leveldb_opt_DefaultCompressionType)] [.sentinel, .sentinel, .wider, .data, .data, .data] true :=
  Program.laidByTextLater.sub seatTie1 ["io.EOF", "bytes.ErrTooLarge", "logsandtables/pub/goleveldb/leveldb/comparer.DefaultComparer", "logsandtables/pub/goleveldb/leveldb/opt.DefaultBlockRestartInterval", "logsandtables/pub/goleveldb/leveldb/opt.DefaultBlockSize", "logsandtables/pub/goleveldb/leveldb/opt.DefaultCompressionType"] (by kernel_rfl) (by kernel_rfl)
theorem fnTableComesBack_row_tie : Rows.fnTableComesBackRow.laidByTextAt .later Tryz.pinned [.sentinel, .sentinel, .wider, .data, .data, .data] true :=
  OpenClaim.laidByTextAt_later rfl rfl tie noOwnUnsafe
theorem fnTableComesBackUpto_row_tie : Rows.fnTableComesBackUptoRow.laidByTextAt .later Tryz.pinned [.sentinel, .sentinel, .wider, .data, .data, .data] true :=
  OpenClaim.laidByTextAt_later rfl rfl tie noOwnUnsafe
end Go.Proofs.YtmkdpjicgjhhjaaGreatDoor
