/-
  DERIVED. GIVEN WITH THE SEED: THE PROGRAM's TIES (one call each: nine closed facts by the kernel) AND EACH ROW's TIE, after the 31st guide's Derived/Test/Toyas{Tie, Card}.lean. No idea stands in it: it is a product of the set-up. Laid BY PROGRAM, IN A SANDBOX (cutbox-door.mjs). By AI agents, Wed Nov 11 2026. No macro, syntax, notation, axiom, sorry.
-/
import Derived.Test.YtdkkkikcigjlhaaGreatDoorRows
import Derived.LaidByTextLater
import Derived.SevenTiedAt
import Derived.LaidSub
import Derived.LaidOnce
namespace Go.Proofs.YtdkkkikcigjlhaaGreatDoor
open Go
set_option maxRecDepth 100000
theorem seatTie1 : Tryz.prog.laidByTextLater [("pub-lockfold/pub/goleveldb/leveldb/errors.ErrNotFound", Rows.laid_pub_lockfold_pub_goleveldb_leveldb_errors_ErrNotFound), ("pub-lockfold/pub/goleveldb/leveldb/comparer.DefaultComparer", Rows.laid_pub_lockfold_pub_goleveldb_leveldb_comparer_DefaultComparer), ("pub-lockfold/pub/goleveldb/leveldb/iterator.ErrIterReleased", Rows.laid_pub_lockfold_pub_goleveldb_leveldb_iterator_ErrIterReleased), ("pub-lockfold/pub/goleveldb/leveldb.ErrSnapshotReleased", Rows.laid_pub_lockfold_pub_goleveldb_leveldb_ErrSnapshotReleased), ("pub-lockfold/pub/goleveldb/leveldb.ErrIterReleased", Rows.laid_pub_lockfold_pub_goleveldb_leveldb_ErrIterReleased), ("pub-lockfold/pub/goleveldb/leveldb.ErrClosed", Rows.laid_pub_lockfold_pub_goleveldb_leveldb_ErrClosed)] [.sentinel, .wider, .sentinel, .sentinel, .sentinel, .sentinel] true :=
  Program.laidByTextLater_by_one 128 8 2 (by kernel_rfl) (by kernel_rfl) (by kernel_rfl) (by kernel_rfl) (by kernel_rfl) (by kernel_rfl) (fun _ _ => by kernel_rfl)
theorem noOwnUnsafe : Tryz.pinned.checked.prog.headLifts.contains "ownunsafe" = false := by kernel_rfl
theorem tie : Tryz.prog.laidByTextLater [("pub-lockfold/pub/goleveldb/leveldb/comparer.DefaultComparer", Rows.laid_pub_lockfold_pub_goleveldb_leveldb_comparer_DefaultComparer)] [.wider] true :=
  Program.laidByTextLater.sub seatTie1 ["pub-lockfold/pub/goleveldb/leveldb/comparer.DefaultComparer"] (by kernel_rfl) (by kernel_rfl)
theorem fnBatchRecovers_row_tie : Rows.fnBatchRecoversRow.laidByTextAt .later Tryz.pinned [.wider] true :=
  OpenClaim.laidByTextAt_later rfl rfl tie noOwnUnsafe
theorem tie2 : Tryz.prog.laidByTextLater [("pub-lockfold/pub/goleveldb/leveldb/errors.ErrNotFound", Rows.laid_pub_lockfold_pub_goleveldb_leveldb_errors_ErrNotFound), ("pub-lockfold/pub/goleveldb/leveldb/comparer.DefaultComparer", Rows.laid_pub_lockfold_pub_goleveldb_leveldb_comparer_DefaultComparer), ("pub-lockfold/pub/goleveldb/leveldb/iterator.ErrIterReleased", Rows.laid_pub_lockfold_pub_goleveldb_leveldb_iterator_ErrIterReleased), ("pub-lockfold/pub/goleveldb/leveldb.ErrSnapshotReleased", Rows.laid_pub_lockfold_pub_goleveldb_leveldb_ErrSnapshotReleased), ("pub-lockfold/pub/goleveldb/leveldb.ErrIterReleased", Rows.laid_pub_lockfold_pub_goleveldb_leveldb_ErrIterReleased), ("pub-lockfold/pub/goleveldb/leveldb.ErrClosed", Rows.laid_pub_lockfold_pub_goleveldb_leveldb_ErrClosed)] [.sentinel, .wider, .sentinel, .sentinel, .sentinel, .sentinel] true :=
  Program.laidByTextLater.sub seatTie1 ["pub-lockfold/pub/goleveldb/leveldb/errors.ErrNotFound", "pub-lockfold/pub/goleveldb/leveldb/comparer.DefaultComparer", "pub-lockfold/pub/goleveldb/leveldb/iterator.ErrIterReleased", "pub-lockfold/pub/goleveldb/leveldb.ErrSnapshotReleased", "pub-lockfold/pub/goleveldb/leveldb.ErrIterReleased", "pub-lockfold/pub/goleveldb/leveldb.ErrClosed"] (by kernel_rfl) (by kernel_rfl)
theorem fnArrayWalk_row_tie : Rows.fnArrayWalkRow.laidByTextAt .later Tryz.pinned [.sentinel, .wider, .sentinel, .sentinel, .sentinel, .sentinel] true :=
  OpenClaim.laidByTextAt_later rfl rfl tie2 noOwnUnsafe
theorem fnMemWalk_row_tie : Rows.fnMemWalkRow.laidByTextAt .later Tryz.pinned [.sentinel, .wider, .sentinel, .sentinel, .sentinel, .sentinel] true :=
  OpenClaim.laidByTextAt_later rfl rfl tie2 noOwnUnsafe
theorem fnMergedWalk_row_tie : Rows.fnMergedWalkRow.laidByTextAt .later Tryz.pinned [.sentinel, .wider, .sentinel, .sentinel, .sentinel, .sentinel] true :=
  OpenClaim.laidByTextAt_later rfl rfl tie2 noOwnUnsafe
theorem fnIndexedWalk_row_tie : Rows.fnIndexedWalkRow.laidByTextAt .later Tryz.pinned [.sentinel, .wider, .sentinel, .sentinel, .sentinel, .sentinel] true :=
  OpenClaim.laidByTextAt_later rfl rfl tie2 noOwnUnsafe
theorem fnMemMap_row_tie : Rows.fnMemMapRow.laidByTextAt .later Tryz.pinned [.sentinel, .wider, .sentinel, .sentinel, .sentinel, .sentinel] true :=
  OpenClaim.laidByTextAt_later rfl rfl tie2 noOwnUnsafe
theorem fnBatchRecoversUpto_row_tie : Rows.fnBatchRecoversUptoRow.laidByTextAt .later Tryz.pinned [.wider] true :=
  OpenClaim.laidByTextAt_later rfl rfl tie noOwnUnsafe
theorem fnArrayWalkUpto_row_tie : Rows.fnArrayWalkUptoRow.laidByTextAt .later Tryz.pinned [.sentinel, .wider, .sentinel, .sentinel, .sentinel, .sentinel] true :=
  OpenClaim.laidByTextAt_later rfl rfl tie2 noOwnUnsafe
theorem fnMemWalkUpto_row_tie : Rows.fnMemWalkUptoRow.laidByTextAt .later Tryz.pinned [.sentinel, .wider, .sentinel, .sentinel, .sentinel, .sentinel] true :=
  OpenClaim.laidByTextAt_later rfl rfl tie2 noOwnUnsafe
theorem fnMergedWalkUpto_row_tie : Rows.fnMergedWalkUptoRow.laidByTextAt .later Tryz.pinned [.sentinel, .wider, .sentinel, .sentinel, .sentinel, .sentinel] true :=
  OpenClaim.laidByTextAt_later rfl rfl tie2 noOwnUnsafe
theorem fnIndexedWalkUpto_row_tie : Rows.fnIndexedWalkUptoRow.laidByTextAt .later Tryz.pinned [.sentinel, .wider, .sentinel, .sentinel, .sentinel, .sentinel] true :=
  OpenClaim.laidByTextAt_later rfl rfl tie2 noOwnUnsafe
theorem fnMemMapUpto_row_tie : Rows.fnMemMapUptoRow.laidByTextAt .later Tryz.pinned [.sentinel, .wider, .sentinel, .sentinel, .sentinel, .sentinel] true :=
  OpenClaim.laidByTextAt_later rfl rfl tie2 noOwnUnsafe
end Go.Proofs.YtdkkkikcigjlhaaGreatDoor
