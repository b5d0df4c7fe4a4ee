/-
  DERIVED. GIVEN WITH THE SEED: THE PROGRAM's TIES (one call each: nine closed facts by the kernel) AND EACH ROW's TIE, after the 31st guide's Derived/Test/Toyas{Tie, Card}.lean. No idea stands in it: it is a product of the set-up. Laid BY PROGRAM, IN A SANDBOX (cutbox-door.mjs). By AI agents, Wed Nov 11 2026. No macro, syntax, notation, axiom, sorry.
-/
import Derived.Test.YtffgkocokkhahaaGreatDoorRows
import Derived.LaidByTextLater
import Derived.SevenTiedAt
import Derived.LaidSub
import Derived.LaidOnce
namespace Go.Proofs.YtffgkocokkhahaaGreatDoor
open Go
set_option maxRecDepth 100000
theorem seatTie1 : Tryz.prog.laidByTextLater [("io.EOF", Rows.laid_io_EOF), ("pub-quern/pub/ql.errCommitNotInTransaction", Rows.laid_pub_quern_pub_ql_errCommitNotInTransaction), ("pub-quern/pub/ql.errDivByZero", Rows.laid_pub_quern_pub_ql_errDivByZero), ("pub-quern/pub/ql.errNoDataForHandle", Rows.laid_pub_quern_pub_ql_errNoDataForHandle), ("pub-quern/pub/ql.errRollbackNotInTransaction", Rows.laid_pub_quern_pub_ql_errRollbackNotInTransaction)] [.sentinel, .sentinel, .sentinel, .sentinel, .sentinel] true :=
  Program.laidByTextLater_by_one 104 8 2 (by kernel_rfl) (by kernel_rfl) (by kernel_rfl) (by kernel_rfl) (by kernel_rfl) (by kernel_rfl) (fun _ _ => by kernel_rfl)
theorem noOwnUnsafe : Tryz.pinned.checked.prog.headLifts.contains "ownunsafe" = false := by kernel_rfl
theorem tie : Tryz.prog.laidByTextLater [("pub-quern/pub/ql.errCommitNotInTransaction", Rows.laid_pub_quern_pub_ql_errCommitNotInTransaction), ("pub-quern/pub/ql.errDivByZero", Rows.laid_pub_quern_pub_ql_errDivByZero), ("pub-quern/pub/ql.errNoDataForHandle", Rows.laid_pub_quern_pub_ql_errNoDataForHandle), ("pub-quern/pub/ql.errRollbackNotInTransaction", Rows.laid_pub_quern_pub_ql_errRollbackNotInTransaction)] [.sentinel, .sentinel, .sentinel, .sentinel] true :=
  Program.laidByTextLater.sub seatTie1 ["pub-quern/pub/ql.errCommitNotInTransaction", "pub-quern/pub/ql.errDivByZero", "pub-quern/pub/ql.errNoDataForHandle", "pub-quern/pub/ql.errRollbackNotInTransaction"] (by kernel_rfl) (by kernel_rfl)
theorem fnMemPlays_row_tie : Rows.fnMemPlaysRow.laidByTextAt .later Tryz.pinned [.sentinel, .sentinel, .sentinel, .sentinel] true :=
  OpenClaim.laidByTextAt_later rfl rfl tie noOwnUnsafe
theorem tie2 : Tryz.prog.laidByTextLater [("io.EOF", Rows.laid_io_EOF), ("pub-quern/pub/ql.errCommitNotInTransaction", Rows.laid_pub_quern_pub_ql_errCommitNotInTransaction), ("pub-quern/pub/ql.errDivByZero", Rows.laid_pub_quern_pub_ql_errDivByZero)] [.sentinel, .sentinel, .sentinel] true :=
  Program.laidByTextLater.sub seatTie1 ["io.EOF", "pub-quern/pub/ql.errCommitNotInTransaction", "pub-quern/pub/ql.errDivByZero"] (by kernel_rfl) (by kernel_rfl)
theorem fnIndexOrder_row_tie : Rows.fnIndexOrderRow.laidByTextAt .later Tryz.pinned [.sentinel, .sentinel, .sentinel] true :=
  OpenClaim.laidByTextAt_later rfl rfl tie2 noOwnUnsafe
theorem fnMemPlaysUpto_row_tie : Rows.fnMemPlaysUptoRow.laidByTextAt .later Tryz.pinned [.sentinel, .sentinel, .sentinel, .sentinel] true :=
  OpenClaim.laidByTextAt_later rfl rfl tie noOwnUnsafe
theorem fnIndexOrderUpto_row_tie : Rows.fnIndexOrderUptoRow.laidByTextAt .later Tryz.pinned [.sentinel, .sentinel, .sentinel] true :=
  OpenClaim.laidByTextAt_later rfl rfl tie2 noOwnUnsafe
end Go.Proofs.YtffgkocokkhahaaGreatDoor
