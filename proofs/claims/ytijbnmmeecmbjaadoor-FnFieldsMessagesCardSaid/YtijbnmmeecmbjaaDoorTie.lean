/-
  DERIVED. GIVEN WITH THE SEED: THE PROGRAM's TIES (one call each: nine closed facts by the kernel) AND EACH ROW's TIE, after the 31st guide's Derived/Test/Toyas{Tie, Card}.lean. No idea stands in it: it is a product of the set-up. Laid BY PROGRAM, IN A SANDBOX (cutbox-door.mjs). By AI agents, Wed Nov 11 2026. No macro, syntax, notation, axiom, sorry.
-/
import Derived.Test.YtijbnmmeecmbjaaDoorRows
import Derived.LaidByTextLater
import Derived.SevenTiedAt
import Derived.LaidSub
import Derived.LaidOnce
namespace Go.Proofs.YtijbnmmeecmbjaaDoor
open Go
set_option maxRecDepth 100000
theorem seatTie1 : Tryd.prog.laidByTextLater [("io.ErrUnexpectedEOF", Rows.laid_io_ErrUnexpectedEOF), ("pub-tholos/pub/boxo/ipld/unixfs/pb.ErrInvalidLengthUnixfs", Rows.laid_pub_tholos_pub_boxo_ipld_unixfs_pb_ErrInvalidLengthUnixfs), ("pub-tholos/pub/boxo/ipld/unixfs/pb.ErrIntOverflowUnixfs", Rows.laid_pub_tholos_pub_boxo_ipld_unixfs_pb_ErrIntOverflowUnixfs), ("pub-tholos/pub/boxo/ipld/unixfs/pb.ErrUnexpectedEndOfGroupUnixfs", Rows.laid_pub_tholos_pub_boxo_ipld_unixfs_pb_ErrUnexpectedEndOfGroupUnixfs), ("pub-tholos/pub/boxo/ipld/unixfs/pb.ErrRequiredNotSetUnixfs", Rows.laid_pub_tholos_pub_boxo_ipld_unixfs_pb_ErrRequiredNotSetUnixfs)] [.sentinel, .sentinel, .sentinel, .sentinel, .sentinel] true :=
  Program.laidByTextLater_by_one 104 8 2 (by kernel_rfl) (by kernel_rfl) (by kernel_rfl) (by kernel_rfl) (by kernel_rfl) (by kernel_rfl) (fun _ _ => by kernel_rfl)
theorem noOwnUnsafe : Tryd.pinned.checked.prog.headLifts.contains "ownunsafe" = false := by kernel_rfl
theorem tie : Tryd.prog.laidByTextLater [("io.ErrUnexpectedEOF", Rows.laid_io_ErrUnexpectedEOF), ("pub-tholos/pub/boxo/ipld/unixfs/pb.ErrInvalidLengthUnixfs", Rows.laid_pub_tholos_pub_boxo_ipld_unixfs_pb_ErrInvalidLengthUnixfs), ("pub-tholos/pub/boxo/ipld/unixfs/pb.ErrIntOverflowUnixfs", Rows.laid_pub_tholos_pub_boxo_ipld_unixfs_pb_ErrIntOverflowUnixfs), ("pub-tholos/pub/boxo/ipld/unixfs/pb.ErrUnexpectedEndOfGroupUnixfs", Rows.laid_pub_tholos_pub_boxo_ipld_unixfs_pb_ErrUnexpectedEndOfGroupUnixfs), ("pub-tholos/pub/boxo/ipld/unixfs/pb.ErrRequiredNotSetUnixfs", Rows.laid_pub_tholos_pub_boxo_ipld_unixfs_pb_ErrRequiredNotSetUnixfs)] [.sentinel, .sentinel, .sentinel, .sentinel, .sentinel] true :=
  Program.laidByTextLater.sub seatTie1 ["io.ErrUnexpectedEOF", "pub-tholos/pub/boxo/ipld/unixfs/pb.ErrInvalidLengthUnixfs", "pub-tholos/pub/boxo/ipld/unixfs/pb.ErrIntOverflowUnixfs", "pub-tholos/pub/boxo/ipld/unixfs/pb.ErrUnexpectedEndOfGroupUnixfs", "pub-tholos/pub/boxo/ipld/unixfs/pb.ErrRequiredNotSetUnixfs"] (by kernel_rfl) (by kernel_rfl)
theorem fnFieldsSize_row_tie : Rows.fnFieldsSizeRow.laidByTextAt .later Tryd.pinned [.sentinel, .sentinel, .sentinel, .sentinel, .sentinel] true :=
  OpenClaim.laidByTextAt_later rfl rfl tie noOwnUnsafe
theorem fnFieldsMessages_row_tie : Rows.fnFieldsMessagesRow.laidByTextAt .later Tryd.pinned [.sentinel, .sentinel, .sentinel, .sentinel, .sentinel] true :=
  OpenClaim.laidByTextAt_later rfl rfl tie noOwnUnsafe
theorem fnFieldsRead_row_tie : Rows.fnFieldsReadRow.laidByTextAt .later Tryd.pinned [.sentinel, .sentinel, .sentinel, .sentinel, .sentinel] true :=
  OpenClaim.laidByTextAt_later rfl rfl tie noOwnUnsafe
theorem fnFieldsSizeUpto_row_tie : Rows.fnFieldsSizeUptoRow.laidByTextAt .later Tryd.pinned [.sentinel, .sentinel, .sentinel, .sentinel, .sentinel] true :=
  OpenClaim.laidByTextAt_later rfl rfl tie noOwnUnsafe
theorem fnFieldsMessagesUpto_row_tie : Rows.fnFieldsMessagesUptoRow.laidByTextAt .later Tryd.pinned [.sentinel, .sentinel, .sentinel, .sentinel, .sentinel] true :=
  OpenClaim.laidByTextAt_later rfl rfl tie noOwnUnsafe
theorem fnFieldsReadUpto_row_tie : Rows.fnFieldsReadUptoRow.laidByTextAt .later Tryd.pinned [.sentinel, .sentinel, .sentinel, .sentinel, .sentinel] true :=
  OpenClaim.laidByTextAt_later rfl rfl tie noOwnUnsafe
end Go.Proofs.YtijbnmmeecmbjaaDoor
