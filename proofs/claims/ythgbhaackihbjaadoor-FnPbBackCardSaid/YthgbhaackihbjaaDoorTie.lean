/-
  DERIVED. GIVEN WITH THE SEED: THE PROGRAM's TIES (one call each: nine closed facts by the kernel) AND EACH ROW's TIE, after the 31st guide's Derived/Test/Toyas{Tie, Card}.lean. No idea stands in it: it is a product of the set-up. Laid BY PROGRAM, IN A SANDBOX (cutbox-door.mjs). By AI agents, Wed Nov 11 2026. No macro, syntax, notation, axiom, sorry.
-/
import Derived.Test.YthgbhaackihbjaaDoorRows
import Derived.LaidByTextLater
import Derived.SevenTiedAt
import Derived.LaidSub
import Derived.LaidOnce
namespace Go.Proofs.YthgbhaackihbjaaDoor
open Go
set_option maxRecDepth 100000
theorem seatTie1 : Tryd.prog.laidByTextLater [("io.ErrUnexpectedEOF", Rows.laid_io_ErrUnexpectedEOF), ("pub-tholos/pub/boxo/ipld/merkledag/pb.ErrInvalidLengthMerkledag", Rows.laid_pub_tholos_pub_boxo_ipld_merkledag_pb_ErrInvalidLengthMerkledag), ("pub-tholos/pub/boxo/ipld/merkledag/pb.ErrIntOverflowMerkledag", Rows.laid_pub_tholos_pub_boxo_ipld_merkledag_pb_ErrIntOverflowMerkledag), ("pub-tholos/pub/boxo/ipld/merkledag/pb.ErrUnexpectedEndOfGroupMerkledag", Rows.laid_pub_tholos_pub_boxo_ipld_merkledag_pb_ErrUnexpectedEndOfGroupMerkledag)] [.sentinel, .sentinel, .sentinel, .sentinel] true :=
  Program.laidByTextLater_by_one 85 8 2 (by kernel_rfl) (by kernel_rfl) (by kernel_rfl) (by kernel_rfl) (by kernel_rfl) (by kernel_rfl) (fun _ _ => by kernel_rfl)
theorem noOwnUnsafe : Tryd.pinned.checked.prog.headLifts.contains "ownunsafe" = false := by kernel_rfl
theorem tie : Tryd.prog.laidByTextLater [("io.ErrUnexpectedEOF", Rows.laid_io_ErrUnexpectedEOF), ("pub-tholos/pub/boxo/ipld/merkledag/pb.ErrInvalidLengthMerkledag", Rows.laid_pub_tholos_pub_boxo_ipld_merkledag_pb_ErrInvalidLengthMerkledag), ("pub-tholos/pub/boxo/ipld/merkledag/pb.ErrIntOverflowMerkledag", Rows.laid_pub_tholos_pub_boxo_ipld_merkledag_pb_ErrIntOverflowMerkledag), ("pub-tholos/pub/boxo/ipld/merkledag/pb.ErrUnexpectedEndOfGroupMerkledag", Rows.laid_pub_tholos_pub_boxo_ipld_merkledag_pb_ErrUnexpectedEndOfGroupMerkledag)] [.sentinel, .sentinel, .sentinel, .sentinel] true :=
  Program.laidByTextLater.sub seatTie1 ["io.ErrUnexpectedEOF", "pub-tholos/pub/boxo/ipld/merkledag/pb.ErrInvalidLengthMerkledag", "pub-tholos/pub/boxo/ipld/merkledag/pb.ErrIntOverflowMerkledag", "pub-tholos/pub/boxo/ipld/merkledag/pb.ErrUnexpectedEndOfGroupMerkledag"] (by kernel_rfl) (by kernel_rfl)
theorem fnPbRead_row_tie : Rows.fnPbReadRow.laidByTextAt .later Tryd.pinned [.sentinel, .sentinel, .sentinel, .sentinel] true :=
  OpenClaim.laidByTextAt_later rfl rfl tie noOwnUnsafe
theorem fnPbBack_row_tie : Rows.fnPbBackRow.laidByTextAt .later Tryd.pinned [.sentinel, .sentinel, .sentinel, .sentinel] true :=
  OpenClaim.laidByTextAt_later rfl rfl tie noOwnUnsafe
theorem fnPbReadUpto_row_tie : Rows.fnPbReadUptoRow.laidByTextAt .later Tryd.pinned [.sentinel, .sentinel, .sentinel, .sentinel] true :=
  OpenClaim.laidByTextAt_later rfl rfl tie noOwnUnsafe
theorem fnPbBackUpto_row_tie : Rows.fnPbBackUptoRow.laidByTextAt .later Tryd.pinned [.sentinel, .sentinel, .sentinel, .sentinel] true :=
  OpenClaim.laidByTextAt_later rfl rfl tie noOwnUnsafe
end Go.Proofs.YthgbhaackihbjaaDoor
