/-
  NARROWER THAN 'FOR EVERY INPUT', by the rows' own cells (each row's printed sentence says how): FnFieldsSize: laid · FnFieldsMessages: laid · FnFieldsRead: laid.
  DERIVED. THE GIVEN ROWS OF THIS SEAT. 3 by the template 'for every input the law returns true; each argument reads behind the call as it read before'; 0 by the template 'total and deterministic' (their statements: YtijbnmmeecmbjaaDoorTotals.lean).
  GIVEN WITH THE SEED: the statements are not yours to turn. If you find one false, say at which input.
  Laid BY PROGRAM, IN A SANDBOX (cutbox-rows.mjs): the forced cells as the released guide's own fill.sh prints them over the translation 973179dba13147cc… (all of the seat's roots in one cut). By AI agents, Wed Nov 11 2026. No macro, syntax, notation, axiom, sorry.
-/
import Derived.Test.YtijbnmmeecmbjaaDoorChecked
import GoSem.Claim
import GoSem.ClaimJoined
import GoSem.ClaimMapViews
import Derived.JoinedTies
import Derived.KernelRfl
namespace Go.Proofs.YtijbnmmeecmbjaaDoor
/- THE CELL 'sum', in the pinned program and in every row, IS THE sha256 OF THE DUMP (.gsa) THAT YtijbnmmeecmbjaaDoorProg.lean LOADS. Nothing in Lean hashes anything: it is a label: what it is worth is what the hold of that sum in a sandbox is worth. -/
noncomputable def Tryd.pinned : Pinned := { name := "ytijbnmmeecmbjaadoor", sum := "973179dba13147ccbac32d896c0265266419839be616397f3c1bcef7fc30cbed", checked := Tryd.checked }
namespace Rows
def none {H : Type} : Left H := { results := [], args := [] }

/- WHAT THE LISTED PACKAGE-LEVEL VARIABLES READ AS WHEN THE CALL BEGINS. Each datum BY PROGRAM (the guide's laid-datum.mjs) off the statement by which the dump's own 'gosem.cut.vars' lays the variable. In a bare row this is a premise. The card (YtijbnmmeecmbjaaDoorCards.lean) ties it to the program's text. -/
def laid_io_ErrUnexpectedEOF {H : Type} : DataW H := .iface "*errors.errorString" (.ptr (.agg [.lit (.string [117, 110, 101, 120, 112, 101, 99, 116, 101, 100, 32, 69, 79, 70])]))
def laid_pub_tholos_pub_boxo_ipld_unixfs_pb_ErrInvalidLengthUnixfs {H : Type} : DataW H := .iface "*errors.errorString" (.ptr (.agg [.lit (.string [112, 114, 111, 116, 111, 58, 32, 110, 101, 103, 97, 116, 105, 118, 101, 32, 108, 101, 110, 103, 116, 104, 32, 102, 111, 117, 110, 100, 32, 100, 117, 114, 105, 110, 103, 32, 117, 110, 109, 97, 114, 115, 104, 97, 108, 105, 110, 103])]))
def laid_pub_tholos_pub_boxo_ipld_unixfs_pb_ErrIntOverflowUnixfs {H : Type} : DataW H := .iface "*errors.errorString" (.ptr (.agg [.lit (.string [112, 114, 111, 116, 111, 58, 32, 105, 110, 116, 101, 103, 101, 114, 32, 111, 118, 101, 114, 102, 108, 111, 119])]))
def laid_pub_tholos_pub_boxo_ipld_unixfs_pb_ErrUnexpectedEndOfGroupUnixfs {H : Type} : DataW H := .iface "*errors.errorString" (.ptr (.agg [.lit (.string [112, 114, 111, 116, 111, 58, 32, 117, 110, 101, 120, 112, 101, 99, 116, 101, 100, 32, 101, 110, 100, 32, 111, 102, 32, 103, 114, 111, 117, 112])]))
def laid_pub_tholos_pub_boxo_ipld_unixfs_pb_ErrRequiredNotSetUnixfs {H : Type} : DataW H := .iface "*errors.errorString" (.ptr (.agg [.lit (.string [112, 114, 111, 116, 111, 58, 32, 114, 101, 113, 117, 105, 114, 101, 100, 32, 102, 105, 101, 108, 100, 32, 110, 111, 116, 32, 115, 101, 116])]))

/-- 'laws.FnFieldsSize': WHATEVER THE INPUT: true; the input reads as it did. -/
def fnFieldsSizeSpec : ChangeSpec := { name := "fnFieldsSize", fn := fun _ => fun
  | [d] => { results := [.lit (.bool true)], args := [d] }
  | _ => none }
def fnFieldsSizeRow : OpenClaim := { program := "ytijbnmmeecmbjaadoor", sum := "973179dba13147ccbac32d896c0265266419839be616397f3c1bcef7fc30cbed", func := "pub-tholos/laws.FnFieldsSize", spec := "fnFieldsSize", named := ["pub-tholos/pub/boxo/ipld/unixfs/pb.ErrRequiredNotSetUnixfs", "pub-tholos/pub/boxo/ipld/unixfs/pb.ErrIntOverflowUnixfs", "io.ErrUnexpectedEOF", "pub-tholos/pub/boxo/ipld/unixfs/pb.ErrInvalidLengthUnixfs", "pub-tholos/pub/boxo/ipld/unixfs/pb.ErrUnexpectedEndOfGroupUnixfs"], apart := false, laid := [("io.ErrUnexpectedEOF", laid_io_ErrUnexpectedEOF), ("pub-tholos/pub/boxo/ipld/unixfs/pb.ErrInvalidLengthUnixfs", laid_pub_tholos_pub_boxo_ipld_unixfs_pb_ErrInvalidLengthUnixfs), ("pub-tholos/pub/boxo/ipld/unixfs/pb.ErrIntOverflowUnixfs", laid_pub_tholos_pub_boxo_ipld_unixfs_pb_ErrIntOverflowUnixfs), ("pub-tholos/pub/boxo/ipld/unixfs/pb.ErrUnexpectedEndOfGroupUnixfs", laid_pub_tholos_pub_boxo_ipld_unixfs_pb_ErrUnexpectedEndOfGroupUnixfs), ("pub-tholos/pub/boxo/ipld/unixfs/pb.ErrRequiredNotSetUnixfs", laid_pub_tholos_pub_boxo_ipld_unixfs_pb_ErrRequiredNotSetUnixfs)] }
def FnFieldsSizeSaid : Prop := fnFieldsSizeRow.holds Tryd.pinned (OpenSpec.ofChange fnFieldsSizeSpec)

/-- ITS FALSE NEIGHBOUR: 'it returns false'. Refute it at one input. -/
def fnFieldsSizeWrong : ChangeSpec := { name := "fnFieldsSize", fn := fun _ => fun
  | [d] => { results := [.lit (.bool false)], args := [d] }
  | _ => none }
def FnFieldsSizeWrongFalsely : Prop := fnFieldsSizeRow.holds Tryd.pinned (OpenSpec.ofChange fnFieldsSizeWrong)

/-- 'laws.FnFieldsMessages': WHATEVER THE INPUT: true; the input reads as it did. -/
def fnFieldsMessagesSpec : ChangeSpec := { name := "fnFieldsMessages", fn := fun _ => fun
  | [d1, d2, d3, d4, d5] => { results := [.lit (.bool true)], args := [d1, d2, d3, d4, d5] }
  | _ => none }
def fnFieldsMessagesRow : OpenClaim := { program := "ytijbnmmeecmbjaadoor", sum := "973179dba13147ccbac32d896c0265266419839be616397f3c1bcef7fc30cbed", func := "pub-tholos/laws.FnFieldsMessages", spec := "fnFieldsMessages", unfollowed := true, recurses := true, named := ["pub-tholos/pub/boxo/ipld/unixfs/pb.ErrRequiredNotSetUnixfs", "pub-tholos/pub/boxo/ipld/unixfs/pb.ErrIntOverflowUnixfs", "io.ErrUnexpectedEOF", "pub-tholos/pub/boxo/ipld/unixfs/pb.ErrInvalidLengthUnixfs", "pub-tholos/pub/boxo/ipld/unixfs/pb.ErrUnexpectedEndOfGroupUnixfs"], apart := false, laid := [("io.ErrUnexpectedEOF", laid_io_ErrUnexpectedEOF), ("pub-tholos/pub/boxo/ipld/unixfs/pb.ErrInvalidLengthUnixfs", laid_pub_tholos_pub_boxo_ipld_unixfs_pb_ErrInvalidLengthUnixfs), ("pub-tholos/pub/boxo/ipld/unixfs/pb.ErrIntOverflowUnixfs", laid_pub_tholos_pub_boxo_ipld_unixfs_pb_ErrIntOverflowUnixfs), ("pub-tholos/pub/boxo/ipld/unixfs/pb.ErrUnexpectedEndOfGroupUnixfs", laid_pub_tholos_pub_boxo_ipld_unixfs_pb_ErrUnexpectedEndOfGroupUnixfs), ("pub-tholos/pub/boxo/ipld/unixfs/pb.ErrRequiredNotSetUnixfs", laid_pub_tholos_pub_boxo_ipld_unixfs_pb_ErrRequiredNotSetUnixfs)] }
def FnFieldsMessagesSaid : Prop := fnFieldsMessagesRow.holds Tryd.pinned (OpenSpec.ofChange fnFieldsMessagesSpec)

/-- ITS FALSE NEIGHBOUR: 'it returns false'. Refute it at one input. -/
def fnFieldsMessagesWrong : ChangeSpec := { name := "fnFieldsMessages", fn := fun _ => fun
  | [d1, d2, d3, d4, d5] => { results := [.lit (.bool false)], args := [d1, d2, d3, d4, d5] }
  | _ => none }
def FnFieldsMessagesWrongFalsely : Prop := fnFieldsMessagesRow.holds Tryd.pinned (OpenSpec.ofChange fnFieldsMessagesWrong)

/-- 'laws.FnFieldsRead': WHATEVER THE INPUT: true; the input reads as it did. -/
def fnFieldsReadSpec : ChangeSpec := { name := "fnFieldsRead", fn := fun _ => fun
  | [d] => { results := [.lit (.bool true)], args := [d] }
  | _ => none }
def fnFieldsReadRow : OpenClaim := { program := "ytijbnmmeecmbjaadoor", sum := "973179dba13147ccbac32d896c0265266419839be616397f3c1bcef7fc30cbed", func := "pub-tholos/laws.FnFieldsRead", spec := "fnFieldsRead", named := ["pub-tholos/pub/boxo/ipld/unixfs/pb.ErrRequiredNotSetUnixfs", "pub-tholos/pub/boxo/ipld/unixfs/pb.ErrIntOverflowUnixfs", "io.ErrUnexpectedEOF", "pub-tholos/pub/boxo/ipld/unixfs/pb.ErrInvalidLengthUnixfs", "pub-tholos/pub/boxo/ipld/unixfs/pb.ErrUnexpectedEndOfGroupUnixfs"], apart := false, laid := [("io.ErrUnexpectedEOF", laid_io_ErrUnexpectedEOF), ("pub-tholos/pub/boxo/ipld/unixfs/pb.ErrInvalidLengthUnixfs", laid_pub_tholos_pub_boxo_ipld_unixfs_pb_ErrInvalidLengthUnixfs), ("pub-tholos/pub/boxo/ipld/unixfs/pb.ErrIntOverflowUnixfs", laid_pub_tholos_pub_boxo_ipld_unixfs_pb_ErrIntOverflowUnixfs), ("pub-tholos/pub/boxo/ipld/unixfs/pb.ErrUnexpectedEndOfGroupUnixfs", laid_pub_tholos_pub_boxo_ipld_unixfs_pb_ErrUnexpectedEndOfGroupUnixfs), ("pub-tholos/pub/boxo/ipld/unixfs/pb.ErrRequiredNotSetUnixfs", laid_pub_tholos_pub_boxo_ipld_unixfs_pb_ErrRequiredNotSetUnixfs)] }
def FnFieldsReadSaid : Prop := fnFieldsReadRow.holds Tryd.pinned (OpenSpec.ofChange fnFieldsReadSpec)

/-- ITS FALSE NEIGHBOUR: 'it returns false'. Refute it at one input. -/
def fnFieldsReadWrong : ChangeSpec := { name := "fnFieldsRead", fn := fun _ => fun
  | [d] => { results := [.lit (.bool false)], args := [d] }
  | _ => none }
def FnFieldsReadWrongFalsely : Prop := fnFieldsReadRow.holds Tryd.pinned (OpenSpec.ofChange fnFieldsReadWrong)

/- THE SECOND FORM. 'bulk': how many values and letters a reading holds, each counted each time it is reached (what is shared counts as often as it is met; a slice's spare places count too). A statement '..UptoSaid' is the law's where the arguments, and the package variables that the reading takes, are together of bulk at most 1048576: NARROWER than '..Said'. Prove '..Said' where nothing that the law and all that it calls make is longer than what came in: it says more and counts as full. Else prove '..UptoSaid'. A law counts once. -/
mutual
def uptoBulk {H : Type} : DataW H → Nat
  | .lit (.string bytes) => bytes.length + 1
  | .lit _ => 1
  | .nil => 1
  | .ptr d => uptoBulk d + 1
  | .slice elems spare => uptoBulkAll elems + uptoBulkAll spare + 1
  | .agg parts => uptoBulkAll parts + 1
  | .iface _ d => uptoBulk d + 1
  | .map entries => uptoBulkEntries entries + 1
  | .held _ => 1
def uptoBulkAll {H : Type} : List (DataW H) → Nat
  | [] => 0
  | d :: r => uptoBulk d + uptoBulkAll r
def uptoBulkEntries {H : Type} : List (Lit × DataW H) → Nat
  | [] => 0
  | x :: r => uptoBulkEntry x + uptoBulkEntries r
def uptoBulkEntry {H : Type} : Lit × DataW H → Nat
  | (.string bytes, d) => bytes.length + uptoBulk d + 1
  | (_, d) => uptoBulk d + 1
 end
def uptoSmall : (H : Type) → List (DataW H) → Bool := fun _ ds => decide (uptoBulkAll ds ≤ 1048576)
def OpenSpec.upto (s : _root_.Go.ChangeSpec) : _root_.Go.OpenSpec := { _root_.Go.OpenSpec.ofChange s with cond := some uptoSmall }

/-- 'laws.FnFieldsSize', WHERE WHAT IT READS IS OF BULK AT MOST 1048576: true; the input reads as it did. -/
def fnFieldsSizeUptoRow : OpenClaim := { program := "ytijbnmmeecmbjaadoor", sum := "973179dba13147ccbac32d896c0265266419839be616397f3c1bcef7fc30cbed", func := "pub-tholos/laws.FnFieldsSize", spec := "fnFieldsSize", named := ["pub-tholos/pub/boxo/ipld/unixfs/pb.ErrRequiredNotSetUnixfs", "pub-tholos/pub/boxo/ipld/unixfs/pb.ErrIntOverflowUnixfs", "io.ErrUnexpectedEOF", "pub-tholos/pub/boxo/ipld/unixfs/pb.ErrInvalidLengthUnixfs", "pub-tholos/pub/boxo/ipld/unixfs/pb.ErrUnexpectedEndOfGroupUnixfs"], apart := false, laid := [("io.ErrUnexpectedEOF", laid_io_ErrUnexpectedEOF), ("pub-tholos/pub/boxo/ipld/unixfs/pb.ErrInvalidLengthUnixfs", laid_pub_tholos_pub_boxo_ipld_unixfs_pb_ErrInvalidLengthUnixfs), ("pub-tholos/pub/boxo/ipld/unixfs/pb.ErrIntOverflowUnixfs", laid_pub_tholos_pub_boxo_ipld_unixfs_pb_ErrIntOverflowUnixfs), ("pub-tholos/pub/boxo/ipld/unixfs/pb.ErrUnexpectedEndOfGroupUnixfs", laid_pub_tholos_pub_boxo_ipld_unixfs_pb_ErrUnexpectedEndOfGroupUnixfs), ("pub-tholos/pub/boxo/ipld/unixfs/pb.ErrRequiredNotSetUnixfs", laid_pub_tholos_pub_boxo_ipld_unixfs_pb_ErrRequiredNotSetUnixfs)], narrowed := true }
def FnFieldsSizeUptoSaid : Prop := fnFieldsSizeUptoRow.holds Tryd.pinned (OpenSpec.upto fnFieldsSizeSpec)

/-- 'laws.FnFieldsMessages', WHERE WHAT IT READS IS OF BULK AT MOST 1048576: true; the input reads as it did. -/
def fnFieldsMessagesUptoRow : OpenClaim := { program := "ytijbnmmeecmbjaadoor", sum := "973179dba13147ccbac32d896c0265266419839be616397f3c1bcef7fc30cbed", func := "pub-tholos/laws.FnFieldsMessages", spec := "fnFieldsMessages", unfollowed := true, recurses := true, named := ["pub-tholos/pub/boxo/ipld/unixfs/pb.ErrRequiredNotSetUnixfs", "pub-tholos/pub/boxo/ipld/unixfs/pb.ErrIntOverflowUnixfs", "io.ErrUnexpectedEOF", "pub-tholos/pub/boxo/ipld/unixfs/pb.ErrInvalidLengthUnixfs", "pub-tholos/pub/boxo/ipld/unixfs/pb.ErrUnexpectedEndOfGroupUnixfs"], apart := false, laid := [("io.ErrUnexpectedEOF", laid_io_ErrUnexpectedEOF), ("pub-tholos/pub/boxo/ipld/unixfs/pb.ErrInvalidLengthUnixfs", laid_pub_tholos_pub_boxo_ipld_unixfs_pb_ErrInvalidLengthUnixfs), ("pub-tholos/pub/boxo/ipld/unixfs/pb.ErrIntOverflowUnixfs", laid_pub_tholos_pub_boxo_ipld_unixfs_pb_ErrIntOverflowUnixfs), ("pub-tholos/pub/boxo/ipld/unixfs/pb.ErrUnexpectedEndOfGroupUnixfs", laid_pub_tholos_pub_boxo_ipld_unixfs_pb_ErrUnexpectedEndOfGroupUnixfs), ("pub-tholos/pub/boxo/ipld/unixfs/pb.ErrRequiredNotSetUnixfs", laid_pub_tholos_pub_boxo_ipld_unixfs_pb_ErrRequiredNotSetUnixfs)], narrowed := true }
def FnFieldsMessagesUptoSaid : Prop := fnFieldsMessagesUptoRow.holds Tryd.pinned (OpenSpec.upto fnFieldsMessagesSpec)

/-- 'laws.FnFieldsRead', WHERE WHAT IT READS IS OF BULK AT MOST 1048576: true; the input reads as it did. -/
def fnFieldsReadUptoRow : OpenClaim := { program := "ytijbnmmeecmbjaadoor", sum := "973179dba13147ccbac32d896c0265266419839be616397f3c1bcef7fc30cbed", func := "pub-tholos/laws.FnFieldsRead", spec := "fnFieldsRead", named := ["pub-tholos/pub/boxo/ipld/unixfs/pb.ErrRequiredNotSetUnixfs", "pub-tholos/pub/boxo/ipld/unixfs/pb.ErrIntOverflowUnixfs", "io.ErrUnexpectedEOF", "pub-tholos/pub/boxo/ipld/unixfs/pb.ErrInvalidLengthUnixfs", "pub-tholos/pub/boxo/ipld/unixfs/pb.ErrUnexpectedEndOfGroupUnixfs"], apart := false, laid := [("io.ErrUnexpectedEOF", laid_io_ErrUnexpectedEOF), ("pub-tholos/pub/boxo/ipld/unixfs/pb.ErrInvalidLengthUnixfs", laid_pub_tholos_pub_boxo_ipld_unixfs_pb_ErrInvalidLengthUnixfs), ("pub-tholos/pub/boxo/ipld/unixfs/pb.ErrIntOverflowUnixfs", laid_pub_tholos_pub_boxo_ipld_unixfs_pb_ErrIntOverflowUnixfs), ("pub-tholos/pub/boxo/ipld/unixfs/pb.ErrUnexpectedEndOfGroupUnixfs", laid_pub_tholos_pub_boxo_ipld_unixfs_pb_ErrUnexpectedEndOfGroupUnixfs), ("pub-tholos/pub/boxo/ipld/unixfs/pb.ErrRequiredNotSetUnixfs", laid_pub_tholos_pub_boxo_ipld_unixfs_pb_ErrRequiredNotSetUnixfs)], narrowed := true }
def FnFieldsReadUptoSaid : Prop := fnFieldsReadUptoRow.holds Tryd.pinned (OpenSpec.upto fnFieldsReadSpec)

end Rows
end Go.Proofs.YtijbnmmeecmbjaaDoor
