/-
  NARROWER THAN 'FOR EVERY INPUT', by the rows' own cells (each row's printed sentence says how): FnPbRead: laid · FnPbBack: laid.
  DERIVED. THE GIVEN ROWS OF THIS SEAT. 2 by the template 'for every input the law returns true; each argument reads behind the call as it read before'; 0 by the template 'total and deterministic' (their statements: YthgbhaackihbjaaDoorTotals.lean).
  GIVEN WITH THE SEED: the statements are not yours to turn. If you find one false, say at which input.
  Laid BY PROGRAM, IN A SANDBOX (cutbox-rows.mjs): the forced cells as the released guide's own fill.sh prints them over the translation 8418f4fcece5d444… (all of the seat's roots in one cut). By AI agents, Wed Nov 11 2026. No macro, syntax, notation, axiom, sorry.
-/
import Derived.Test.YthgbhaackihbjaaDoorChecked
import GoSem.Claim
import GoSem.ClaimJoined
import GoSem.ClaimMapViews
import Derived.JoinedTies
import Derived.KernelRfl
namespace Go.Proofs.YthgbhaackihbjaaDoor
/- THE CELL 'sum', in the pinned program and in every row, IS THE sha256 OF THE DUMP (.gsa) THAT YthgbhaackihbjaaDoorProg.lean LOADS. Nothing in Lean hashes anything: it is a label: what it is worth is what the hold of that sum in a sandbox is worth. -/
noncomputable def Tryd.pinned : Pinned := { name := "ythgbhaackihbjaadoor", sum := "8418f4fcece5d444bcd25afa665c1c3c88e8e37ec8e0138c6891cbfc079a4560", checked := Tryd.checked }
namespace Rows
def none {H : Type} : Left H := { results := [], args := [] }

/- WHAT THE LISTED PACKAGE-LEVEL VARIABLES READ AS WHEN THE CALL BEGINS. Each datum BY PROGRAM (the guide's laid-datum.mjs) off the statement by which the dump's own 'gosem.cut.vars' lays the variable. In a bare row this is a premise. The card (YthgbhaackihbjaaDoorCards.lean) ties it to the program's text. -/
def laid_io_ErrUnexpectedEOF {H : Type} : DataW H := .iface "*errors.errorString" (.ptr (.agg [.lit (.string [117, 110, 101, 120, 112, 101, 99, 116, 101, 100, 32, 69, 79, 70])]))
def laid_pub_tholos_pub_boxo_ipld_merkledag_pb_ErrInvalidLengthMerkledag {H : Type} : DataW H := .iface "*errors.errorString" (.ptr (.agg [.lit (.string [112, 114, 111, 116, 111, 58, 32, 110, 101, 103, 97, 116, 105, 118, 101, 32, 108, 101, 110, 103, 116, 104, 32, 102, 111, 117, 110, 100, 32, 100, 117, 114, 105, 110, 103, 32, 117, 110, 109, 97, 114, 115, 104, 97, 108, 105, 110, 103])]))
def laid_pub_tholos_pub_boxo_ipld_merkledag_pb_ErrIntOverflowMerkledag {H : Type} : DataW H := .iface "*errors.errorString" (.ptr (.agg [.lit (.string [112, 114, 111, 116, 111, 58, 32, 105, 110, 116, 101, 103, 101, 114, 32, 111, 118, 101, 114, 102, 108, 111, 119])]))
def laid_pub_tholos_pub_boxo_ipld_merkledag_pb_ErrUnexpectedEndOfGroupMerkledag {H : Type} : DataW H := .iface "*errors.errorString" (.ptr (.agg [.lit (.string [112, 114, 111, 116, 111, 58, 32, 117, 110, 101, 120, 112, 101, 99, 116, 101, 100, 32, 101, 110, 100, 32, 111, 102, 32, 103, 114, 111, 117, 112])]))

/-- 'laws.FnPbRead': WHATEVER THE INPUT: true; the input reads as it did. -/
def fnPbReadSpec : ChangeSpec := { name := "fnPbRead", fn := fun _ => fun
  | [d] => { results := [.lit (.bool true)], args := [d] }
  | _ => none }
def fnPbReadRow : OpenClaim := { program := "ythgbhaackihbjaadoor", sum := "8418f4fcece5d444bcd25afa665c1c3c88e8e37ec8e0138c6891cbfc079a4560", func := "pub-tholos/laws.FnPbRead", spec := "fnPbRead", recurses := true, named := ["pub-tholos/pub/boxo/ipld/merkledag/pb.ErrIntOverflowMerkledag", "io.ErrUnexpectedEOF", "pub-tholos/pub/boxo/ipld/merkledag/pb.ErrInvalidLengthMerkledag", "pub-tholos/pub/boxo/ipld/merkledag/pb.ErrUnexpectedEndOfGroupMerkledag"], apart := false, laid := [("io.ErrUnexpectedEOF", laid_io_ErrUnexpectedEOF), ("pub-tholos/pub/boxo/ipld/merkledag/pb.ErrInvalidLengthMerkledag", laid_pub_tholos_pub_boxo_ipld_merkledag_pb_ErrInvalidLengthMerkledag), ("pub-tholos/pub/boxo/ipld/merkledag/pb.ErrIntOverflowMerkledag", laid_pub_tholos_pub_boxo_ipld_merkledag_pb_ErrIntOverflowMerkledag), ("pub-tholos/pub/boxo/ipld/merkledag/pb.ErrUnexpectedEndOfGroupMerkledag", laid_pub_tholos_pub_boxo_ipld_merkledag_pb_ErrUnexpectedEndOfGroupMerkledag)] }
def FnPbReadSaid : Prop := fnPbReadRow.holds Tryd.pinned (OpenSpec.ofChange fnPbReadSpec)

/-- ITS FALSE NEIGHBOUR: 'it returns false'. Refute it at one input. -/
def fnPbReadWrong : ChangeSpec := { name := "fnPbRead", fn := fun _ => fun
  | [d] => { results := [.lit (.bool false)], args := [d] }
  | _ => none }
def FnPbReadWrongFalsely : Prop := fnPbReadRow.holds Tryd.pinned (OpenSpec.ofChange fnPbReadWrong)

/-- 'laws.FnPbBack': WHATEVER THE INPUT: true; the input reads as it did. -/
def fnPbBackSpec : ChangeSpec := { name := "fnPbBack", fn := fun _ => fun
  | [d] => { results := [.lit (.bool true)], args := [d] }
  | _ => none }
def fnPbBackRow : OpenClaim := { program := "ythgbhaackihbjaadoor", sum := "8418f4fcece5d444bcd25afa665c1c3c88e8e37ec8e0138c6891cbfc079a4560", func := "pub-tholos/laws.FnPbBack", spec := "fnPbBack", named := ["pub-tholos/pub/boxo/ipld/merkledag/pb.ErrIntOverflowMerkledag", "io.ErrUnexpectedEOF", "pub-tholos/pub/boxo/ipld/merkledag/pb.ErrInvalidLengthMerkledag", "pub-tholos/pub/boxo/ipld/merkledag/pb.ErrUnexpectedEndOfGroupMerkledag"], apart := false, laid := [("io.ErrUnexpectedEOF", laid_io_ErrUnexpectedEOF), ("pub-tholos/pub/boxo/ipld/merkledag/pb.ErrInvalidLengthMerkledag", laid_pub_tholos_pub_boxo_ipld_merkledag_pb_ErrInvalidLengthMerkledag), ("pub-tholos/pub/boxo/ipld/merkledag/pb.ErrIntOverflowMerkledag", laid_pub_tholos_pub_boxo_ipld_merkledag_pb_ErrIntOverflowMerkledag), ("pub-tholos/pub/boxo/ipld/merkledag/pb.ErrUnexpectedEndOfGroupMerkledag", laid_pub_tholos_pub_boxo_ipld_merkledag_pb_ErrUnexpectedEndOfGroupMerkledag)] }
def FnPbBackSaid : Prop := fnPbBackRow.holds Tryd.pinned (OpenSpec.ofChange fnPbBackSpec)

/-- ITS FALSE NEIGHBOUR: 'it returns false'. Refute it at one input. -/
def fnPbBackWrong : ChangeSpec := { name := "fnPbBack", fn := fun _ => fun
  | [d] => { results := [.lit (.bool false)], args := [d] }
  | _ => none }
def FnPbBackWrongFalsely : Prop := fnPbBackRow.holds Tryd.pinned (OpenSpec.ofChange fnPbBackWrong)

/- THE SECOND FORM. 'bulk': how many values and letters a reading holds, each counted each time it is reached (what is shared counts as often as it is met; a slice's spare places count too). A statement '..UptoSaid' is the law's where the arguments, and the package variables that the reading takes, are together of bulk at most 1048576: NARROWER than '..Said'. Prove '..Said' where nothing that the law and all that it calls make is longer than what came in: it says more and counts as full. Else prove '..UptoSaid'. A law counts once. -/
mutual
def uptoBulk {H : Type} : DataW H → Nat
  | .lit (.string bytes) => bytes.length + 1
  | .lit _ => 1
  | .nil => 1
  | .ptr d => uptoBulk d + 1
  | .slice elems spare => uptoBulkAll elems + uptoBulkAll spare + 1
  | .agg parts => uptoBulkAll parts + 1
  | .iface _ d => uptoBulk d + 1
  | .map entries => uptoBulkEntries entries + 1
  | .held _ => 1
def uptoBulkAll {H : Type} : List (DataW H) → Nat
  | [] => 0
  | d :: r => uptoBulk d + uptoBulkAll r
def uptoBulkEntries {H : Type} : List (Lit × DataW H) → Nat
  | [] => 0
  | x :: r => uptoBulkEntry x + uptoBulkEntries r
def uptoBulkEntry {H : Type} : Lit × DataW H → Nat
  | (.string bytes, d) => bytes.length + uptoBulk d + 1
  | (_, d) => uptoBulk d + 1
 end
def uptoSmall : (H : Type) → List (DataW H) → Bool := fun _ ds => decide (uptoBulkAll ds ≤ 1048576)
def OpenSpec.upto (s : _root_.Go.ChangeSpec) : _root_.Go.OpenSpec := { _root_.Go.OpenSpec.ofChange s with cond := some uptoSmall }

/-- 'laws.FnPbRead', WHERE WHAT IT READS IS OF BULK AT MOST 1048576: true; the input reads as it did. -/
def fnPbReadUptoRow : OpenClaim := { program := "ythgbhaackihbjaadoor", sum := "8418f4fcece5d444bcd25afa665c1c3c88e8e37ec8e0138c6891cbfc079a4560", func := "pub-tholos/laws.FnPbRead", spec := "fnPbRead", recurses := true, named := ["pub-tholos/pub/boxo/ipld/merkledag/pb.ErrIntOverflowMerkledag", "io.ErrUnexpectedEOF", "pub-tholos/pub/boxo/ipld/merkledag/pb.ErrInvalidLengthMerkledag", "pub-tholos/pub/boxo/ipld/merkledag/pb.ErrUnexpectedEndOfGroupMerkledag"], apart := false, laid := [("io.ErrUnexpectedEOF", laid_io_ErrUnexpectedEOF), ("pub-tholos/pub/boxo/ipld/merkledag/pb.ErrInvalidLengthMerkledag", laid_pub_tholos_pub_boxo_ipld_merkledag_pb_ErrInvalidLengthMerkledag), ("pub-tholos/pub/boxo/ipld/merkledag/pb.ErrIntOverflowMerkledag", laid_pub_tholos_pub_boxo_ipld_merkledag_pb_ErrIntOverflowMerkledag), ("pub-tholos/pub/boxo/ipld/merkledag/pb.ErrUnexpectedEndOfGroupMerkledag", laid_pub_tholos_pub_boxo_ipld_merkledag_pb_ErrUnexpectedEndOfGroupMerkledag)], narrowed := true }
def FnPbReadUptoSaid : Prop := fnPbReadUptoRow.holds Tryd.pinned (OpenSpec.upto fnPbReadSpec)

/-- 'laws.FnPbBack', WHERE WHAT IT READS IS OF BULK AT MOST 1048576: true; the input reads as it did. -/
def fnPbBackUptoRow : OpenClaim := { program := "ythgbhaackihbjaadoor", sum := "8418f4fcece5d444bcd25afa665c1c3c88e8e37ec8e0138c6891cbfc079a4560", func := "pub-tholos/laws.FnPbBack", spec := "fnPbBack", named := ["pub-tholos/pub/boxo/ipld/merkledag/pb.ErrIntOverflowMerkledag", "io.ErrUnexpectedEOF", "pub-tholos/pub/boxo/ipld/merkledag/pb.ErrInvalidLengthMerkledag", "pub-tholos/pub/boxo/ipld/merkledag/pb.ErrUnexpectedEndOfGroupMerkledag"], apart := false, laid := [("io.ErrUnexpectedEOF", laid_io_ErrUnexpectedEOF), ("pub-tholos/pub/boxo/ipld/merkledag/pb.ErrInvalidLengthMerkledag", laid_pub_tholos_pub_boxo_ipld_merkledag_pb_ErrInvalidLengthMerkledag), ("pub-tholos/pub/boxo/ipld/merkledag/pb.ErrIntOverflowMerkledag", laid_pub_tholos_pub_boxo_ipld_merkledag_pb_ErrIntOverflowMerkledag), ("pub-tholos/pub/boxo/ipld/merkledag/pb.ErrUnexpectedEndOfGroupMerkledag", laid_pub_tholos_pub_boxo_ipld_merkledag_pb_ErrUnexpectedEndOfGroupMerkledag)], narrowed := true }
def FnPbBackUptoSaid : Prop := fnPbBackUptoRow.holds Tryd.pinned (OpenSpec.upto fnPbBackSpec)

end Rows
end Go.Proofs.YthgbhaackihbjaaDoor
