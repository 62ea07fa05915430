/-
  NARROWER THAN 'FOR EVERY INPUT', by the rows' own cells (each row's printed sentence says how): FnMsgBytes: laid · FnMsgJoined: laid.
  DERIVED. THE GIVEN ROWS OF THIS SEAT. 2 by the template 'for every input the law returns true; each argument reads behind the call as it read before'; 0 by the template 'total and deterministic' (their statements: YtocdbecakefnnaaDoorTotals.lean).
  GIVEN WITH THE SEED: the statements are not yours to turn. If you find one false, say at which input.
  Laid BY PROGRAM, IN A SANDBOX (cutbox-rows.mjs): the forced cells as the released guide's own fill.sh prints them over the translation 1f320020e6f687ce… (all of the seat's roots in one cut). By AI agents, Wed Nov 11 2026. No macro, syntax, notation, axiom, sorry.
-/
import Derived.Test.YtocdbecakefnnaaDoorChecked
import GoSem.Claim
import GoSem.ClaimJoined
import GoSem.ClaimMapViews
import Derived.JoinedTies
import Derived.KernelRfl
namespace Go.Proofs.YtocdbecakefnnaaDoor
/- THE CELL 'sum', in the pinned program and in every row, IS THE sha256 OF THE DUMP (.gsa) THAT YtocdbecakefnnaaDoorProg.lean LOADS. Nothing in Lean hashes anything: it is a label: what it is worth is what the hold of that sum in a sandbox is worth. -/
noncomputable def Tryd.pinned : Pinned := { name := "ytocdbecakefnnaadoor", sum := "1f320020e6f687ce2b896e9d186e7507160f0de16ec247f554ec35bec8a71158", checked := Tryd.checked }
namespace Rows
def none {H : Type} : Left H := { results := [], args := [] }

/- WHAT THE LISTED PACKAGE-LEVEL VARIABLES READ AS WHEN THE CALL BEGINS. Each datum BY PROGRAM (the guide's laid-datum.mjs) off the statement by which the dump's own 'gosem.cut.vars' lays the variable. In a bare row this is a premise. The card (YtocdbecakefnnaaDoorCards.lean) ties it to the program's text. -/
def laid_pub_tholos_pub_govarint_ErrOverflow {H : Type} : DataW H := .iface "*errors.errorString" (.ptr (.agg [.lit (.string [118, 97, 114, 105, 110, 116, 115, 32, 108, 97, 114, 103, 101, 114, 32, 116, 104, 97, 110, 32, 117, 105, 110, 116, 54, 51, 32, 110, 111, 116, 32, 115, 117, 112, 112, 111, 114, 116, 101, 100])]))
def laid_pub_tholos_pub_govarint_ErrUnderflow {H : Type} : DataW H := .iface "*errors.errorString" (.ptr (.agg [.lit (.string [118, 97, 114, 105, 110, 116, 115, 32, 109, 97, 108, 102, 111, 114, 109, 101, 100, 44, 32, 99, 111, 117, 108, 100, 32, 110, 111, 116, 32, 114, 101, 97, 99, 104, 32, 116, 104, 101, 32, 101, 110, 100])]))
def laid_pub_tholos_pub_govarint_ErrNotMinimal {H : Type} : DataW H := .iface "*errors.errorString" (.ptr (.agg [.lit (.string [118, 97, 114, 105, 110, 116, 32, 110, 111, 116, 32, 109, 105, 110, 105, 109, 97, 108, 108, 121, 32, 101, 110, 99, 111, 100, 101, 100])]))
def laid_pub_tholos_pub_gomultihash_ErrTooShort {H : Type} : DataW H := .iface "*errors.errorString" (.ptr (.agg [.lit (.string [109, 117, 108, 116, 105, 104, 97, 115, 104, 32, 116, 111, 111, 32, 115, 104, 111, 114, 116, 46, 32, 109, 117, 115, 116, 32, 98, 101, 32, 62, 61, 32, 50, 32, 98, 121, 116, 101, 115])]))
def laid_pub_tholos_pub_gomultihash_ErrVarintBufferShort {H : Type} : DataW H := .iface "*errors.errorString" (.ptr (.agg [.lit (.string [117, 118, 97, 114, 105, 110, 116, 58, 32, 98, 117, 102, 102, 101, 114, 32, 116, 111, 111, 32, 115, 109, 97, 108, 108])]))
def laid_pub_tholos_pub_gomultihash_ErrVarintTooLong {H : Type} : DataW H := .iface "*errors.errorString" (.ptr (.agg [.lit (.string [117, 118, 97, 114, 105, 110, 116, 58, 32, 118, 97, 114, 105, 110, 116, 32, 116, 111, 111, 32, 98, 105, 103, 32, 40, 109, 97, 120, 32, 54, 52, 98, 105, 116, 41])]))
def laid_io_ErrUnexpectedEOF {H : Type} : DataW H := .iface "*errors.errorString" (.ptr (.agg [.lit (.string [117, 110, 101, 120, 112, 101, 99, 116, 101, 100, 32, 69, 79, 70])]))
def laid_pub_tholos_pub_boxo_bitswap_message_pb_ErrInvalidLengthMessage {H : Type} : DataW H := .iface "*errors.errorString" (.ptr (.agg [.lit (.string [112, 114, 111, 116, 111, 58, 32, 110, 101, 103, 97, 116, 105, 118, 101, 32, 108, 101, 110, 103, 116, 104, 32, 102, 111, 117, 110, 100, 32, 100, 117, 114, 105, 110, 103, 32, 117, 110, 109, 97, 114, 115, 104, 97, 108, 105, 110, 103])]))
def laid_pub_tholos_pub_boxo_bitswap_message_pb_ErrIntOverflowMessage {H : Type} : DataW H := .iface "*errors.errorString" (.ptr (.agg [.lit (.string [112, 114, 111, 116, 111, 58, 32, 105, 110, 116, 101, 103, 101, 114, 32, 111, 118, 101, 114, 102, 108, 111, 119])]))
def laid_pub_tholos_pub_boxo_bitswap_message_pb_ErrUnexpectedEndOfGroupMessage {H : Type} : DataW H := .iface "*errors.errorString" (.ptr (.agg [.lit (.string [112, 114, 111, 116, 111, 58, 32, 117, 110, 101, 120, 112, 101, 99, 116, 101, 100, 32, 101, 110, 100, 32, 111, 102, 32, 103, 114, 111, 117, 112])]))

/-- 'laws.FnMsgBytes': WHATEVER THE INPUT: true; the input reads as it did. -/
def fnMsgBytesSpec : ChangeSpec := { name := "fnMsgBytes", fn := fun _ => fun
  | [d1, d2, d3] => { results := [.lit (.bool true)], args := [d1, d2, d3] }
  | _ => none }
def fnMsgBytesRow : OpenClaim := { program := "ytocdbecakefnnaadoor", sum := "1f320020e6f687ce2b896e9d186e7507160f0de16ec247f554ec35bec8a71158", func := "pub-tholos/laws.FnMsgBytes", spec := "fnMsgBytes", unfollowed := true, recurses := true, named := ["pub-tholos/pub/gomultihash.ErrTooShort", "pub-tholos/pub/gomultihash.ErrVarintBufferShort", "pub-tholos/pub/gomultihash.ErrVarintTooLong", "pub-tholos/pub/govarint.ErrOverflow", "pub-tholos/pub/govarint.ErrNotMinimal", "pub-tholos/pub/govarint.ErrUnderflow"], apart := false, laid := [("pub-tholos/pub/govarint.ErrOverflow", laid_pub_tholos_pub_govarint_ErrOverflow), ("pub-tholos/pub/govarint.ErrUnderflow", laid_pub_tholos_pub_govarint_ErrUnderflow), ("pub-tholos/pub/govarint.ErrNotMinimal", laid_pub_tholos_pub_govarint_ErrNotMinimal), ("pub-tholos/pub/gomultihash.ErrTooShort", laid_pub_tholos_pub_gomultihash_ErrTooShort), ("pub-tholos/pub/gomultihash.ErrVarintBufferShort", laid_pub_tholos_pub_gomultihash_ErrVarintBufferShort), ("pub-tholos/pub/gomultihash.ErrVarintTooLong", laid_pub_tholos_pub_gomultihash_ErrVarintTooLong)] }
def FnMsgBytesSaid : Prop := fnMsgBytesRow.holds Tryd.pinned (OpenSpec.ofChange fnMsgBytesSpec)

/-- ITS FALSE NEIGHBOUR: 'it returns false'. Refute it at one input. -/
def fnMsgBytesWrong : ChangeSpec := { name := "fnMsgBytes", fn := fun _ => fun
  | [d1, d2, d3] => { results := [.lit (.bool false)], args := [d1, d2, d3] }
  | _ => none }
def FnMsgBytesWrongFalsely : Prop := fnMsgBytesRow.holds Tryd.pinned (OpenSpec.ofChange fnMsgBytesWrong)

/-- 'laws.FnMsgJoined': WHATEVER THE INPUT: true; the input reads as it did. -/
def fnMsgJoinedSpec : ChangeSpec := { name := "fnMsgJoined", fn := fun _ => fun
  | [d1, d2, d3, d4, d5, d6] => { results := [.lit (.bool true)], args := [d1, d2, d3, d4, d5, d6] }
  | _ => none }
def fnMsgJoinedRow : OpenClaim := { program := "ytocdbecakefnnaadoor", sum := "1f320020e6f687ce2b896e9d186e7507160f0de16ec247f554ec35bec8a71158", func := "pub-tholos/laws.FnMsgJoined", spec := "fnMsgJoined", unfollowed := true, recurses := true, named := ["pub-tholos/pub/gomultihash.ErrTooShort", "pub-tholos/pub/gomultihash.ErrVarintBufferShort", "pub-tholos/pub/gomultihash.ErrVarintTooLong", "pub-tholos/pub/govarint.ErrOverflow", "pub-tholos/pub/govarint.ErrNotMinimal", "pub-tholos/pub/govarint.ErrUnderflow", "pub-tholos/pub/boxo/bitswap/message/pb.ErrIntOverflowMessage", "io.ErrUnexpectedEOF", "pub-tholos/pub/boxo/bitswap/message/pb.ErrInvalidLengthMessage", "pub-tholos/pub/boxo/bitswap/message/pb.ErrUnexpectedEndOfGroupMessage"], apart := false, laid := [("io.ErrUnexpectedEOF", laid_io_ErrUnexpectedEOF), ("pub-tholos/pub/govarint.ErrOverflow", laid_pub_tholos_pub_govarint_ErrOverflow), ("pub-tholos/pub/govarint.ErrUnderflow", laid_pub_tholos_pub_govarint_ErrUnderflow), ("pub-tholos/pub/govarint.ErrNotMinimal", laid_pub_tholos_pub_govarint_ErrNotMinimal), ("pub-tholos/pub/gomultihash.ErrTooShort", laid_pub_tholos_pub_gomultihash_ErrTooShort), ("pub-tholos/pub/gomultihash.ErrVarintBufferShort", laid_pub_tholos_pub_gomultihash_ErrVarintBufferShort), ("pub-tholos/pub/gomultihash.ErrVarintTooLong", laid_pub_tholos_pub_gomultihash_ErrVarintTooLong), ("pub-tholos/pub/boxo/bitswap/message/pb.ErrInvalidLengthMessage", laid_pub_tholos_pub_boxo_bitswap_message_pb_ErrInvalidLengthMessage), ("pub-tholos/pub/boxo/bitswap/message/pb.ErrIntOverflowMessage", laid_pub_tholos_pub_boxo_bitswap_message_pb_ErrIntOverflowMessage), ("pub-tholos/pub/boxo/bitswap/message/pb.ErrUnexpectedEndOfGroupMessage", laid_pub_tholos_pub_boxo_bitswap_message_pb_ErrUnexpectedEndOfGroupMessage)] }
def FnMsgJoinedSaid : Prop := fnMsgJoinedRow.holds Tryd.pinned (OpenSpec.ofChange fnMsgJoinedSpec)

/-- ITS FALSE NEIGHBOUR: 'it returns false'. Refute it at one input. -/
def fnMsgJoinedWrong : ChangeSpec := { name := "fnMsgJoined", fn := fun _ => fun
  | [d1, d2, d3, d4, d5, d6] => { results := [.lit (.bool false)], args := [d1, d2, d3, d4, d5, d6] }
  | _ => none }
def FnMsgJoinedWrongFalsely : Prop := fnMsgJoinedRow.holds Tryd.pinned (OpenSpec.ofChange fnMsgJoinedWrong)

/- THE SECOND FORM. 'bulk': how many values and letters a reading holds, each counted each time it is reached (what is shared counts as often as it is met; a slice's spare places count too). A statement '..UptoSaid' is the law's where the arguments, and the package variables that the reading takes, are together of bulk at most 1048576: NARROWER than '..Said'. Prove '..Said' where nothing that the law and all that it calls make is longer than what came in: it says more and counts as full. Else prove '..UptoSaid'. A law counts once. -/
mutual
def uptoBulk {H : Type} : DataW H → Nat
  | .lit (.string bytes) => bytes.length + 1
  | .lit _ => 1
  | .nil => 1
  | .ptr d => uptoBulk d + 1
  | .slice elems spare => uptoBulkAll elems + uptoBulkAll spare + 1
  | .agg parts => uptoBulkAll parts + 1
  | .iface _ d => uptoBulk d + 1
  | .map entries => uptoBulkEntries entries + 1
  | .held _ => 1
def uptoBulkAll {H : Type} : List (DataW H) → Nat
  | [] => 0
  | d :: r => uptoBulk d + uptoBulkAll r
def uptoBulkEntries {H : Type} : List (Lit × DataW H) → Nat
  | [] => 0
  | x :: r => uptoBulkEntry x + uptoBulkEntries r
def uptoBulkEntry {H : Type} : Lit × DataW H → Nat
  | (.string bytes, d) => bytes.length + uptoBulk d + 1
  | (_, d) => uptoBulk d + 1
 end
def uptoSmall : (H : Type) → List (DataW H) → Bool := fun _ ds => decide (uptoBulkAll ds ≤ 1048576)
def OpenSpec.upto (s : _root_.Go.ChangeSpec) : _root_.Go.OpenSpec := { _root_.Go.OpenSpec.ofChange s with cond := some uptoSmall }

/-- 'laws.FnMsgBytes', WHERE WHAT IT READS IS OF BULK AT MOST 1048576: true; the input reads as it did. -/
def fnMsgBytesUptoRow : OpenClaim := { program := "ytocdbecakefnnaadoor", sum := "1f320020e6f687ce2b896e9d186e7507160f0de16ec247f554ec35bec8a71158", func := "pub-tholos/laws.FnMsgBytes", spec := "fnMsgBytes", unfollowed := true, recurses := true, named := ["pub-tholos/pub/gomultihash.ErrTooShort", "pub-tholos/pub/gomultihash.ErrVarintBufferShort", "pub-tholos/pub/gomultihash.ErrVarintTooLong", "pub-tholos/pub/govarint.ErrOverflow", "pub-tholos/pub/govarint.ErrNotMinimal", "pub-tholos/pub/govarint.ErrUnderflow"], apart := false, laid := [("pub-tholos/pub/govarint.ErrOverflow", laid_pub_tholos_pub_govarint_ErrOverflow), ("pub-tholos/pub/govarint.ErrUnderflow", laid_pub_tholos_pub_govarint_ErrUnderflow), ("pub-tholos/pub/govarint.ErrNotMinimal", laid_pub_tholos_pub_govarint_ErrNotMinimal), ("pub-tholos/pub/gomultihash.ErrTooShort", laid_pub_tholos_pub_gomultihash_ErrTooShort), ("pub-tholos/pub/gomultihash.ErrVarintBufferShort", laid_pub_tholos_pub_gomultihash_ErrVarintBufferShort), ("pub-tholos/pub/gomultihash.ErrVarintTooLong", laid_pub_tholos_pub_gomultihash_ErrVarintTooLong)], narrowed := true }
def FnMsgBytesUptoSaid : Prop := fnMsgBytesUptoRow.holds Tryd.pinned (OpenSpec.upto fnMsgBytesSpec)

/-- 'laws.FnMsgJoined', WHERE WHAT IT READS IS OF BULK AT MOST 1048576: true; the input reads as it did. -/
def fnMsgJoinedUptoRow : OpenClaim := { program := "ytocdbecakefnnaadoor", sum := "1f320020e6f687ce2b896e9d186e7507160f0de16ec247f554ec35bec8a71158", func := "pub-tholos/laws.FnMsgJoined", spec := "fnMsgJoined", unfollowed := true, recurses := true, named := ["pub-tholos/pub/gomultihash.ErrTooShort", "pub-tholos/pub/gomultihash.ErrVarintBufferShort", "pub-tholos/pub/gomultihash.ErrVarintTooLong", "pub-tholos/pub/govarint.ErrOverflow", "pub-tholos/pub/govarint.ErrNotMinimal", "pub-tholos/pub/govarint.ErrUnderflow", "pub-tholos/pub/boxo/bitswap/message/pb.ErrIntOverflowMessage", "io.ErrUnexpectedEOF", "pub-tholos/pub/boxo/bitswap/message/pb.ErrInvalidLengthMessage", "pub-tholos/pub/boxo/bitswap/message/pb.ErrUnexpectedEndOfGroupMessage"], apart := false, laid := [("io.ErrUnexpectedEOF", laid_io_ErrUnexpectedEOF), ("pub-tholos/pub/govarint.ErrOverflow", laid_pub_tholos_pub_govarint_ErrOverflow), ("pub-tholos/pub/govarint.ErrUnderflow", laid_pub_tholos_pub_govarint_ErrUnderflow), ("pub-tholos/pub/govarint.ErrNotMinimal", laid_pub_tholos_pub_govarint_ErrNotMinimal), ("pub-tholos/pub/gomultihash.ErrTooShort", laid_pub_tholos_pub_gomultihash_ErrTooShort), ("pub-tholos/pub/gomultihash.ErrVarintBufferShort", laid_pub_tholos_pub_gomultihash_ErrVarintBufferShort), ("pub-tholos/pub/gomultihash.ErrVarintTooLong", laid_pub_tholos_pub_gomultihash_ErrVarintTooLong), ("pub-tholos/pub/boxo/bitswap/message/pb.ErrInvalidLengthMessage", laid_pub_tholos_pub_boxo_bitswap_message_pb_ErrInvalidLengthMessage), ("pub-tholos/pub/boxo/bitswap/message/pb.ErrIntOverflowMessage", laid_pub_tholos_pub_boxo_bitswap_message_pb_ErrIntOverflowMessage), ("pub-tholos/pub/boxo/bitswap/message/pb.ErrUnexpectedEndOfGroupMessage", laid_pub_tholos_pub_boxo_bitswap_message_pb_ErrUnexpectedEndOfGroupMessage)], narrowed := true }
def FnMsgJoinedUptoSaid : Prop := fnMsgJoinedUptoRow.holds Tryd.pinned (OpenSpec.upto fnMsgJoinedSpec)

end Rows
end Go.Proofs.YtocdbecakefnnaaDoor
