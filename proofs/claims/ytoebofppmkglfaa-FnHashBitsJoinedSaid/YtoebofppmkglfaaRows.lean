/-
  No cell of these rows narrows 'for every input' (looked for: loops, veiled, ifaces, maps, wideKeys, modest, calm, conditions, laid).
  DERIVED. THE GIVEN ROWS OF THIS SEAT. 3 by the template 'for every input the law returns true; each argument reads behind the call as it read before'; 0 by the template 'total and deterministic' (their statements: YtoebofppmkglfaaTotals.lean).
  GIVEN WITH THE SEED: the statements are not yours to turn. If you find one false, say at which input.
  Laid BY PROGRAM, IN A SANDBOX (cutbox-rows.mjs): the forced cells as the released guide's own fill.sh prints them over the translation d61ae2af62683259… (all of the seat's roots in one cut). By AI agents, Wed Nov 11 2026. No macro, syntax, notation, axiom, sorry.
-/
import Derived.Test.YtoebofppmkglfaaChecked
import GoSem.Claim
import GoSem.ClaimJoined
import GoSem.ClaimMapViews
import Derived.JoinedTies
import Derived.KernelRfl
namespace Go.Proofs.Ytoebofppmkglfaa
/- THE CELL 'sum', in the pinned program and in every row, IS THE sha256 OF THE DUMP (.gsa) THAT YtoebofppmkglfaaProg.lean LOADS. Nothing in Lean hashes anything: it is a label: what it is worth is what the hold of that sum in a sandbox is worth. -/
noncomputable def Try.pinned : Pinned := { name := "ytoebofppmkglfaa", sum := "d61ae2af62683259fcc2b3f0355527ec08237ef6de5bf7cf297aa32c50bfbdbf", checked := Try.checked }
namespace Rows
def none {H : Type} : Left H := { results := [], args := [] }

/-- 'laws.FnBitsSize': WHATEVER THE INPUT: true; the input reads as it did. -/
def fnBitsSizeSpec : ChangeSpec := { name := "fnBitsSize", fn := fun _ => fun
  | [d] => { results := [.lit (.bool true)], args := [d] }
  | _ => none }
def fnBitsSizeRow : OpenClaim := { program := "ytoebofppmkglfaa", sum := "d61ae2af62683259fcc2b3f0355527ec08237ef6de5bf7cf297aa32c50bfbdbf", func := "pub-tholos/laws.FnBitsSize", spec := "fnBitsSize", apart := false }
def FnBitsSizeSaid : Prop := fnBitsSizeRow.holds Try.pinned (OpenSpec.ofChange fnBitsSizeSpec)

/-- ITS FALSE NEIGHBOUR: 'it returns false'. Refute it at one input. -/
def fnBitsSizeWrong : ChangeSpec := { name := "fnBitsSize", fn := fun _ => fun
  | [d] => { results := [.lit (.bool false)], args := [d] }
  | _ => none }
def FnBitsSizeWrongFalsely : Prop := fnBitsSizeRow.holds Try.pinned (OpenSpec.ofChange fnBitsSizeWrong)

/-- 'laws.FnBitsOrder': WHATEVER THE INPUT: true; the input reads as it did. -/
def fnBitsOrderSpec : ChangeSpec := { name := "fnBitsOrder", fn := fun _ => fun
  | [d1, d2] => { results := [.lit (.bool true)], args := [d1, d2] }
  | _ => none }
def fnBitsOrderRow : OpenClaim := { program := "ytoebofppmkglfaa", sum := "d61ae2af62683259fcc2b3f0355527ec08237ef6de5bf7cf297aa32c50bfbdbf", func := "pub-tholos/laws.FnBitsOrder", spec := "fnBitsOrder", apart := false }
def FnBitsOrderSaid : Prop := fnBitsOrderRow.holds Try.pinned (OpenSpec.ofChange fnBitsOrderSpec)

/-- ITS FALSE NEIGHBOUR: 'it returns false'. Refute it at one input. -/
def fnBitsOrderWrong : ChangeSpec := { name := "fnBitsOrder", fn := fun _ => fun
  | [d1, d2] => { results := [.lit (.bool false)], args := [d1, d2] }
  | _ => none }
def FnBitsOrderWrongFalsely : Prop := fnBitsOrderRow.holds Try.pinned (OpenSpec.ofChange fnBitsOrderWrong)

/-- 'laws.FnHashBitsJoined': WHATEVER THE INPUT: true; the input reads as it did. -/
def fnHashBitsJoinedSpec : ChangeSpec := { name := "fnHashBitsJoined", fn := fun _ => fun
  | [d1, d2, d3, d4] => { results := [.lit (.bool true)], args := [d1, d2, d3, d4] }
  | _ => none }
def fnHashBitsJoinedRow : OpenClaim := { program := "ytoebofppmkglfaa", sum := "d61ae2af62683259fcc2b3f0355527ec08237ef6de5bf7cf297aa32c50bfbdbf", func := "pub-tholos/laws.FnHashBitsJoined", spec := "fnHashBitsJoined", recurses := true, apart := false }
def FnHashBitsJoinedSaid : Prop := fnHashBitsJoinedRow.holds Try.pinned (OpenSpec.ofChange fnHashBitsJoinedSpec)

/-- ITS FALSE NEIGHBOUR: 'it returns false'. Refute it at one input. -/
def fnHashBitsJoinedWrong : ChangeSpec := { name := "fnHashBitsJoined", fn := fun _ => fun
  | [d1, d2, d3, d4] => { results := [.lit (.bool false)], args := [d1, d2, d3, d4] }
  | _ => none }
def FnHashBitsJoinedWrongFalsely : Prop := fnHashBitsJoinedRow.holds Try.pinned (OpenSpec.ofChange fnHashBitsJoinedWrong)

/- THE SECOND FORM. 'bulk': how many values and letters a reading holds, each counted each time it is reached (what is shared counts as often as it is met; a slice's spare places count too). A statement '..UptoSaid' is the law's where the arguments, and the package variables that the reading takes, are together of bulk at most 1048576: NARROWER than '..Said'. Prove '..Said' where nothing that the law and all that it calls make is longer than what came in: it says more and counts as full. Else prove '..UptoSaid'. A law counts once. -/
mutual
def uptoBulk {H : Type} : DataW H → Nat
  | .lit (.string bytes) => bytes.length + 1
  | .lit _ => 1
  | .nil => 1
  | .ptr d => uptoBulk d + 1
  | .slice elems spare => uptoBulkAll elems + uptoBulkAll spare + 1
  | .agg parts => uptoBulkAll parts + 1
  | .iface _ d => uptoBulk d + 1
  | .map entries => uptoBulkEntries entries + 1
  | .held _ => 1
def uptoBulkAll {H : Type} : List (DataW H) → Nat
  | [] => 0
  | d :: r => uptoBulk d + uptoBulkAll r
def uptoBulkEntries {H : Type} : List (Lit × DataW H) → Nat
  | [] => 0
  | x :: r => uptoBulkEntry x + uptoBulkEntries r
def uptoBulkEntry {H : Type} : Lit × DataW H → Nat
  | (.string bytes, d) => bytes.length + uptoBulk d + 1
  | (_, d) => uptoBulk d + 1
 end
def uptoSmall : (H : Type) → List (DataW H) → Bool := fun _ ds => decide (uptoBulkAll ds ≤ 1048576)
def OpenSpec.upto (s : _root_.Go.ChangeSpec) : _root_.Go.OpenSpec := { _root_.Go.OpenSpec.ofChange s with cond := some uptoSmall }

/-- 'laws.FnBitsSize', WHERE WHAT IT READS IS OF BULK AT MOST 1048576: true; the input reads as it did. -/
def fnBitsSizeUptoRow : OpenClaim := { program := "ytoebofppmkglfaa", sum := "d61ae2af62683259fcc2b3f0355527ec08237ef6de5bf7cf297aa32c50bfbdbf", func := "pub-tholos/laws.FnBitsSize", spec := "fnBitsSize", apart := false, narrowed := true }
def FnBitsSizeUptoSaid : Prop := fnBitsSizeUptoRow.holds Try.pinned (OpenSpec.upto fnBitsSizeSpec)

/-- 'laws.FnBitsOrder', WHERE WHAT IT READS IS OF BULK AT MOST 1048576: true; the input reads as it did. -/
def fnBitsOrderUptoRow : OpenClaim := { program := "ytoebofppmkglfaa", sum := "d61ae2af62683259fcc2b3f0355527ec08237ef6de5bf7cf297aa32c50bfbdbf", func := "pub-tholos/laws.FnBitsOrder", spec := "fnBitsOrder", apart := false, narrowed := true }
def FnBitsOrderUptoSaid : Prop := fnBitsOrderUptoRow.holds Try.pinned (OpenSpec.upto fnBitsOrderSpec)

/-- 'laws.FnHashBitsJoined', WHERE WHAT IT READS IS OF BULK AT MOST 1048576: true; the input reads as it did. -/
def fnHashBitsJoinedUptoRow : OpenClaim := { program := "ytoebofppmkglfaa", sum := "d61ae2af62683259fcc2b3f0355527ec08237ef6de5bf7cf297aa32c50bfbdbf", func := "pub-tholos/laws.FnHashBitsJoined", spec := "fnHashBitsJoined", recurses := true, apart := false, narrowed := true }
def FnHashBitsJoinedUptoSaid : Prop := fnHashBitsJoinedUptoRow.holds Try.pinned (OpenSpec.upto fnHashBitsJoinedSpec)

end Rows
end Go.Proofs.Ytoebofppmkglfaa
