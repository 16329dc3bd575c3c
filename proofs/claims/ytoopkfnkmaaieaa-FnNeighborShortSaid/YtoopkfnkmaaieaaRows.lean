/-
  No cell of these rows narrows 'for every input' (looked for: loops, veiled, ifaces, maps, wideKeys, modest, calm, conditions, laid).
  DERIVED. THE GIVEN ROWS OF THIS SEAT. 9 by the template 'for every input the law returns true; each argument reads behind the call as it read before'; 0 by the template 'total and deterministic' (their statements: YtoopkfnkmaaieaaTotals.lean).
  GIVEN WITH THE SEED: the statements are not yours to turn. If you find one false, say at which input.
  Laid BY PROGRAM, IN A SANDBOX (cutbox-rows.mjs): the forced cells as the released guide's own fill.sh prints them over the translation 896171e10c31700b… (all of the seat's roots in one cut). By AI agents, Wed Nov 11 2026. No macro, syntax, notation, axiom, sorry.
-/
import Derived.Test.YtoopkfnkmaaieaaChecked
import GoSem.Claim
import GoSem.ClaimJoined
import GoSem.ClaimMapViews
import Derived.JoinedTies
import Derived.KernelRfl
namespace Go.Proofs.Ytoopkfnkmaaieaa
/- THE CELL 'sum', in the pinned program and in every row, IS THE sha256 OF THE DUMP (.gsa) THAT YtoopkfnkmaaieaaProg.lean LOADS. Nothing in Lean hashes anything: it is a label: what it is worth is what the hold of that sum in a sandbox is worth. -/
noncomputable def Try.pinned : Pinned := { name := "ytoopkfnkmaaieaa", sum := "896171e10c31700b0728e05e6ee30befa82f913656da85ea4d3b6b216e17ff93", checked := Try.checked }
namespace Rows
def none {H : Type} : Left H := { results := [], args := [] }

/-- 'laws.FnTCPRead': WHATEVER THE INPUT: true; the input reads as it did. -/
def fnTCPReadSpec : ChangeSpec := { name := "fnTCPRead", fn := fun _ => fun
  | [d1, d2, d3, d4] => { results := [.lit (.bool true)], args := [d1, d2, d3, d4] }
  | _ => none }
def fnTCPReadRow : OpenClaim := { program := "ytoopkfnkmaaieaa", sum := "896171e10c31700b0728e05e6ee30befa82f913656da85ea4d3b6b216e17ff93", func := "loop.example/pub-g01478/laws.FnTCPRead", spec := "fnTCPRead", unfollowed := true, recurses := true, apart := false }
def FnTCPReadSaid : Prop := fnTCPReadRow.holds Try.pinned (OpenSpec.ofChange fnTCPReadSpec)

/-- ITS FALSE NEIGHBOUR: 'it returns false'. Refute it at one input. -/
def fnTCPReadWrong : ChangeSpec := { name := "fnTCPRead", fn := fun _ => fun
  | [d1, d2, d3, d4] => { results := [.lit (.bool false)], args := [d1, d2, d3, d4] }
  | _ => none }
def FnTCPReadWrongFalsely : Prop := fnTCPReadRow.holds Try.pinned (OpenSpec.ofChange fnTCPReadWrong)

/-- 'laws.FnTCPShort': WHATEVER THE INPUT: true; the input reads as it did. -/
def fnTCPShortSpec : ChangeSpec := { name := "fnTCPShort", fn := fun _ => fun
  | [d1, d2] => { results := [.lit (.bool true)], args := [d1, d2] }
  | _ => none }
def fnTCPShortRow : OpenClaim := { program := "ytoopkfnkmaaieaa", sum := "896171e10c31700b0728e05e6ee30befa82f913656da85ea4d3b6b216e17ff93", func := "loop.example/pub-g01478/laws.FnTCPShort", spec := "fnTCPShort", unfollowed := true, recurses := true, apart := false }
def FnTCPShortSaid : Prop := fnTCPShortRow.holds Try.pinned (OpenSpec.ofChange fnTCPShortSpec)

/-- ITS FALSE NEIGHBOUR: 'it returns false'. Refute it at one input. -/
def fnTCPShortWrong : ChangeSpec := { name := "fnTCPShort", fn := fun _ => fun
  | [d1, d2] => { results := [.lit (.bool false)], args := [d1, d2] }
  | _ => none }
def FnTCPShortWrongFalsely : Prop := fnTCPShortRow.holds Try.pinned (OpenSpec.ofChange fnTCPShortWrong)

/-- 'laws.FnIPv4Read': WHATEVER THE INPUT: true; the input reads as it did. -/
def fnIPv4ReadSpec : ChangeSpec := { name := "fnIPv4Read", fn := fun _ => fun
  | [d1, d2, d3] => { results := [.lit (.bool true)], args := [d1, d2, d3] }
  | _ => none }
def fnIPv4ReadRow : OpenClaim := { program := "ytoopkfnkmaaieaa", sum := "896171e10c31700b0728e05e6ee30befa82f913656da85ea4d3b6b216e17ff93", func := "loop.example/pub-g01478/laws.FnIPv4Read", spec := "fnIPv4Read", unfollowed := true, recurses := true, apart := false }
def FnIPv4ReadSaid : Prop := fnIPv4ReadRow.holds Try.pinned (OpenSpec.ofChange fnIPv4ReadSpec)

/-- ITS FALSE NEIGHBOUR: 'it returns false'. Refute it at one input. -/
def fnIPv4ReadWrong : ChangeSpec := { name := "fnIPv4Read", fn := fun _ => fun
  | [d1, d2, d3] => { results := [.lit (.bool false)], args := [d1, d2, d3] }
  | _ => none }
def FnIPv4ReadWrongFalsely : Prop := fnIPv4ReadRow.holds Try.pinned (OpenSpec.ofChange fnIPv4ReadWrong)

/-- 'laws.FnIPv4Short': WHATEVER THE INPUT: true; the input reads as it did. -/
def fnIPv4ShortSpec : ChangeSpec := { name := "fnIPv4Short", fn := fun _ => fun
  | [d1, d2] => { results := [.lit (.bool true)], args := [d1, d2] }
  | _ => none }
def fnIPv4ShortRow : OpenClaim := { program := "ytoopkfnkmaaieaa", sum := "896171e10c31700b0728e05e6ee30befa82f913656da85ea4d3b6b216e17ff93", func := "loop.example/pub-g01478/laws.FnIPv4Short", spec := "fnIPv4Short", unfollowed := true, recurses := true, apart := false }
def FnIPv4ShortSaid : Prop := fnIPv4ShortRow.holds Try.pinned (OpenSpec.ofChange fnIPv4ShortSpec)

/-- ITS FALSE NEIGHBOUR: 'it returns false'. Refute it at one input. -/
def fnIPv4ShortWrong : ChangeSpec := { name := "fnIPv4Short", fn := fun _ => fun
  | [d1, d2] => { results := [.lit (.bool false)], args := [d1, d2] }
  | _ => none }
def FnIPv4ShortWrongFalsely : Prop := fnIPv4ShortRow.holds Try.pinned (OpenSpec.ofChange fnIPv4ShortWrong)

/-- 'laws.FnDHCPRead': WHATEVER THE INPUT: true; the input reads as it did. -/
def fnDHCPReadSpec : ChangeSpec := { name := "fnDHCPRead", fn := fun _ => fun
  | [d] => { results := [.lit (.bool true)], args := [d] }
  | _ => none }
def fnDHCPReadRow : OpenClaim := { program := "ytoopkfnkmaaieaa", sum := "896171e10c31700b0728e05e6ee30befa82f913656da85ea4d3b6b216e17ff93", func := "loop.example/pub-g01478/laws.FnDHCPRead", spec := "fnDHCPRead", unfollowed := true, recurses := true, apart := false }
def FnDHCPReadSaid : Prop := fnDHCPReadRow.holds Try.pinned (OpenSpec.ofChange fnDHCPReadSpec)

/-- ITS FALSE NEIGHBOUR: 'it returns false'. Refute it at one input. -/
def fnDHCPReadWrong : ChangeSpec := { name := "fnDHCPRead", fn := fun _ => fun
  | [d] => { results := [.lit (.bool false)], args := [d] }
  | _ => none }
def FnDHCPReadWrongFalsely : Prop := fnDHCPReadRow.holds Try.pinned (OpenSpec.ofChange fnDHCPReadWrong)

/-- 'laws.FnDHCPShort': WHATEVER THE INPUT: true; the input reads as it did. -/
def fnDHCPShortSpec : ChangeSpec := { name := "fnDHCPShort", fn := fun _ => fun
  | [d1, d2] => { results := [.lit (.bool true)], args := [d1, d2] }
  | _ => none }
def fnDHCPShortRow : OpenClaim := { program := "ytoopkfnkmaaieaa", sum := "896171e10c31700b0728e05e6ee30befa82f913656da85ea4d3b6b216e17ff93", func := "loop.example/pub-g01478/laws.FnDHCPShort", spec := "fnDHCPShort", unfollowed := true, recurses := true, apart := false }
def FnDHCPShortSaid : Prop := fnDHCPShortRow.holds Try.pinned (OpenSpec.ofChange fnDHCPShortSpec)

/-- ITS FALSE NEIGHBOUR: 'it returns false'. Refute it at one input. -/
def fnDHCPShortWrong : ChangeSpec := { name := "fnDHCPShort", fn := fun _ => fun
  | [d1, d2] => { results := [.lit (.bool false)], args := [d1, d2] }
  | _ => none }
def FnDHCPShortWrongFalsely : Prop := fnDHCPShortRow.holds Try.pinned (OpenSpec.ofChange fnDHCPShortWrong)

/-- 'laws.FnDHCPWritten': WHATEVER THE INPUT: true; the input reads as it did. -/
def fnDHCPWrittenSpec : ChangeSpec := { name := "fnDHCPWritten", fn := fun _ => fun
  | [d] => { results := [.lit (.bool true)], args := [d] }
  | _ => none }
def fnDHCPWrittenRow : OpenClaim := { program := "ytoopkfnkmaaieaa", sum := "896171e10c31700b0728e05e6ee30befa82f913656da85ea4d3b6b216e17ff93", func := "loop.example/pub-g01478/laws.FnDHCPWritten", spec := "fnDHCPWritten", unfollowed := true, recurses := true, apart := false }
def FnDHCPWrittenSaid : Prop := fnDHCPWrittenRow.holds Try.pinned (OpenSpec.ofChange fnDHCPWrittenSpec)

/-- ITS FALSE NEIGHBOUR: 'it returns false'. Refute it at one input. -/
def fnDHCPWrittenWrong : ChangeSpec := { name := "fnDHCPWritten", fn := fun _ => fun
  | [d] => { results := [.lit (.bool false)], args := [d] }
  | _ => none }
def FnDHCPWrittenWrongFalsely : Prop := fnDHCPWrittenRow.holds Try.pinned (OpenSpec.ofChange fnDHCPWrittenWrong)

/-- 'laws.FnNeighborRead': WHATEVER THE INPUT: true; the input reads as it did. -/
def fnNeighborReadSpec : ChangeSpec := { name := "fnNeighborRead", fn := fun _ => fun
  | [d] => { results := [.lit (.bool true)], args := [d] }
  | _ => none }
def fnNeighborReadRow : OpenClaim := { program := "ytoopkfnkmaaieaa", sum := "896171e10c31700b0728e05e6ee30befa82f913656da85ea4d3b6b216e17ff93", func := "loop.example/pub-g01478/laws.FnNeighborRead", spec := "fnNeighborRead", unfollowed := true, recurses := true, apart := false }
def FnNeighborReadSaid : Prop := fnNeighborReadRow.holds Try.pinned (OpenSpec.ofChange fnNeighborReadSpec)

/-- ITS FALSE NEIGHBOUR: 'it returns false'. Refute it at one input. -/
def fnNeighborReadWrong : ChangeSpec := { name := "fnNeighborRead", fn := fun _ => fun
  | [d] => { results := [.lit (.bool false)], args := [d] }
  | _ => none }
def FnNeighborReadWrongFalsely : Prop := fnNeighborReadRow.holds Try.pinned (OpenSpec.ofChange fnNeighborReadWrong)

/-- 'laws.FnNeighborShort': WHATEVER THE INPUT: true; the input reads as it did. -/
def fnNeighborShortSpec : ChangeSpec := { name := "fnNeighborShort", fn := fun _ => fun
  | [d1, d2] => { results := [.lit (.bool true)], args := [d1, d2] }
  | _ => none }
def fnNeighborShortRow : OpenClaim := { program := "ytoopkfnkmaaieaa", sum := "896171e10c31700b0728e05e6ee30befa82f913656da85ea4d3b6b216e17ff93", func := "loop.example/pub-g01478/laws.FnNeighborShort", spec := "fnNeighborShort", unfollowed := true, recurses := true, apart := false }
def FnNeighborShortSaid : Prop := fnNeighborShortRow.holds Try.pinned (OpenSpec.ofChange fnNeighborShortSpec)

/-- ITS FALSE NEIGHBOUR: 'it returns false'. Refute it at one input. -/
def fnNeighborShortWrong : ChangeSpec := { name := "fnNeighborShort", fn := fun _ => fun
  | [d1, d2] => { results := [.lit (.bool false)], args := [d1, d2] }
  | _ => none }
def FnNeighborShortWrongFalsely : Prop := fnNeighborShortRow.holds Try.pinned (OpenSpec.ofChange fnNeighborShortWrong)

/- THE SECOND FORM. 'bulk': how many values and letters a reading holds, each counted each time it is reached (what is shared counts as often as it is met; a slice's spare places count too). A statement '..UptoSaid' is the law's where the arguments, and the package variables that the reading takes, are together of bulk at most 1048576: NARROWER than '..Said'. Prove '..Said' where nothing that the law and all that it calls make is longer than what came in: it says more and counts as full. Else prove '..UptoSaid'. A law counts once. -/
mutual
def uptoBulk {H : Type} : DataW H → Nat
  | .lit (.string bytes) => bytes.length + 1
  | .lit _ => 1
  | .nil => 1
  | .ptr d => uptoBulk d + 1
  | .slice elems spare => uptoBulkAll elems + uptoBulkAll spare + 1
  | .agg parts => uptoBulkAll parts + 1
  | .iface _ d => uptoBulk d + 1
  | .map entries => uptoBulkEntries entries + 1
  | .held _ => 1
def uptoBulkAll {H : Type} : List (DataW H) → Nat
  | [] => 0
  | d :: r => uptoBulk d + uptoBulkAll r
def uptoBulkEntries {H : Type} : List (Lit × DataW H) → Nat
  | [] => 0
  | x :: r => uptoBulkEntry x + uptoBulkEntries r
def uptoBulkEntry {H : Type} : Lit × DataW H → Nat
  | (.string bytes, d) => bytes.length + uptoBulk d + 1
  | (_, d) => uptoBulk d + 1
 end
def uptoSmall : (H : Type) → List (DataW H) → Bool := fun _ ds => decide (uptoBulkAll ds ≤ 1048576)
def OpenSpec.upto (s : _root_.Go.ChangeSpec) : _root_.Go.OpenSpec := { _root_.Go.OpenSpec.ofChange s with cond := some uptoSmall }

/-- 'laws.FnTCPRead', WHERE WHAT IT READS IS OF BULK AT MOST 1048576: true; the input reads as it did. -/
def fnTCPReadUptoRow : OpenClaim := { program := "ytoopkfnkmaaieaa", sum := "896171e10c31700b0728e05e6ee30befa82f913656da85ea4d3b6b216e17ff93", func := "loop.example/pub-g01478/laws.FnTCPRead", spec := "fnTCPRead", unfollowed := true, recurses := true, apart := false, narrowed := true }
def FnTCPReadUptoSaid : Prop := fnTCPReadUptoRow.holds Try.pinned (OpenSpec.upto fnTCPReadSpec)

/-- 'laws.FnTCPShort', WHERE WHAT IT READS IS OF BULK AT MOST 1048576: true; the input reads as it did. -/
def fnTCPShortUptoRow : OpenClaim := { program := "ytoopkfnkmaaieaa", sum := "896171e10c31700b0728e05e6ee30befa82f913656da85ea4d3b6b216e17ff93", func := "loop.example/pub-g01478/laws.FnTCPShort", spec := "fnTCPShort", unfollowed := true, recurses := true, apart := false, narrowed := true }
def FnTCPShortUptoSaid : Prop := fnTCPShortUptoRow.holds Try.pinned (OpenSpec.upto fnTCPShortSpec)

/-- 'laws.FnIPv4Read', WHERE WHAT IT READS IS OF BULK AT MOST 1048576: true; the input reads as it did. -/
def fnIPv4ReadUptoRow : OpenClaim := { program := "ytoopkfnkmaaieaa", sum := "896171e10c31700b0728e05e6ee30befa82f913656da85ea4d3b6b216e17ff93", func := "loop.example/pub-g01478/laws.FnIPv4Read", spec := "fnIPv4Read", unfollowed := true, recurses := true, apart := false, narrowed := true }
def FnIPv4ReadUptoSaid : Prop := fnIPv4ReadUptoRow.holds Try.pinned (OpenSpec.upto fnIPv4ReadSpec)

/-- 'laws.FnIPv4Short', WHERE WHAT IT READS IS OF BULK AT MOST 1048576: true; the input reads as it did. -/
def fnIPv4ShortUptoRow : OpenClaim := { program := "ytoopkfnkmaaieaa", sum := "896171e10c31700b0728e05e6ee30befa82f913656da85ea4d3b6b216e17ff93", func := "loop.example/pub-g01478/laws.FnIPv4Short", spec := "fnIPv4Short", unfollowed := true, recurses := true, apart := false, narrowed := true }
def FnIPv4ShortUptoSaid : Prop := fnIPv4ShortUptoRow.holds Try.pinned (OpenSpec.upto fnIPv4ShortSpec)

/-- 'laws.FnDHCPRead', WHERE WHAT IT READS IS OF BULK AT MOST 1048576: true; the input reads as it did. -/
def fnDHCPReadUptoRow : OpenClaim := { program := "ytoopkfnkmaaieaa", sum := "896171e10c31700b0728e05e6ee30befa82f913656da85ea4d3b6b216e17ff93", func := "loop.example/pub-g01478/laws.FnDHCPRead", spec := "fnDHCPRead", unfollowed := true, recurses := true, apart := false, narrowed := true }
def FnDHCPReadUptoSaid : Prop := fnDHCPReadUptoRow.holds Try.pinned (OpenSpec.upto fnDHCPReadSpec)

/-- 'laws.FnDHCPShort', WHERE WHAT IT READS IS OF BULK AT MOST 1048576: true; the input reads as it did. -/
def fnDHCPShortUptoRow : OpenClaim := { program := "ytoopkfnkmaaieaa", sum := "896171e10c31700b0728e05e6ee30befa82f913656da85ea4d3b6b216e17ff93", func := "loop.example/pub-g01478/laws.FnDHCPShort", spec := "fnDHCPShort", unfollowed := true, recurses := true, apart := false, narrowed := true }
def FnDHCPShortUptoSaid : Prop := fnDHCPShortUptoRow.holds Try.pinned (OpenSpec.upto fnDHCPShortSpec)

/-- 'laws.FnDHCPWritten', WHERE WHAT IT READS IS OF BULK AT MOST 1048576: true; the input reads as it did. -/
def fnDHCPWrittenUptoRow : OpenClaim := { program := "ytoopkfnkmaaieaa", sum := "896171e10c31700b0728e05e6ee30befa82f913656da85ea4d3b6b216e17ff93", func := "loop.example/pub-g01478/laws.FnDHCPWritten", spec := "fnDHCPWritten", unfollowed := true, recurses := true, apart := false, narrowed := true }
def FnDHCPWrittenUptoSaid : Prop := fnDHCPWrittenUptoRow.holds Try.pinned (OpenSpec.upto fnDHCPWrittenSpec)

/-- 'laws.FnNeighborRead', WHERE WHAT IT READS IS OF BULK AT MOST 1048576: true; the input reads as it did. -/
def fnNeighborReadUptoRow : OpenClaim := { program := "ytoopkfnkmaaieaa", sum := "896171e10c31700b0728e05e6ee30befa82f913656da85ea4d3b6b216e17ff93", func := "loop.example/pub-g01478/laws.FnNeighborRead", spec := "fnNeighborRead", unfollowed := true, recurses := true, apart := false, narrowed := true }
def FnNeighborReadUptoSaid : Prop := fnNeighborReadUptoRow.holds Try.pinned (OpenSpec.upto fnNeighborReadSpec)

/-- 'laws.FnNeighborShort', WHERE WHAT IT READS IS OF BULK AT MOST 1048576: true; the input reads as it did. -/
def fnNeighborShortUptoRow : OpenClaim := { program := "ytoopkfnkmaaieaa", sum := "896171e10c31700b0728e05e6ee30befa82f913656da85ea4d3b6b216e17ff93", func := "loop.example/pub-g01478/laws.FnNeighborShort", spec := "fnNeighborShort", unfollowed := true, recurses := true, apart := false, narrowed := true }
def FnNeighborShortUptoSaid : Prop := fnNeighborShortUptoRow.holds Try.pinned (OpenSpec.upto fnNeighborShortSpec)

end Rows
end Go.Proofs.Ytoopkfnkmaaieaa
