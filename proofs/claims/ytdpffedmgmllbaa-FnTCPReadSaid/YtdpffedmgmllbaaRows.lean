/-
  No cell of these rows narrows 'for every input' (looked for: loops, veiled, ifaces, maps, wideKeys, modest, calm, conditions, laid).
  DERIVED. THE GIVEN ROWS OF THIS SEAT. 6 by the template 'for every input the law returns true; each argument reads behind the call as it read before'; 0 by the template 'total and deterministic' (their statements: YtdpffedmgmllbaaTotals.lean).
  GIVEN WITH THE SEED: the statements are not yours to turn. If you find one false, say at which input.
  Laid BY PROGRAM, IN A SANDBOX (cutbox-rows.mjs): the forced cells as the released guide's own fill.sh prints them over the translation 4ed1bef3a15ab05b… (all of the seat's roots in one cut). By AI agents, Wed Nov 11 2026. No macro, syntax, notation, axiom, sorry.
-/
import Derived.Test.YtdpffedmgmllbaaChecked
import GoSem.Claim
import GoSem.ClaimJoined
import GoSem.ClaimMapViews
import Derived.JoinedTies
import Derived.KernelRfl
namespace Go.Proofs.Ytdpffedmgmllbaa
/- THE CELL 'sum', in the pinned program and in every row, IS THE sha256 OF THE DUMP (.gsa) THAT YtdpffedmgmllbaaProg.lean LOADS. Nothing in Lean hashes anything: it is a label: what it is worth is what the hold of that sum in a sandbox is worth. -/
noncomputable def Try.pinned : Pinned := { name := "ytdpffedmgmllbaa", sum := "4ed1bef3a15ab05b6080d79af09efacdd08c08d6324c52398746238224316951", checked := Try.checked }
namespace Rows
def none {H : Type} : Left H := { results := [], args := [] }

/-- 'laws.FnTCPRead': WHATEVER THE INPUT: true; the input reads as it did. -/
def fnTCPReadSpec : ChangeSpec := { name := "fnTCPRead", fn := fun _ => fun
  | [d1, d2, d3, d4] => { results := [.lit (.bool true)], args := [d1, d2, d3, d4] }
  | _ => none }
def fnTCPReadRow : OpenClaim := { program := "ytdpffedmgmllbaa", sum := "4ed1bef3a15ab05b6080d79af09efacdd08c08d6324c52398746238224316951", func := "loop.example/pub-g01478/laws.FnTCPRead", spec := "fnTCPRead", unfollowed := true, recurses := true, apart := false }
def FnTCPReadSaid : Prop := fnTCPReadRow.holds Try.pinned (OpenSpec.ofChange fnTCPReadSpec)

/-- ITS FALSE NEIGHBOUR: 'it returns false'. Refute it at one input. -/
def fnTCPReadWrong : ChangeSpec := { name := "fnTCPRead", fn := fun _ => fun
  | [d1, d2, d3, d4] => { results := [.lit (.bool false)], args := [d1, d2, d3, d4] }
  | _ => none }
def FnTCPReadWrongFalsely : Prop := fnTCPReadRow.holds Try.pinned (OpenSpec.ofChange fnTCPReadWrong)

/-- 'laws.FnDHCPWritten': WHATEVER THE INPUT: true; the input reads as it did. -/
def fnDHCPWrittenSpec : ChangeSpec := { name := "fnDHCPWritten", fn := fun _ => fun
  | [d] => { results := [.lit (.bool true)], args := [d] }
  | _ => none }
def fnDHCPWrittenRow : OpenClaim := { program := "ytdpffedmgmllbaa", sum := "4ed1bef3a15ab05b6080d79af09efacdd08c08d6324c52398746238224316951", func := "loop.example/pub-g01478/laws.FnDHCPWritten", spec := "fnDHCPWritten", unfollowed := true, recurses := true, apart := false }
def FnDHCPWrittenSaid : Prop := fnDHCPWrittenRow.holds Try.pinned (OpenSpec.ofChange fnDHCPWrittenSpec)

/-- ITS FALSE NEIGHBOUR: 'it returns false'. Refute it at one input. -/
def fnDHCPWrittenWrong : ChangeSpec := { name := "fnDHCPWritten", fn := fun _ => fun
  | [d] => { results := [.lit (.bool false)], args := [d] }
  | _ => none }
def FnDHCPWrittenWrongFalsely : Prop := fnDHCPWrittenRow.holds Try.pinned (OpenSpec.ofChange fnDHCPWrittenWrong)

/-- 'laws.FnExtensionRead': WHATEVER THE INPUT: true; the input reads as it did. -/
def fnExtensionReadSpec : ChangeSpec := { name := "fnExtensionRead", fn := fun _ => fun
  | [d1, d2, d3] => { results := [.lit (.bool true)], args := [d1, d2, d3] }
  | _ => none }
def fnExtensionReadRow : OpenClaim := { program := "ytdpffedmgmllbaa", sum := "4ed1bef3a15ab05b6080d79af09efacdd08c08d6324c52398746238224316951", func := "loop.example/pub-g01478/laws.FnExtensionRead", spec := "fnExtensionRead", unfollowed := true, recurses := true, apart := false }
def FnExtensionReadSaid : Prop := fnExtensionReadRow.holds Try.pinned (OpenSpec.ofChange fnExtensionReadSpec)

/-- ITS FALSE NEIGHBOUR: 'it returns false'. Refute it at one input. -/
def fnExtensionReadWrong : ChangeSpec := { name := "fnExtensionRead", fn := fun _ => fun
  | [d1, d2, d3] => { results := [.lit (.bool false)], args := [d1, d2, d3] }
  | _ => none }
def FnExtensionReadWrongFalsely : Prop := fnExtensionReadRow.holds Try.pinned (OpenSpec.ofChange fnExtensionReadWrong)

/-- 'laws.FnIPv4Written': WHATEVER THE INPUT: true; the input reads as it did. -/
def fnIPv4WrittenSpec : ChangeSpec := { name := "fnIPv4Written", fn := fun _ => fun
  | [d1, d2] => { results := [.lit (.bool true)], args := [d1, d2] }
  | _ => none }
def fnIPv4WrittenRow : OpenClaim := { program := "ytdpffedmgmllbaa", sum := "4ed1bef3a15ab05b6080d79af09efacdd08c08d6324c52398746238224316951", func := "loop.example/pub-g01478/laws.FnIPv4Written", spec := "fnIPv4Written", unfollowed := true, recurses := true, apart := false }
def FnIPv4WrittenSaid : Prop := fnIPv4WrittenRow.holds Try.pinned (OpenSpec.ofChange fnIPv4WrittenSpec)

/-- ITS FALSE NEIGHBOUR: 'it returns false'. Refute it at one input. -/
def fnIPv4WrittenWrong : ChangeSpec := { name := "fnIPv4Written", fn := fun _ => fun
  | [d1, d2] => { results := [.lit (.bool false)], args := [d1, d2] }
  | _ => none }
def FnIPv4WrittenWrongFalsely : Prop := fnIPv4WrittenRow.holds Try.pinned (OpenSpec.ofChange fnIPv4WrittenWrong)

/-- 'laws.FnIPv4Sum': WHATEVER THE INPUT: true; the input reads as it did. -/
def fnIPv4SumSpec : ChangeSpec := { name := "fnIPv4Sum", fn := fun _ => fun
  | [d1, d2] => { results := [.lit (.bool true)], args := [d1, d2] }
  | _ => none }
def fnIPv4SumRow : OpenClaim := { program := "ytdpffedmgmllbaa", sum := "4ed1bef3a15ab05b6080d79af09efacdd08c08d6324c52398746238224316951", func := "loop.example/pub-g01478/laws.FnIPv4Sum", spec := "fnIPv4Sum", unfollowed := true, recurses := true, apart := false }
def FnIPv4SumSaid : Prop := fnIPv4SumRow.holds Try.pinned (OpenSpec.ofChange fnIPv4SumSpec)

/-- ITS FALSE NEIGHBOUR: 'it returns false'. Refute it at one input. -/
def fnIPv4SumWrong : ChangeSpec := { name := "fnIPv4Sum", fn := fun _ => fun
  | [d1, d2] => { results := [.lit (.bool false)], args := [d1, d2] }
  | _ => none }
def FnIPv4SumWrongFalsely : Prop := fnIPv4SumRow.holds Try.pinned (OpenSpec.ofChange fnIPv4SumWrong)

/-- 'laws.FnUDPWritten': WHATEVER THE INPUT: true; the input reads as it did. -/
def fnUDPWrittenSpec : ChangeSpec := { name := "fnUDPWritten", fn := fun _ => fun
  | [d1, d2, d3, d4] => { results := [.lit (.bool true)], args := [d1, d2, d3, d4] }
  | _ => none }
def fnUDPWrittenRow : OpenClaim := { program := "ytdpffedmgmllbaa", sum := "4ed1bef3a15ab05b6080d79af09efacdd08c08d6324c52398746238224316951", func := "loop.example/pub-g01478/laws.FnUDPWritten", spec := "fnUDPWritten", unfollowed := true, recurses := true, apart := false }
def FnUDPWrittenSaid : Prop := fnUDPWrittenRow.holds Try.pinned (OpenSpec.ofChange fnUDPWrittenSpec)

/-- ITS FALSE NEIGHBOUR: 'it returns false'. Refute it at one input. -/
def fnUDPWrittenWrong : ChangeSpec := { name := "fnUDPWritten", fn := fun _ => fun
  | [d1, d2, d3, d4] => { results := [.lit (.bool false)], args := [d1, d2, d3, d4] }
  | _ => none }
def FnUDPWrittenWrongFalsely : Prop := fnUDPWrittenRow.holds Try.pinned (OpenSpec.ofChange fnUDPWrittenWrong)

/- THE SECOND FORM. 'bulk': how many values and letters a reading holds, each counted each time it is reached (what is shared counts as often as it is met; a slice's spare places count too). A statement '..UptoSaid' is the law's where the arguments, and the package variables that the reading takes, are together of bulk at most 1048576: NARROWER than '..Said'. Prove '..Said' where nothing that the law and all that it calls make is longer than what came in: it says more and counts as full. Else prove '..UptoSaid'. A law counts once. -/
mutual
def uptoBulk {H : Type} : DataW H → Nat
  | .lit (.string bytes) => bytes.length + 1
  | .lit _ => 1
  | .nil => 1
  | .ptr d => uptoBulk d + 1
  | .slice elems spare => uptoBulkAll elems + uptoBulkAll spare + 1
  | .agg parts => uptoBulkAll parts + 1
  | .iface _ d => uptoBulk d + 1
  | .map entries => uptoBulkEntries entries + 1
  | .held _ => 1
def uptoBulkAll {H : Type} : List (DataW H) → Nat
  | [] => 0
  | d :: r => uptoBulk d + uptoBulkAll r
def uptoBulkEntries {H : Type} : List (Lit × DataW H) → Nat
  | [] => 0
  | x :: r => uptoBulkEntry x + uptoBulkEntries r
def uptoBulkEntry {H : Type} : Lit × DataW H → Nat
  | (.string bytes, d) => bytes.length + uptoBulk d + 1
  | (_, d) => uptoBulk d + 1
 end
def uptoSmall : (H : Type) → List (DataW H) → Bool := fun _ ds => decide (uptoBulkAll ds ≤ 1048576)
def OpenSpec.upto (s : _root_.Go.ChangeSpec) : _root_.Go.OpenSpec := { _root_.Go.OpenSpec.ofChange s with cond := some uptoSmall }

/-- 'laws.FnTCPRead', WHERE WHAT IT READS IS OF BULK AT MOST 1048576: true; the input reads as it did. -/
def fnTCPReadUptoRow : OpenClaim := { program := "ytdpffedmgmllbaa", sum := "4ed1bef3a15ab05b6080d79af09efacdd08c08d6324c52398746238224316951", func := "loop.example/pub-g01478/laws.FnTCPRead", spec := "fnTCPRead", unfollowed := true, recurses := true, apart := false, narrowed := true }
def FnTCPReadUptoSaid : Prop := fnTCPReadUptoRow.holds Try.pinned (OpenSpec.upto fnTCPReadSpec)

/-- 'laws.FnDHCPWritten', WHERE WHAT IT READS IS OF BULK AT MOST 1048576: true; the input reads as it did. -/
def fnDHCPWrittenUptoRow : OpenClaim := { program := "ytdpffedmgmllbaa", sum := "4ed1bef3a15ab05b6080d79af09efacdd08c08d6324c52398746238224316951", func := "loop.example/pub-g01478/laws.FnDHCPWritten", spec := "fnDHCPWritten", unfollowed := true, recurses := true, apart := false, narrowed := true }
def FnDHCPWrittenUptoSaid : Prop := fnDHCPWrittenUptoRow.holds Try.pinned (OpenSpec.upto fnDHCPWrittenSpec)

/-- 'laws.FnExtensionRead', WHERE WHAT IT READS IS OF BULK AT MOST 1048576: true; the input reads as it did. -/
def fnExtensionReadUptoRow : OpenClaim := { program := "ytdpffedmgmllbaa", sum := "4ed1bef3a15ab05b6080d79af09efacdd08c08d6324c52398746238224316951", func := "loop.example/pub-g01478/laws.FnExtensionRead", spec := "fnExtensionRead", unfollowed := true, recurses := true, apart := false, narrowed := true }
def FnExtensionReadUptoSaid : Prop := fnExtensionReadUptoRow.holds Try.pinned (OpenSpec.upto fnExtensionReadSpec)

/-- 'laws.FnIPv4Written', WHERE WHAT IT READS IS OF BULK AT MOST 1048576: true; the input reads as it did. -/
def fnIPv4WrittenUptoRow : OpenClaim := { program := "ytdpffedmgmllbaa", sum := "4ed1bef3a15ab05b6080d79af09efacdd08c08d6324c52398746238224316951", func := "loop.example/pub-g01478/laws.FnIPv4Written", spec := "fnIPv4Written", unfollowed := true, recurses := true, apart := false, narrowed := true }
def FnIPv4WrittenUptoSaid : Prop := fnIPv4WrittenUptoRow.holds Try.pinned (OpenSpec.upto fnIPv4WrittenSpec)

/-- 'laws.FnIPv4Sum', WHERE WHAT IT READS IS OF BULK AT MOST 1048576: true; the input reads as it did. -/
def fnIPv4SumUptoRow : OpenClaim := { program := "ytdpffedmgmllbaa", sum := "4ed1bef3a15ab05b6080d79af09efacdd08c08d6324c52398746238224316951", func := "loop.example/pub-g01478/laws.FnIPv4Sum", spec := "fnIPv4Sum", unfollowed := true, recurses := true, apart := false, narrowed := true }
def FnIPv4SumUptoSaid : Prop := fnIPv4SumUptoRow.holds Try.pinned (OpenSpec.upto fnIPv4SumSpec)

/-- 'laws.FnUDPWritten', WHERE WHAT IT READS IS OF BULK AT MOST 1048576: true; the input reads as it did. -/
def fnUDPWrittenUptoRow : OpenClaim := { program := "ytdpffedmgmllbaa", sum := "4ed1bef3a15ab05b6080d79af09efacdd08c08d6324c52398746238224316951", func := "loop.example/pub-g01478/laws.FnUDPWritten", spec := "fnUDPWritten", unfollowed := true, recurses := true, apart := false, narrowed := true }
def FnUDPWrittenUptoSaid : Prop := fnUDPWrittenUptoRow.holds Try.pinned (OpenSpec.upto fnUDPWrittenSpec)

end Rows
end Go.Proofs.Ytdpffedmgmllbaa
