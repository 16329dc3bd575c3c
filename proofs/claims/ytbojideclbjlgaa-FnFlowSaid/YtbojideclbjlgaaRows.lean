/-
  No cell of these rows narrows 'for every input' (looked for: loops, veiled, ifaces, maps, wideKeys, modest, calm, conditions, laid).
  DERIVED. THE GIVEN ROWS OF THIS SEAT. 12 by the template 'for every input the law returns true; each argument reads behind the call as it read before'; 0 by the template 'total and deterministic' (their statements: YtbojideclbjlgaaTotals.lean).
  GIVEN WITH THE SEED: the statements are not yours to turn. If you find one false, say at which input.
  Laid BY PROGRAM, IN A SANDBOX (cutbox-rows.mjs): the forced cells as the released guide's own fill.sh prints them over the translation 6345798e48c62649… (all of the seat's roots in one cut). By AI agents, Wed Nov 11 2026. No macro, syntax, notation, axiom, sorry.
-/
import Derived.Test.YtbojideclbjlgaaChecked
import GoSem.Claim
import GoSem.ClaimJoined
import GoSem.ClaimMapViews
import Derived.JoinedTies
import Derived.KernelRfl
namespace Go.Proofs.Ytbojideclbjlgaa
/- THE CELL 'sum', in the pinned program and in every row, IS THE sha256 OF THE DUMP (.gsa) THAT YtbojideclbjlgaaProg.lean LOADS. Nothing in Lean hashes anything: it is a label: what it is worth is what the hold of that sum in a sandbox is worth. -/
noncomputable def Try.pinned : Pinned := { name := "ytbojideclbjlgaa", sum := "6345798e48c62649331fee0332ecb60d042a4d62a5e6d78b967f8f08c409c36f", checked := Try.checked }
namespace Rows
def none {H : Type} : Left H := { results := [], args := [] }

/-- 'laws.FnFlow': WHATEVER THE INPUT: true; the input reads as it did. -/
def fnFlowSpec : ChangeSpec := { name := "fnFlow", fn := fun _ => fun
  | [d1, d2] => { results := [.lit (.bool true)], args := [d1, d2] }
  | _ => none }
def fnFlowRow : OpenClaim := { program := "ytbojideclbjlgaa", sum := "6345798e48c62649331fee0332ecb60d042a4d62a5e6d78b967f8f08c409c36f", func := "loop.example/pub-g01478/laws.FnFlow", spec := "fnFlow", apart := false }
def FnFlowSaid : Prop := fnFlowRow.holds Try.pinned (OpenSpec.ofChange fnFlowSpec)

/-- ITS FALSE NEIGHBOUR: 'it returns false'. Refute it at one input. -/
def fnFlowWrong : ChangeSpec := { name := "fnFlow", fn := fun _ => fun
  | [d1, d2] => { results := [.lit (.bool false)], args := [d1, d2] }
  | _ => none }
def FnFlowWrongFalsely : Prop := fnFlowRow.holds Try.pinned (OpenSpec.ofChange fnFlowWrong)

/-- 'laws.FnBuffer': WHATEVER THE INPUT: true; the input reads as it did. -/
def fnBufferSpec : ChangeSpec := { name := "fnBuffer", fn := fun _ => fun
  | [d1, d2, d3] => { results := [.lit (.bool true)], args := [d1, d2, d3] }
  | _ => none }
def fnBufferRow : OpenClaim := { program := "ytbojideclbjlgaa", sum := "6345798e48c62649331fee0332ecb60d042a4d62a5e6d78b967f8f08c409c36f", func := "loop.example/pub-g01478/laws.FnBuffer", spec := "fnBuffer", unfollowed := true, recurses := true, apart := false }
def FnBufferSaid : Prop := fnBufferRow.holds Try.pinned (OpenSpec.ofChange fnBufferSpec)

/-- ITS FALSE NEIGHBOUR: 'it returns false'. Refute it at one input. -/
def fnBufferWrong : ChangeSpec := { name := "fnBuffer", fn := fun _ => fun
  | [d1, d2, d3] => { results := [.lit (.bool false)], args := [d1, d2, d3] }
  | _ => none }
def FnBufferWrongFalsely : Prop := fnBufferRow.holds Try.pinned (OpenSpec.ofChange fnBufferWrong)

/-- 'laws.FnLabelWritten': WHATEVER THE INPUT: true; the input reads as it did. -/
def fnLabelWrittenSpec : ChangeSpec := { name := "fnLabelWritten", fn := fun _ => fun
  | [d1, d2] => { results := [.lit (.bool true)], args := [d1, d2] }
  | _ => none }
def fnLabelWrittenRow : OpenClaim := { program := "ytbojideclbjlgaa", sum := "6345798e48c62649331fee0332ecb60d042a4d62a5e6d78b967f8f08c409c36f", func := "loop.example/pub-g01478/laws.FnLabelWritten", spec := "fnLabelWritten", unfollowed := true, recurses := true, apart := false }
def FnLabelWrittenSaid : Prop := fnLabelWrittenRow.holds Try.pinned (OpenSpec.ofChange fnLabelWrittenSpec)

/-- ITS FALSE NEIGHBOUR: 'it returns false'. Refute it at one input. -/
def fnLabelWrittenWrong : ChangeSpec := { name := "fnLabelWritten", fn := fun _ => fun
  | [d1, d2] => { results := [.lit (.bool false)], args := [d1, d2] }
  | _ => none }
def FnLabelWrittenWrongFalsely : Prop := fnLabelWrittenRow.holds Try.pinned (OpenSpec.ofChange fnLabelWrittenWrong)

/-- 'laws.FnVLANWritten': WHATEVER THE INPUT: true; the input reads as it did. -/
def fnVLANWrittenSpec : ChangeSpec := { name := "fnVLANWritten", fn := fun _ => fun
  | [d1, d2] => { results := [.lit (.bool true)], args := [d1, d2] }
  | _ => none }
def fnVLANWrittenRow : OpenClaim := { program := "ytbojideclbjlgaa", sum := "6345798e48c62649331fee0332ecb60d042a4d62a5e6d78b967f8f08c409c36f", func := "loop.example/pub-g01478/laws.FnVLANWritten", spec := "fnVLANWritten", unfollowed := true, recurses := true, apart := false }
def FnVLANWrittenSaid : Prop := fnVLANWrittenRow.holds Try.pinned (OpenSpec.ofChange fnVLANWrittenSpec)

/-- ITS FALSE NEIGHBOUR: 'it returns false'. Refute it at one input. -/
def fnVLANWrittenWrong : ChangeSpec := { name := "fnVLANWritten", fn := fun _ => fun
  | [d1, d2] => { results := [.lit (.bool false)], args := [d1, d2] }
  | _ => none }
def FnVLANWrittenWrongFalsely : Prop := fnVLANWrittenRow.holds Try.pinned (OpenSpec.ofChange fnVLANWrittenWrong)

/-- 'laws.FnVXLANWritten': WHATEVER THE INPUT: true; the input reads as it did. -/
def fnVXLANWrittenSpec : ChangeSpec := { name := "fnVXLANWritten", fn := fun _ => fun
  | [d1, d2] => { results := [.lit (.bool true)], args := [d1, d2] }
  | _ => none }
def fnVXLANWrittenRow : OpenClaim := { program := "ytbojideclbjlgaa", sum := "6345798e48c62649331fee0332ecb60d042a4d62a5e6d78b967f8f08c409c36f", func := "loop.example/pub-g01478/laws.FnVXLANWritten", spec := "fnVXLANWritten", unfollowed := true, recurses := true, apart := false }
def FnVXLANWrittenSaid : Prop := fnVXLANWrittenRow.holds Try.pinned (OpenSpec.ofChange fnVXLANWrittenSpec)

/-- ITS FALSE NEIGHBOUR: 'it returns false'. Refute it at one input. -/
def fnVXLANWrittenWrong : ChangeSpec := { name := "fnVXLANWritten", fn := fun _ => fun
  | [d1, d2] => { results := [.lit (.bool false)], args := [d1, d2] }
  | _ => none }
def FnVXLANWrittenWrongFalsely : Prop := fnVXLANWrittenRow.holds Try.pinned (OpenSpec.ofChange fnVXLANWrittenWrong)

/-- 'laws.FnARPWritten': WHATEVER THE INPUT: true; the input reads as it did. -/
def fnARPWrittenSpec : ChangeSpec := { name := "fnARPWritten", fn := fun _ => fun
  | [d] => { results := [.lit (.bool true)], args := [d] }
  | _ => none }
def fnARPWrittenRow : OpenClaim := { program := "ytbojideclbjlgaa", sum := "6345798e48c62649331fee0332ecb60d042a4d62a5e6d78b967f8f08c409c36f", func := "loop.example/pub-g01478/laws.FnARPWritten", spec := "fnARPWritten", unfollowed := true, recurses := true, apart := false }
def FnARPWrittenSaid : Prop := fnARPWrittenRow.holds Try.pinned (OpenSpec.ofChange fnARPWrittenSpec)

/-- ITS FALSE NEIGHBOUR: 'it returns false'. Refute it at one input. -/
def fnARPWrittenWrong : ChangeSpec := { name := "fnARPWritten", fn := fun _ => fun
  | [d] => { results := [.lit (.bool false)], args := [d] }
  | _ => none }
def FnARPWrittenWrongFalsely : Prop := fnARPWrittenRow.holds Try.pinned (OpenSpec.ofChange fnARPWrittenWrong)

/-- 'laws.FnICMPWritten': WHATEVER THE INPUT: true; the input reads as it did. -/
def fnICMPWrittenSpec : ChangeSpec := { name := "fnICMPWritten", fn := fun _ => fun
  | [d1, d2] => { results := [.lit (.bool true)], args := [d1, d2] }
  | _ => none }
def fnICMPWrittenRow : OpenClaim := { program := "ytbojideclbjlgaa", sum := "6345798e48c62649331fee0332ecb60d042a4d62a5e6d78b967f8f08c409c36f", func := "loop.example/pub-g01478/laws.FnICMPWritten", spec := "fnICMPWritten", unfollowed := true, recurses := true, apart := false }
def FnICMPWrittenSaid : Prop := fnICMPWrittenRow.holds Try.pinned (OpenSpec.ofChange fnICMPWrittenSpec)

/-- ITS FALSE NEIGHBOUR: 'it returns false'. Refute it at one input. -/
def fnICMPWrittenWrong : ChangeSpec := { name := "fnICMPWritten", fn := fun _ => fun
  | [d1, d2] => { results := [.lit (.bool false)], args := [d1, d2] }
  | _ => none }
def FnICMPWrittenWrongFalsely : Prop := fnICMPWrittenRow.holds Try.pinned (OpenSpec.ofChange fnICMPWrittenWrong)

/-- 'laws.FnGREWritten': WHATEVER THE INPUT: true; the input reads as it did. -/
def fnGREWrittenSpec : ChangeSpec := { name := "fnGREWritten", fn := fun _ => fun
  | [d1, d2] => { results := [.lit (.bool true)], args := [d1, d2] }
  | _ => none }
def fnGREWrittenRow : OpenClaim := { program := "ytbojideclbjlgaa", sum := "6345798e48c62649331fee0332ecb60d042a4d62a5e6d78b967f8f08c409c36f", func := "loop.example/pub-g01478/laws.FnGREWritten", spec := "fnGREWritten", unfollowed := true, recurses := true, apart := false }
def FnGREWrittenSaid : Prop := fnGREWrittenRow.holds Try.pinned (OpenSpec.ofChange fnGREWrittenSpec)

/-- ITS FALSE NEIGHBOUR: 'it returns false'. Refute it at one input. -/
def fnGREWrittenWrong : ChangeSpec := { name := "fnGREWritten", fn := fun _ => fun
  | [d1, d2] => { results := [.lit (.bool false)], args := [d1, d2] }
  | _ => none }
def FnGREWrittenWrongFalsely : Prop := fnGREWrittenRow.holds Try.pinned (OpenSpec.ofChange fnGREWrittenWrong)

/-- 'laws.FnIPv4Sum': WHATEVER THE INPUT: true; the input reads as it did. -/
def fnIPv4SumSpec : ChangeSpec := { name := "fnIPv4Sum", fn := fun _ => fun
  | [d1, d2] => { results := [.lit (.bool true)], args := [d1, d2] }
  | _ => none }
def fnIPv4SumRow : OpenClaim := { program := "ytbojideclbjlgaa", sum := "6345798e48c62649331fee0332ecb60d042a4d62a5e6d78b967f8f08c409c36f", func := "loop.example/pub-g01478/laws.FnIPv4Sum", spec := "fnIPv4Sum", unfollowed := true, recurses := true, apart := false }
def FnIPv4SumSaid : Prop := fnIPv4SumRow.holds Try.pinned (OpenSpec.ofChange fnIPv4SumSpec)

/-- ITS FALSE NEIGHBOUR: 'it returns false'. Refute it at one input. -/
def fnIPv4SumWrong : ChangeSpec := { name := "fnIPv4Sum", fn := fun _ => fun
  | [d1, d2] => { results := [.lit (.bool false)], args := [d1, d2] }
  | _ => none }
def FnIPv4SumWrongFalsely : Prop := fnIPv4SumRow.holds Try.pinned (OpenSpec.ofChange fnIPv4SumWrong)

/-- 'laws.FnIPv4Written': WHATEVER THE INPUT: true; the input reads as it did. -/
def fnIPv4WrittenSpec : ChangeSpec := { name := "fnIPv4Written", fn := fun _ => fun
  | [d1, d2] => { results := [.lit (.bool true)], args := [d1, d2] }
  | _ => none }
def fnIPv4WrittenRow : OpenClaim := { program := "ytbojideclbjlgaa", sum := "6345798e48c62649331fee0332ecb60d042a4d62a5e6d78b967f8f08c409c36f", func := "loop.example/pub-g01478/laws.FnIPv4Written", spec := "fnIPv4Written", unfollowed := true, recurses := true, apart := false }
def FnIPv4WrittenSaid : Prop := fnIPv4WrittenRow.holds Try.pinned (OpenSpec.ofChange fnIPv4WrittenSpec)

/-- ITS FALSE NEIGHBOUR: 'it returns false'. Refute it at one input. -/
def fnIPv4WrittenWrong : ChangeSpec := { name := "fnIPv4Written", fn := fun _ => fun
  | [d1, d2] => { results := [.lit (.bool false)], args := [d1, d2] }
  | _ => none }
def FnIPv4WrittenWrongFalsely : Prop := fnIPv4WrittenRow.holds Try.pinned (OpenSpec.ofChange fnIPv4WrittenWrong)

/-- 'laws.FnUDPWritten': WHATEVER THE INPUT: true; the input reads as it did. -/
def fnUDPWrittenSpec : ChangeSpec := { name := "fnUDPWritten", fn := fun _ => fun
  | [d1, d2, d3, d4] => { results := [.lit (.bool true)], args := [d1, d2, d3, d4] }
  | _ => none }
def fnUDPWrittenRow : OpenClaim := { program := "ytbojideclbjlgaa", sum := "6345798e48c62649331fee0332ecb60d042a4d62a5e6d78b967f8f08c409c36f", func := "loop.example/pub-g01478/laws.FnUDPWritten", spec := "fnUDPWritten", unfollowed := true, recurses := true, apart := false }
def FnUDPWrittenSaid : Prop := fnUDPWrittenRow.holds Try.pinned (OpenSpec.ofChange fnUDPWrittenSpec)

/-- ITS FALSE NEIGHBOUR: 'it returns false'. Refute it at one input. -/
def fnUDPWrittenWrong : ChangeSpec := { name := "fnUDPWritten", fn := fun _ => fun
  | [d1, d2, d3, d4] => { results := [.lit (.bool false)], args := [d1, d2, d3, d4] }
  | _ => none }
def FnUDPWrittenWrongFalsely : Prop := fnUDPWrittenRow.holds Try.pinned (OpenSpec.ofChange fnUDPWrittenWrong)

/-- 'laws.FnIPv6Written': WHATEVER THE INPUT: true; the input reads as it did. -/
def fnIPv6WrittenSpec : ChangeSpec := { name := "fnIPv6Written", fn := fun _ => fun
  | [d1, d2] => { results := [.lit (.bool true)], args := [d1, d2] }
  | _ => none }
def fnIPv6WrittenRow : OpenClaim := { program := "ytbojideclbjlgaa", sum := "6345798e48c62649331fee0332ecb60d042a4d62a5e6d78b967f8f08c409c36f", func := "loop.example/pub-g01478/laws.FnIPv6Written", spec := "fnIPv6Written", unfollowed := true, recurses := true, apart := false }
def FnIPv6WrittenSaid : Prop := fnIPv6WrittenRow.holds Try.pinned (OpenSpec.ofChange fnIPv6WrittenSpec)

/-- ITS FALSE NEIGHBOUR: 'it returns false'. Refute it at one input. -/
def fnIPv6WrittenWrong : ChangeSpec := { name := "fnIPv6Written", fn := fun _ => fun
  | [d1, d2] => { results := [.lit (.bool false)], args := [d1, d2] }
  | _ => none }
def FnIPv6WrittenWrongFalsely : Prop := fnIPv6WrittenRow.holds Try.pinned (OpenSpec.ofChange fnIPv6WrittenWrong)

/- THE SECOND FORM. 'bulk': how many values and letters a reading holds, each counted each time it is reached (what is shared counts as often as it is met; a slice's spare places count too). A statement '..UptoSaid' is the law's where the arguments, and the package variables that the reading takes, are together of bulk at most 1048576: NARROWER than '..Said'. Prove '..Said' where nothing that the law and all that it calls make is longer than what came in: it says more and counts as full. Else prove '..UptoSaid'. A law counts once. -/
mutual
def uptoBulk {H : Type} : DataW H → Nat
  | .lit (.string bytes) => bytes.length + 1
  | .lit _ => 1
  | .nil => 1
  | .ptr d => uptoBulk d + 1
  | .slice elems spare => uptoBulkAll elems + uptoBulkAll spare + 1
  | .agg parts => uptoBulkAll parts + 1
  | .iface _ d => uptoBulk d + 1
  | .map entries => uptoBulkEntries entries + 1
  | .held _ => 1
def uptoBulkAll {H : Type} : List (DataW H) → Nat
  | [] => 0
  | d :: r => uptoBulk d + uptoBulkAll r
def uptoBulkEntries {H : Type} : List (Lit × DataW H) → Nat
  | [] => 0
  | x :: r => uptoBulkEntry x + uptoBulkEntries r
def uptoBulkEntry {H : Type} : Lit × DataW H → Nat
  | (.string bytes, d) => bytes.length + uptoBulk d + 1
  | (_, d) => uptoBulk d + 1
 end
def uptoSmall : (H : Type) → List (DataW H) → Bool := fun _ ds => decide (uptoBulkAll ds ≤ 1048576)
def OpenSpec.upto (s : _root_.Go.ChangeSpec) : _root_.Go.OpenSpec := { _root_.Go.OpenSpec.ofChange s with cond := some uptoSmall }

/-- 'laws.FnFlow', WHERE WHAT IT READS IS OF BULK AT MOST 1048576: true; the input reads as it did. -/
def fnFlowUptoRow : OpenClaim := { program := "ytbojideclbjlgaa", sum := "6345798e48c62649331fee0332ecb60d042a4d62a5e6d78b967f8f08c409c36f", func := "loop.example/pub-g01478/laws.FnFlow", spec := "fnFlow", apart := false, narrowed := true }
def FnFlowUptoSaid : Prop := fnFlowUptoRow.holds Try.pinned (OpenSpec.upto fnFlowSpec)

/-- 'laws.FnBuffer', WHERE WHAT IT READS IS OF BULK AT MOST 1048576: true; the input reads as it did. -/
def fnBufferUptoRow : OpenClaim := { program := "ytbojideclbjlgaa", sum := "6345798e48c62649331fee0332ecb60d042a4d62a5e6d78b967f8f08c409c36f", func := "loop.example/pub-g01478/laws.FnBuffer", spec := "fnBuffer", unfollowed := true, recurses := true, apart := false, narrowed := true }
def FnBufferUptoSaid : Prop := fnBufferUptoRow.holds Try.pinned (OpenSpec.upto fnBufferSpec)

/-- 'laws.FnLabelWritten', WHERE WHAT IT READS IS OF BULK AT MOST 1048576: true; the input reads as it did. -/
def fnLabelWrittenUptoRow : OpenClaim := { program := "ytbojideclbjlgaa", sum := "6345798e48c62649331fee0332ecb60d042a4d62a5e6d78b967f8f08c409c36f", func := "loop.example/pub-g01478/laws.FnLabelWritten", spec := "fnLabelWritten", unfollowed := true, recurses := true, apart := false, narrowed := true }
def FnLabelWrittenUptoSaid : Prop := fnLabelWrittenUptoRow.holds Try.pinned (OpenSpec.upto fnLabelWrittenSpec)

/-- 'laws.FnVLANWritten', WHERE WHAT IT READS IS OF BULK AT MOST 1048576: true; the input reads as it did. -/
def fnVLANWrittenUptoRow : OpenClaim := { program := "ytbojideclbjlgaa", sum := "6345798e48c62649331fee0332ecb60d042a4d62a5e6d78b967f8f08c409c36f", func := "loop.example/pub-g01478/laws.FnVLANWritten", spec := "fnVLANWritten", unfollowed := true, recurses := true, apart := false, narrowed := true }
def FnVLANWrittenUptoSaid : Prop := fnVLANWrittenUptoRow.holds Try.pinned (OpenSpec.upto fnVLANWrittenSpec)

/-- 'laws.FnVXLANWritten', WHERE WHAT IT READS IS OF BULK AT MOST 1048576: true; the input reads as it did. -/
def fnVXLANWrittenUptoRow : OpenClaim := { program := "ytbojideclbjlgaa", sum := "6345798e48c62649331fee0332ecb60d042a4d62a5e6d78b967f8f08c409c36f", func := "loop.example/pub-g01478/laws.FnVXLANWritten", spec := "fnVXLANWritten", unfollowed := true, recurses := true, apart := false, narrowed := true }
def FnVXLANWrittenUptoSaid : Prop := fnVXLANWrittenUptoRow.holds Try.pinned (OpenSpec.upto fnVXLANWrittenSpec)

/-- 'laws.FnARPWritten', WHERE WHAT IT READS IS OF BULK AT MOST 1048576: true; the input reads as it did. -/
def fnARPWrittenUptoRow : OpenClaim := { program := "ytbojideclbjlgaa", sum := "6345798e48c62649331fee0332ecb60d042a4d62a5e6d78b967f8f08c409c36f", func := "loop.example/pub-g01478/laws.FnARPWritten", spec := "fnARPWritten", unfollowed := true, recurses := true, apart := false, narrowed := true }
def FnARPWrittenUptoSaid : Prop := fnARPWrittenUptoRow.holds Try.pinned (OpenSpec.upto fnARPWrittenSpec)

/-- 'laws.FnICMPWritten', WHERE WHAT IT READS IS OF BULK AT MOST 1048576: true; the input reads as it did. -/
def fnICMPWrittenUptoRow : OpenClaim := { program := "ytbojideclbjlgaa", sum := "6345798e48c62649331fee0332ecb60d042a4d62a5e6d78b967f8f08c409c36f", func := "loop.example/pub-g01478/laws.FnICMPWritten", spec := "fnICMPWritten", unfollowed := true, recurses := true, apart := false, narrowed := true }
def FnICMPWrittenUptoSaid : Prop := fnICMPWrittenUptoRow.holds Try.pinned (OpenSpec.upto fnICMPWrittenSpec)

/-- 'laws.FnGREWritten', WHERE WHAT IT READS IS OF BULK AT MOST 1048576: true; the input reads as it did. -/
def fnGREWrittenUptoRow : OpenClaim := { program := "ytbojideclbjlgaa", sum := "6345798e48c62649331fee0332ecb60d042a4d62a5e6d78b967f8f08c409c36f", func := "loop.example/pub-g01478/laws.FnGREWritten", spec := "fnGREWritten", unfollowed := true, recurses := true, apart := false, narrowed := true }
def FnGREWrittenUptoSaid : Prop := fnGREWrittenUptoRow.holds Try.pinned (OpenSpec.upto fnGREWrittenSpec)

/-- 'laws.FnIPv4Sum', WHERE WHAT IT READS IS OF BULK AT MOST 1048576: true; the input reads as it did. -/
def fnIPv4SumUptoRow : OpenClaim := { program := "ytbojideclbjlgaa", sum := "6345798e48c62649331fee0332ecb60d042a4d62a5e6d78b967f8f08c409c36f", func := "loop.example/pub-g01478/laws.FnIPv4Sum", spec := "fnIPv4Sum", unfollowed := true, recurses := true, apart := false, narrowed := true }
def FnIPv4SumUptoSaid : Prop := fnIPv4SumUptoRow.holds Try.pinned (OpenSpec.upto fnIPv4SumSpec)

/-- 'laws.FnIPv4Written', WHERE WHAT IT READS IS OF BULK AT MOST 1048576: true; the input reads as it did. -/
def fnIPv4WrittenUptoRow : OpenClaim := { program := "ytbojideclbjlgaa", sum := "6345798e48c62649331fee0332ecb60d042a4d62a5e6d78b967f8f08c409c36f", func := "loop.example/pub-g01478/laws.FnIPv4Written", spec := "fnIPv4Written", unfollowed := true, recurses := true, apart := false, narrowed := true }
def FnIPv4WrittenUptoSaid : Prop := fnIPv4WrittenUptoRow.holds Try.pinned (OpenSpec.upto fnIPv4WrittenSpec)

/-- 'laws.FnUDPWritten', WHERE WHAT IT READS IS OF BULK AT MOST 1048576: true; the input reads as it did. -/
def fnUDPWrittenUptoRow : OpenClaim := { program := "ytbojideclbjlgaa", sum := "6345798e48c62649331fee0332ecb60d042a4d62a5e6d78b967f8f08c409c36f", func := "loop.example/pub-g01478/laws.FnUDPWritten", spec := "fnUDPWritten", unfollowed := true, recurses := true, apart := false, narrowed := true }
def FnUDPWrittenUptoSaid : Prop := fnUDPWrittenUptoRow.holds Try.pinned (OpenSpec.upto fnUDPWrittenSpec)

/-- 'laws.FnIPv6Written', WHERE WHAT IT READS IS OF BULK AT MOST 1048576: true; the input reads as it did. -/
def fnIPv6WrittenUptoRow : OpenClaim := { program := "ytbojideclbjlgaa", sum := "6345798e48c62649331fee0332ecb60d042a4d62a5e6d78b967f8f08c409c36f", func := "loop.example/pub-g01478/laws.FnIPv6Written", spec := "fnIPv6Written", unfollowed := true, recurses := true, apart := false, narrowed := true }
def FnIPv6WrittenUptoSaid : Prop := fnIPv6WrittenUptoRow.holds Try.pinned (OpenSpec.upto fnIPv6WrittenSpec)

end Rows
end Go.Proofs.Ytbojideclbjlgaa
