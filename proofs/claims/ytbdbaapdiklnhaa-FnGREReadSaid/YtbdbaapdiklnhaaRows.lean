/-
  No cell of these rows narrows 'for every input' (looked for: loops, veiled, ifaces, maps, wideKeys, modest, calm, conditions, laid).
  DERIVED. THE GIVEN ROWS OF THIS SEAT. 12 by the template 'for every input the law returns true; each argument reads behind the call as it read before'; 0 by the template 'total and deterministic' (their statements: YtbdbaapdiklnhaaTotals.lean).
  GIVEN WITH THE SEED: the statements are not yours to turn. If you find one false, say at which input.
  Laid BY PROGRAM, IN A SANDBOX (cutbox-rows.mjs): the forced cells as the released guide's own fill.sh prints them over the translation 803ee304df3d6b30… (all of the seat's roots in one cut). By AI agents, Wed Nov 11 2026. No macro, syntax, notation, axiom, sorry.
-/
import Derived.Test.YtbdbaapdiklnhaaChecked
import GoSem.Claim
import GoSem.ClaimJoined
import GoSem.ClaimMapViews
import Derived.JoinedTies
import Derived.KernelRfl
namespace Go.Proofs.Ytbdbaapdiklnhaa
/- THE CELL 'sum', in the pinned program and in every row, IS THE sha256 OF THE DUMP (.gsa) THAT YtbdbaapdiklnhaaProg.lean LOADS. Nothing in Lean hashes anything: it is a label: what it is worth is what the hold of that sum in a sandbox is worth. -/
noncomputable def Try.pinned : Pinned := { name := "ytbdbaapdiklnhaa", sum := "803ee304df3d6b309f12afec9555f7a5c2d91382d599a32cee4d5387cde0fe5b", checked := Try.checked }
namespace Rows
def none {H : Type} : Left H := { results := [], args := [] }

/-- 'laws.FnVLANRead': WHATEVER THE INPUT: true; the input reads as it did. -/
def fnVLANReadSpec : ChangeSpec := { name := "fnVLANRead", fn := fun _ => fun
  | [d1, d2] => { results := [.lit (.bool true)], args := [d1, d2] }
  | _ => none }
def fnVLANReadRow : OpenClaim := { program := "ytbdbaapdiklnhaa", sum := "803ee304df3d6b309f12afec9555f7a5c2d91382d599a32cee4d5387cde0fe5b", func := "loop.example/pub-g01478/laws.FnVLANRead", spec := "fnVLANRead", unfollowed := true, recurses := true, apart := false }
def FnVLANReadSaid : Prop := fnVLANReadRow.holds Try.pinned (OpenSpec.ofChange fnVLANReadSpec)

/-- ITS FALSE NEIGHBOUR: 'it returns false'. Refute it at one input. -/
def fnVLANReadWrong : ChangeSpec := { name := "fnVLANRead", fn := fun _ => fun
  | [d1, d2] => { results := [.lit (.bool false)], args := [d1, d2] }
  | _ => none }
def FnVLANReadWrongFalsely : Prop := fnVLANReadRow.holds Try.pinned (OpenSpec.ofChange fnVLANReadWrong)

/-- 'laws.FnICMPRead': WHATEVER THE INPUT: true; the input reads as it did. -/
def fnICMPReadSpec : ChangeSpec := { name := "fnICMPRead", fn := fun _ => fun
  | [d1, d2] => { results := [.lit (.bool true)], args := [d1, d2] }
  | _ => none }
def fnICMPReadRow : OpenClaim := { program := "ytbdbaapdiklnhaa", sum := "803ee304df3d6b309f12afec9555f7a5c2d91382d599a32cee4d5387cde0fe5b", func := "loop.example/pub-g01478/laws.FnICMPRead", spec := "fnICMPRead", unfollowed := true, recurses := true, apart := false }
def FnICMPReadSaid : Prop := fnICMPReadRow.holds Try.pinned (OpenSpec.ofChange fnICMPReadSpec)

/-- ITS FALSE NEIGHBOUR: 'it returns false'. Refute it at one input. -/
def fnICMPReadWrong : ChangeSpec := { name := "fnICMPRead", fn := fun _ => fun
  | [d1, d2] => { results := [.lit (.bool false)], args := [d1, d2] }
  | _ => none }
def FnICMPReadWrongFalsely : Prop := fnICMPReadRow.holds Try.pinned (OpenSpec.ofChange fnICMPReadWrong)

/-- 'laws.FnEthernetRead': WHATEVER THE INPUT: true; the input reads as it did. -/
def fnEthernetReadSpec : ChangeSpec := { name := "fnEthernetRead", fn := fun _ => fun
  | [d1, d2] => { results := [.lit (.bool true)], args := [d1, d2] }
  | _ => none }
def fnEthernetReadRow : OpenClaim := { program := "ytbdbaapdiklnhaa", sum := "803ee304df3d6b309f12afec9555f7a5c2d91382d599a32cee4d5387cde0fe5b", func := "loop.example/pub-g01478/laws.FnEthernetRead", spec := "fnEthernetRead", unfollowed := true, recurses := true, apart := false }
def FnEthernetReadSaid : Prop := fnEthernetReadRow.holds Try.pinned (OpenSpec.ofChange fnEthernetReadSpec)

/-- ITS FALSE NEIGHBOUR: 'it returns false'. Refute it at one input. -/
def fnEthernetReadWrong : ChangeSpec := { name := "fnEthernetRead", fn := fun _ => fun
  | [d1, d2] => { results := [.lit (.bool false)], args := [d1, d2] }
  | _ => none }
def FnEthernetReadWrongFalsely : Prop := fnEthernetReadRow.holds Try.pinned (OpenSpec.ofChange fnEthernetReadWrong)

/-- 'laws.FnEthernetShort': WHATEVER THE INPUT: true; the input reads as it did. -/
def fnEthernetShortSpec : ChangeSpec := { name := "fnEthernetShort", fn := fun _ => fun
  | [d1, d2] => { results := [.lit (.bool true)], args := [d1, d2] }
  | _ => none }
def fnEthernetShortRow : OpenClaim := { program := "ytbdbaapdiklnhaa", sum := "803ee304df3d6b309f12afec9555f7a5c2d91382d599a32cee4d5387cde0fe5b", func := "loop.example/pub-g01478/laws.FnEthernetShort", spec := "fnEthernetShort", unfollowed := true, recurses := true, apart := false }
def FnEthernetShortSaid : Prop := fnEthernetShortRow.holds Try.pinned (OpenSpec.ofChange fnEthernetShortSpec)

/-- ITS FALSE NEIGHBOUR: 'it returns false'. Refute it at one input. -/
def fnEthernetShortWrong : ChangeSpec := { name := "fnEthernetShort", fn := fun _ => fun
  | [d1, d2] => { results := [.lit (.bool false)], args := [d1, d2] }
  | _ => none }
def FnEthernetShortWrongFalsely : Prop := fnEthernetShortRow.holds Try.pinned (OpenSpec.ofChange fnEthernetShortWrong)

/-- 'laws.FnARPRead': WHATEVER THE INPUT: true; the input reads as it did. -/
def fnARPReadSpec : ChangeSpec := { name := "fnARPRead", fn := fun _ => fun
  | [d1, d2] => { results := [.lit (.bool true)], args := [d1, d2] }
  | _ => none }
def fnARPReadRow : OpenClaim := { program := "ytbdbaapdiklnhaa", sum := "803ee304df3d6b309f12afec9555f7a5c2d91382d599a32cee4d5387cde0fe5b", func := "loop.example/pub-g01478/laws.FnARPRead", spec := "fnARPRead", unfollowed := true, recurses := true, apart := false }
def FnARPReadSaid : Prop := fnARPReadRow.holds Try.pinned (OpenSpec.ofChange fnARPReadSpec)

/-- ITS FALSE NEIGHBOUR: 'it returns false'. Refute it at one input. -/
def fnARPReadWrong : ChangeSpec := { name := "fnARPRead", fn := fun _ => fun
  | [d1, d2] => { results := [.lit (.bool false)], args := [d1, d2] }
  | _ => none }
def FnARPReadWrongFalsely : Prop := fnARPReadRow.holds Try.pinned (OpenSpec.ofChange fnARPReadWrong)

/-- 'laws.FnARPShort': WHATEVER THE INPUT: true; the input reads as it did. -/
def fnARPShortSpec : ChangeSpec := { name := "fnARPShort", fn := fun _ => fun
  | [d1, d2] => { results := [.lit (.bool true)], args := [d1, d2] }
  | _ => none }
def fnARPShortRow : OpenClaim := { program := "ytbdbaapdiklnhaa", sum := "803ee304df3d6b309f12afec9555f7a5c2d91382d599a32cee4d5387cde0fe5b", func := "loop.example/pub-g01478/laws.FnARPShort", spec := "fnARPShort", unfollowed := true, recurses := true, apart := false }
def FnARPShortSaid : Prop := fnARPShortRow.holds Try.pinned (OpenSpec.ofChange fnARPShortSpec)

/-- ITS FALSE NEIGHBOUR: 'it returns false'. Refute it at one input. -/
def fnARPShortWrong : ChangeSpec := { name := "fnARPShort", fn := fun _ => fun
  | [d1, d2] => { results := [.lit (.bool false)], args := [d1, d2] }
  | _ => none }
def FnARPShortWrongFalsely : Prop := fnARPShortRow.holds Try.pinned (OpenSpec.ofChange fnARPShortWrong)

/-- 'laws.FnUDPRead': WHATEVER THE INPUT: true; the input reads as it did. -/
def fnUDPReadSpec : ChangeSpec := { name := "fnUDPRead", fn := fun _ => fun
  | [d1, d2, d3, d4, d5] => { results := [.lit (.bool true)], args := [d1, d2, d3, d4, d5] }
  | _ => none }
def fnUDPReadRow : OpenClaim := { program := "ytbdbaapdiklnhaa", sum := "803ee304df3d6b309f12afec9555f7a5c2d91382d599a32cee4d5387cde0fe5b", func := "loop.example/pub-g01478/laws.FnUDPRead", spec := "fnUDPRead", unfollowed := true, recurses := true, apart := false }
def FnUDPReadSaid : Prop := fnUDPReadRow.holds Try.pinned (OpenSpec.ofChange fnUDPReadSpec)

/-- ITS FALSE NEIGHBOUR: 'it returns false'. Refute it at one input. -/
def fnUDPReadWrong : ChangeSpec := { name := "fnUDPRead", fn := fun _ => fun
  | [d1, d2, d3, d4, d5] => { results := [.lit (.bool false)], args := [d1, d2, d3, d4, d5] }
  | _ => none }
def FnUDPReadWrongFalsely : Prop := fnUDPReadRow.holds Try.pinned (OpenSpec.ofChange fnUDPReadWrong)

/-- 'laws.FnUDPShort': WHATEVER THE INPUT: true; the input reads as it did. -/
def fnUDPShortSpec : ChangeSpec := { name := "fnUDPShort", fn := fun _ => fun
  | [d1, d2] => { results := [.lit (.bool true)], args := [d1, d2] }
  | _ => none }
def fnUDPShortRow : OpenClaim := { program := "ytbdbaapdiklnhaa", sum := "803ee304df3d6b309f12afec9555f7a5c2d91382d599a32cee4d5387cde0fe5b", func := "loop.example/pub-g01478/laws.FnUDPShort", spec := "fnUDPShort", unfollowed := true, recurses := true, apart := false }
def FnUDPShortSaid : Prop := fnUDPShortRow.holds Try.pinned (OpenSpec.ofChange fnUDPShortSpec)

/-- ITS FALSE NEIGHBOUR: 'it returns false'. Refute it at one input. -/
def fnUDPShortWrong : ChangeSpec := { name := "fnUDPShort", fn := fun _ => fun
  | [d1, d2] => { results := [.lit (.bool false)], args := [d1, d2] }
  | _ => none }
def FnUDPShortWrongFalsely : Prop := fnUDPShortRow.holds Try.pinned (OpenSpec.ofChange fnUDPShortWrong)

/-- 'laws.FnVXLANRead': WHATEVER THE INPUT: true; the input reads as it did. -/
def fnVXLANReadSpec : ChangeSpec := { name := "fnVXLANRead", fn := fun _ => fun
  | [d1, d2] => { results := [.lit (.bool true)], args := [d1, d2] }
  | _ => none }
def fnVXLANReadRow : OpenClaim := { program := "ytbdbaapdiklnhaa", sum := "803ee304df3d6b309f12afec9555f7a5c2d91382d599a32cee4d5387cde0fe5b", func := "loop.example/pub-g01478/laws.FnVXLANRead", spec := "fnVXLANRead", apart := false }
def FnVXLANReadSaid : Prop := fnVXLANReadRow.holds Try.pinned (OpenSpec.ofChange fnVXLANReadSpec)

/-- ITS FALSE NEIGHBOUR: 'it returns false'. Refute it at one input. -/
def fnVXLANReadWrong : ChangeSpec := { name := "fnVXLANRead", fn := fun _ => fun
  | [d1, d2] => { results := [.lit (.bool false)], args := [d1, d2] }
  | _ => none }
def FnVXLANReadWrongFalsely : Prop := fnVXLANReadRow.holds Try.pinned (OpenSpec.ofChange fnVXLANReadWrong)

/-- 'laws.FnGRERead': WHATEVER THE INPUT: true; the input reads as it did. -/
def fnGREReadSpec : ChangeSpec := { name := "fnGRERead", fn := fun _ => fun
  | [d1, d2] => { results := [.lit (.bool true)], args := [d1, d2] }
  | _ => none }
def fnGREReadRow : OpenClaim := { program := "ytbdbaapdiklnhaa", sum := "803ee304df3d6b309f12afec9555f7a5c2d91382d599a32cee4d5387cde0fe5b", func := "loop.example/pub-g01478/laws.FnGRERead", spec := "fnGRERead", apart := false }
def FnGREReadSaid : Prop := fnGREReadRow.holds Try.pinned (OpenSpec.ofChange fnGREReadSpec)

/-- ITS FALSE NEIGHBOUR: 'it returns false'. Refute it at one input. -/
def fnGREReadWrong : ChangeSpec := { name := "fnGRERead", fn := fun _ => fun
  | [d1, d2] => { results := [.lit (.bool false)], args := [d1, d2] }
  | _ => none }
def FnGREReadWrongFalsely : Prop := fnGREReadRow.holds Try.pinned (OpenSpec.ofChange fnGREReadWrong)

/-- 'laws.FnIPv6Read': WHATEVER THE INPUT: true; the input reads as it did. -/
def fnIPv6ReadSpec : ChangeSpec := { name := "fnIPv6Read", fn := fun _ => fun
  | [d1, d2, d3] => { results := [.lit (.bool true)], args := [d1, d2, d3] }
  | _ => none }
def fnIPv6ReadRow : OpenClaim := { program := "ytbdbaapdiklnhaa", sum := "803ee304df3d6b309f12afec9555f7a5c2d91382d599a32cee4d5387cde0fe5b", func := "loop.example/pub-g01478/laws.FnIPv6Read", spec := "fnIPv6Read", unfollowed := true, recurses := true, apart := false }
def FnIPv6ReadSaid : Prop := fnIPv6ReadRow.holds Try.pinned (OpenSpec.ofChange fnIPv6ReadSpec)

/-- ITS FALSE NEIGHBOUR: 'it returns false'. Refute it at one input. -/
def fnIPv6ReadWrong : ChangeSpec := { name := "fnIPv6Read", fn := fun _ => fun
  | [d1, d2, d3] => { results := [.lit (.bool false)], args := [d1, d2, d3] }
  | _ => none }
def FnIPv6ReadWrongFalsely : Prop := fnIPv6ReadRow.holds Try.pinned (OpenSpec.ofChange fnIPv6ReadWrong)

/-- 'laws.FnExtensionRead': WHATEVER THE INPUT: true; the input reads as it did. -/
def fnExtensionReadSpec : ChangeSpec := { name := "fnExtensionRead", fn := fun _ => fun
  | [d1, d2, d3] => { results := [.lit (.bool true)], args := [d1, d2, d3] }
  | _ => none }
def fnExtensionReadRow : OpenClaim := { program := "ytbdbaapdiklnhaa", sum := "803ee304df3d6b309f12afec9555f7a5c2d91382d599a32cee4d5387cde0fe5b", func := "loop.example/pub-g01478/laws.FnExtensionRead", spec := "fnExtensionRead", unfollowed := true, recurses := true, apart := false }
def FnExtensionReadSaid : Prop := fnExtensionReadRow.holds Try.pinned (OpenSpec.ofChange fnExtensionReadSpec)

/-- ITS FALSE NEIGHBOUR: 'it returns false'. Refute it at one input. -/
def fnExtensionReadWrong : ChangeSpec := { name := "fnExtensionRead", fn := fun _ => fun
  | [d1, d2, d3] => { results := [.lit (.bool false)], args := [d1, d2, d3] }
  | _ => none }
def FnExtensionReadWrongFalsely : Prop := fnExtensionReadRow.holds Try.pinned (OpenSpec.ofChange fnExtensionReadWrong)

/- THE SECOND FORM. 'bulk': how many values and letters a reading holds, each counted each time it is reached (what is shared counts as often as it is met; a slice's spare places count too). A statement '..UptoSaid' is the law's where the arguments, and the package variables that the reading takes, are together of bulk at most 1048576: NARROWER than '..Said'. Prove '..Said' where nothing that the law and all that it calls make is longer than what came in: it says more and counts as full. Else prove '..UptoSaid'. A law counts once. -/
mutual
def uptoBulk {H : Type} : DataW H → Nat
  | .lit (.string bytes) => bytes.length + 1
  | .lit _ => 1
  | .nil => 1
  | .ptr d => uptoBulk d + 1
  | .slice elems spare => uptoBulkAll elems + uptoBulkAll spare + 1
  | .agg parts => uptoBulkAll parts + 1
  | .iface _ d => uptoBulk d + 1
  | .map entries => uptoBulkEntries entries + 1
  | .held _ => 1
def uptoBulkAll {H : Type} : List (DataW H) → Nat
  | [] => 0
  | d :: r => uptoBulk d + uptoBulkAll r
def uptoBulkEntries {H : Type} : List (Lit × DataW H) → Nat
  | [] => 0
  | x :: r => uptoBulkEntry x + uptoBulkEntries r
def uptoBulkEntry {H : Type} : Lit × DataW H → Nat
  | (.string bytes, d) => bytes.length + uptoBulk d + 1
  | (_, d) => uptoBulk d + 1
 end
def uptoSmall : (H : Type) → List (DataW H) → Bool := fun _ ds => decide (uptoBulkAll ds ≤ 1048576)
def OpenSpec.upto (s : _root_.Go.ChangeSpec) : _root_.Go.OpenSpec := { _root_.Go.OpenSpec.ofChange s with cond := some uptoSmall }

/-- 'laws.FnVLANRead', WHERE WHAT IT READS IS OF BULK AT MOST 1048576: true; the input reads as it did. -/
def fnVLANReadUptoRow : OpenClaim := { program := "ytbdbaapdiklnhaa", sum := "803ee304df3d6b309f12afec9555f7a5c2d91382d599a32cee4d5387cde0fe5b", func := "loop.example/pub-g01478/laws.FnVLANRead", spec := "fnVLANRead", unfollowed := true, recurses := true, apart := false, narrowed := true }
def FnVLANReadUptoSaid : Prop := fnVLANReadUptoRow.holds Try.pinned (OpenSpec.upto fnVLANReadSpec)

/-- 'laws.FnICMPRead', WHERE WHAT IT READS IS OF BULK AT MOST 1048576: true; the input reads as it did. -/
def fnICMPReadUptoRow : OpenClaim := { program := "ytbdbaapdiklnhaa", sum := "803ee304df3d6b309f12afec9555f7a5c2d91382d599a32cee4d5387cde0fe5b", func := "loop.example/pub-g01478/laws.FnICMPRead", spec := "fnICMPRead", unfollowed := true, recurses := true, apart := false, narrowed := true }
def FnICMPReadUptoSaid : Prop := fnICMPReadUptoRow.holds Try.pinned (OpenSpec.upto fnICMPReadSpec)

/-- 'laws.FnEthernetRead', WHERE WHAT IT READS IS OF BULK AT MOST 1048576: true; the input reads as it did. -/
def fnEthernetReadUptoRow : OpenClaim := { program := "ytbdbaapdiklnhaa", sum := "803ee304df3d6b309f12afec9555f7a5c2d91382d599a32cee4d5387cde0fe5b", func := "loop.example/pub-g01478/laws.FnEthernetRead", spec := "fnEthernetRead", unfollowed := true, recurses := true, apart := false, narrowed := true }
def FnEthernetReadUptoSaid : Prop := fnEthernetReadUptoRow.holds Try.pinned (OpenSpec.upto fnEthernetReadSpec)

/-- 'laws.FnEthernetShort', WHERE WHAT IT READS IS OF BULK AT MOST 1048576: true; the input reads as it did. -/
def fnEthernetShortUptoRow : OpenClaim := { program := "ytbdbaapdiklnhaa", sum := "803ee304df3d6b309f12afec9555f7a5c2d91382d599a32cee4d5387cde0fe5b", func := "loop.example/pub-g01478/laws.FnEthernetShort", spec := "fnEthernetShort", unfollowed := true, recurses := true, apart := false, narrowed := true }
def FnEthernetShortUptoSaid : Prop := fnEthernetShortUptoRow.holds Try.pinned (OpenSpec.upto fnEthernetShortSpec)

/-- 'laws.FnARPRead', WHERE WHAT IT READS IS OF BULK AT MOST 1048576: true; the input reads as it did. -/
def fnARPReadUptoRow : OpenClaim := { program := "ytbdbaapdiklnhaa", sum := "803ee304df3d6b309f12afec9555f7a5c2d91382d599a32cee4d5387cde0fe5b", func := "loop.example/pub-g01478/laws.FnARPRead", spec := "fnARPRead", unfollowed := true, recurses := true, apart := false, narrowed := true }
def FnARPReadUptoSaid : Prop := fnARPReadUptoRow.holds Try.pinned (OpenSpec.upto fnARPReadSpec)

/-- 'laws.FnARPShort', WHERE WHAT IT READS IS OF BULK AT MOST 1048576: true; the input reads as it did. -/
def fnARPShortUptoRow : OpenClaim := { program := "ytbdbaapdiklnhaa", sum := "803ee304df3d6b309f12afec9555f7a5c2d91382d599a32cee4d5387cde0fe5b", func := "loop.example/pub-g01478/laws.FnARPShort", spec := "fnARPShort", unfollowed := true, recurses := true, apart := false, narrowed := true }
def FnARPShortUptoSaid : Prop := fnARPShortUptoRow.holds Try.pinned (OpenSpec.upto fnARPShortSpec)

/-- 'laws.FnUDPRead', WHERE WHAT IT READS IS OF BULK AT MOST 1048576: true; the input reads as it did. -/
def fnUDPReadUptoRow : OpenClaim := { program := "ytbdbaapdiklnhaa", sum := "803ee304df3d6b309f12afec9555f7a5c2d91382d599a32cee4d5387cde0fe5b", func := "loop.example/pub-g01478/laws.FnUDPRead", spec := "fnUDPRead", unfollowed := true, recurses := true, apart := false, narrowed := true }
def FnUDPReadUptoSaid : Prop := fnUDPReadUptoRow.holds Try.pinned (OpenSpec.upto fnUDPReadSpec)

/-- 'laws.FnUDPShort', WHERE WHAT IT READS IS OF BULK AT MOST 1048576: true; the input reads as it did. -/
def fnUDPShortUptoRow : OpenClaim := { program := "ytbdbaapdiklnhaa", sum := "803ee304df3d6b309f12afec9555f7a5c2d91382d599a32cee4d5387cde0fe5b", func := "loop.example/pub-g01478/laws.FnUDPShort", spec := "fnUDPShort", unfollowed := true, recurses := true, apart := false, narrowed := true }
def FnUDPShortUptoSaid : Prop := fnUDPShortUptoRow.holds Try.pinned (OpenSpec.upto fnUDPShortSpec)

/-- 'laws.FnVXLANRead', WHERE WHAT IT READS IS OF BULK AT MOST 1048576: true; the input reads as it did. -/
def fnVXLANReadUptoRow : OpenClaim := { program := "ytbdbaapdiklnhaa", sum := "803ee304df3d6b309f12afec9555f7a5c2d91382d599a32cee4d5387cde0fe5b", func := "loop.example/pub-g01478/laws.FnVXLANRead", spec := "fnVXLANRead", apart := false, narrowed := true }
def FnVXLANReadUptoSaid : Prop := fnVXLANReadUptoRow.holds Try.pinned (OpenSpec.upto fnVXLANReadSpec)

/-- 'laws.FnGRERead', WHERE WHAT IT READS IS OF BULK AT MOST 1048576: true; the input reads as it did. -/
def fnGREReadUptoRow : OpenClaim := { program := "ytbdbaapdiklnhaa", sum := "803ee304df3d6b309f12afec9555f7a5c2d91382d599a32cee4d5387cde0fe5b", func := "loop.example/pub-g01478/laws.FnGRERead", spec := "fnGRERead", apart := false, narrowed := true }
def FnGREReadUptoSaid : Prop := fnGREReadUptoRow.holds Try.pinned (OpenSpec.upto fnGREReadSpec)

/-- 'laws.FnIPv6Read', WHERE WHAT IT READS IS OF BULK AT MOST 1048576: true; the input reads as it did. -/
def fnIPv6ReadUptoRow : OpenClaim := { program := "ytbdbaapdiklnhaa", sum := "803ee304df3d6b309f12afec9555f7a5c2d91382d599a32cee4d5387cde0fe5b", func := "loop.example/pub-g01478/laws.FnIPv6Read", spec := "fnIPv6Read", unfollowed := true, recurses := true, apart := false, narrowed := true }
def FnIPv6ReadUptoSaid : Prop := fnIPv6ReadUptoRow.holds Try.pinned (OpenSpec.upto fnIPv6ReadSpec)

/-- 'laws.FnExtensionRead', WHERE WHAT IT READS IS OF BULK AT MOST 1048576: true; the input reads as it did. -/
def fnExtensionReadUptoRow : OpenClaim := { program := "ytbdbaapdiklnhaa", sum := "803ee304df3d6b309f12afec9555f7a5c2d91382d599a32cee4d5387cde0fe5b", func := "loop.example/pub-g01478/laws.FnExtensionRead", spec := "fnExtensionRead", unfollowed := true, recurses := true, apart := false, narrowed := true }
def FnExtensionReadUptoSaid : Prop := fnExtensionReadUptoRow.holds Try.pinned (OpenSpec.upto fnExtensionReadSpec)

end Rows
end Go.Proofs.Ytbdbaapdiklnhaa
