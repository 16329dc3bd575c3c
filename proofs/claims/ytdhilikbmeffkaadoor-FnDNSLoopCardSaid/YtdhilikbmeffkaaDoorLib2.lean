/-
  More words on slices of bytes: literals at a place that is given by its number.
-/
import Derived.Test.YtdhilikbmeffkaaDoorLib
namespace Go.Proofs.YtdhilikbmeffkaaDoor
open Go.RowKit

theorem isBs_at (w : World) (vs : List Value) (ls : List (List Int)) (T : TypeId) (h : Reads w vs ls) (n : Nat) (hn : n = ls.length) (b : Nat) (hb : b = w.heap.size) : IsBs (w.alloc (.cells vs.toArray T)) (.slice (some ⟨b, 0, none⟩) n n) ls := by
  subst hb; exact isBs_lit w vs ls T h n hn
theorem lit2_at (w : World) (x y : Int) (b : Nat) (hb : b = w.heap.size) (hx : 0 ≤ x ∧ x ≤ 255) (hy : 0 ≤ y ∧ y ≤ 255) : IsB (w.alloc (.cells #[.int .u8 x, .int .u8 y] 5)) (.slice (some ⟨b, 0, none⟩) 2 2) [x, y] := by
  subst hb; exact lit2 w x y hx hy
theorem lit4_at (w : World) (x y z u : Int) (b : Nat) (hb : b = w.heap.size) (hx : 0 ≤ x ∧ x ≤ 255) (hy : 0 ≤ y ∧ y ≤ 255) (hz : 0 ≤ z ∧ z ≤ 255) (hu : 0 ≤ u ∧ u ≤ 255) : IsB (w.alloc (.cells #[.int .u8 x, .int .u8 y, .int .u8 z, .int .u8 u] 5)) (.slice (some ⟨b, 0, none⟩) 4 4) [x, y, z, u] := by
  subst hb; exact lit4 w x y z u hx hy hz hu
theorem lit2_gr {w w' : World} {x y : Int} {b : Nat} (hg : Gr (w.alloc (.cells #[.int .u8 x, .int .u8 y] 5)) w') (hb : b = w.heap.size) (hx : 0 ≤ x ∧ x ≤ 255) (hy : 0 ≤ y ∧ y ≤ 255) : IsB w' (.slice (some ⟨b, 0, none⟩) 2 2) [x, y] :=
  (lit2_at w x y b hb hx hy).gr hg
theorem lit4_gr {w w' : World} {x y z u : Int} {b : Nat} (hg : Gr (w.alloc (.cells #[.int .u8 x, .int .u8 y, .int .u8 z, .int .u8 u] 5)) w') (hb : b = w.heap.size) (hx : 0 ≤ x ∧ x ≤ 255) (hy : 0 ≤ y ∧ y ≤ 255) (hz : 0 ≤ z ∧ z ≤ 255) (hu : 0 ≤ u ∧ u ≤ 255) : IsB w' (.slice (some ⟨b, 0, none⟩) 4 4) [x, y, z, u] :=
  (lit4_at w x y z u b hb hx hy hz hu).gr hg
end Go.Proofs.YtdhilikbmeffkaaDoor
