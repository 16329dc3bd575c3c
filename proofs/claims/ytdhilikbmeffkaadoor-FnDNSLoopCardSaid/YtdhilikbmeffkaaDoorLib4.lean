/-
  A block that is laid and written at once: what lies elsewhere.
-/
import Derived.Test.YtdhilikbmeffkaaDoorLib3
namespace Go.Proofs.YtdhilikbmeffkaaDoor
open Go.RowKit

theorem cell_alloc_old {w : World} {o : Obj} {b k : Nat} (hb : b < w.heap.size) : (w.alloc o).cell? ⟨b, k, none⟩ = w.cell? ⟨b, k, none⟩ := by
  have h : (w.alloc o).heap[b]? = w.heap[b]? := (World.grownBy_alloc w o none).block b hb (by simp)
  simp only [World.cell?, h]
theorem cell_alloc_swap {w : World} {o o' : Obj} {b k : Nat} {v : Value} (hb : b < w.heap.size) (h : (w.alloc o).cell? ⟨b, k, none⟩ = some v) : (w.alloc o').cell? ⟨b, k, none⟩ = some v := by
  rw [cell_alloc_old hb] at h ⊢; exact h
theorem allocOut {X x : World} {cs : List Value} {T : TypeId} (hg : Gr (X.alloc (.cells cs.toArray T)) x) : ∃ z, Has z X.heap.size ∧ x = rowW z X.heap.size cs T := one_row (heap_alloc_new X _) hg
theorem allocOutD {X x : World} {cs : List Value} {T : TypeId} (hg : Gr (X.alloc (.cells cs.toArray T)).drew x) : ∃ z, Has z X.heap.size ∧ x = rowW z X.heap.size cs T := one_row (w := (X.alloc (.cells cs.toArray T)).drew) (heap_alloc_new X _) hg
theorem hasB {z : World} {B : Nat} {cs : List Value} {e : TypeId} (h : Has z B) : B < (rowW z B cs e).heap.size := by rw [rowW_size]; exact h
theorem alloc_lt {X : World} {o : Obj} : X.heap.size < (X.alloc o).heap.size := by rw [World.size_alloc]; exact Nat.lt_succ_self _
theorem Own.below {w : World} {base : Nat} {v : Value} {l : List Int} (h : Own w base v l) {B : Nat} (hB : w.heap.size ≤ B) : v.ownBlock ≠ some B := fun e => by
  have := (h.1.lt B e).2; omega
end Go.Proofs.YtdhilikbmeffkaaDoor
