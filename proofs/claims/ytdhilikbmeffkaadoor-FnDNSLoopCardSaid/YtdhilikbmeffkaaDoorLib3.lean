/-
  Two blocks written out: both may turn.
-/
import Derived.Test.YtdhilikbmeffkaaDoorLib
import Derived.Laws.CopyOwn
namespace Go.Proofs.YtdhilikbmeffkaaDoor
open Go.RowKit

theorem rowW_comm {w : World} {A B : Nat} {ca cb : List Value} {ta tb : TypeId} (h : A ≠ B) : rowW (rowW w B cb tb) A ca ta = rowW (rowW w A ca ta) B cb tb := by
  simp only [rowW]
  congr 1
  apply Array.ext_getElem?
  intro i
  simp only [Array.getElem?_setIfInBounds, Array.size_setIfInBounds]
  by_cases h1 : A = i <;> by_cases h2 : B = i <;> simp_all
theorem Gr.row2 {w w1 : World} {A B : Nat} {ca ca' cb cb' : List Value} {ta tb : TypeId} (h : A ≠ B) (h1 : Gr w (rowW (rowW w1 B cb tb) A ca ta)) (hA : w.heap.size ≤ A) (hB : w.heap.size ≤ B) : Gr w (rowW (rowW w1 B cb' tb) A ca' ta) := by
  have h2 : Gr w (rowW (rowW w1 B cb tb) A ca' ta) := h1.row hA
  rw [rowW_comm h] at h2 ⊢
  exact h2.row hB
theorem take_mid {a l b : List Int} {n m : Nat} (ha : a.length = m) (hn : n = m + l.length) : ((a ++ (l ++ b)).take n).drop m = l := by
  subst ha hn
  rw [List.take_append, List.take_of_length_le (by omega), List.drop_append_of_le_length (by omega), List.drop_of_length_le (Nat.le_refl _), List.nil_append]
  simp
theorem drop_pre {a l : List Int} {m : Nat} (ha : a.length = m) : (a ++ l).drop m = l := by
  subst ha
  simp
theorem AllB.flat {ls : List (List Int)} (h : ∀ l ∈ ls, AllB l) : AllB ls.flatten := fun x hx => by
  obtain ⟨l, hl, hx⟩ := List.mem_flatten.1 hx
  exact h l hl x hx
theorem Gr.rowOut {w w' : World} {D : Nat} {cs : List Value} {e : TypeId} (hg : Gr (rowW w D cs e) w') (hd : Has w D) : ∃ w2, Has w2 D ∧ w' = rowW w2 D cs e := one_row (rowW_heap hd) hg
theorem gr_of_below {w w' : World} (h : Below w.heap.size w w') : Gr w w' := ⟨h.1, h.2, h.3, h.4, fun k hk _ => h.5 k hk⟩
theorem IsB.count {w : World} {a : Option Addr} {n c : Nat} {l : List Int} (h : IsB w (.slice a n c) l) : n = l.length := by
  obtain ⟨a', c', e, -⟩ := h
  exact (Value.slice.inj e).2.1
theorem IsB.src {w : World} {a : Option Addr} {n c : Nat} {l : List Int} (h : IsB w (.slice a n c) l) (hl : 0 < l.length) : ∃ ad, a = some ad ∧ ∀ j v, (bcells l)[j]? = some v → w.cell? (ad.add j) = some v := by
  obtain ⟨a', c', e, h1, -, -, h4⟩ := h
  obtain ⟨rfl, -, -⟩ := Value.slice.inj e
  rcases h4 with ⟨-, rfl⟩ | ⟨ad, rfl, h5⟩
  · omega
  · exact ⟨ad, rfl, bcells_at h5⟩
theorem isB_row {w : World} {b : Nat} {t : TypeId} {l : List Int} (h : w.heap[b]? = some (.cells (bcells l).toArray t (0, 0))) (hb : AllB l) (hl : l.length ≤ maxLen) : IsB w (.slice (some ⟨b, 0, none⟩) l.length l.length) l := by
  refine ⟨_, _, rfl, Nat.le_refl _, hl, hb, .inr ⟨_, rfl, fun i hi => ⟨rfl, ?_⟩⟩⟩
  simp [World.cell?, h, bcells, hi]
theorem bt_three {m : List Int} (h : m.length = 3) : m = [bt m 0, bt m 1, bt m 2] := by
  match m, h with
  | [a, b, c], _ => rfl
end Go.Proofs.YtdhilikbmeffkaaDoor
