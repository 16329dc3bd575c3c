/-
  A header of the sixth version, written: its addresses are copied into the room.
-/
import Derived.Test.YtdpffedmgmllbaaSerV
import Derived.Deep.QuietTactic
import Derived.Deep.RegionHeld3
import Derived.Deep.RegionLaw
import Derived.BigQuiet
namespace Go.Proofs.Ytdpffedmgmllbaa
open Go.RowKit

theorem IsB.keep {w z : World} {N B P k : Nat} {l l1 : List Int} {v : Value} (h : IsB w v l1) (hO : Opened w z N B P k l) (hne : v.ownBlock ≠ some P) : IsB z v l1 := by
  obtain ⟨a, c, rfl, h1, h2, h3, h4⟩ := h
  refine ⟨a, c, rfl, h1, h2, h3, ?_⟩
  rcases h4 with h4 | ⟨ad, rfl, h5⟩
  · exact .inl h4
  · refine .inr ⟨ad, rfl, fun i hi => ⟨(h5 i hi).1, ?_⟩⟩
    have hc := (h5 i hi).2
    have hP : ad.block ≠ P := fun e => hne (by simp [Value.ownBlock, e])
    have hlt : ad.block < w.heap.size := by
      rcases Nat.lt_or_ge ad.block w.heap.size with h | h
      · exact h
      · have hn : w.heap[ad.block]? = none := Array.getElem?_eq_none h
        simp [World.cell?, hn] at hc
    have hk := hO.keep ad.block hlt hP
    rw [← hc]
    simp only [World.cell?, hk]
theorem IsB.new {w : World} {v : Value} {l : List Int} (h : IsB w v l) (hl : 0 < l.length) {k : Nat} (hk : w.heap.size ≤ k) : v.ownBlock ≠ some k := h.old hl hk

theorem Opened.copy {w y w4 : World} {V N B P k : Nat} {l : List Int} {cs cs' row row' : List Value} {e : TypeId} (h : Opened w (rowW y V cs e) N B P k l) (hVl : V < w.heap.size) (hBV : B ≤ V) (hVP : V ≠ P) (hPN : P < N)
    (hb : Below N (rowW (rowW y V cs' e) N row 5) w4) (hg : w4.heap[N]? = some (.cells row'.toArray 5 (0, 0))) : ∃ y4, w4 = rowW (rowW y4 V cs' e) N row' 5 ∧ Opened w (rowW y4 V cs e) N B P k l ∧ Has y4 V := by
  have hn := h.new
  have hy : Has y V := by
    have := h.keep V hVl hVP
    have h2 : V < y.heap.size := by
      rcases Nat.lt_or_ge V y.heap.size with h' | h'
      · exact h'
      · have hx : (rowW y V cs e).heap[V]? = none := Array.getElem?_eq_none (by rw [rowW_size]; exact h')
        rw [hx] at this
        have := Array.getElem?_eq_none_iff.1 this.symm
        omega
    exact h2
  have hs := hb.4
  rw [rowW_size, rowW_size] at hs
  have hV4 : w4.heap[V]? = some (.cells cs'.toArray e (0, 0)) := by
    rw [hb.5 V (by omega), rowW_other (by omega)]
    exact rowW_heap hy
  have hj : ∀ j, j < N → j ≠ V → w4.heap[j]? = (rowW y V cs e).heap[j]? := fun j hjN hjV => by
    rw [hb.5 j hjN, rowW_other (by omega), rowW_other hjV, rowW_other hjV]
  have h4V : Has w4 V := (Array.getElem?_eq_some_iff.1 hV4).1
  have h4N : Has w4 N := (Array.getElem?_eq_some_iff.1 hg).1
  refine ⟨w4, by rw [rowW_self hV4, rowW_self hg], ?_, h4V⟩
  obtain ⟨q, ly, hP⟩ := h.buf
  have hbl := h.below
  have hVV : (rowW w4 V cs e).heap[V]? = (rowW y V cs e).heap[V]? := by rw [rowW_heap h4V, rowW_heap hy]
  refine ⟨by rw [has_rowW]; exact h4N, h.out, h.size, h.new, h.ne, ⟨q, ly, ?_⟩, ⟨hb.1.trans hbl.1, hb.2.trans hbl.2, hb.3.trans hbl.3, ?_, fun j hjB => ?_⟩, fun j hjw hjP => ?_, h.bytes⟩
  · rw [rowW_other (Ne.symm hVP), hj P hPN (Ne.symm hVP)]; exact hP
  · have := hbl.4; rw [rowW_size] at this ⊢; omega
  · have hs := h.size
    rw [rowW_other (by omega), hj j (by omega) (by omega)]; exact hbl.5 j hjB
  · by_cases hjV : j = V
    · subst hjV; rw [hVV]; exact h.keep j hjw hjP
    · rw [rowW_other hjV, hj j (by omega) hjV]; exact h.keep j hjw hjP

end Go.Proofs.Ytdpffedmgmllbaa
