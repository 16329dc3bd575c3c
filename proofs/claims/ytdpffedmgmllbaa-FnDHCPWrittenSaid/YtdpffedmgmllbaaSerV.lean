/-
  A header that is laid in front of what is carried, its receiver written too.
-/
import Derived.Test.YtdpffedmgmllbaaSer
import Derived.Test.YtdpffedmgmllbaaCk2
namespace Go.Proofs.Ytdpffedmgmllbaa
open Go.RowKit

theorem Opened.rdrew {w y : World} {V N B P k : Nat} {l : List Int} {cs : List Value} {e : TypeId} (h : Opened w (rowW y V cs e) N B P k l) : Opened w (rowW y.drew V cs e) N B P k l := Opened.drew h
theorem Opened.rdrewN {w y : World} {V N B P k : Nat} {l : List Int} {cs : List Value} {e : TypeId} (h : Opened w (rowW y V cs e) N B P k l) (r : Nat) : Opened w (rowW (y.drewN r) V cs e) N B P k l := Opened.drewN h r
theorem Opened.hasN {w y : World} {V N B P k : Nat} {l : List Int} {cs : List Value} {e : TypeId} (h : Opened w (rowW y V cs e) N B P k l) : Has y N := by have := h.has; rwa [has_rowW] at this

theorem Opened.finV {w0 w y : World} {N B P k V : Nat} {l hd : List Int} {row cs : List Value} {e : TypeId} (cs' : List Value) (h : Opened w (rowW y V cs e) N B P k l) (hBV : B ≤ V) (hVP : V ≠ P) (hw : Below B w0 w) (hk : hd.length = k) (hb : AllB hd) (hl : l.length ≤ 1000000) (hkl : k ≤ 1000000) (hrow : row = bcells hd ++ bcells l) :
    Below B w0 (rowW (rowW y V cs' e) N row 5) ∧ Done (rowW (rowW y V cs' e) N row 5) P (hd ++ l) := by
  obtain ⟨q, ly, hP⟩ := h.buf
  have hr : row = bcells (hd ++ l) := by rw [hrow]; simp [bcells]
  subst hr hk
  have hs := h.size
  have hn := h.new
  have hbl := h.below
  have hN : Has (rowW y V cs' e) N := by rw [has_rowW]; exact h.hasN
  refine ⟨hw.trans ⟨hbl.1, hbl.2, hbl.3, ?_, fun j hj => ?_⟩, some ⟨N, 0, none⟩, l.length + hd.length, .int .i64 (hd.length : Int), q, ly, ?_, ?_⟩
  · have := hbl.4; rw [rowW_size] at this; rw [rowW_size, rowW_size]; exact this
  · have := hbl.5 j hj
    rw [rowW_other (by omega)] at this
    rw [rowW_other (by omega), rowW_other (by omega)]; exact this
  · rw [rowW_other (Ne.symm hVP)] at hP
    rw [rowW_other (Ne.symm h.ne), rowW_other (Ne.symm hVP)]; exact hP
  · have := isB_row (w := rowW (rowW y V cs' e) N (bcells (hd ++ l)) 5) (b := N) (rowW_heap hN) (hb.append h.bytes) (by unfold maxLen; rw [List.length_append]; omega)
    rw [List.length_append, Nat.add_comm] at this
    exact this

/-- what the room and what is carried hold at this time -/
theorem Opened.now {w y : World} {N B P k V : Nat} {l hd : List Int} {row cs : List Value} {e : TypeId} (h : Opened w (rowW y V cs e) N B P k l) (hk : hd.length = k) (hb : AllB hd) (hl : l.length ≤ 1000000) (hkl : k ≤ 1000000) (hrow : row = bcells hd ++ bcells l) :
    Done (rowW (rowW y V cs e) N row 5) P (hd ++ l) := by
  obtain ⟨q, ly, hP⟩ := h.buf
  have hr : row = bcells (hd ++ l) := by rw [hrow]; simp [bcells]
  subst hr hk
  refine ⟨some ⟨N, 0, none⟩, l.length + hd.length, .int .i64 (hd.length : Int), q, ly, ?_, ?_⟩
  · rw [rowW_other (Ne.symm h.ne)]; exact hP
  · have := isB_row (w := rowW (rowW y V cs e) N (bcells (hd ++ l)) 5) (b := N) (rowW_heap h.has) (hb.append h.bytes) (by unfold maxLen; rw [List.length_append]; omega)
    rw [List.length_append, Nat.add_comm] at this
    exact this
end Go.Proofs.Ytdpffedmgmllbaa
