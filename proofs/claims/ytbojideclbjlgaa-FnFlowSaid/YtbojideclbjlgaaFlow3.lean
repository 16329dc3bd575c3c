/-
  A flow turned round; its two ends.
-/
import Derived.Test.YtbojideclbjlgaaFlow2
import Derived.Deep.MidRow
import Derived.Great.BuildSlice
import Derived.Deep.RegionHeld3
namespace Go.Proofs.Ytbojideclbjlgaa
open Go.RowKit

theorem bytesOne {l : List Int} : ∀ v ∈ arr l, v.oneCell' = true := by
  intro v hv
  unfold arr at hv
  rcases List.mem_append.1 hv with h | h
  · exact bcells_one l v h
  · rw [zs, List.mem_replicate] at h
    rw [h.2]; rfl
theorem range_new (w : World) (C cs : List Value) (T : TypeId) (o : Nat) (h : (C.drop o).take cs.length = cs) : (w.alloc (.cells C.toArray T)).rangeAt w.heap.size o cs := by
  intro j v hv
  have hj : j < cs.length := (List.getElem?_eq_some_iff.1 hv).1
  rw [World.cell?_alloc_new, ← hv]
  have : ((C.drop o).take cs.length)[j]? = cs[j]? := by rw [h]
  rw [← this, List.getElem?_take_of_lt hj, List.getElem?_drop]
  simp
theorem gr_setRow {w w1 : World} {g : Nat} (cs : Array Value) (h : Gr w w1) (hg : w.heap.size ≤ g) : Gr w (w1.setRow g cs) :=
  ⟨h.os, h.tape, h.output, by simpa [World.setRow] using h.size, fun k hk hr => (setRow_other w1 g k cs (by omega)).trans (h.block k hk hr)⟩
/-- single bytes -/
def Ones (l : List Value) : Prop := ∀ v ∈ l, v.oneCell' = true

theorem all_ones {a b : Int} {c : Option Int} {l m : List Value} (h1 : Ones l) (h2 : Ones m) : ((.int .i64 a :: .int .i64 b :: ((c.map (Value.int .i64)).toList ++ (l ++ m)) : List Value)).toArray.all (·.oneCell') = true := by
  refine all_oneCell_toArray fun v hv => ?_
  simp only [List.mem_cons, List.mem_append] at hv
  rcases hv with rfl | rfl | hv | hv | hv
  · rfl
  · rfl
  · cases c with
    | none => simp at hv
    | some c => simp at hv; rw [hv]; rfl
  · exact h1 v hv
  · exact h2 v hv

set_option maxRecDepth 100000 in
set_option maxHeartbeats 2000000 in
theorem reverse_calls (n1 n2 : Nat) (x0 x1 x2 x3 x4 x5 x6 x7 x8 x9 x10 x11 x12 x13 x14 x15 y0 y1 y2 y3 y4 y5 y6 y7 y8 y9 y10 y11 y12 y13 y14 y15 : Value) (w : World) (o1 : Ones [x0, x1, x2, x3, x4, x5, x6, x7, x8, x9, x10, x11, x12, x13, x14, x15]) (o2 : Ones [y0, y1, y2, y3, y4, y5, y6, y7, y8, y9, y10, y11, y12, y13, y14, y15]) :
    Calls Try.prog 59 #[.agg #[.int .i64 7, .int .i64 (n1 : Int), .int .i64 (n2 : Int), x0, x1, x2, x3, x4, x5, x6, x7, x8, x9, x10, x11, x12, x13, x14, x15, y0, y1, y2, y3, y4, y5, y6, y7, y8, y9, y10, y11, y12, y13, y14, y15]] w fun e w' => e = .returned (.agg #[.int .i64 7, .int .i64 (n2 : Int), .int .i64 (n1 : Int), y0, y1, y2, y3, y4, y5, y6, y7, y8, y9, y10, y11, y12, y13, y14, y15, x0, x1, x2, x3, x4, x5, x6, x7, x8, x9, x10, x11, x12, x13, x14, x15]) ∧ Gr w w' := by
  have kY : (Try.prog.info? 97).map (·.size) = some ([y0, y1, y2, y3, y4, y5, y6, y7, y8, y9, y10, y11, y12, y13, y14, y15] : List Value).length := by kernel_rfl
  have kX : (Try.prog.info? 97).map (·.size) = some ([x0, x1, x2, x3, x4, x5, x6, x7, x8, x9, x10, x11, x12, x13, x14, x15] : List Value).length := by kernel_rfl
  have kF : (Try.prog.info? 99).map (·.size) = some (#[.int .i64 7, .int .i64 (n2 : Int), .int .i64 (n1 : Int), y0, y1, y2, y3, y4, y5, y6, y7, y8, y9, y10, y11, y12, y13, y14, y15, x0, x1, x2, x3, x4, x5, x6, x7, x8, x9, x10, x11, x12, x13, x14, x15] : Array Value).size := by kernel_rfl
  have kO : (#[.int .i64 0, .int .i64 0, .int .i64 0, .int .u8 0, .int .u8 0, .int .u8 0, .int .u8 0, .int .u8 0, .int .u8 0, .int .u8 0, .int .u8 0, .int .u8 0, .int .u8 0, .int .u8 0, .int .u8 0, .int .u8 0, .int .u8 0, .int .u8 0, .int .u8 0, .int .u8 0, .int .u8 0, .int .u8 0, .int .u8 0, .int .u8 0, .int .u8 0, .int .u8 0, .int .u8 0, .int .u8 0, .int .u8 0, .int .u8 0, .int .u8 0, .int .u8 0, .int .u8 0, .int .u8 0, .int .u8 0] : Array Value).size = (#[.int .i64 7, .int .i64 (n2 : Int), .int .i64 (n1 : Int), y0, y1, y2, y3, y4, y5, y6, y7, y8, y9, y10, y11, y12, y13, y14, y15, x0, x1, x2, x3, x4, x5, x6, x7, x8, x9, x10, x11, x12, x13, x14, x15] : Array Value).size := by kernel_rfl
  have h1 : (#[.int .i64 7, .int .i64 (n2 : Int), .int .i64 (n1 : Int), y0, y1, y2, y3, y4, y5, y6, y7, y8, y9, y10, y11, y12, y13, y14, y15, x0, x1, x2, x3, x4, x5, x6, x7, x8, x9, x10, x11, x12, x13, x14, x15] : Array Value).all (·.oneCell') = true := all_ones (c := some (n1 : Int)) o2 o1
  have KY := Lib.hid kY; have KX := Lib.hid kX; have KF := Lib.hid kF; have KO := Lib.hid kO; have H1 := Lib.hid h1
  clear kY kX kF kO h1 o1 o2
  have t := heap_alloc_new (w.alloc (.cells #[.int .i64 7, .int .i64 (n1 : Int), .int .i64 (n2 : Int), x0, x1, x2, x3, x4, x5, x6, x7, x8, x9, x10, x11, x12, x13, x14, x15, y0, y1, y2, y3, y4, y5, y6, y7, y8, y9, y10, y11, y12, y13, y14, y15] 99)) (.cells #[.int .i64 0, .int .i64 0, .int .i64 0, .int .u8 0, .int .u8 0, .int .u8 0, .int .u8 0, .int .u8 0, .int .u8 0, .int .u8 0, .int .u8 0, .int .u8 0, .int .u8 0, .int .u8 0, .int .u8 0, .int .u8 0, .int .u8 0, .int .u8 0, .int .u8 0, .int .u8 0, .int .u8 0, .int .u8 0, .int .u8 0, .int .u8 0, .int .u8 0, .int .u8 0, .int .u8 0, .int .u8 0, .int .u8 0, .int .u8 0, .int .u8 0, .int .u8 0, .int .u8 0, .int .u8 0, .int .u8 0] 99)
  rw [World.size_alloc] at t
  have HG := Lib.hid t
  clear t
  go_enter Try.func59, Try.ntmps59
  go_wp2_with (first
      | (with_reducible refine wpList_load_mid rfl 97 (.tmp 9) rfl w.heap.size 19 (by simp [Act.eval]) [y0, y1, y2, y3, y4, y5, y6, y7, y8, y9, y10, y11, y12, y13, y14, y15] _ ?hr2 Try.underlying97 (by rfl) KY.out ?_)
      | (with_reducible refine wpList_load_mid rfl 97 (.tmp 11) rfl w.heap.size 3 (by simp [Act.eval]) [x0, x1, x2, x3, x4, x5, x6, x7, x8, x9, x10, x11, x12, x13, x14, x15] _ ?hr1 Try.underlying97 (by rfl) KX.out ?_)
      | (with_reducible refine wpList_store_rowTo rfl 99 (.tmp 2) (.tmp 13) rfl rfl (w.heap.size + 1) #[.int .i64 7, .int .i64 (n2 : Int), .int .i64 (n1 : Int), y0, y1, y2, y3, y4, y5, y6, y7, y8, y9, y10, y11, y12, y13, y14, y15, x0, x1, x2, x3, x4, x5, x6, x7, x8, x9, x10, x11, x12, x13, x14, x15] (by simp [Act.eval]) (by simp [Act.eval]) 99 #[.int .i64 0, .int .i64 0, .int .i64 0, .int .u8 0, .int .u8 0, .int .u8 0, .int .u8 0, .int .u8 0, .int .u8 0, .int .u8 0, .int .u8 0, .int .u8 0, .int .u8 0, .int .u8 0, .int .u8 0, .int .u8 0, .int .u8 0, .int .u8 0, .int .u8 0, .int .u8 0, .int .u8 0, .int .u8 0, .int .u8 0, .int .u8 0, .int .u8 0, .int .u8 0, .int .u8 0, .int .u8 0, .int .u8 0, .int .u8 0, .int .u8 0, .int .u8 0, .int .u8 0, .int .u8 0, .int .u8 0] HG.out KF.out KO.out H1.out ?_))
  case hr1 => exact World.rangeAt_alloc (range_new w _ _ _ 3 rfl) _
  case hr2 => exact World.rangeAt_alloc (range_new w _ _ _ 19 rfl) _
  have hr : (((w.alloc (.cells #[.int .i64 7, .int .i64 (n1 : Int), .int .i64 (n2 : Int), x0, x1, x2, x3, x4, x5, x6, x7, x8, x9, x10, x11, x12, x13, x14, x15, y0, y1, y2, y3, y4, y5, y6, y7, y8, y9, y10, y11, y12, y13, y14, y15] 99)).alloc (.cells #[.int .i64 0, .int .i64 0, .int .i64 0, .int .u8 0, .int .u8 0, .int .u8 0, .int .u8 0, .int .u8 0, .int .u8 0, .int .u8 0, .int .u8 0, .int .u8 0, .int .u8 0, .int .u8 0, .int .u8 0, .int .u8 0, .int .u8 0, .int .u8 0, .int .u8 0, .int .u8 0, .int .u8 0, .int .u8 0, .int .u8 0, .int .u8 0, .int .u8 0, .int .u8 0, .int .u8 0, .int .u8 0, .int .u8 0, .int .u8 0, .int .u8 0, .int .u8 0, .int .u8 0, .int .u8 0, .int .u8 0] 99)).setRow (w.heap.size + 1) #[.int .i64 7, .int .i64 (n2 : Int), .int .i64 (n1 : Int), y0, y1, y2, y3, y4, y5, y6, y7, y8, y9, y10, y11, y12, y13, y14, y15, x0, x1, x2, x3, x4, x5, x6, x7, x8, x9, x10, x11, x12, x13, x14, x15]).heap[w.heap.size + 1]? = some (.cells #[.int .i64 7, .int .i64 (n2 : Int), .int .i64 (n1 : Int), y0, y1, y2, y3, y4, y5, y6, y7, y8, y9, y10, y11, y12, y13, y14, y15, x0, x1, x2, x3, x4, x5, x6, x7, x8, x9, x10, x11, x12, x13, x14, x15] 99 (0, 0)) := by
    exact setRow_heap _ _ _ _ _ _ HG.out
  exact bodyPost_ret (v := .agg #[.int .i64 7, .int .i64 (n2 : Int), .int .i64 (n1 : Int), y0, y1, y2, y3, y4, y5, y6, y7, y8, y9, y10, y11, y12, y13, y14, y15, x0, x1, x2, x3, x4, x5, x6, x7, x8, x9, x10, x11, x12, x13, x14, x15]) (results_cell_row (P := Try.prog) Try.results59 _ _ (w.heap.size + 1) 99 _ (0, 0) _ rfl hr Try.underlying99 rfl KF.out) rfl ⟨rfl, gr_setRow _ (((Gr.refl w).alloc _).alloc _) (Nat.le_succ _)⟩

end Go.Proofs.Ytbojideclbjlgaa
