/-
  A flow's two ends.
-/
import Derived.Test.YtbojideclbjlgaaFlow3
namespace Go.Proofs.Ytbojideclbjlgaa
open Go.RowKit

theorem range_block {w : World} {b : Nat} {C cs : List Value} {T : TypeId} (hb : w.heap[b]? = some (.cells C.toArray T (0, 0))) (o : Nat) (h : (C.drop o).take cs.length = cs) : w.rangeAt b o cs := by
  intro j v hv
  have hj : j < cs.length := (List.getElem?_eq_some_iff.1 hv).1
  have : ((C.drop o).take cs.length)[j]? = cs[j]? := by rw [h]
  rw [List.getElem?_take_of_lt hj, List.getElem?_drop, hv] at this
  exact cell_of_heap hb (o + j) v this

theorem step_store_row {P : Program} {ops : Array Oper} {o : Oper} {a : Act} {w : World} {K : Act → World → Prop} {Q : Exit → Act → World → Prop} {E : Prop} (hgd : o.guard = none) (ty : TypeId) (x y : Operand) (ho : o.op = .store ty x y)
    (g : Nat) (cells : Array Value) (hx : a.eval x = .pointer (some ⟨g, 0, none⟩)) (hy : a.eval y = .agg cells)
    (t : TypeId) (old : Array Value) (hg : w.heap[g]? = some (.cells old t (0, 0))) (hi : (P.info? ty).map (·.size) = some cells.size)
    (hold : old.size = cells.size) (h1 : cells.all (·.oneCell') = true)
    (h : K (a.put o.dst undef) (w.setRow g cells)) : if Region.wanted o (yielded ops a.tmps) = true then Oper.wp P o a w K Q else E := by
  have hw : Region.wanted o (yielded ops a.tmps) = true := by simp [Region.wanted, hgd]
  rw [if_pos hw]
  exact wp_store_row ty x y ho g cells hx hy t old hg hi hold h1 h

set_option linter.unusedSimpArgs false in
set_option maxRecDepth 100000 in
set_option maxHeartbeats 4000000 in
theorem endpoints_calls (n1 n2 : Nat) (x0 x1 x2 x3 x4 x5 x6 x7 x8 x9 x10 x11 x12 x13 x14 x15 y0 y1 y2 y3 y4 y5 y6 y7 y8 y9 y10 y11 y12 y13 y14 y15 : Value) (w : World) (o1 : Ones [x0, x1, x2, x3, x4, x5, x6, x7, x8, x9, x10, x11, x12, x13, x14, x15]) (o2 : Ones [y0, y1, y2, y3, y4, y5, y6, y7, y8, y9, y10, y11, y12, y13, y14, y15]) :
    Calls Try.prog 93 #[.agg #[.int .i64 7, .int .i64 (n1 : Int), .int .i64 (n2 : Int), x0, x1, x2, x3, x4, x5, x6, x7, x8, x9, x10, x11, x12, x13, x14, x15, y0, y1, y2, y3, y4, y5, y6, y7, y8, y9, y10, y11, y12, y13, y14, y15]] w fun e w' => e = .returned (.tuple #[.agg #[.int .i64 7, .int .i64 (n1 : Int), x0, x1, x2, x3, x4, x5, x6, x7, x8, x9, x10, x11, x12, x13, x14, x15], .agg #[.int .i64 7, .int .i64 (n2 : Int), y0, y1, y2, y3, y4, y5, y6, y7, y8, y9, y10, y11, y12, y13, y14, y15]]) ∧ Gr w w' := by
  have hu := Try.underlying97
  have kY : (Try.prog.info? 97).map (·.size) = some ([y0, y1, y2, y3, y4, y5, y6, y7, y8, y9, y10, y11, y12, y13, y14, y15] : List Value).length := by kernel_rfl
  have kX : (Try.prog.info? 97).map (·.size) = some ([x0, x1, x2, x3, x4, x5, x6, x7, x8, x9, x10, x11, x12, x13, x14, x15] : List Value).length := by kernel_rfl
  have k1 : (Try.prog.info? 104).map (·.size) = some (#[.int .i64 7, .int .i64 (n1 : Int), x0, x1, x2, x3, x4, x5, x6, x7, x8, x9, x10, x11, x12, x13, x14, x15] : Array Value).size := by kernel_rfl
  have k2 : (Try.prog.info? 104).map (·.size) = some (#[.int .i64 7, .int .i64 (n2 : Int), y0, y1, y2, y3, y4, y5, y6, y7, y8, y9, y10, y11, y12, y13, y14, y15] : Array Value).size := by kernel_rfl
  have q1 : (#[.int .i64 0, .int .i64 0, .int .u8 0, .int .u8 0, .int .u8 0, .int .u8 0, .int .u8 0, .int .u8 0, .int .u8 0, .int .u8 0, .int .u8 0, .int .u8 0, .int .u8 0, .int .u8 0, .int .u8 0, .int .u8 0, .int .u8 0, .int .u8 0] : Array Value).size = (#[.int .i64 7, .int .i64 (n1 : Int), x0, x1, x2, x3, x4, x5, x6, x7, x8, x9, x10, x11, x12, x13, x14, x15] : Array Value).size := by kernel_rfl
  have q2 : (#[.int .i64 0, .int .i64 0, .int .u8 0, .int .u8 0, .int .u8 0, .int .u8 0, .int .u8 0, .int .u8 0, .int .u8 0, .int .u8 0, .int .u8 0, .int .u8 0, .int .u8 0, .int .u8 0, .int .u8 0, .int .u8 0, .int .u8 0, .int .u8 0] : Array Value).size = (#[.int .i64 7, .int .i64 (n2 : Int), y0, y1, y2, y3, y4, y5, y6, y7, y8, y9, y10, y11, y12, y13, y14, y15] : Array Value).size := by kernel_rfl
  have a1 : (#[.int .i64 7, .int .i64 (n1 : Int), x0, x1, x2, x3, x4, x5, x6, x7, x8, x9, x10, x11, x12, x13, x14, x15] : Array Value).all (·.oneCell') = true := by
    have t := all_ones (a := 7) (b := n1) (c := none) (l := [x0, x1, x2, x3, x4, x5, x6, x7, x8, x9, x10, x11, x12, x13, x14, x15]) (m := []) o1 (fun _ h => nomatch h)
    simpa using t
  have a2 : (#[.int .i64 7, .int .i64 (n2 : Int), y0, y1, y2, y3, y4, y5, y6, y7, y8, y9, y10, y11, y12, y13, y14, y15] : Array Value).all (·.oneCell') = true := by
    have t := all_ones (a := 7) (b := n2) (c := none) (l := [y0, y1, y2, y3, y4, y5, y6, y7, y8, y9, y10, y11, y12, y13, y14, y15]) (m := []) o2 (fun _ h => nomatch h)
    simpa using t
  have dX : (((#[.int .i64 7, .int .i64 (n1 : Int), .int .i64 (n2 : Int), x0, x1, x2, x3, x4, x5, x6, x7, x8, x9, x10, x11, x12, x13, x14, x15, y0, y1, y2, y3, y4, y5, y6, y7, y8, y9, y10, y11, y12, y13, y14, y15] : Array Value).toList).drop 3).take ([x0, x1, x2, x3, x4, x5, x6, x7, x8, x9, x10, x11, x12, x13, x14, x15] : List Value).length = [x0, x1, x2, x3, x4, x5, x6, x7, x8, x9, x10, x11, x12, x13, x14, x15] := by kernel_rfl
  have dY : (((#[.int .i64 7, .int .i64 (n1 : Int), .int .i64 (n2 : Int), x0, x1, x2, x3, x4, x5, x6, x7, x8, x9, x10, x11, x12, x13, x14, x15, y0, y1, y2, y3, y4, y5, y6, y7, y8, y9, y10, y11, y12, y13, y14, y15] : Array Value).toList).drop 19).take ([y0, y1, y2, y3, y4, y5, y6, y7, y8, y9, y10, y11, y12, y13, y14, y15] : List Value).length = [y0, y1, y2, y3, y4, y5, y6, y7, y8, y9, y10, y11, y12, y13, y14, y15] := by kernel_rfl
  have rX : ∀ w' : World, w'.heap[w.heap.size]? = some (.cells #[.int .i64 7, .int .i64 (n1 : Int), .int .i64 (n2 : Int), x0, x1, x2, x3, x4, x5, x6, x7, x8, x9, x10, x11, x12, x13, x14, x15, y0, y1, y2, y3, y4, y5, y6, y7, y8, y9, y10, y11, y12, y13, y14, y15] 99 (0, 0)) → w'.rangeAt w.heap.size 3 [x0, x1, x2, x3, x4, x5, x6, x7, x8, x9, x10, x11, x12, x13, x14, x15] := fun w' h => range_block (C := (#[.int .i64 7, .int .i64 (n1 : Int), .int .i64 (n2 : Int), x0, x1, x2, x3, x4, x5, x6, x7, x8, x9, x10, x11, x12, x13, x14, x15, y0, y1, y2, y3, y4, y5, y6, y7, y8, y9, y10, y11, y12, y13, y14, y15] : Array Value).toList) h 3 dX
  have rY : ∀ w' : World, w'.heap[w.heap.size]? = some (.cells #[.int .i64 7, .int .i64 (n1 : Int), .int .i64 (n2 : Int), x0, x1, x2, x3, x4, x5, x6, x7, x8, x9, x10, x11, x12, x13, x14, x15, y0, y1, y2, y3, y4, y5, y6, y7, y8, y9, y10, y11, y12, y13, y14, y15] 99 (0, 0)) → w'.rangeAt w.heap.size 19 [y0, y1, y2, y3, y4, y5, y6, y7, y8, y9, y10, y11, y12, y13, y14, y15] := fun w' h => range_block (C := (#[.int .i64 7, .int .i64 (n1 : Int), .int .i64 (n2 : Int), x0, x1, x2, x3, x4, x5, x6, x7, x8, x9, x10, x11, x12, x13, x14, x15, y0, y1, y2, y3, y4, y5, y6, y7, y8, y9, y10, y11, y12, y13, y14, y15] : Array Value).toList) h 19 dY
  have RX := Lib.hid rX; have RY := Lib.hid rY
  clear dX dY rX rY
  have KY := Lib.hid kY; have KX := Lib.hid kX; have K1 := Lib.hid k1; have K2 := Lib.hid k2; have Q1 := Lib.hid q1; have Q2 := Lib.hid q2; have A1 := Lib.hid a1; have A2 := Lib.hid a2; have HU := Lib.hid hu
  clear kY kX k1 k2 q1 q2 a1 a2 hu o1 o2
  have H0 := Lib.hid (heap_gr (((Gr.refl _).alloc (.cells #[.int .i64 0, .int .i64 0, .int .u8 0, .int .u8 0, .int .u8 0, .int .u8 0, .int .u8 0, .int .u8 0, .int .u8 0, .int .u8 0, .int .u8 0, .int .u8 0, .int .u8 0, .int .u8 0, .int .u8 0, .int .u8 0, .int .u8 0, .int .u8 0] 104)).alloc (.cells #[.int .i64 0, .int .i64 0, .int .u8 0, .int .u8 0, .int .u8 0, .int .u8 0, .int .u8 0, .int .u8 0, .int .u8 0, .int .u8 0, .int .u8 0, .int .u8 0, .int .u8 0, .int .u8 0, .int .u8 0, .int .u8 0, .int .u8 0, .int .u8 0] 104)).drew (heap_alloc_new w (.cells #[.int .i64 7, .int .i64 (n1 : Int), .int .i64 (n2 : Int), x0, x1, x2, x3, x4, x5, x6, x7, x8, x9, x10, x11, x12, x13, x14, x15, y0, y1, y2, y3, y4, y5, y6, y7, y8, y9, y10, y11, y12, y13, y14, y15] 99)))
  have H1 := Lib.hid (heap_gr ((Gr.refl _).alloc (.cells #[.int .i64 0, .int .i64 0, .int .u8 0, .int .u8 0, .int .u8 0, .int .u8 0, .int .u8 0, .int .u8 0, .int .u8 0, .int .u8 0, .int .u8 0, .int .u8 0, .int .u8 0, .int .u8 0, .int .u8 0, .int .u8 0, .int .u8 0, .int .u8 0] 104)).drew (heap_alloc_new (w.alloc (.cells #[.int .i64 7, .int .i64 (n1 : Int), .int .i64 (n2 : Int), x0, x1, x2, x3, x4, x5, x6, x7, x8, x9, x10, x11, x12, x13, x14, x15, y0, y1, y2, y3, y4, y5, y6, y7, y8, y9, y10, y11, y12, y13, y14, y15] 99)) (.cells #[.int .i64 0, .int .i64 0, .int .u8 0, .int .u8 0, .int .u8 0, .int .u8 0, .int .u8 0, .int .u8 0, .int .u8 0, .int .u8 0, .int .u8 0, .int .u8 0, .int .u8 0, .int .u8 0, .int .u8 0, .int .u8 0, .int .u8 0, .int .u8 0] 104)))
  have H2 := Lib.hid (heap_gr (Gr.refl _).drew (heap_alloc_new ((w.alloc (.cells #[.int .i64 7, .int .i64 (n1 : Int), .int .i64 (n2 : Int), x0, x1, x2, x3, x4, x5, x6, x7, x8, x9, x10, x11, x12, x13, x14, x15, y0, y1, y2, y3, y4, y5, y6, y7, y8, y9, y10, y11, y12, y13, y14, y15] 99)).alloc (.cells #[.int .i64 0, .int .i64 0, .int .u8 0, .int .u8 0, .int .u8 0, .int .u8 0, .int .u8 0, .int .u8 0, .int .u8 0, .int .u8 0, .int .u8 0, .int .u8 0, .int .u8 0, .int .u8 0, .int .u8 0, .int .u8 0, .int .u8 0, .int .u8 0] 104)) (.cells #[.int .i64 0, .int .i64 0, .int .u8 0, .int .u8 0, .int .u8 0, .int .u8 0, .int .u8 0, .int .u8 0, .int .u8 0, .int .u8 0, .int .u8 0, .int .u8 0, .int .u8 0, .int .u8 0, .int .u8 0, .int .u8 0, .int .u8 0, .int .u8 0] 104)))
  rw [World.size_alloc] at H1
  rw [World.size_alloc, World.size_alloc] at H2
  go_enter Try.func93, Try.ntmps93
  go_wp2_with fail
  refine wp_region_held_drew (S := fun w' => w'.heap[w.heap.size]? = some (.cells #[.int .i64 7, .int .i64 (n1 : Int), .int .i64 (n2 : Int), x0, x1, x2, x3, x4, x5, x6, x7, x8, x9, x10, x11, x12, x13, x14, x15, y0, y1, y2, y3, y4, y5, y6, y7, y8, y9, y10, y11, y12, y13, y14, y15] 99 (0, 0))) (by kernel_rfl) H0.out (fun hHeld => ?_)
  refine wpAnyH_take (i := 0) (v := .pointer (some ⟨w.heap.size, 0, none⟩)) rfl (by kernel_rfl) (by kernel_rfl) (by kernel_rfl) (fun _ _ _ h => h) (Or.inl ⟨by rfl, fun w' hS => ?_⟩) (by assumption) ?_
  · have c0 := cell_of_heap hS 0 _ rfl
    have c1 := cell_of_heap hS 1 _ rfl
    have c2 := cell_of_heap hS 2 _ rfl
    clear hS hHeld
    go_simp
  simp only [Act.put, List.getElem_toArray, List.getElem_cons_succ, List.getElem_cons_zero, List.setIfInBounds_toArray, List.set_cons_zero, List.set_cons_succ]
  refine wpAnyH_take (i := 1) (v := .int .i64 7) rfl (by kernel_rfl) (by kernel_rfl) (by kernel_rfl) (fun _ _ _ h => h) (Or.inl ⟨by rfl, fun w' hS => ?_⟩) (by assumption) ?_
  · have c0 := cell_of_heap hS 0 _ rfl
    have c1 := cell_of_heap hS 1 _ rfl
    have c2 := cell_of_heap hS 2 _ rfl
    clear hS hHeld
    go_simp
  simp only [Act.put, List.getElem_toArray, List.getElem_cons_succ, List.getElem_cons_zero, List.setIfInBounds_toArray, List.set_cons_zero, List.set_cons_succ]
  refine wpAnyH_take (i := 2) (v := .pointer (some ⟨w.heap.size, 1, none⟩)) rfl (by kernel_rfl) (by kernel_rfl) (by kernel_rfl) (fun _ _ _ h => h) (Or.inl ⟨by rfl, fun w' hS => ?_⟩) (by assumption) ?_
  · have c0 := cell_of_heap hS 0 _ rfl
    have c1 := cell_of_heap hS 1 _ rfl
    have c2 := cell_of_heap hS 2 _ rfl
    clear hS hHeld
    go_simp
  simp only [Act.put, List.getElem_toArray, List.getElem_cons_succ, List.getElem_cons_zero, List.setIfInBounds_toArray, List.set_cons_zero, List.set_cons_succ]
  refine wpAnyH_take (i := 3) (v := .int .i64 (n1 : Int)) rfl (by kernel_rfl) (by kernel_rfl) (by kernel_rfl) (fun _ _ _ h => h) (Or.inl ⟨by rfl, fun w' hS => ?_⟩) (by assumption) ?_
  · have c0 := cell_of_heap hS 0 _ rfl
    have c1 := cell_of_heap hS 1 _ rfl
    have c2 := cell_of_heap hS 2 _ rfl
    clear hS hHeld
    go_simp
  simp only [Act.put, List.getElem_toArray, List.getElem_cons_succ, List.getElem_cons_zero, List.setIfInBounds_toArray, List.set_cons_zero, List.set_cons_succ]
  refine wpAnyH_take (i := 4) (v := .pointer (some ⟨w.heap.size, 3, none⟩)) rfl (by kernel_rfl) (by kernel_rfl) (by kernel_rfl) (fun _ _ _ h => h) (Or.inl ⟨by rfl, fun w' hS => ?_⟩) (by assumption) ?_
  · have c0 := cell_of_heap hS 0 _ rfl
    have c1 := cell_of_heap hS 1 _ rfl
    have c2 := cell_of_heap hS 2 _ rfl
    clear hS hHeld
    go_simp
  simp only [Act.put, List.getElem_toArray, List.getElem_cons_succ, List.getElem_cons_zero, List.setIfInBounds_toArray, List.set_cons_zero, List.set_cons_succ]
  refine wpAnyH_take (i := 5) (v := .agg #[x0, x1, x2, x3, x4, x5, x6, x7, x8, x9, x10, x11, x12, x13, x14, x15]) rfl (by kernel_rfl) (by kernel_rfl) (by kernel_rfl) (fun _ _ _ h => h) ?_ (by assumption) ?_
  · refine yieldsIf_load_mid (by rfl) _ _ rfl w.heap.size 3 ?_ _ _ RX.out HU.out (by rfl) KX.out
    simp [Act.eval]
  simp only [Act.put, List.getElem_toArray, List.getElem_cons_succ, List.getElem_cons_zero, List.setIfInBounds_toArray, List.set_cons_zero, List.set_cons_succ]
  refine wpAnyH_take (i := 6) (v := .agg #[.int .i64 7, .int .i64 (n1 : Int), x0, x1, x2, x3, x4, x5, x6, x7, x8, x9, x10, x11, x12, x13, x14, x15]) rfl (by kernel_rfl) (by kernel_rfl) (by kernel_rfl) (fun _ _ _ h => h) (Or.inl ⟨by rfl, fun w' hS => ?_⟩) (by assumption) ?_
  · have c0 := cell_of_heap hS 0 _ rfl
    have c1 := cell_of_heap hS 1 _ rfl
    have c2 := cell_of_heap hS 2 _ rfl
    clear hS hHeld
    go_simp
  simp only [Act.put, List.getElem_toArray, List.getElem_cons_succ, List.getElem_cons_zero, List.setIfInBounds_toArray, List.set_cons_zero, List.set_cons_succ]
  refine wpAnyH_take (i := 7) (v := .pointer (some ⟨w.heap.size, 0, none⟩)) rfl (by kernel_rfl) (by kernel_rfl) (by kernel_rfl) (fun _ _ _ h => h) (Or.inl ⟨by rfl, fun w' hS => ?_⟩) (by assumption) ?_
  · have c0 := cell_of_heap hS 0 _ rfl
    have c1 := cell_of_heap hS 1 _ rfl
    have c2 := cell_of_heap hS 2 _ rfl
    clear hS hHeld
    go_simp
  simp only [Act.put, List.getElem_toArray, List.getElem_cons_succ, List.getElem_cons_zero, List.setIfInBounds_toArray, List.set_cons_zero, List.set_cons_succ]
  refine wpAnyH_take (i := 8) (v := .int .i64 7) rfl (by kernel_rfl) (by kernel_rfl) (by kernel_rfl) (fun _ _ _ h => h) (Or.inl ⟨by rfl, fun w' hS => ?_⟩) (by assumption) ?_
  · have c0 := cell_of_heap hS 0 _ rfl
    have c1 := cell_of_heap hS 1 _ rfl
    have c2 := cell_of_heap hS 2 _ rfl
    clear hS hHeld
    go_simp
  simp only [Act.put, List.getElem_toArray, List.getElem_cons_succ, List.getElem_cons_zero, List.setIfInBounds_toArray, List.set_cons_zero, List.set_cons_succ]
  refine wpAnyH_take (i := 9) (v := .pointer (some ⟨w.heap.size, 2, none⟩)) rfl (by kernel_rfl) (by kernel_rfl) (by kernel_rfl) (fun _ _ _ h => h) (Or.inl ⟨by rfl, fun w' hS => ?_⟩) (by assumption) ?_
  · have c0 := cell_of_heap hS 0 _ rfl
    have c1 := cell_of_heap hS 1 _ rfl
    have c2 := cell_of_heap hS 2 _ rfl
    clear hS hHeld
    go_simp
  simp only [Act.put, List.getElem_toArray, List.getElem_cons_succ, List.getElem_cons_zero, List.setIfInBounds_toArray, List.set_cons_zero, List.set_cons_succ]
  refine wpAnyH_take (i := 10) (v := .int .i64 (n2 : Int)) rfl (by kernel_rfl) (by kernel_rfl) (by kernel_rfl) (fun _ _ _ h => h) (Or.inl ⟨by rfl, fun w' hS => ?_⟩) (by assumption) ?_
  · have c0 := cell_of_heap hS 0 _ rfl
    have c1 := cell_of_heap hS 1 _ rfl
    have c2 := cell_of_heap hS 2 _ rfl
    clear hS hHeld
    go_simp
  simp only [Act.put, List.getElem_toArray, List.getElem_cons_succ, List.getElem_cons_zero, List.setIfInBounds_toArray, List.set_cons_zero, List.set_cons_succ]
  refine wpAnyH_take (i := 11) (v := .pointer (some ⟨w.heap.size, 19, none⟩)) rfl (by kernel_rfl) (by kernel_rfl) (by kernel_rfl) (fun _ _ _ h => h) (Or.inl ⟨by rfl, fun w' hS => ?_⟩) (by assumption) ?_
  · have c0 := cell_of_heap hS 0 _ rfl
    have c1 := cell_of_heap hS 1 _ rfl
    have c2 := cell_of_heap hS 2 _ rfl
    clear hS hHeld
    go_simp
  simp only [Act.put, List.getElem_toArray, List.getElem_cons_succ, List.getElem_cons_zero, List.setIfInBounds_toArray, List.set_cons_zero, List.set_cons_succ]
  refine wpAnyH_take (i := 12) (v := .agg #[y0, y1, y2, y3, y4, y5, y6, y7, y8, y9, y10, y11, y12, y13, y14, y15]) rfl (by kernel_rfl) (by kernel_rfl) (by kernel_rfl) (fun _ _ _ h => h) ?_ (by assumption) ?_
  · refine yieldsIf_load_mid (by rfl) _ _ rfl w.heap.size 19 ?_ _ _ RY.out HU.out (by rfl) KY.out
    simp [Act.eval]
  simp only [Act.put, List.getElem_toArray, List.getElem_cons_succ, List.getElem_cons_zero, List.setIfInBounds_toArray, List.set_cons_zero, List.set_cons_succ]
  refine wpAnyH_take (i := 13) (v := .agg #[.int .i64 7, .int .i64 (n2 : Int), y0, y1, y2, y3, y4, y5, y6, y7, y8, y9, y10, y11, y12, y13, y14, y15]) rfl (by kernel_rfl) (by kernel_rfl) (by kernel_rfl) (fun _ _ _ h => h) (Or.inl ⟨by rfl, fun w' hS => ?_⟩) (by assumption) ?_
  · have c0 := cell_of_heap hS 0 _ rfl
    have c1 := cell_of_heap hS 1 _ rfl
    have c2 := cell_of_heap hS 2 _ rfl
    clear hS hHeld
    go_simp
  simp only [Act.put, List.getElem_toArray, List.getElem_cons_succ, List.getElem_cons_zero, List.setIfInBounds_toArray, List.set_cons_zero, List.set_cons_succ]
  clear hHeld
  refine wpAnyH_ready (rs := [14]) (by kernel_rfl) (by simp) ?_
  refine AllReadyH.cons (o := ⟨none, .store 104 (.tmp 2) (.tmp 10), 0, "flows.go:147", #[⟨6, .data⟩, ⟨0, .phase⟩, ⟨1, .phase⟩, ⟨2, .phase⟩, ⟨3, .phase⟩, ⟨4, .phase⟩, ⟨5, .phase⟩, ⟨6, .phase⟩, ⟨7, .textOnly .lateStores⟩, ⟨8, .textOnly .lateStores⟩, ⟨9, .textOnly .lateStores⟩, ⟨10, .textOnly .lateStores⟩, ⟨11, .textOnly .lateStores⟩, ⟨12, .textOnly .lateStores⟩, ⟨13, .textOnly .lateStores⟩], none⟩) rfl (fun K hK => ?_) AllReadyH.nil
  · refine step_store_row (by rfl) 104 (.tmp 2) (.tmp 10) (by rfl) (w.heap.size + 1) #[.int .i64 7, .int .i64 (n1 : Int), x0, x1, x2, x3, x4, x5, x6, x7, x8, x9, x10, x11, x12, x13, x14, x15] ?_ ?_ 104 #[.int .i64 0, .int .i64 0, .int .u8 0, .int .u8 0, .int .u8 0, .int .u8 0, .int .u8 0, .int .u8 0, .int .u8 0, .int .u8 0, .int .u8 0, .int .u8 0, .int .u8 0, .int .u8 0, .int .u8 0, .int .u8 0, .int .u8 0, .int .u8 0] H1.out K1.out Q1.out A1.out ?_
    · simp [Act.eval]
    · simp [Act.eval]
    refine hK.out _ _ ((setRow_other ((((w.alloc (.cells #[.int .i64 7, .int .i64 (n1 : Int), .int .i64 (n2 : Int), x0, x1, x2, x3, x4, x5, x6, x7, x8, x9, x10, x11, x12, x13, x14, x15, y0, y1, y2, y3, y4, y5, y6, y7, y8, y9, y10, y11, y12, y13, y14, y15] 99)).alloc (.cells #[.int .i64 0, .int .i64 0, .int .u8 0, .int .u8 0, .int .u8 0, .int .u8 0, .int .u8 0, .int .u8 0, .int .u8 0, .int .u8 0, .int .u8 0, .int .u8 0, .int .u8 0, .int .u8 0, .int .u8 0, .int .u8 0, .int .u8 0, .int .u8 0] 104)).alloc (.cells #[.int .i64 0, .int .i64 0, .int .u8 0, .int .u8 0, .int .u8 0, .int .u8 0, .int .u8 0, .int .u8 0, .int .u8 0, .int .u8 0, .int .u8 0, .int .u8 0, .int .u8 0, .int .u8 0, .int .u8 0, .int .u8 0, .int .u8 0, .int .u8 0] 104)).drew) (w.heap.size + 1) w.heap.size #[.int .i64 7, .int .i64 (n1 : Int), x0, x1, x2, x3, x4, x5, x6, x7, x8, x9, x10, x11, x12, x13, x14, x15] (by omega)).trans H0.out) (fun hHeld2 => ?_)
    clear hK K hHeld2
    simp only [Act.put]
    refine wpAnyH_ready (rs := [15]) (by kernel_rfl) (by simp) ?_
    refine AllReadyH.cons (o := ⟨none, .store 104 (.tmp 3) (.tmp 17), 0, "flows.go:147", #[⟨13, .data⟩, ⟨14, .chain⟩, ⟨0, .phase⟩, ⟨1, .phase⟩, ⟨2, .phase⟩, ⟨3, .phase⟩, ⟨4, .phase⟩, ⟨5, .phase⟩, ⟨6, .phase⟩, ⟨7, .phase⟩, ⟨8, .phase⟩, ⟨9, .phase⟩, ⟨10, .phase⟩, ⟨11, .phase⟩, ⟨12, .phase⟩, ⟨13, .phase⟩, ⟨14, .phase⟩], none⟩) rfl (fun K hK => ?_) AllReadyH.nil
    refine step_store_row (by rfl) 104 (.tmp 3) (.tmp 17) (by rfl) (w.heap.size + 2) #[.int .i64 7, .int .i64 (n2 : Int), y0, y1, y2, y3, y4, y5, y6, y7, y8, y9, y10, y11, y12, y13, y14, y15] ?_ ?_ 104 #[.int .i64 0, .int .i64 0, .int .u8 0, .int .u8 0, .int .u8 0, .int .u8 0, .int .u8 0, .int .u8 0, .int .u8 0, .int .u8 0, .int .u8 0, .int .u8 0, .int .u8 0, .int .u8 0, .int .u8 0, .int .u8 0, .int .u8 0, .int .u8 0] ((setRow_other ((((w.alloc (.cells #[.int .i64 7, .int .i64 (n1 : Int), .int .i64 (n2 : Int), x0, x1, x2, x3, x4, x5, x6, x7, x8, x9, x10, x11, x12, x13, x14, x15, y0, y1, y2, y3, y4, y5, y6, y7, y8, y9, y10, y11, y12, y13, y14, y15] 99)).alloc (.cells #[.int .i64 0, .int .i64 0, .int .u8 0, .int .u8 0, .int .u8 0, .int .u8 0, .int .u8 0, .int .u8 0, .int .u8 0, .int .u8 0, .int .u8 0, .int .u8 0, .int .u8 0, .int .u8 0, .int .u8 0, .int .u8 0, .int .u8 0, .int .u8 0] 104)).alloc (.cells #[.int .i64 0, .int .i64 0, .int .u8 0, .int .u8 0, .int .u8 0, .int .u8 0, .int .u8 0, .int .u8 0, .int .u8 0, .int .u8 0, .int .u8 0, .int .u8 0, .int .u8 0, .int .u8 0, .int .u8 0, .int .u8 0, .int .u8 0, .int .u8 0] 104)).drew) (w.heap.size + 1) (w.heap.size + 1 + 1) #[.int .i64 7, .int .i64 (n1 : Int), x0, x1, x2, x3, x4, x5, x6, x7, x8, x9, x10, x11, x12, x13, x14, x15] (by omega)).trans H2.out) K2.out Q2.out A2.out ?_
    · simp [Act.eval]
    · simp [Act.eval]
    refine hK.out _ _ ((setRow_other (((((w.alloc (.cells #[.int .i64 7, .int .i64 (n1 : Int), .int .i64 (n2 : Int), x0, x1, x2, x3, x4, x5, x6, x7, x8, x9, x10, x11, x12, x13, x14, x15, y0, y1, y2, y3, y4, y5, y6, y7, y8, y9, y10, y11, y12, y13, y14, y15] 99)).alloc (.cells #[.int .i64 0, .int .i64 0, .int .u8 0, .int .u8 0, .int .u8 0, .int .u8 0, .int .u8 0, .int .u8 0, .int .u8 0, .int .u8 0, .int .u8 0, .int .u8 0, .int .u8 0, .int .u8 0, .int .u8 0, .int .u8 0, .int .u8 0, .int .u8 0] 104)).alloc (.cells #[.int .i64 0, .int .i64 0, .int .u8 0, .int .u8 0, .int .u8 0, .int .u8 0, .int .u8 0, .int .u8 0, .int .u8 0, .int .u8 0, .int .u8 0, .int .u8 0, .int .u8 0, .int .u8 0, .int .u8 0, .int .u8 0, .int .u8 0, .int .u8 0] 104)).drew).setRow (w.heap.size + 1) #[.int .i64 7, .int .i64 (n1 : Int), x0, x1, x2, x3, x4, x5, x6, x7, x8, x9, x10, x11, x12, x13, x14, x15]) (w.heap.size + 2) w.heap.size #[.int .i64 7, .int .i64 (n2 : Int), y0, y1, y2, y3, y4, y5, y6, y7, y8, y9, y10, y11, y12, y13, y14, y15] (by omega)).trans ((setRow_other ((((w.alloc (.cells #[.int .i64 7, .int .i64 (n1 : Int), .int .i64 (n2 : Int), x0, x1, x2, x3, x4, x5, x6, x7, x8, x9, x10, x11, x12, x13, x14, x15, y0, y1, y2, y3, y4, y5, y6, y7, y8, y9, y10, y11, y12, y13, y14, y15] 99)).alloc (.cells #[.int .i64 0, .int .i64 0, .int .u8 0, .int .u8 0, .int .u8 0, .int .u8 0, .int .u8 0, .int .u8 0, .int .u8 0, .int .u8 0, .int .u8 0, .int .u8 0, .int .u8 0, .int .u8 0, .int .u8 0, .int .u8 0, .int .u8 0, .int .u8 0] 104)).alloc (.cells #[.int .i64 0, .int .i64 0, .int .u8 0, .int .u8 0, .int .u8 0, .int .u8 0, .int .u8 0, .int .u8 0, .int .u8 0, .int .u8 0, .int .u8 0, .int .u8 0, .int .u8 0, .int .u8 0, .int .u8 0, .int .u8 0, .int .u8 0, .int .u8 0] 104)).drew) (w.heap.size + 1) w.heap.size #[.int .i64 7, .int .i64 (n1 : Int), x0, x1, x2, x3, x4, x5, x6, x7, x8, x9, x10, x11, x12, x13, x14, x15] (by omega)).trans H0.out)) (fun hHeld2 => ?_)
    clear hK K hHeld2
    simp only [Act.put]
    refine wpAnyH_done (by kernel_rfl) ?_ _
    go_wp2_with fail
    have g1 : ((((((w.alloc (.cells #[.int .i64 7, .int .i64 (n1 : Int), .int .i64 (n2 : Int), x0, x1, x2, x3, x4, x5, x6, x7, x8, x9, x10, x11, x12, x13, x14, x15, y0, y1, y2, y3, y4, y5, y6, y7, y8, y9, y10, y11, y12, y13, y14, y15] 99)).alloc (.cells #[.int .i64 0, .int .i64 0, .int .u8 0, .int .u8 0, .int .u8 0, .int .u8 0, .int .u8 0, .int .u8 0, .int .u8 0, .int .u8 0, .int .u8 0, .int .u8 0, .int .u8 0, .int .u8 0, .int .u8 0, .int .u8 0, .int .u8 0, .int .u8 0] 104)).alloc (.cells #[.int .i64 0, .int .i64 0, .int .u8 0, .int .u8 0, .int .u8 0, .int .u8 0, .int .u8 0, .int .u8 0, .int .u8 0, .int .u8 0, .int .u8 0, .int .u8 0, .int .u8 0, .int .u8 0, .int .u8 0, .int .u8 0, .int .u8 0, .int .u8 0] 104)).drew).setRow (w.heap.size + 1) #[.int .i64 7, .int .i64 (n1 : Int), x0, x1, x2, x3, x4, x5, x6, x7, x8, x9, x10, x11, x12, x13, x14, x15]).setRow (w.heap.size + 2) #[.int .i64 7, .int .i64 (n2 : Int), y0, y1, y2, y3, y4, y5, y6, y7, y8, y9, y10, y11, y12, y13, y14, y15]).heap[(w.heap.size + 1)]? = some (.cells #[.int .i64 7, .int .i64 (n1 : Int), x0, x1, x2, x3, x4, x5, x6, x7, x8, x9, x10, x11, x12, x13, x14, x15] 104 (0, 0)) := (setRow_other (((((w.alloc (.cells #[.int .i64 7, .int .i64 (n1 : Int), .int .i64 (n2 : Int), x0, x1, x2, x3, x4, x5, x6, x7, x8, x9, x10, x11, x12, x13, x14, x15, y0, y1, y2, y3, y4, y5, y6, y7, y8, y9, y10, y11, y12, y13, y14, y15] 99)).alloc (.cells #[.int .i64 0, .int .i64 0, .int .u8 0, .int .u8 0, .int .u8 0, .int .u8 0, .int .u8 0, .int .u8 0, .int .u8 0, .int .u8 0, .int .u8 0, .int .u8 0, .int .u8 0, .int .u8 0, .int .u8 0, .int .u8 0, .int .u8 0, .int .u8 0] 104)).alloc (.cells #[.int .i64 0, .int .i64 0, .int .u8 0, .int .u8 0, .int .u8 0, .int .u8 0, .int .u8 0, .int .u8 0, .int .u8 0, .int .u8 0, .int .u8 0, .int .u8 0, .int .u8 0, .int .u8 0, .int .u8 0, .int .u8 0, .int .u8 0, .int .u8 0] 104)).drew).setRow (w.heap.size + 1) #[.int .i64 7, .int .i64 (n1 : Int), x0, x1, x2, x3, x4, x5, x6, x7, x8, x9, x10, x11, x12, x13, x14, x15]) (w.heap.size + 2) (w.heap.size + 1) #[.int .i64 7, .int .i64 (n2 : Int), y0, y1, y2, y3, y4, y5, y6, y7, y8, y9, y10, y11, y12, y13, y14, y15] (by omega)).trans (setRow_heap _ _ _ _ _ _ H1.out)
    have g2 : ((((((w.alloc (.cells #[.int .i64 7, .int .i64 (n1 : Int), .int .i64 (n2 : Int), x0, x1, x2, x3, x4, x5, x6, x7, x8, x9, x10, x11, x12, x13, x14, x15, y0, y1, y2, y3, y4, y5, y6, y7, y8, y9, y10, y11, y12, y13, y14, y15] 99)).alloc (.cells #[.int .i64 0, .int .i64 0, .int .u8 0, .int .u8 0, .int .u8 0, .int .u8 0, .int .u8 0, .int .u8 0, .int .u8 0, .int .u8 0, .int .u8 0, .int .u8 0, .int .u8 0, .int .u8 0, .int .u8 0, .int .u8 0, .int .u8 0, .int .u8 0] 104)).alloc (.cells #[.int .i64 0, .int .i64 0, .int .u8 0, .int .u8 0, .int .u8 0, .int .u8 0, .int .u8 0, .int .u8 0, .int .u8 0, .int .u8 0, .int .u8 0, .int .u8 0, .int .u8 0, .int .u8 0, .int .u8 0, .int .u8 0, .int .u8 0, .int .u8 0] 104)).drew).setRow (w.heap.size + 1) #[.int .i64 7, .int .i64 (n1 : Int), x0, x1, x2, x3, x4, x5, x6, x7, x8, x9, x10, x11, x12, x13, x14, x15]).setRow (w.heap.size + 2) #[.int .i64 7, .int .i64 (n2 : Int), y0, y1, y2, y3, y4, y5, y6, y7, y8, y9, y10, y11, y12, y13, y14, y15]).heap[(w.heap.size + 2)]? = some (.cells #[.int .i64 7, .int .i64 (n2 : Int), y0, y1, y2, y3, y4, y5, y6, y7, y8, y9, y10, y11, y12, y13, y14, y15] 104 (0, 0)) := setRow_heap _ _ _ _ _ _ ((setRow_other ((((w.alloc (.cells #[.int .i64 7, .int .i64 (n1 : Int), .int .i64 (n2 : Int), x0, x1, x2, x3, x4, x5, x6, x7, x8, x9, x10, x11, x12, x13, x14, x15, y0, y1, y2, y3, y4, y5, y6, y7, y8, y9, y10, y11, y12, y13, y14, y15] 99)).alloc (.cells #[.int .i64 0, .int .i64 0, .int .u8 0, .int .u8 0, .int .u8 0, .int .u8 0, .int .u8 0, .int .u8 0, .int .u8 0, .int .u8 0, .int .u8 0, .int .u8 0, .int .u8 0, .int .u8 0, .int .u8 0, .int .u8 0, .int .u8 0, .int .u8 0] 104)).alloc (.cells #[.int .i64 0, .int .i64 0, .int .u8 0, .int .u8 0, .int .u8 0, .int .u8 0, .int .u8 0, .int .u8 0, .int .u8 0, .int .u8 0, .int .u8 0, .int .u8 0, .int .u8 0, .int .u8 0, .int .u8 0, .int .u8 0, .int .u8 0, .int .u8 0] 104)).drew) (w.heap.size + 1) (w.heap.size + 1 + 1) #[.int .i64 7, .int .i64 (n1 : Int), x0, x1, x2, x3, x4, x5, x6, x7, x8, x9, x10, x11, x12, x13, x14, x15] (by omega)).trans H2.out)
    have l1 := run_loadVar_row (P := Try.prog) _ (w.heap.size + 1) 104 104 _ (0, 0) _ g1 Try.underlying104 rfl K1.out
    have l2 := run_loadVar_row (P := Try.prog) _ (w.heap.size + 2) 104 104 _ (0, 0) _ g2 Try.underlying104 rfl K2.out
    exact bodyPost_ret (v := .tuple #[.agg #[.int .i64 7, .int .i64 (n1 : Int), x0, x1, x2, x3, x4, x5, x6, x7, x8, x9, x10, x11, x12, x13, x14, x15], .agg #[.int .i64 7, .int .i64 (n2 : Int), y0, y1, y2, y3, y4, y5, y6, y7, y8, y9, y10, y11, y12, y13, y14, y15]]) (by simp [results, Try.results93, asAddr, l1, l2]) rfl ⟨rfl, gr_setRow _ (gr_setRow _ ((((Gr.refl w).alloc _).alloc _).alloc _).drew (by omega)) (by omega)⟩

set_option maxRecDepth 100000 in
set_option maxHeartbeats 2000000 in
theorem src_calls (n1 n2 : Nat) (x0 x1 x2 x3 x4 x5 x6 x7 x8 x9 x10 x11 x12 x13 x14 x15 y0 y1 y2 y3 y4 y5 y6 y7 y8 y9 y10 y11 y12 y13 y14 y15 : Value) (w : World) (o1 : Ones [x0, x1, x2, x3, x4, x5, x6, x7, x8, x9, x10, x11, x12, x13, x14, x15]) (o2 : Ones [y0, y1, y2, y3, y4, y5, y6, y7, y8, y9, y10, y11, y12, y13, y14, y15]) :
    Calls Try.prog 60 #[.agg #[.int .i64 7, .int .i64 (n1 : Int), .int .i64 (n2 : Int), x0, x1, x2, x3, x4, x5, x6, x7, x8, x9, x10, x11, x12, x13, x14, x15, y0, y1, y2, y3, y4, y5, y6, y7, y8, y9, y10, y11, y12, y13, y14, y15]] w fun e w' => e = .returned (.agg #[.int .i64 7, .int .i64 (n1 : Int), x0, x1, x2, x3, x4, x5, x6, x7, x8, x9, x10, x11, x12, x13, x14, x15]) ∧ Gr w w' := by
  have kF : (Try.prog.info? 99).map (·.size) = some (#[.int .i64 7, .int .i64 (n1 : Int), .int .i64 (n2 : Int), x0, x1, x2, x3, x4, x5, x6, x7, x8, x9, x10, x11, x12, x13, x14, x15, y0, y1, y2, y3, y4, y5, y6, y7, y8, y9, y10, y11, y12, y13, y14, y15] : Array Value).size := by kernel_rfl
  have k1 : (Try.prog.info? 104).map (·.size) = some (#[.int .i64 7, .int .i64 (n1 : Int), x0, x1, x2, x3, x4, x5, x6, x7, x8, x9, x10, x11, x12, x13, x14, x15] : Array Value).size := by kernel_rfl
  have q1 : (#[.int .i64 0, .int .i64 0, .int .u8 0, .int .u8 0, .int .u8 0, .int .u8 0, .int .u8 0, .int .u8 0, .int .u8 0, .int .u8 0, .int .u8 0, .int .u8 0, .int .u8 0, .int .u8 0, .int .u8 0, .int .u8 0, .int .u8 0, .int .u8 0] : Array Value).size = (#[.int .i64 7, .int .i64 (n1 : Int), x0, x1, x2, x3, x4, x5, x6, x7, x8, x9, x10, x11, x12, x13, x14, x15] : Array Value).size := by kernel_rfl
  have a1 : (#[.int .i64 7, .int .i64 (n1 : Int), x0, x1, x2, x3, x4, x5, x6, x7, x8, x9, x10, x11, x12, x13, x14, x15] : Array Value).all (·.oneCell') = true := by
    have t := all_ones (a := 7) (b := n1) (c := none) (l := [x0, x1, x2, x3, x4, x5, x6, x7, x8, x9, x10, x11, x12, x13, x14, x15]) (m := []) o1 (fun _ h => nomatch h)
    simpa using t
  have KF := Lib.hid kF; have K1 := Lib.hid k1; have Q1 := Lib.hid q1; have A1 := Lib.hid a1; have O1 := Lib.hid o1; have O2 := Lib.hid o2
  clear kF k1 q1 a1 o1 o2
  have HF := Lib.hid (heap_gr ((Gr.refl _).alloc (.cells #[.int .i64 0, .int .i64 0, .int .u8 0, .int .u8 0, .int .u8 0, .int .u8 0, .int .u8 0, .int .u8 0, .int .u8 0, .int .u8 0, .int .u8 0, .int .u8 0, .int .u8 0, .int .u8 0, .int .u8 0, .int .u8 0, .int .u8 0, .int .u8 0] 104)) (heap_alloc_new w (.cells #[.int .i64 7, .int .i64 (n1 : Int), .int .i64 (n2 : Int), x0, x1, x2, x3, x4, x5, x6, x7, x8, x9, x10, x11, x12, x13, x14, x15, y0, y1, y2, y3, y4, y5, y6, y7, y8, y9, y10, y11, y12, y13, y14, y15] 99)))
  have HZ := heap_alloc_new (w.alloc (.cells #[.int .i64 7, .int .i64 (n1 : Int), .int .i64 (n2 : Int), x0, x1, x2, x3, x4, x5, x6, x7, x8, x9, x10, x11, x12, x13, x14, x15, y0, y1, y2, y3, y4, y5, y6, y7, y8, y9, y10, y11, y12, y13, y14, y15] 99)) (.cells #[.int .i64 0, .int .i64 0, .int .u8 0, .int .u8 0, .int .u8 0, .int .u8 0, .int .u8 0, .int .u8 0, .int .u8 0, .int .u8 0, .int .u8 0, .int .u8 0, .int .u8 0, .int .u8 0, .int .u8 0, .int .u8 0, .int .u8 0, .int .u8 0] 104)
  rw [World.size_alloc] at HZ
  replace HZ := Lib.hid HZ
  go_enter Try.func60, Try.ntmps60
  go_wp2_with (first
      | (with_reducible refine wpList_load_row rfl 99 (.tmp 1) rfl w.heap.size (by simp [Act.eval]) 99 #[.int .i64 7, .int .i64 (n1 : Int), .int .i64 (n2 : Int), x0, x1, x2, x3, x4, x5, x6, x7, x8, x9, x10, x11, x12, x13, x14, x15, y0, y1, y2, y3, y4, y5, y6, y7, y8, y9, y10, y11, y12, y13, y14, y15] (0, 0) _ HF.out Try.underlying99 (by rfl) KF.out ?_)
      | (go_at_call 93; refine (endpoints_calls n1 n2 x0 x1 x2 x3 x4 x5 x6 x7 x8 x9 x10 x11 x12 x13 x14 x15 y0 y1 y2 y3 y4 y5 y6 y7 y8 y9 y10 y11 y12 y13 y14 y15 _ O1.out O2.out).mono ?_; rintro e w1 ⟨rfl, hg1⟩; have HG1 := Lib.hid hg1; clear hg1)
      | (with_reducible refine wpList_store_rowTo rfl 104 (.tmp 2) (.tmp 6) rfl rfl (w.heap.size + 1) #[.int .i64 7, .int .i64 (n1 : Int), x0, x1, x2, x3, x4, x5, x6, x7, x8, x9, x10, x11, x12, x13, x14, x15] (by simp [Act.eval]) (by simp [Act.eval]) 104 #[.int .i64 0, .int .i64 0, .int .u8 0, .int .u8 0, .int .u8 0, .int .u8 0, .int .u8 0, .int .u8 0, .int .u8 0, .int .u8 0, .int .u8 0, .int .u8 0, .int .u8 0, .int .u8 0, .int .u8 0, .int .u8 0, .int .u8 0, .int .u8 0] (heap_gr HG1.out HZ.out) K1.out Q1.out A1.out ?_))
  exact bodyPost_ret (v := .agg #[.int .i64 7, .int .i64 (n1 : Int), x0, x1, x2, x3, x4, x5, x6, x7, x8, x9, x10, x11, x12, x13, x14, x15]) (results_cell_row (P := Try.prog) Try.results60 _ _ (w.heap.size + 1) 104 _ (0, 0) _ rfl (setRow_heap _ _ _ _ _ _ (heap_gr HG1.out HZ.out)) Try.underlying104 rfl K1.out) rfl ⟨rfl, gr_setRow _ ((((Gr.refl w).alloc _).alloc _).trans HG1.out) (Nat.le_succ _)⟩

set_option maxRecDepth 100000 in
set_option maxHeartbeats 2000000 in
theorem dst_calls (n1 n2 : Nat) (x0 x1 x2 x3 x4 x5 x6 x7 x8 x9 x10 x11 x12 x13 x14 x15 y0 y1 y2 y3 y4 y5 y6 y7 y8 y9 y10 y11 y12 y13 y14 y15 : Value) (w : World) (o1 : Ones [x0, x1, x2, x3, x4, x5, x6, x7, x8, x9, x10, x11, x12, x13, x14, x15]) (o2 : Ones [y0, y1, y2, y3, y4, y5, y6, y7, y8, y9, y10, y11, y12, y13, y14, y15]) :
    Calls Try.prog 62 #[.agg #[.int .i64 7, .int .i64 (n1 : Int), .int .i64 (n2 : Int), x0, x1, x2, x3, x4, x5, x6, x7, x8, x9, x10, x11, x12, x13, x14, x15, y0, y1, y2, y3, y4, y5, y6, y7, y8, y9, y10, y11, y12, y13, y14, y15]] w fun e w' => e = .returned (.agg #[.int .i64 7, .int .i64 (n2 : Int), y0, y1, y2, y3, y4, y5, y6, y7, y8, y9, y10, y11, y12, y13, y14, y15]) ∧ Gr w w' := by
  have kF : (Try.prog.info? 99).map (·.size) = some (#[.int .i64 7, .int .i64 (n1 : Int), .int .i64 (n2 : Int), x0, x1, x2, x3, x4, x5, x6, x7, x8, x9, x10, x11, x12, x13, x14, x15, y0, y1, y2, y3, y4, y5, y6, y7, y8, y9, y10, y11, y12, y13, y14, y15] : Array Value).size := by kernel_rfl
  have k1 : (Try.prog.info? 104).map (·.size) = some (#[.int .i64 7, .int .i64 (n2 : Int), y0, y1, y2, y3, y4, y5, y6, y7, y8, y9, y10, y11, y12, y13, y14, y15] : Array Value).size := by kernel_rfl
  have q1 : (#[.int .i64 0, .int .i64 0, .int .u8 0, .int .u8 0, .int .u8 0, .int .u8 0, .int .u8 0, .int .u8 0, .int .u8 0, .int .u8 0, .int .u8 0, .int .u8 0, .int .u8 0, .int .u8 0, .int .u8 0, .int .u8 0, .int .u8 0, .int .u8 0] : Array Value).size = (#[.int .i64 7, .int .i64 (n2 : Int), y0, y1, y2, y3, y4, y5, y6, y7, y8, y9, y10, y11, y12, y13, y14, y15] : Array Value).size := by kernel_rfl
  have a1 : (#[.int .i64 7, .int .i64 (n2 : Int), y0, y1, y2, y3, y4, y5, y6, y7, y8, y9, y10, y11, y12, y13, y14, y15] : Array Value).all (·.oneCell') = true := by
    have t := all_ones (a := 7) (b := n2) (c := none) (l := [y0, y1, y2, y3, y4, y5, y6, y7, y8, y9, y10, y11, y12, y13, y14, y15]) (m := []) o2 (fun _ h => nomatch h)
    simpa using t
  have KF := Lib.hid kF; have K1 := Lib.hid k1; have Q1 := Lib.hid q1; have A1 := Lib.hid a1; have O1 := Lib.hid o1; have O2 := Lib.hid o2
  clear kF k1 q1 a1 o1 o2
  have HF := Lib.hid (heap_gr ((Gr.refl _).alloc (.cells #[.int .i64 0, .int .i64 0, .int .u8 0, .int .u8 0, .int .u8 0, .int .u8 0, .int .u8 0, .int .u8 0, .int .u8 0, .int .u8 0, .int .u8 0, .int .u8 0, .int .u8 0, .int .u8 0, .int .u8 0, .int .u8 0, .int .u8 0, .int .u8 0] 104)) (heap_alloc_new w (.cells #[.int .i64 7, .int .i64 (n1 : Int), .int .i64 (n2 : Int), x0, x1, x2, x3, x4, x5, x6, x7, x8, x9, x10, x11, x12, x13, x14, x15, y0, y1, y2, y3, y4, y5, y6, y7, y8, y9, y10, y11, y12, y13, y14, y15] 99)))
  have HZ := heap_alloc_new (w.alloc (.cells #[.int .i64 7, .int .i64 (n1 : Int), .int .i64 (n2 : Int), x0, x1, x2, x3, x4, x5, x6, x7, x8, x9, x10, x11, x12, x13, x14, x15, y0, y1, y2, y3, y4, y5, y6, y7, y8, y9, y10, y11, y12, y13, y14, y15] 99)) (.cells #[.int .i64 0, .int .i64 0, .int .u8 0, .int .u8 0, .int .u8 0, .int .u8 0, .int .u8 0, .int .u8 0, .int .u8 0, .int .u8 0, .int .u8 0, .int .u8 0, .int .u8 0, .int .u8 0, .int .u8 0, .int .u8 0, .int .u8 0, .int .u8 0] 104)
  rw [World.size_alloc] at HZ
  replace HZ := Lib.hid HZ
  go_enter Try.func62, Try.ntmps62
  go_wp2_with (first
      | (with_reducible refine wpList_load_row rfl 99 (.tmp 1) rfl w.heap.size (by simp [Act.eval]) 99 #[.int .i64 7, .int .i64 (n1 : Int), .int .i64 (n2 : Int), x0, x1, x2, x3, x4, x5, x6, x7, x8, x9, x10, x11, x12, x13, x14, x15, y0, y1, y2, y3, y4, y5, y6, y7, y8, y9, y10, y11, y12, y13, y14, y15] (0, 0) _ HF.out Try.underlying99 (by rfl) KF.out ?_)
      | (go_at_call 93; refine (endpoints_calls n1 n2 x0 x1 x2 x3 x4 x5 x6 x7 x8 x9 x10 x11 x12 x13 x14 x15 y0 y1 y2 y3 y4 y5 y6 y7 y8 y9 y10 y11 y12 y13 y14 y15 _ O1.out O2.out).mono ?_; rintro e w1 ⟨rfl, hg1⟩; have HG1 := Lib.hid hg1; clear hg1)
      | (with_reducible refine wpList_store_rowTo rfl 104 (.tmp 2) (.tmp 7) rfl rfl (w.heap.size + 1) #[.int .i64 7, .int .i64 (n2 : Int), y0, y1, y2, y3, y4, y5, y6, y7, y8, y9, y10, y11, y12, y13, y14, y15] (by simp [Act.eval]) (by simp [Act.eval]) 104 #[.int .i64 0, .int .i64 0, .int .u8 0, .int .u8 0, .int .u8 0, .int .u8 0, .int .u8 0, .int .u8 0, .int .u8 0, .int .u8 0, .int .u8 0, .int .u8 0, .int .u8 0, .int .u8 0, .int .u8 0, .int .u8 0, .int .u8 0, .int .u8 0] (heap_gr HG1.out HZ.out) K1.out Q1.out A1.out ?_))
  exact bodyPost_ret (v := .agg #[.int .i64 7, .int .i64 (n2 : Int), y0, y1, y2, y3, y4, y5, y6, y7, y8, y9, y10, y11, y12, y13, y14, y15]) (results_cell_row (P := Try.prog) Try.results62 _ _ (w.heap.size + 1) 104 _ (0, 0) _ rfl (setRow_heap _ _ _ _ _ _ (heap_gr HG1.out HZ.out)) Try.underlying104 rfl K1.out) rfl ⟨rfl, gr_setRow _ ((((Gr.refl w).alloc _).alloc _).trans HG1.out) (Nat.le_succ _)⟩
end Go.Proofs.Ytbojideclbjlgaa
