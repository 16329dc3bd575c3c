/-
  What a flow tells.
-/
import Derived.Test.YtbojideclbjlgaaFlow4
namespace Go.Proofs.Ytbojideclbjlgaa
open Go.RowKit

theorem rowW_heapO {w : World} {R D : Nat} {cs cs' : List Value} {e : TypeId} {x : Option Obj} (hne : D ≠ R) (h : (rowW w R cs e).heap[D]? = x) : (rowW w R cs' e).heap[D]? = x := by
  rw [rowW_other hne] at h ⊢; exact h

theorem step_op {P : Program} {ops : Array Oper} {o : Oper} {a : Act} {w : World} {K : Act → World → Prop} {Q : Exit → Act → World → Prop} {E : Prop} (hgd : o.guard = none) (h : Oper.wp P o a w K Q) :
    if Region.wanted o (yielded ops a.tmps) = true then Oper.wp P o a w K Q else E := by
  rw [if_pos (by simp [Region.wanted, hgd])]
  exact h

/-- a whole row stored into a block of the call's own: the world behind it is a letter -/
theorem wpList_store_gen {P : Program} {ops : Array Oper} {rest : List Oper} {o : Oper} {a : Act} {w : World} {Q : Exit → Act → World → Prop} (hgd : o.guard = none) (ty : TypeId) (x y : Operand) (ho : o.op = .store ty x y)
    (hd : o.dst = none) (g : Nat) (cells : Array Value) (hx : a.eval x = .pointer (some ⟨g, 0, none⟩)) (hy : a.eval y = .agg cells)
    (t : TypeId) (old : Array Value) (hg : w.heap[g]? = some (.cells old t (0, 0))) (hi : (P.info? ty).map (·.size) = some cells.size)
    (hold : old.size = cells.size) (h1 : cells.all (·.oneCell') = true) (wb : World) (hb : Gr wb w) (hge : wb.heap.size ≤ g)
    (h : ∀ w', Hid (w'.heap[g]? = some (.cells cells t (0, 0))) → Hid (Gr wb w') → wpList P ops Q rest a w') : wpList P ops Q (o :: rest) a w :=
  wpList_store_rowTo hgd ty x y ho hd g cells hx hy t old hg hi hold h1 (h _ (setRow_heap _ _ _ _ _ _ hg) (gr_setRow _ hb hge))

/-- what it tells, as a region's walk leaves it -/
def FlowPost (w : World) (l1 l2 : List Int) (e : Ending) (w' : World) : Prop :=
  ∃ (a0 : Option Addr) (n0 c0 : Nat) (a1 : Option Addr) (n1 c1 : Nat) (a2 : Option Addr) (n2 c2 : Nat) (a3 : Option Addr) (n3 c3 : Nat) (h : Int), e = .returned (.agg #[.slice a0 n0 c0, .slice a1 n1 c1, .slice a2 n2 c2, .slice a3 n3 c3, .int .u64 h, .int .u64 h]) ∧
    IsB w' (.slice a0 n0 c0) l1 ∧ IsB w' (.slice a1 n1 c1) l2 ∧ IsB w' (.slice a2 n2 c2) l2 ∧ IsB w' (.slice a3 n3 c3) l1 ∧ Gr w w'

set_option linter.unusedSimpArgs false in
set_option linter.unusedVariables false in
set_option maxRecDepth 100000 in
set_option maxHeartbeats 8000000 in
theorem flowOf_calls (a1 : Option Addr) (k1 c1 : Nat) (a2 : Option Addr) (k2 c2 : Nat) (l1 l2 : List Int) (w : World) (h1 : IsB w (.slice a1 k1 c1) l1) (h2 : IsB w (.slice a2 k2 c2) l2) (hl1 : l1.length ≤ 15) (hl2 : l2.length ≤ 15) :
    Calls Try.prog 15 #[.slice a1 k1 c1, .slice a2 k2 c2] w (FlowPost w l1 l2) := by
  have H1 := Lib.hid h1; have H2 := Lib.hid h2; have B1 := Lib.hid h1.bytes; have B2 := Lib.hid h2.bytes
  have hR := HasRow.new w [.slice none 0 0, .slice none 0 0, .slice none 0 0, .slice none 0 0, .int .u64 0, .int .u64 0] 25 6 rfl
  have HR0 := Lib.hid hR
  clear h1 h2 hR
  go_enter Try.func15, Try.ntmps15
  go_wp2_with (first
      | (go_at_call_of 58 (Value.slice a1 k1 c1); refine (copied_calls _ l1 _ (H1.out.gr ((Gr.refl w).alloc _)) (by omega)).mono ?_; rintro e w1 ⟨b1, n1, d1, rfl, hoA, hgA⟩; have hbA := hoA.isB)
      | (go_at_call_of 58 (Value.slice a2 k2 c2); refine (copied_calls _ l2 _ (H2.out.gr (((Gr.refl w).alloc _).trans hgA)) (by omega)).mono ?_; rintro e w2 ⟨b2, n2, d2, rfl, hoB, hgB⟩; have hbB := hoB.isB)
      | (go_at_call 57; refine (newFlow_calls b1 n1 d1 b2 n2 d2 l1 l2 _ (hbA.gr hgB) hbB hl1 hl2).mono ?_; rintro e w3 ⟨x0, x1, x2, x3, x4, x5, x6, x7, x8, x9, x10, x11, x12, x13, x14, x15, y0, y1, y2, y3, y4, y5, y6, y7, y8, y9, y10, y11, y12, y13, y14, y15, rfl, hx, hy, hg3⟩; have O1 := Lib.hid (show Ones [x0, x1, x2, x3, x4, x5, x6, x7, x8, x9, x10, x11, x12, x13, x14, x15] from fun v hv => bytesOne v (by rw [hx] at hv; exact hv)); have O2 := Lib.hid (show Ones [y0, y1, y2, y3, y4, y5, y6, y7, y8, y9, y10, y11, y12, y13, y14, y15] from fun v hv => bytesOne v (by rw [hy] at hv; exact hv)); have HX := Lib.hid hx; have HY := Lib.hid hy; have HN1 := Lib.hid hbA.count; have HN2 := Lib.hid hbB.count; clear hx hy; have HGW := Lib.hid (show Gr w w3 from (by (repeat (with_reducible first | exact Gr.refl _ | assumption | refine Gr.alloc ?_ _ | refine Gr.drew ?_ | refine Gr.drewN ?_ _ | refine Gr.trans ?_ (by assumption))); done)); have HR := Lib.hid (HasRow.gr (show Gr (w.alloc (.cells ([.slice none 0 0, .slice none 0 0, .slice none 0 0, .slice none 0 0, .int .u64 0, .int .u64 0] : List Value).toArray 25)) w3 from (by (repeat (with_reducible first | exact Gr.refl _ | assumption | refine Gr.alloc ?_ _ | refine Gr.drew ?_ | refine Gr.drewN ?_ _ | refine Gr.trans ?_ (by assumption))); done)) HR0.out); clear hgA hgB hg3 hoA hoB hbA hbB; have hZ1 := Lib.hid (heap_alloc_new w3 (.cells #[.int .i64 0, .int .i64 0, .int .i64 0, .int .u8 0, .int .u8 0, .int .u8 0, .int .u8 0, .int .u8 0, .int .u8 0, .int .u8 0, .int .u8 0, .int .u8 0, .int .u8 0, .int .u8 0, .int .u8 0, .int .u8 0, .int .u8 0, .int .u8 0, .int .u8 0, .int .u8 0, .int .u8 0, .int .u8 0, .int .u8 0, .int .u8 0, .int .u8 0, .int .u8 0, .int .u8 0, .int .u8 0, .int .u8 0, .int .u8 0, .int .u8 0, .int .u8 0, .int .u8 0, .int .u8 0, .int .u8 0] 99)); have KF := Lib.hid (show (Try.prog.info? 99).map (·.size) = some (#[.int .i64 7, .int .i64 (n1 : Int), .int .i64 (n2 : Int), x0, x1, x2, x3, x4, x5, x6, x7, x8, x9, x10, x11, x12, x13, x14, x15, y0, y1, y2, y3, y4, y5, y6, y7, y8, y9, y10, y11, y12, y13, y14, y15] : Array Value).size by kernel_rfl); have KO := Lib.hid (show (#[.int .i64 0, .int .i64 0, .int .i64 0, .int .u8 0, .int .u8 0, .int .u8 0, .int .u8 0, .int .u8 0, .int .u8 0, .int .u8 0, .int .u8 0, .int .u8 0, .int .u8 0, .int .u8 0, .int .u8 0, .int .u8 0, .int .u8 0, .int .u8 0, .int .u8 0, .int .u8 0, .int .u8 0, .int .u8 0, .int .u8 0, .int .u8 0, .int .u8 0, .int .u8 0, .int .u8 0, .int .u8 0, .int .u8 0, .int .u8 0, .int .u8 0, .int .u8 0, .int .u8 0, .int .u8 0, .int .u8 0] : Array Value).size = (#[.int .i64 7, .int .i64 (n1 : Int), .int .i64 (n2 : Int), x0, x1, x2, x3, x4, x5, x6, x7, x8, x9, x10, x11, x12, x13, x14, x15, y0, y1, y2, y3, y4, y5, y6, y7, y8, y9, y10, y11, y12, y13, y14, y15] : Array Value).size by kernel_rfl); have A1 := Lib.hid (show (#[.int .i64 7, .int .i64 (n1 : Int), .int .i64 (n2 : Int), x0, x1, x2, x3, x4, x5, x6, x7, x8, x9, x10, x11, x12, x13, x14, x15, y0, y1, y2, y3, y4, y5, y6, y7, y8, y9, y10, y11, y12, y13, y14, y15] : Array Value).all (·.oneCell') = true from all_ones (c := some (n2 : Int)) O1.out O2.out))
      | (with_reducible refine wpList_store_gen rfl 99 (.tmp 5) (.tmp 11) rfl rfl w3.heap.size #[.int .i64 7, .int .i64 (n1 : Int), .int .i64 (n2 : Int), x0, x1, x2, x3, x4, x5, x6, x7, x8, x9, x10, x11, x12, x13, x14, x15, y0, y1, y2, y3, y4, y5, y6, y7, y8, y9, y10, y11, y12, y13, y14, y15] (by simp [Act.eval]) (by simp [Act.eval]) 99 #[.int .i64 0, .int .i64 0, .int .i64 0, .int .u8 0, .int .u8 0, .int .u8 0, .int .u8 0, .int .u8 0, .int .u8 0, .int .u8 0, .int .u8 0, .int .u8 0, .int .u8 0, .int .u8 0, .int .u8 0, .int .u8 0, .int .u8 0, .int .u8 0, .int .u8 0, .int .u8 0, .int .u8 0, .int .u8 0, .int .u8 0, .int .u8 0, .int .u8 0, .int .u8 0, .int .u8 0, .int .u8 0, .int .u8 0, .int .u8 0, .int .u8 0, .int .u8 0, .int .u8 0, .int .u8 0, .int .u8 0] hZ1.out KF.out KO.out A1.out w3 ((Gr.refl w3).alloc _) (Nat.le_refl _) ?_; intro w4 HF1 HG4)
      | (with_reducible refine wpList_load_row rfl 99 (.tmp 5) rfl w3.heap.size (by simp [Act.eval]) 99 #[.int .i64 7, .int .i64 (n1 : Int), .int .i64 (n2 : Int), x0, x1, x2, x3, x4, x5, x6, x7, x8, x9, x10, x11, x12, x13, x14, x15, y0, y1, y2, y3, y4, y5, y6, y7, y8, y9, y10, y11, y12, y13, y14, y15] (0, 0) _ HF1.out Try.underlying99 (by rfl) KF.out ?_)
      | (go_at_call 59; refine (reverse_calls n1 n2 x0 x1 x2 x3 x4 x5 x6 x7 x8 x9 x10 x11 x12 x13 x14 x15 y0 y1 y2 y3 y4 y5 y6 y7 y8 y9 y10 y11 y12 y13 y14 y15 _ O1.out O2.out).mono ?_; rintro e w5 ⟨rfl, hg5⟩; have HG5 := Lib.hid hg5; clear hg5; have hZ2 := Lib.hid (heap_alloc_new w5 (.cells #[.int .i64 0, .int .i64 0, .int .i64 0, .int .u8 0, .int .u8 0, .int .u8 0, .int .u8 0, .int .u8 0, .int .u8 0, .int .u8 0, .int .u8 0, .int .u8 0, .int .u8 0, .int .u8 0, .int .u8 0, .int .u8 0, .int .u8 0, .int .u8 0, .int .u8 0, .int .u8 0, .int .u8 0, .int .u8 0, .int .u8 0, .int .u8 0, .int .u8 0, .int .u8 0, .int .u8 0, .int .u8 0, .int .u8 0, .int .u8 0, .int .u8 0, .int .u8 0, .int .u8 0, .int .u8 0, .int .u8 0] 99)); have KF2 := Lib.hid (show (Try.prog.info? 99).map (·.size) = some (#[.int .i64 7, .int .i64 (n2 : Int), .int .i64 (n1 : Int), y0, y1, y2, y3, y4, y5, y6, y7, y8, y9, y10, y11, y12, y13, y14, y15, x0, x1, x2, x3, x4, x5, x6, x7, x8, x9, x10, x11, x12, x13, x14, x15] : Array Value).size by kernel_rfl); have KO2 := Lib.hid (show (#[.int .i64 0, .int .i64 0, .int .i64 0, .int .u8 0, .int .u8 0, .int .u8 0, .int .u8 0, .int .u8 0, .int .u8 0, .int .u8 0, .int .u8 0, .int .u8 0, .int .u8 0, .int .u8 0, .int .u8 0, .int .u8 0, .int .u8 0, .int .u8 0, .int .u8 0, .int .u8 0, .int .u8 0, .int .u8 0, .int .u8 0, .int .u8 0, .int .u8 0, .int .u8 0, .int .u8 0, .int .u8 0, .int .u8 0, .int .u8 0, .int .u8 0, .int .u8 0, .int .u8 0, .int .u8 0, .int .u8 0] : Array Value).size = (#[.int .i64 7, .int .i64 (n2 : Int), .int .i64 (n1 : Int), y0, y1, y2, y3, y4, y5, y6, y7, y8, y9, y10, y11, y12, y13, y14, y15, x0, x1, x2, x3, x4, x5, x6, x7, x8, x9, x10, x11, x12, x13, x14, x15] : Array Value).size by kernel_rfl); have A2 := Lib.hid (show (#[.int .i64 7, .int .i64 (n2 : Int), .int .i64 (n1 : Int), y0, y1, y2, y3, y4, y5, y6, y7, y8, y9, y10, y11, y12, y13, y14, y15, x0, x1, x2, x3, x4, x5, x6, x7, x8, x9, x10, x11, x12, x13, x14, x15] : Array Value).all (·.oneCell') = true from all_ones (c := some (n1 : Int)) O2.out O1.out))
      | (with_reducible refine wpList_store_gen rfl 99 (.tmp 6) (.tmp 13) rfl rfl w5.heap.size #[.int .i64 7, .int .i64 (n2 : Int), .int .i64 (n1 : Int), y0, y1, y2, y3, y4, y5, y6, y7, y8, y9, y10, y11, y12, y13, y14, y15, x0, x1, x2, x3, x4, x5, x6, x7, x8, x9, x10, x11, x12, x13, x14, x15] (by simp [Act.eval]) (by simp [Act.eval]) 99 #[.int .i64 0, .int .i64 0, .int .i64 0, .int .u8 0, .int .u8 0, .int .u8 0, .int .u8 0, .int .u8 0, .int .u8 0, .int .u8 0, .int .u8 0, .int .u8 0, .int .u8 0, .int .u8 0, .int .u8 0, .int .u8 0, .int .u8 0, .int .u8 0, .int .u8 0, .int .u8 0, .int .u8 0, .int .u8 0, .int .u8 0, .int .u8 0, .int .u8 0, .int .u8 0, .int .u8 0, .int .u8 0, .int .u8 0, .int .u8 0, .int .u8 0, .int .u8 0, .int .u8 0, .int .u8 0, .int .u8 0] hZ2.out KF2.out KO2.out A2.out w5 ((Gr.refl w5).alloc _) (Nat.le_refl _) ?_; intro w6 HF2 HG6))
  have hR6 := HasRow.gr ((HG4.out.trans HG5.out).trans HG6.out) HR.out
  have hG6 : Gr w w6 := HGW.out.trans ((HG4.out.trans HG5.out).trans HG6.out)
  have hF1 := heap_gr HG6.out (heap_gr HG5.out HF1.out)
  have z3 : w.heap.size < w3.heap.size := by
    obtain ⟨cs, -, hh⟩ := HR.out
    exact (Array.getElem?_eq_some_iff.1 hh).1
  have z5 : w3.heap.size < w5.heap.size := by
    have := (Array.getElem?_eq_some_iff.1 HF1.out).1
    have := HG5.out.size
    omega
  have hn1 : w3.heap.size ≠ w.heap.size := by omega
  have Z6 := Lib.hid (show w.heap.size < w6.heap.size by have := ((HG4.out.trans HG5.out).trans HG6.out).size; omega)
  have hn2 : w5.heap.size ≠ w.heap.size := by omega
  have d1 : (((#[.int .i64 7, .int .i64 (n1 : Int), .int .i64 (n2 : Int), x0, x1, x2, x3, x4, x5, x6, x7, x8, x9, x10, x11, x12, x13, x14, x15, y0, y1, y2, y3, y4, y5, y6, y7, y8, y9, y10, y11, y12, y13, y14, y15] : Array Value).toList).drop 0).take ((#[.int .i64 7, .int .i64 (n1 : Int), .int .i64 (n2 : Int), x0, x1, x2, x3, x4, x5, x6, x7, x8, x9, x10, x11, x12, x13, x14, x15, y0, y1, y2, y3, y4, y5, y6, y7, y8, y9, y10, y11, y12, y13, y14, y15] : Array Value).toList).length = (#[.int .i64 7, .int .i64 (n1 : Int), .int .i64 (n2 : Int), x0, x1, x2, x3, x4, x5, x6, x7, x8, x9, x10, x11, x12, x13, x14, x15, y0, y1, y2, y3, y4, y5, y6, y7, y8, y9, y10, y11, y12, y13, y14, y15] : Array Value).toList := by kernel_rfl
  have d2 : (((#[.int .i64 7, .int .i64 (n2 : Int), .int .i64 (n1 : Int), y0, y1, y2, y3, y4, y5, y6, y7, y8, y9, y10, y11, y12, y13, y14, y15, x0, x1, x2, x3, x4, x5, x6, x7, x8, x9, x10, x11, x12, x13, x14, x15] : Array Value).toList).drop 0).take ((#[.int .i64 7, .int .i64 (n2 : Int), .int .i64 (n1 : Int), y0, y1, y2, y3, y4, y5, y6, y7, y8, y9, y10, y11, y12, y13, y14, y15, x0, x1, x2, x3, x4, x5, x6, x7, x8, x9, x10, x11, x12, x13, x14, x15] : Array Value).toList).length = (#[.int .i64 7, .int .i64 (n2 : Int), .int .i64 (n1 : Int), y0, y1, y2, y3, y4, y5, y6, y7, y8, y9, y10, y11, y12, y13, y14, y15, x0, x1, x2, x3, x4, x5, x6, x7, x8, x9, x10, x11, x12, x13, x14, x15] : Array Value).toList := by kernel_rfl
  have j1 : (Try.prog.info? 99).map (·.size) = some ((#[.int .i64 7, .int .i64 (n1 : Int), .int .i64 (n2 : Int), x0, x1, x2, x3, x4, x5, x6, x7, x8, x9, x10, x11, x12, x13, x14, x15, y0, y1, y2, y3, y4, y5, y6, y7, y8, y9, y10, y11, y12, y13, y14, y15] : Array Value).toList).length := by kernel_rfl
  have j2 : (Try.prog.info? 99).map (·.size) = some ((#[.int .i64 7, .int .i64 (n2 : Int), .int .i64 (n1 : Int), y0, y1, y2, y3, y4, y5, y6, y7, y8, y9, y10, y11, y12, y13, y14, y15, x0, x1, x2, x3, x4, x5, x6, x7, x8, x9, x10, x11, x12, x13, x14, x15] : Array Value).toList).length := by kernel_rfl
  have HF1' := Lib.hid hF1
  have HR6 := Lib.hid hR6
  have HG6' := Lib.hid hG6
  have D1 := Lib.hid d1; have D2 := Lib.hid d2; have J1 := Lib.hid j1; have J2 := Lib.hid j2
  clear hF1 hR6 hG6 d1 d2 j1 j2 z3 z5
  refine wp_region_held_drew (S := fun w' => w'.heap[w3.heap.size]? = some (.cells #[.int .i64 7, .int .i64 (n1 : Int), .int .i64 (n2 : Int), x0, x1, x2, x3, x4, x5, x6, x7, x8, x9, x10, x11, x12, x13, x14, x15, y0, y1, y2, y3, y4, y5, y6, y7, y8, y9, y10, y11, y12, y13, y14, y15] 99 (0, 0)) ∧ w'.heap[w5.heap.size]? = some (.cells #[.int .i64 7, .int .i64 (n2 : Int), .int .i64 (n1 : Int), y0, y1, y2, y3, y4, y5, y6, y7, y8, y9, y10, y11, y12, y13, y14, y15, x0, x1, x2, x3, x4, x5, x6, x7, x8, x9, x10, x11, x12, x13, x14, x15] 99 (0, 0))) (by kernel_rfl) (And.intro HF1'.out HF2.out) (fun hHeld => ?_)
  refine wpAnyH_take (i := 0) (v := .agg #[.int .i64 7, .int .i64 (n1 : Int), .int .i64 (n2 : Int), x0, x1, x2, x3, x4, x5, x6, x7, x8, x9, x10, x11, x12, x13, x14, x15, y0, y1, y2, y3, y4, y5, y6, y7, y8, y9, y10, y11, y12, y13, y14, y15]) rfl (by kernel_rfl) (by kernel_rfl) (by kernel_rfl) (fun _ _ _ h => h) ?_ (by assumption) ?_
  · refine yieldsIf_load_mid (by rfl) _ _ rfl w3.heap.size 0 ?_ ((#[.int .i64 7, .int .i64 (n1 : Int), .int .i64 (n2 : Int), x0, x1, x2, x3, x4, x5, x6, x7, x8, x9, x10, x11, x12, x13, x14, x15, y0, y1, y2, y3, y4, y5, y6, y7, y8, y9, y10, y11, y12, y13, y14, y15] : Array Value).toList) _ (fun w' h => range_block (C := (#[.int .i64 7, .int .i64 (n1 : Int), .int .i64 (n2 : Int), x0, x1, x2, x3, x4, x5, x6, x7, x8, x9, x10, x11, x12, x13, x14, x15, y0, y1, y2, y3, y4, y5, y6, y7, y8, y9, y10, y11, y12, y13, y14, y15] : Array Value).toList) h.1 0 D1.out) Try.underlying99 (by rfl) J1.out
    simp [Act.eval]
  simp only [Act.put, List.getElem_toArray, List.getElem_cons_succ, List.getElem_cons_zero, List.setIfInBounds_toArray, List.set_cons_zero, List.set_cons_succ]
  refine wpAnyH_take (i := 4) (v := .agg #[.int .i64 7, .int .i64 (n1 : Int), .int .i64 (n2 : Int), x0, x1, x2, x3, x4, x5, x6, x7, x8, x9, x10, x11, x12, x13, x14, x15, y0, y1, y2, y3, y4, y5, y6, y7, y8, y9, y10, y11, y12, y13, y14, y15]) rfl (by kernel_rfl) (by kernel_rfl) (by kernel_rfl) (fun _ _ _ h => h) ?_ (by assumption) ?_
  · refine yieldsIf_load_mid (by rfl) _ _ rfl w3.heap.size 0 ?_ ((#[.int .i64 7, .int .i64 (n1 : Int), .int .i64 (n2 : Int), x0, x1, x2, x3, x4, x5, x6, x7, x8, x9, x10, x11, x12, x13, x14, x15, y0, y1, y2, y3, y4, y5, y6, y7, y8, y9, y10, y11, y12, y13, y14, y15] : Array Value).toList) _ (fun w' h => range_block (C := (#[.int .i64 7, .int .i64 (n1 : Int), .int .i64 (n2 : Int), x0, x1, x2, x3, x4, x5, x6, x7, x8, x9, x10, x11, x12, x13, x14, x15, y0, y1, y2, y3, y4, y5, y6, y7, y8, y9, y10, y11, y12, y13, y14, y15] : Array Value).toList) h.1 0 D1.out) Try.underlying99 (by rfl) J1.out
    simp [Act.eval]
  simp only [Act.put, List.getElem_toArray, List.getElem_cons_succ, List.getElem_cons_zero, List.setIfInBounds_toArray, List.set_cons_zero, List.set_cons_succ]
  refine wpAnyH_take (i := 8) (v := .agg #[.int .i64 7, .int .i64 (n2 : Int), .int .i64 (n1 : Int), y0, y1, y2, y3, y4, y5, y6, y7, y8, y9, y10, y11, y12, y13, y14, y15, x0, x1, x2, x3, x4, x5, x6, x7, x8, x9, x10, x11, x12, x13, x14, x15]) rfl (by kernel_rfl) (by kernel_rfl) (by kernel_rfl) (fun _ _ _ h => h) ?_ (by assumption) ?_
  · refine yieldsIf_load_mid (by rfl) _ _ rfl w5.heap.size 0 ?_ ((#[.int .i64 7, .int .i64 (n2 : Int), .int .i64 (n1 : Int), y0, y1, y2, y3, y4, y5, y6, y7, y8, y9, y10, y11, y12, y13, y14, y15, x0, x1, x2, x3, x4, x5, x6, x7, x8, x9, x10, x11, x12, x13, x14, x15] : Array Value).toList) _ (fun w' h => range_block (C := (#[.int .i64 7, .int .i64 (n2 : Int), .int .i64 (n1 : Int), y0, y1, y2, y3, y4, y5, y6, y7, y8, y9, y10, y11, y12, y13, y14, y15, x0, x1, x2, x3, x4, x5, x6, x7, x8, x9, x10, x11, x12, x13, x14, x15] : Array Value).toList) h.2 0 D2.out) Try.underlying99 (by rfl) J2.out
    simp [Act.eval]
  simp only [Act.put, List.getElem_toArray, List.getElem_cons_succ, List.getElem_cons_zero, List.setIfInBounds_toArray, List.set_cons_zero, List.set_cons_succ]
  refine wpAnyH_take (i := 12) (v := .agg #[.int .i64 7, .int .i64 (n2 : Int), .int .i64 (n1 : Int), y0, y1, y2, y3, y4, y5, y6, y7, y8, y9, y10, y11, y12, y13, y14, y15, x0, x1, x2, x3, x4, x5, x6, x7, x8, x9, x10, x11, x12, x13, x14, x15]) rfl (by kernel_rfl) (by kernel_rfl) (by kernel_rfl) (fun _ _ _ h => h) ?_ (by assumption) ?_
  · refine yieldsIf_load_mid (by rfl) _ _ rfl w5.heap.size 0 ?_ ((#[.int .i64 7, .int .i64 (n2 : Int), .int .i64 (n1 : Int), y0, y1, y2, y3, y4, y5, y6, y7, y8, y9, y10, y11, y12, y13, y14, y15, x0, x1, x2, x3, x4, x5, x6, x7, x8, x9, x10, x11, x12, x13, x14, x15] : Array Value).toList) _ (fun w' h => range_block (C := (#[.int .i64 7, .int .i64 (n2 : Int), .int .i64 (n1 : Int), y0, y1, y2, y3, y4, y5, y6, y7, y8, y9, y10, y11, y12, y13, y14, y15, x0, x1, x2, x3, x4, x5, x6, x7, x8, x9, x10, x11, x12, x13, x14, x15] : Array Value).toList) h.2 0 D2.out) Try.underlying99 (by rfl) J2.out
    simp [Act.eval]
  simp only [Act.put, List.getElem_toArray, List.getElem_cons_succ, List.getElem_cons_zero, List.setIfInBounds_toArray, List.set_cons_zero, List.set_cons_succ]
  refine wpAnyH_take (i := 16) (v := .agg #[.int .i64 7, .int .i64 (n1 : Int), .int .i64 (n2 : Int), x0, x1, x2, x3, x4, x5, x6, x7, x8, x9, x10, x11, x12, x13, x14, x15, y0, y1, y2, y3, y4, y5, y6, y7, y8, y9, y10, y11, y12, y13, y14, y15]) rfl (by kernel_rfl) (by kernel_rfl) (by kernel_rfl) (fun _ _ _ h => h) ?_ (by assumption) ?_
  · refine yieldsIf_load_mid (by rfl) _ _ rfl w3.heap.size 0 ?_ ((#[.int .i64 7, .int .i64 (n1 : Int), .int .i64 (n2 : Int), x0, x1, x2, x3, x4, x5, x6, x7, x8, x9, x10, x11, x12, x13, x14, x15, y0, y1, y2, y3, y4, y5, y6, y7, y8, y9, y10, y11, y12, y13, y14, y15] : Array Value).toList) _ (fun w' h => range_block (C := (#[.int .i64 7, .int .i64 (n1 : Int), .int .i64 (n2 : Int), x0, x1, x2, x3, x4, x5, x6, x7, x8, x9, x10, x11, x12, x13, x14, x15, y0, y1, y2, y3, y4, y5, y6, y7, y8, y9, y10, y11, y12, y13, y14, y15] : Array Value).toList) h.1 0 D1.out) Try.underlying99 (by rfl) J1.out
    simp [Act.eval]
  simp only [Act.put, List.getElem_toArray, List.getElem_cons_succ, List.getElem_cons_zero, List.setIfInBounds_toArray, List.set_cons_zero, List.set_cons_succ]
  refine wpAnyH_take (i := 18) (v := .agg #[.int .i64 7, .int .i64 (n2 : Int), .int .i64 (n1 : Int), y0, y1, y2, y3, y4, y5, y6, y7, y8, y9, y10, y11, y12, y13, y14, y15, x0, x1, x2, x3, x4, x5, x6, x7, x8, x9, x10, x11, x12, x13, x14, x15]) rfl (by kernel_rfl) (by kernel_rfl) (by kernel_rfl) (fun _ _ _ h => h) ?_ (by assumption) ?_
  · refine yieldsIf_load_mid (by rfl) _ _ rfl w5.heap.size 0 ?_ ((#[.int .i64 7, .int .i64 (n2 : Int), .int .i64 (n1 : Int), y0, y1, y2, y3, y4, y5, y6, y7, y8, y9, y10, y11, y12, y13, y14, y15, x0, x1, x2, x3, x4, x5, x6, x7, x8, x9, x10, x11, x12, x13, x14, x15] : Array Value).toList) _ (fun w' h => range_block (C := (#[.int .i64 7, .int .i64 (n2 : Int), .int .i64 (n1 : Int), y0, y1, y2, y3, y4, y5, y6, y7, y8, y9, y10, y11, y12, y13, y14, y15, x0, x1, x2, x3, x4, x5, x6, x7, x8, x9, x10, x11, x12, x13, x14, x15] : Array Value).toList) h.2 0 D2.out) Try.underlying99 (by rfl) J2.out
    simp [Act.eval]
  simp only [Act.put, List.getElem_toArray, List.getElem_cons_succ, List.getElem_cons_zero, List.setIfInBounds_toArray, List.set_cons_zero, List.set_cons_succ]
  refine wpAnyH_ready (rs := [1]) (by kernel_rfl) (by simp) ?_
  refine AllReadyH.cons rfl (fun K hK => step_op (by rfl) ?_) AllReadyH.nil
  simp only [List.getElem_toArray, List.getElem_cons_succ, List.getElem_cons_zero]
  go_simp
  refine (src_calls n1 n2 x0 x1 x2 x3 x4 x5 x6 x7 x8 x9 x10 x11 x12 x13 x14 x15 y0 y1 y2 y3 y4 y5 y6 y7 y8 y9 y10 y11 y12 y13 y14 y15 _ O1.out O2.out).mono ?_
  rintro e v1 ⟨rfl, hg1⟩
  go_wp2_with fail
  refine hK.out _ _ (And.imp (heap_gr hg1) (heap_gr hg1) hHeld) (fun hHeld => ?_)
  clear hK K
  (try simp only [Act.put, List.getElem_toArray, List.getElem_cons_succ, List.getElem_cons_zero, List.setIfInBounds_toArray, List.set_cons_zero, List.set_cons_succ])
  refine wpAnyH_ready (rs := [2]) (by kernel_rfl) (by simp) ?_
  refine AllReadyH.cons rfl (fun K hK => step_op (by rfl) ?_) AllReadyH.nil
  simp only [List.getElem_toArray, List.getElem_cons_succ, List.getElem_cons_zero]
  go_simp
  refine (raw_calls n1 x0 x1 x2 x3 x4 x5 x6 x7 x8 x9 x10 x11 x12 x13 x14 x15 l1 _ HX.out HN1.out B1.out (by omega)).mono ?_
  rintro e v2 ⟨a2x, c2x, rfl, hb2, hg2⟩
  go_wp2_with fail
  refine hK.out _ _ (And.imp (heap_gr hg2) (heap_gr hg2) hHeld) (fun hHeld => ?_)
  clear hK K
  (try simp only [Act.put, List.getElem_toArray, List.getElem_cons_succ, List.getElem_cons_zero, List.setIfInBounds_toArray, List.set_cons_zero, List.set_cons_succ])
  refine wpAnyH_ready (rs := [3]) (by kernel_rfl) (by simp) ?_
  refine AllReadyH.cons rfl (fun K hK => step_op (by rfl) ?_) AllReadyH.nil
  simp only [List.getElem_toArray, List.getElem_cons_succ, List.getElem_cons_zero]
  go_simp
  refine (copied_calls _ l1 _ hb2 (by omega)).mono ?_
  rintro e v3 ⟨a3x, m3x, c3x, rfl, ho3, hg3⟩
  go_wp2_with fail
  have hb3 := ho3.isB
  have nb3 := ho3.other (Nat.lt_of_lt_of_le Z6.out (World.grownBy.size (show Gr w6 v2 from (by (repeat (with_reducible first | exact Gr.refl _ | assumption | refine Gr.alloc ?_ _ | refine Gr.drew ?_ | refine Gr.drewN ?_ _ | refine Gr.trans ?_ (by assumption))); done))))
  clear ho3
  refine hK.out _ _ (And.imp (heap_gr hg3) (heap_gr hg3) hHeld) (fun hHeld => ?_)
  clear hK K
  (try simp only [Act.put, List.getElem_toArray, List.getElem_cons_succ, List.getElem_cons_zero, List.setIfInBounds_toArray, List.set_cons_zero, List.set_cons_succ])
  refine wpAnyH_ready (rs := [5]) (by kernel_rfl) (by simp) ?_
  refine AllReadyH.cons rfl (fun K hK => step_op (by rfl) ?_) AllReadyH.nil
  simp only [List.getElem_toArray, List.getElem_cons_succ, List.getElem_cons_zero]
  go_simp
  refine (dst_calls n1 n2 x0 x1 x2 x3 x4 x5 x6 x7 x8 x9 x10 x11 x12 x13 x14 x15 y0 y1 y2 y3 y4 y5 y6 y7 y8 y9 y10 y11 y12 y13 y14 y15 _ O1.out O2.out).mono ?_
  rintro e v5 ⟨rfl, hg5⟩
  go_wp2_with fail
  refine hK.out _ _ (And.imp (heap_gr hg5) (heap_gr hg5) hHeld) (fun hHeld => ?_)
  clear hK K
  (try simp only [Act.put, List.getElem_toArray, List.getElem_cons_succ, List.getElem_cons_zero, List.setIfInBounds_toArray, List.set_cons_zero, List.set_cons_succ])
  refine wpAnyH_ready (rs := [6]) (by kernel_rfl) (by simp) ?_
  refine AllReadyH.cons rfl (fun K hK => step_op (by rfl) ?_) AllReadyH.nil
  simp only [List.getElem_toArray, List.getElem_cons_succ, List.getElem_cons_zero]
  go_simp
  refine (raw_calls n2 y0 y1 y2 y3 y4 y5 y6 y7 y8 y9 y10 y11 y12 y13 y14 y15 l2 _ HY.out HN2.out B2.out (by omega)).mono ?_
  rintro e v6 ⟨a6x, c6x, rfl, hb6, hg6⟩
  go_wp2_with fail
  refine hK.out _ _ (And.imp (heap_gr hg6) (heap_gr hg6) hHeld) (fun hHeld => ?_)
  clear hK K
  (try simp only [Act.put, List.getElem_toArray, List.getElem_cons_succ, List.getElem_cons_zero, List.setIfInBounds_toArray, List.set_cons_zero, List.set_cons_succ])
  refine wpAnyH_ready (rs := [7]) (by kernel_rfl) (by simp) ?_
  refine AllReadyH.cons rfl (fun K hK => step_op (by rfl) ?_) AllReadyH.nil
  simp only [List.getElem_toArray, List.getElem_cons_succ, List.getElem_cons_zero]
  go_simp
  refine (copied_calls _ l2 _ hb6 (by omega)).mono ?_
  rintro e v7 ⟨a7x, m7x, c7x, rfl, ho7, hg7⟩
  go_wp2_with fail
  have hb7 := ho7.isB
  have nb7 := ho7.other (Nat.lt_of_lt_of_le Z6.out (World.grownBy.size (show Gr w6 v6 from (by (repeat (with_reducible first | exact Gr.refl _ | assumption | refine Gr.alloc ?_ _ | refine Gr.drew ?_ | refine Gr.drewN ?_ _ | refine Gr.trans ?_ (by assumption))); done))))
  clear ho7
  refine hK.out _ _ (And.imp (heap_gr hg7) (heap_gr hg7) hHeld) (fun hHeld => ?_)
  clear hK K
  (try simp only [Act.put, List.getElem_toArray, List.getElem_cons_succ, List.getElem_cons_zero, List.setIfInBounds_toArray, List.set_cons_zero, List.set_cons_succ])
  refine wpAnyH_ready (rs := [9]) (by kernel_rfl) (by simp) ?_
  refine AllReadyH.cons rfl (fun K hK => step_op (by rfl) ?_) AllReadyH.nil
  simp only [List.getElem_toArray, List.getElem_cons_succ, List.getElem_cons_zero]
  go_simp
  refine (src_calls n2 n1 y0 y1 y2 y3 y4 y5 y6 y7 y8 y9 y10 y11 y12 y13 y14 y15 x0 x1 x2 x3 x4 x5 x6 x7 x8 x9 x10 x11 x12 x13 x14 x15 _ O2.out O1.out).mono ?_
  rintro e v9 ⟨rfl, hg9⟩
  go_wp2_with fail
  refine hK.out _ _ (And.imp (heap_gr hg9) (heap_gr hg9) hHeld) (fun hHeld => ?_)
  clear hK K
  (try simp only [Act.put, List.getElem_toArray, List.getElem_cons_succ, List.getElem_cons_zero, List.setIfInBounds_toArray, List.set_cons_zero, List.set_cons_succ])
  refine wpAnyH_ready (rs := [10]) (by kernel_rfl) (by simp) ?_
  refine AllReadyH.cons rfl (fun K hK => step_op (by rfl) ?_) AllReadyH.nil
  simp only [List.getElem_toArray, List.getElem_cons_succ, List.getElem_cons_zero]
  go_simp
  refine (raw_calls n2 y0 y1 y2 y3 y4 y5 y6 y7 y8 y9 y10 y11 y12 y13 y14 y15 l2 _ HY.out HN2.out B2.out (by omega)).mono ?_
  rintro e v10 ⟨a10x, c10x, rfl, hb10, hg10⟩
  go_wp2_with fail
  refine hK.out _ _ (And.imp (heap_gr hg10) (heap_gr hg10) hHeld) (fun hHeld => ?_)
  clear hK K
  (try simp only [Act.put, List.getElem_toArray, List.getElem_cons_succ, List.getElem_cons_zero, List.setIfInBounds_toArray, List.set_cons_zero, List.set_cons_succ])
  refine wpAnyH_ready (rs := [11]) (by kernel_rfl) (by simp) ?_
  refine AllReadyH.cons rfl (fun K hK => step_op (by rfl) ?_) AllReadyH.nil
  simp only [List.getElem_toArray, List.getElem_cons_succ, List.getElem_cons_zero]
  go_simp
  refine (copied_calls _ l2 _ hb10 (by omega)).mono ?_
  rintro e v11 ⟨a11x, m11x, c11x, rfl, ho11, hg11⟩
  go_wp2_with fail
  have hb11 := ho11.isB
  have nb11 := ho11.other (Nat.lt_of_lt_of_le Z6.out (World.grownBy.size (show Gr w6 v10 from (by (repeat (with_reducible first | exact Gr.refl _ | assumption | refine Gr.alloc ?_ _ | refine Gr.drew ?_ | refine Gr.drewN ?_ _ | refine Gr.trans ?_ (by assumption))); done))))
  clear ho11
  refine hK.out _ _ (And.imp (heap_gr hg11) (heap_gr hg11) hHeld) (fun hHeld => ?_)
  clear hK K
  (try simp only [Act.put, List.getElem_toArray, List.getElem_cons_succ, List.getElem_cons_zero, List.setIfInBounds_toArray, List.set_cons_zero, List.set_cons_succ])
  refine wpAnyH_ready (rs := [13]) (by kernel_rfl) (by simp) ?_
  refine AllReadyH.cons rfl (fun K hK => step_op (by rfl) ?_) AllReadyH.nil
  simp only [List.getElem_toArray, List.getElem_cons_succ, List.getElem_cons_zero]
  go_simp
  refine (dst_calls n2 n1 y0 y1 y2 y3 y4 y5 y6 y7 y8 y9 y10 y11 y12 y13 y14 y15 x0 x1 x2 x3 x4 x5 x6 x7 x8 x9 x10 x11 x12 x13 x14 x15 _ O2.out O1.out).mono ?_
  rintro e v13 ⟨rfl, hg13⟩
  go_wp2_with fail
  refine hK.out _ _ (And.imp (heap_gr hg13) (heap_gr hg13) hHeld) (fun hHeld => ?_)
  clear hK K
  (try simp only [Act.put, List.getElem_toArray, List.getElem_cons_succ, List.getElem_cons_zero, List.setIfInBounds_toArray, List.set_cons_zero, List.set_cons_succ])
  refine wpAnyH_ready (rs := [14]) (by kernel_rfl) (by simp) ?_
  refine AllReadyH.cons rfl (fun K hK => step_op (by rfl) ?_) AllReadyH.nil
  simp only [List.getElem_toArray, List.getElem_cons_succ, List.getElem_cons_zero]
  go_simp
  refine (raw_calls n1 x0 x1 x2 x3 x4 x5 x6 x7 x8 x9 x10 x11 x12 x13 x14 x15 l1 _ HX.out HN1.out B1.out (by omega)).mono ?_
  rintro e v14 ⟨a14x, c14x, rfl, hb14, hg14⟩
  go_wp2_with fail
  refine hK.out _ _ (And.imp (heap_gr hg14) (heap_gr hg14) hHeld) (fun hHeld => ?_)
  clear hK K
  (try simp only [Act.put, List.getElem_toArray, List.getElem_cons_succ, List.getElem_cons_zero, List.setIfInBounds_toArray, List.set_cons_zero, List.set_cons_succ])
  refine wpAnyH_ready (rs := [15]) (by kernel_rfl) (by simp) ?_
  refine AllReadyH.cons rfl (fun K hK => step_op (by rfl) ?_) AllReadyH.nil
  simp only [List.getElem_toArray, List.getElem_cons_succ, List.getElem_cons_zero]
  go_simp
  refine (copied_calls _ l1 _ hb14 (by omega)).mono ?_
  rintro e v15 ⟨a15x, m15x, c15x, rfl, ho15, hg15⟩
  go_wp2_with fail
  have hb15 := ho15.isB
  have nb15 := ho15.other (Nat.lt_of_lt_of_le Z6.out (World.grownBy.size (show Gr w6 v14 from (by (repeat (with_reducible first | exact Gr.refl _ | assumption | refine Gr.alloc ?_ _ | refine Gr.drew ?_ | refine Gr.drewN ?_ _ | refine Gr.trans ?_ (by assumption))); done))))
  clear ho15
  refine hK.out _ _ (And.imp (heap_gr hg15) (heap_gr hg15) hHeld) (fun hHeld => ?_)
  clear hK K
  (try simp only [Act.put, List.getElem_toArray, List.getElem_cons_succ, List.getElem_cons_zero, List.setIfInBounds_toArray, List.set_cons_zero, List.set_cons_succ])
  refine wpAnyH_ready (rs := [17]) (by kernel_rfl) (by simp) ?_
  refine AllReadyH.cons rfl (fun K hK => step_op (by rfl) ?_) AllReadyH.nil
  simp only [List.getElem_toArray, List.getElem_cons_succ, List.getElem_cons_zero]
  go_simp
  refine (fastHash_calls n1 n2 x0 x1 x2 x3 x4 x5 x6 x7 x8 x9 x10 x11 x12 x13 x14 x15 y0 y1 y2 y3 y4 y5 y6 y7 y8 y9 y10 y11 y12 y13 y14 y15 l1 l2 _ HX.out HY.out HN1.out HN2.out B1.out B2.out (by omega) (by omega)).mono ?_
  rintro e v17 ⟨rfl, hg17⟩
  go_wp2_with fail
  refine hK.out _ _ (And.imp (heap_gr hg17) (heap_gr hg17) hHeld) (fun hHeld => ?_)
  clear hK K
  (try simp only [Act.put, List.getElem_toArray, List.getElem_cons_succ, List.getElem_cons_zero, List.setIfInBounds_toArray, List.set_cons_zero, List.set_cons_succ])
  refine wpAnyH_ready (rs := [19]) (by kernel_rfl) (by simp) ?_
  refine AllReadyH.cons rfl (fun K hK => step_op (by rfl) ?_) AllReadyH.nil
  simp only [List.getElem_toArray, List.getElem_cons_succ, List.getElem_cons_zero]
  go_simp
  refine (fastHash_calls n2 n1 y0 y1 y2 y3 y4 y5 y6 y7 y8 y9 y10 y11 y12 y13 y14 y15 x0 x1 x2 x3 x4 x5 x6 x7 x8 x9 x10 x11 x12 x13 x14 x15 l2 l1 _ HY.out HX.out HN2.out HN1.out B2.out B1.out (by omega) (by omega)).mono ?_
  rintro e v19 ⟨rfl, hg19⟩
  go_wp2_with fail
  have HGF := Lib.hid (show Gr w6 v19 from (by (repeat (with_reducible first | exact Gr.refl _ | assumption | refine Gr.alloc ?_ _ | refine Gr.drew ?_ | refine Gr.drewN ?_ _ | refine Gr.trans ?_ (by assumption))); done))
  obtain ⟨u9, rs, hrs, hR9, rfl⟩ := (HasRow.gr HGF.out HR6.out).w0
  obtain ⟨r0, r1, r2, r3, r4, r5, rfl⟩ := len6 hrs
  refine hK.out _ _ (And.imp (heap_gr hg19) (heap_gr hg19) hHeld) (fun hHeld => ?_)
  clear hK K
  (try simp only [Act.put, List.getElem_toArray, List.getElem_cons_succ, List.getElem_cons_zero, List.setIfInBounds_toArray, List.set_cons_zero, List.set_cons_succ])
  refine wpAnyH_take (i := 20) (v := .agg #[.slice a3x m3x c3x, .slice a7x m7x c7x, .slice a11x m11x c11x, .slice a15x m15x c15x, .int .u64 (flowH (fnv l1) (fnv l2)), .int .u64 (flowH (fnv l2) (fnv l1))]) rfl (by kernel_rfl) (by kernel_rfl) (by kernel_rfl) (fun _ _ _ h => h) (Or.inl ⟨by rfl, fun w' hS => ?_⟩) (by assumption) ?_
  · clear hS hHeld
    go_simp
  simp only [Act.put, List.getElem_toArray, List.getElem_cons_succ, List.getElem_cons_zero, List.setIfInBounds_toArray, List.set_cons_zero, List.set_cons_succ]
  refine wpAnyH_ready (rs := [21]) (by kernel_rfl) (by simp) ?_
  refine AllReadyH.cons rfl (fun K hK => step_op (by rfl) ?_) AllReadyH.nil
  simp only [List.getElem_toArray, List.getElem_cons_succ, List.getElem_cons_zero]
  go_simp
  refine hK.out _ _ (And.imp (rowW_heapO hn1) (rowW_heapO hn2) hHeld) (fun hHeld => ?_)
  clear hK K
  refine wpAnyH_done (by kernel_rfl) ?_ _
  go_wp2_with fail
  exact bodyPost_ret (v := .agg #[.slice a3x m3x c3x, .slice a7x m7x c7x, .slice a11x m11x c11x, .slice a15x m15x c15x, .int .u64 (flowH (fnv l1) (fnv l2)), .int .u64 (flowH (fnv l2) (fnv l1))]) (by simp [results, Try.results15, go_sem, hR9]) rfl ⟨_, _, _, _, _, _, _, _, _, _, _, _, flowH (fnv l1) (fnv l2), by rw [flowH_comm (fnv l2)], IsB.reRow (hb3.gr (by (repeat (with_reducible first | exact Gr.refl _ | assumption | refine Gr.alloc ?_ _ | refine Gr.drew ?_ | refine Gr.drewN ?_ _ | refine Gr.trans ?_ (by assumption))); done)) nb3, IsB.reRow (hb7.gr (by (repeat (with_reducible first | exact Gr.refl _ | assumption | refine Gr.alloc ?_ _ | refine Gr.drew ?_ | refine Gr.drewN ?_ _ | refine Gr.trans ?_ (by assumption))); done)) nb7, IsB.reRow (hb11.gr (by (repeat (with_reducible first | exact Gr.refl _ | assumption | refine Gr.alloc ?_ _ | refine Gr.drew ?_ | refine Gr.drewN ?_ _ | refine Gr.trans ?_ (by assumption))); done)) nb11, IsB.reRow (hb15.gr (by (repeat (with_reducible first | exact Gr.refl _ | assumption | refine Gr.alloc ?_ _ | refine Gr.drew ?_ | refine Gr.drewN ?_ _ | refine Gr.trans ?_ (by assumption))); done)) nb15, Gr.row (HG6'.out.trans HGF.out) (Nat.le_refl _)⟩

end Go.Proofs.Ytbojideclbjlgaa
