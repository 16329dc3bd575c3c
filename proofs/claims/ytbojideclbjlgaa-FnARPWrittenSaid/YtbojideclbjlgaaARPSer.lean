/-
  A question for an address, written.
-/
import Derived.Test.YtbojideclbjlgaaSerV
import Derived.Test.YtbojideclbjlgaaIP6Pre
import Derived.Test.YtbojideclbjlgaaARPSpec
import Derived.Deep.QuietTactic
import Derived.Deep.RegionHeld3
import Derived.BigQuiet
namespace Go.Proofs.Ytbojideclbjlgaa
open Go.RowKit

theorem zs8 (M : Nat) : (.int .u8 0 :: .int .u8 0 :: .int .u8 0 :: .int .u8 0 :: .int .u8 0 :: .int .u8 0 :: .int .u8 0 :: .int .u8 0 :: zs M) = zs (8 + M) ++ bcells [] := by
  rw [show bcells [] = [] from rfl, List.append_nil, Nat.add_comm 8 M]
  rfl
theorem setRow_rowW {X : World} {D : Nat} {cs cs' : List Value} {e : TypeId} (hD : Has X D) : (rowW X D cs e).setRow D cs'.toArray = rowW X D cs' e := by
  have h : D < X.heap.size := hD
  simp only [rowW, World.setRow]
  congr 1
  apply Array.ext_getElem?
  intro j
  rw [Array.getElem?_modify, Array.getElem?_setIfInBounds, Array.getElem?_setIfInBounds]
  by_cases hj : D = j
  · subst hj
    simp [h]
  · simp [hj]

theorem wpList_copy_room {P : Program} {X : World} {ops : Array Oper} {rest : List Oper} {o : Oper} {a : Act} {Q : Exit → Act → World → Prop} (hgd : o.guard = none) (d s : Operand) (dT sT : TypeId)
    (ho : o.op = .call { callee := .builtin .copy, args := #[d, s], argTypes := #[dT, sT] }) (elem : TypeId) (hu : P.underlying dT = some (.slice elem)) (hsz : (P.info? elem).map (·.size) = some 1)
    (N off m n m2 c : Nat) (dp sp : Option Addr) (A : List Value) (l : List Int) (hd : a.eval d = .slice dp m m) (hs : a.eval s = .slice sp n c) (hdp : 0 < m → dp = some ⟨N, off, none⟩) (hX : Has X N) (hA : A.length = off) (hm : m = n + m2)
    (hB : IsB (rowW X N (A ++ zs m) 5) (.slice sp n c) l) (h : wpList P ops Q rest (a.put o.dst (goInt n)) (rowW X N ((A ++ bcells l) ++ zs m2) 5)) : wpList P ops Q (o :: rest) a (rowW X N (A ++ zs m) 5) := by
  have hn := hB.count
  have hlen : (bcells l).length = n := by rw [bcells_length]; omega
  by_cases h0 : n = 0
  · have hl : l = [] := List.eq_nil_of_length_eq_zero (by omega)
    subst hl h0
    obtain rfl : m = m2 := by omega
    refine wpList_copy_nothing hgd d s dT sT ho elem hu hsz dp sp m m 0 c hd hs (by simp) ?_
    simpa [bcells] using h
  · obtain ⟨ad, rfl, hsr⟩ := hB.src (by omega)
    obtain rfl := hdp (by omega)
    refine wpList_copy_own hgd d s dT sT ho elem hu hsz N off m m ad n c hd hs (A ++ zs m).toArray 5 (rowW_heap hX) (bcells l) (by rw [hlen, hm]; simp) hsr (by simp [zs, hlen]; omega) (bcells_one l) ?_
    have e : (A ++ zs m).take off ++ (bcells l ++ (A ++ zs m).drop (off + (bcells l).length)) = (A ++ bcells l) ++ zs m2 := by
      subst hA
      rw [List.take_left, hlen, List.drop_append, List.drop_of_length_le (by omega), List.nil_append, List.append_assoc]
      congr 2
      rw [show A.length + n - A.length = n by omega, hm]
      simp [zs]
    rw [setRow_rowW hX]
    show wpList P ops Q rest _ (rowW X N ((A ++ zs m).take off ++ (bcells l ++ (A ++ zs m).drop (off + (bcells l).length))) 5)
    rw [e, hlen]
    exact h
theorem Opened.ralloc {w y : World} {V N B P k : Nat} {l : List Int} {cs : List Value} {e : TypeId} (h : Opened w (rowW y V cs e) N B P k l) (hVl : V < w.heap.size) (hPl : P < w.heap.size) (o : Obj) : Opened w (rowW (y.alloc o) V cs e) N B P k l := by
  have hn := h.new
  have hN : N < y.heap.size := h.hasN
  have hs := h.size
  have hbl := h.below
  have hj : ∀ j, j < N → (rowW (y.alloc o) V cs e).heap[j]? = (rowW y V cs e).heap[j]? := fun j hj => by
    have hy : Has y V := show V < y.heap.size by omega
    by_cases hjV : j = V
    · subst hjV
      rw [rowW_heap hy, rowW_heap (show j < (y.alloc o).heap.size by rw [World.size_alloc]; omega)]
    · rw [rowW_other hjV, rowW_other hjV]
      exact (World.grownBy_alloc y o none).block j (by omega) (by simp)
  refine ⟨by rw [has_rowW]; show N < (y.alloc o).heap.size; rw [World.size_alloc]; omega, h.out, h.size, h.new, h.ne, ?_, ⟨hbl.1, hbl.2, hbl.3, ?_, fun j hjB => ?_⟩, fun j hjw hjP => ?_, h.bytes⟩
  · obtain ⟨q, ly, hP⟩ := h.buf
    exact ⟨q, ly, by rw [hj P (by omega)]; exact hP⟩
  · have := hbl.4; rw [rowW_size] at this; rw [rowW_size, World.size_alloc]; omega
  · rw [hj j (by omega)]; exact hbl.5 j hjB
  · rw [hj j (by omega)]; exact h.keep j hjw hjP

set_option maxRecDepth 100000 in
set_option maxHeartbeats 6000000 in
theorem arpSer_calls (V P h p : Nat) (li pr op : Int) (a1 : Option Addr) (c1 : Nat) (a2 : Option Addr) (c2 : Nat) (a3 : Option Addr) (c3 : Nat) (a4 : Option Addr) (c4 : Nat) (l1 l2 l3 l4 : List Int) (B : Nat) (w : World) (hV : w.heap[V]? = some (.cells [.slice none 0 0, .slice none 0 0, .int .u8 li, .int .u16 pr, .int .u8 0, .int .u8 0, .int .u16 op, .slice a1 h c1, .slice a2 p c2, .slice a3 h c3, .slice a4 p c4].toArray 145 (0, 0))) (hC : Carries w B P []) (hVP : V ≠ P) (hBV : B ≤ V) (hB : B ≤ w.heap.size) (hh : h ≤ 255) (hp : p ≤ 255) (i1 : IsB w (.slice a1 h c1) l1) (i2 : IsB w (.slice a2 p c2) l2) (i3 : IsB w (.slice a3 h c3) l3) (i4 : IsB w (.slice a4 p c4) l4) (e1 : (Value.slice a1 h c1).ownBlock ≠ some P) (f1 : (Value.slice a1 h c1).ownBlock ≠ some V) (e2 : (Value.slice a2 p c2).ownBlock ≠ some P) (f2 : (Value.slice a2 p c2).ownBlock ≠ some V) (e3 : (Value.slice a3 h c3).ownBlock ≠ some P) (f3 : (Value.slice a3 h c3).ownBlock ≠ some V) (e4 : (Value.slice a4 p c4).ownBlock ≠ some P) (f4 : (Value.slice a4 p c4).ownBlock ≠ some V) (u1 : 0 ≤ li ∧ li ≤ 255) :
    Calls Try.prog 77 #[.pointer (some ⟨V, 0, none⟩), .iface 179 (.pointer (some ⟨P, 0, none⟩)), .agg #[.bool true, .bool true]] w fun e w' => e = .returned .nilIface ∧ Below B w w' ∧ Done w' P (([(li / 256 % 256), (li % 256), (pr / 256 % 256), (pr % 256), (h : Int), (p : Int), (op / 256 % 256), (op % 256)] ++ (l1 ++ (l2 ++ (l3 ++ l4)))) ++ []) := by
  have hVl : V < w.heap.size := (Array.getElem?_eq_some_iff.1 hV).1
  have hNE : V ≠ (w.heap.size + 1) := by omega
  have hNO : w.heap.size ≠ (w.heap.size + 1) := by omega
  have hVO : w.heap.size ≠ V := by omega
  have hPl := hC.lt
  have HV := Lib.hid hV
  clear hV
  have hmt := prepend_method
  obtain ⟨M, hM⟩ : ∃ M, M = h + (p + (h + p)) := ⟨_, rfl⟩
  obtain ⟨K, hK⟩ : ∃ K, K = 8 + M := ⟨_, rfl⟩
  have hKi : 8 + (h : Int) + (p : Int) + (h : Int) + (p : Int) = (K : Int) := by omega
  obtain ⟨i0, hi, hz0, hz1, hz2⟩ := info_parts info_u8
  have s0 := fun K' w' => at_l (P := Try.prog) 22 5 i0 Try.underlying22 hi hz1 (w.heap.size + 1) 0 K K 2 (M + 6) (M + 6) 2 2 rfl (by omega) (by omega) (by omega) (by omega) rfl K' w'
  have s1 := fun K' w' => at_l (P := Try.prog) 22 5 i0 Try.underlying22 hi hz1 (w.heap.size + 1) 0 K K 6 (M + 2) (M + 2) 6 6 rfl (by omega) (by omega) (by omega) (by omega) rfl K' w'
  have x4 := fun K' w' => at_i (P := Try.prog) 22 5 i0 Try.underlying22 hi hz1 (w.heap.size + 1) 0 K K 4 4 4 rfl (by omega) rfl K' w'
  have x5 := fun K' w' => at_i (P := Try.prog) 22 5 i0 Try.underlying22 hi hz1 (w.heap.size + 1) 0 K K 5 5 5 rfl (by omega) rfl K' w'
  clear hi hz0 hz1 hz2
  have y0 : IntKind.i64.wrap (8 + (h : Int)) = 8 + (h : Int) := w64 (by omega) (by omega)
  have y1 : IntKind.i64.wrap (8 + (h : Int) + (p : Int)) = 8 + (h : Int) + (p : Int) := w64 (by omega) (by omega)
  have y2 : IntKind.i64.wrap (8 + (h : Int) + (p : Int) + (h : Int)) = 8 + (h : Int) + (p : Int) + (h : Int) := w64 (by omega) (by omega)
  have y3 : IntKind.i64.wrap (K : Int) = (K : Int) := w64 (by omega) (by omega)
  have y4 : IntKind.u8.wrap (h : Int) = (h : Int) := by simp [IntKind.wrap, IntKind.bits, IntKind.signed]; omega
  have y5 : IntKind.u8.wrap (p : Int) = (p : Int) := by simp [IntKind.wrap, IntKind.bits, IntKind.signed]; omega
  have y6 : IntKind.u16.wrap li = li := by simp [IntKind.wrap, IntKind.bits, IntKind.signed]; omega
  have I1 := Lib.hid i1
  have I2 := Lib.hid i2
  have I3 := Lib.hid i3
  have I4 := Lib.hid i4
  clear i1 i2 i3 i4
  have HM := Lib.hid hM
  have HK := Lib.hid hK
  clear hM hK
  have k7 := cell_of_heap (heap_gr ((Gr.refl w).alloc (.cells #[.bool true, .bool true] 128)) HV.out) 7 _ rfl
  have k8 := cell_of_heap (heap_gr ((Gr.refl w).alloc (.cells #[.bool true, .bool true] 128)) HV.out) 8 _ rfl
  have k9 := cell_of_heap (heap_gr ((Gr.refl w).alloc (.cells #[.bool true, .bool true] 128)) HV.out) 9 _ rfl
  have k10 := cell_of_heap (heap_gr ((Gr.refl w).alloc (.cells #[.bool true, .bool true] 128)) HV.out) 10 _ rfl
  go_enter Try.func77, Try.ntmps77
  go_wp2_with fail
  go_region_held3 (fun w' => w'.cell? ⟨V, 7, none⟩ = some (.slice a1 h c1) ∧ w'.cell? ⟨V, 8, none⟩ = some (.slice a2 p c2) ∧ w'.cell? ⟨V, 9, none⟩ = some (.slice a3 h c3) ∧ w'.cell? ⟨V, 10, none⟩ = some (.slice a4 p c4)) (first | exact ⟨k7, k8, k9, k10⟩ | go_keep) (first
        | fail)
  go_wp2_with (first
        | (go_at_call 160; refine (prepC_calls P K (w.heap.size + 1) (.int .u8 0 :: .int .u8 0 :: .int .u8 0 :: .int .u8 0 :: .int .u8 0 :: .int .u8 0 :: .int .u8 0 :: .int .u8 0 :: zs M) [] B _ (hC.gr (((Gr.refl w).alloc _).drew)) (World.size_alloc _ _).symm (by rw [HK.out]; exact zs8 M) (by have := HK.out; omega) (by have := HK.out; have := HM.out; omega) (by simp) (show B ≤ (w.alloc _).heap.size by rw [World.size_alloc]; omega)).mono ?_; rintro e w1 ⟨rfl, z, rfl, hO⟩; have hz := (hO.keep V (show V < (w.alloc _).heap.size by rw [World.size_alloc]; omega) hVP).trans (heap_gr (((Gr.refl w).alloc _).drew) HV.out); have hzo := (hO.keep w.heap.size (show w.heap.size < (w.alloc _).heap.size by rw [World.size_alloc]; omega) (by omega)).trans (heap_alloc_new w (.cells #[.bool true, .bool true] 128)); obtain ⟨y, hyV, rfl⟩ : ∃ y, Has y V ∧ z = rowW y V [.slice none 0 0, .slice none 0 0, .int .u8 li, .int .u16 pr, .int .u8 0, .int .u8 0, .int .u16 op, .slice a1 h c1, .slice a2 p c2, .slice a3 h c3, .slice a4 p c4] 145 := ⟨z, (Array.getElem?_eq_some_iff.1 hz).1, (rowW_self hz).symm⟩; rw [rowW_other hVO] at hzo; have ob0 := cell_of_heap (cs := [.bool true, .bool true]) hzo 0 _ rfl; have hd := hO.hasN; clear hz hzo))
  go_region_held3 (fun w' => w'.cell? ⟨V, 7, none⟩ = some (.slice a1 h c1) ∧ w'.cell? ⟨V, 9, none⟩ = some (.slice a3 h c3)) (first | exact ⟨((rowW_cell_other hNE).trans (rowW_cell (show Has _ _ from hyV) 7)).trans rfl, ((rowW_cell_other hNE).trans (rowW_cell (show Has _ _ from hyV) 9)).trans rfl⟩ | go_keep) (first
        | fail)
  go_wp2_with fail
  go_region_held3 (fun w' => w'.cell? ⟨V, 8, none⟩ = some (.slice a2 p c2) ∧ w'.cell? ⟨V, 10, none⟩ = some (.slice a4 p c4)) (first | exact ⟨((rowW_cell_other hNE).trans (rowW_cell (show Has _ _ from hyV) 8)).trans rfl, ((rowW_cell_other hNE).trans (rowW_cell (show Has _ _ from hyV) 10)).trans rfl⟩ | go_keep) (first
        | fail)
  go_wp2_with (first
        | (go_at_call 98; refine (put16_calls (w.heap.size + 1) _ _ _ _ _ _ (by rw [has_rowW]; exact hd) (by simp only [List.length_cons]; omega) (by omega)).mono ?_; rintro e w2 ⟨rfl, rfl⟩))
  go_region_held3 (fun w' => w'.cell? ⟨V, 3, none⟩ = some (.int .u16 pr)) (first | exact ((rowW_cell_other hNE).trans (rowW_cell (show Has _ _ from hyV) 3)).trans rfl | go_keep) (first
        | (go_at_call 98; refine (put16_calls (w.heap.size + 1) _ _ _ _ _ _ (by rw [has_rowW]; exact hd) (by simp only [List.length_cons]; omega) (by omega)).mono ?_; rintro e w2 ⟨rfl, rfl⟩))
  go_wp2_with fail
  go_region_held3 (fun w' => w'.cell? ⟨V, 6, none⟩ = some (.int .u16 op)) (first | exact ((rowW_cell_other hNE).trans (rowW_cell (show Has _ _ from hyV) 6)).trans rfl | go_keep) (first
        | (go_at_call 98; refine (put16_calls (w.heap.size + 1) _ _ _ _ _ _ (by rw [has_rowW]; exact hd) (by simp only [List.length_cons]; omega) (by omega)).mono ?_; rintro e w2 ⟨rfl, rfl⟩))
  go_wp2_with fail
  obtain ⟨W, hW⟩ : ∃ W, W = rowW (rowW y.drew.drew.drew.drew V [.slice none 0 0, .slice none 0 0, .int .u8 li, .int .u16 pr, .int .u8 (h : Int), .int .u8 (p : Int), .int .u16 op, .slice a1 h c1, .slice a2 p c2, .slice a3 h c3, .slice a4 p c4] 145) (w.heap.size + 1) (.int .u8 (li / 256 % 256) :: .int .u8 (li % 256) :: .int .u8 (pr / 256 % 256) :: .int .u8 (pr % 256) :: .int .u8 (h : Int) :: .int .u8 (p : Int) :: .int .u8 (op / 256 % 256) :: .int .u8 (op % 256) :: zs M) 5 := ⟨_, rfl⟩
  rw [← hW]
  have w7 : W.cell? ⟨V, 7, none⟩ = some (.slice a1 h c1) := by rw [hW]; exact ((rowW_cell_other hNE).trans (rowW_cell (show Has _ _ from hyV) 7)).trans rfl
  have w8 : W.cell? ⟨V, 8, none⟩ = some (.slice a2 p c2) := by rw [hW]; exact ((rowW_cell_other hNE).trans (rowW_cell (show Has _ _ from hyV) 8)).trans rfl
  have w9 : W.cell? ⟨V, 9, none⟩ = some (.slice a3 h c3) := by rw [hW]; exact ((rowW_cell_other hNE).trans (rowW_cell (show Has _ _ from hyV) 9)).trans rfl
  have w10 : W.cell? ⟨V, 10, none⟩ = some (.slice a4 p c4) := by rw [hW]; exact ((rowW_cell_other hNE).trans (rowW_cell (show Has _ _ from hyV) 10)).trans rfl
  have HW := Lib.hid hW
  clear hW
  go_region_held3 (fun w' => w'.cell? ⟨V, 7, none⟩ = some (.slice a1 h c1) ∧ w'.cell? ⟨V, 8, none⟩ = some (.slice a2 p c2) ∧ w'.cell? ⟨V, 9, none⟩ = some (.slice a3 h c3) ∧ w'.cell? ⟨V, 10, none⟩ = some (.slice a4 p c4)) (first | exact ⟨w7, w8, w9, w10⟩ | (with_reducible exact And.imp (Gr.cell ((Gr.refl _).alloc _)) (And.imp (Gr.cell ((Gr.refl _).alloc _)) (And.imp (Gr.cell ((Gr.refl _).alloc _)) (Gr.cell ((Gr.refl _).alloc _)))) (by assumption)) | go_keep) (fail)
  go_wp2_with fail
  obtain ⟨H, hH⟩ : ∃ H : List Value, H = [.int .u8 (li / 256 % 256), .int .u8 (li % 256), .int .u8 (pr / 256 % 256), .int .u8 (pr % 256), .int .u8 (h : Int), .int .u8 (p : Int), .int .u8 (op / 256 % 256), .int .u8 (op % 256)] := ⟨_, rfl⟩
  have hHl : H.length = 8 := by rw [hH]; rfl
  obtain ⟨X, hX⟩ : ∃ X, X = rowW (World.alloc (y.drew.drew.drew.drew).drew (.cells #[.slice a1 h c1, .slice a2 p c2, .slice a3 h c3, .slice a4 p c4] 22)) V [.slice none 0 0, .slice none 0 0, .int .u8 li, .int .u16 pr, .int .u8 (h : Int), .int .u8 (p : Int), .int .u16 op, .slice a1 h c1, .slice a2 p c2, .slice a3 h c3, .slice a4 p c4] 145 := ⟨_, rfl⟩
  have hYN : Has y.drew.drew.drew.drew.drew (w.heap.size + 1) := hd
  have hYV : Has y.drew.drew.drew.drew.drew V := hyV
  have hWX : (World.alloc W (.cells #[.slice a1 h c1, .slice a2 p c2, .slice a3 h c3, .slice a4 p c4] 22)).drew = rowW X (w.heap.size + 1) (H ++ zs (h + (p + (h + p)))) 5 := by
    show World.alloc W.drew (.cells #[.slice a1 h c1, .slice a2 p c2, .slice a3 h c3, .slice a4 p c4] 22) = _
    rw [HW.out, hX, hH, ← HM.out]
    show World.alloc (rowW (rowW y.drew.drew.drew.drew.drew V [.slice none 0 0, .slice none 0 0, .int .u8 li, .int .u16 pr, .int .u8 (h : Int), .int .u8 (p : Int), .int .u16 op, .slice a1 h c1, .slice a2 p c2, .slice a3 h c3, .slice a4 p c4] 145) (w.heap.size + 1) (.int .u8 (li / 256 % 256) :: .int .u8 (li % 256) :: .int .u8 (pr / 256 % 256) :: .int .u8 (pr % 256) :: .int .u8 (h : Int) :: .int .u8 (p : Int) :: .int .u8 (op / 256 % 256) :: .int .u8 (op % 256) :: zs M) 5) (.cells #[.slice a1 h c1, .slice a2 p c2, .slice a3 h c3, .slice a4 p c4] 22) = _
    rw [rowW_alloc (by rw [has_rowW]; exact hYN), rowW_alloc hYV]
    rfl
  have hXN : Has X (w.heap.size + 1) := by rw [hX, has_rowW]; show (w.heap.size + 1) < (World.alloc y.drew.drew.drew.drew.drew (.cells #[.slice a1 h c1, .slice a2 p c2, .slice a3 h c3, .slice a4 p c4] 22)).heap.size; rw [World.size_alloc]; exact Nat.lt_succ_of_lt hYN
  have hWs : (w.heap.size + 1) < W.heap.size := by rw [HW.out, rowW_size, rowW_size]; exact hYN
  have hZN : W.heap.size ≠ (w.heap.size + 1) := by omega
  have xc0 : X.cell? ⟨W.heap.size, 0, none⟩ = some (.slice a1 h c1) := by rw [← rowW_cell_other (w := X) (D := (w.heap.size + 1)) (cs := H ++ zs (h + (p + (h + p)))) (e := 5) hZN, ← hWX]; exact cell_of_heap (cs := [.slice a1 h c1, .slice a2 p c2, .slice a3 h c3, .slice a4 p c4]) (heap_alloc_new W.drew (.cells #[.slice a1 h c1, .slice a2 p c2, .slice a3 h c3, .slice a4 p c4] 22)) 0 _ rfl
  have xc1 : X.cell? ⟨W.heap.size, 1, none⟩ = some (.slice a2 p c2) := by rw [← rowW_cell_other (w := X) (D := (w.heap.size + 1)) (cs := H ++ zs (h + (p + (h + p)))) (e := 5) hZN, ← hWX]; exact cell_of_heap (cs := [.slice a1 h c1, .slice a2 p c2, .slice a3 h c3, .slice a4 p c4]) (heap_alloc_new W.drew (.cells #[.slice a1 h c1, .slice a2 p c2, .slice a3 h c3, .slice a4 p c4] 22)) 1 _ rfl
  have xc2 : X.cell? ⟨W.heap.size, 2, none⟩ = some (.slice a3 h c3) := by rw [← rowW_cell_other (w := X) (D := (w.heap.size + 1)) (cs := H ++ zs (h + (p + (h + p)))) (e := 5) hZN, ← hWX]; exact cell_of_heap (cs := [.slice a1 h c1, .slice a2 p c2, .slice a3 h c3, .slice a4 p c4]) (heap_alloc_new W.drew (.cells #[.slice a1 h c1, .slice a2 p c2, .slice a3 h c3, .slice a4 p c4] 22)) 2 _ rfl
  have xc3 : X.cell? ⟨W.heap.size, 3, none⟩ = some (.slice a4 p c4) := by rw [← rowW_cell_other (w := X) (D := (w.heap.size + 1)) (cs := H ++ zs (h + (p + (h + p)))) (e := 5) hZN, ← hWX]; exact cell_of_heap (cs := [.slice a1 h c1, .slice a2 p c2, .slice a3 h c3, .slice a4 p c4]) (heap_alloc_new W.drew (.cells #[.slice a1 h c1, .slice a2 p c2, .slice a3 h c3, .slice a4 p c4] 22)) 3 _ rfl
  have HX := Lib.hid hX
  clear hX
  have HHH := Lib.hid hH
  clear hH
  have hO4 : Opened (World.alloc w (.cells #[.bool true, .bool true] 128)).drew (rowW (y.drew.drew.drew.drew.drew) V [.slice none 0 0, .slice none 0 0, .int .u8 li, .int .u16 pr, .int .u8 0, .int .u8 0, .int .u16 op, .slice a1 h c1, .slice a2 p c2, .slice a3 h c3, .slice a4 p c4] 145) (w.heap.size + 1) B P K [] := hO.rdrew.rdrew.rdrew.rdrew.rdrew
  have hO5 := hO4.ralloc (show V < (World.alloc w (.cells #[.bool true, .bool true] 128)).heap.size by rw [World.size_alloc]; omega) (show P < (World.alloc w (.cells #[.bool true, .bool true] 128)).heap.size by rw [World.size_alloc]; omega) (.cells #[.slice a1 h c1, .slice a2 p c2, .slice a3 h c3, .slice a4 p c4] 22)
  have hs0 : ∀ row : List Value, IsB (rowW X (w.heap.size + 1) row 5) (.slice a1 h c1) l1 := fun row => by
    by_cases h0 : 0 < l1.length
    · rw [HX.out]
      exact (((((I1.out.gr (((Gr.refl w).alloc _).drew)).keep hO5 e1).unrow f1).rowW f1)).rowW (I1.out.new h0 (by omega))
    · obtain ⟨b9, c9, e9, r1, r2, r3, r4⟩ := I1.out
      refine ⟨b9, c9, e9, r1, r2, r3, ?_⟩
      rcases r4 with r4 | ⟨ad, r5, r6⟩
      · exact .inl r4
      · exact .inr ⟨ad, r5, fun j hj => absurd hj (by omega)⟩
  have hc0 := I1.out.count
  have HC0 := Lib.hid hc0
  clear hc0
  have hs1 : ∀ row : List Value, IsB (rowW X (w.heap.size + 1) row 5) (.slice a2 p c2) l2 := fun row => by
    by_cases h0 : 0 < l2.length
    · rw [HX.out]
      exact (((((I2.out.gr (((Gr.refl w).alloc _).drew)).keep hO5 e2).unrow f2).rowW f2)).rowW (I2.out.new h0 (by omega))
    · obtain ⟨b9, c9, e9, r1, r2, r3, r4⟩ := I2.out
      refine ⟨b9, c9, e9, r1, r2, r3, ?_⟩
      rcases r4 with r4 | ⟨ad, r5, r6⟩
      · exact .inl r4
      · exact .inr ⟨ad, r5, fun j hj => absurd hj (by omega)⟩
  have hc1 := I2.out.count
  have HC1 := Lib.hid hc1
  clear hc1
  have hs2 : ∀ row : List Value, IsB (rowW X (w.heap.size + 1) row 5) (.slice a3 h c3) l3 := fun row => by
    by_cases h0 : 0 < l3.length
    · rw [HX.out]
      exact (((((I3.out.gr (((Gr.refl w).alloc _).drew)).keep hO5 e3).unrow f3).rowW f3)).rowW (I3.out.new h0 (by omega))
    · obtain ⟨b9, c9, e9, r1, r2, r3, r4⟩ := I3.out
      refine ⟨b9, c9, e9, r1, r2, r3, ?_⟩
      rcases r4 with r4 | ⟨ad, r5, r6⟩
      · exact .inl r4
      · exact .inr ⟨ad, r5, fun j hj => absurd hj (by omega)⟩
  have hc2 := I3.out.count
  have HC2 := Lib.hid hc2
  clear hc2
  have hs3 : ∀ row : List Value, IsB (rowW X (w.heap.size + 1) row 5) (.slice a4 p c4) l4 := fun row => by
    by_cases h0 : 0 < l4.length
    · rw [HX.out]
      exact (((((I4.out.gr (((Gr.refl w).alloc _).drew)).keep hO5 e4).unrow f4).rowW f4)).rowW (I4.out.new h0 (by omega))
    · obtain ⟨b9, c9, e9, r1, r2, r3, r4⟩ := I4.out
      refine ⟨b9, c9, e9, r1, r2, r3, ?_⟩
      rcases r4 with r4 | ⟨ad, r5, r6⟩
      · exact .inl r4
      · exact .inr ⟨ad, r5, fun j hj => absurd hj (by omega)⟩
  have hc3 := I4.out.count
  have HC3 := Lib.hid hc3
  clear hc3
  obtain ⟨A1, hA1⟩ : ∃ A1, A1 = H ++ bcells l1 := ⟨_, rfl⟩
  have lA1 : A1.length = 8 + h := by rw [hA1, List.length_append, bcells_length, hHl]; have := HC0.out; omega
  have HA1 := Lib.hid hA1
  clear hA1
  obtain ⟨A2, hA2⟩ : ∃ A2, A2 = A1 ++ bcells l2 := ⟨_, rfl⟩
  have lA2 : A2.length = 8 + h + p := by rw [hA2, List.length_append, bcells_length, lA1]; have := HC1.out; omega
  have HA2 := Lib.hid hA2
  clear hA2
  obtain ⟨A3, hA3⟩ : ∃ A3, A3 = A2 ++ bcells l3 := ⟨_, rfl⟩
  have lA3 : A3.length = 8 + h + p + h := by rw [hA3, List.length_append, bcells_length, lA2]; have := HC2.out; omega
  have HA3 := Lib.hid hA3
  clear hA3
  obtain ⟨A4, hA4⟩ : ∃ A4, A4 = A3 ++ bcells l4 := ⟨_, rfl⟩
  have lA4 : A4.length = 8 + h + p + h + p := by rw [hA4, List.length_append, bcells_length, lA3]; have := HC3.out; omega
  have HA4 := Lib.hid hA4
  clear hA4
  obtain ⟨dp0, hdp0, sl0⟩ := at_l0 (b := (w.heap.size + 1)) (n := K) (c := K) (j0 := 8) (n' := h + (p + (h + p))) (8) (by omega) (by have := HK.out; have := HM.out; omega) (by have := HK.out; have := HM.out; omega)
  obtain ⟨dp1, hdp1, sl1⟩ := at_l0 (b := (w.heap.size + 1)) (n := K) (c := K) (j0 := 8 + h) (n' := p + (h + p)) (8 + (h : Int)) (by omega) (by have := HK.out; have := HM.out; omega) (by have := HK.out; have := HM.out; omega)
  obtain ⟨dp2, hdp2, sl2⟩ := at_l0 (b := (w.heap.size + 1)) (n := K) (c := K) (j0 := 8 + h + p) (n' := h + p) (8 + (h : Int) + (p : Int)) (by omega) (by have := HK.out; have := HM.out; omega) (by have := HK.out; have := HM.out; omega)
  obtain ⟨dp3, hdp3, sl3⟩ := at_l0 (b := (w.heap.size + 1)) (n := K) (c := K) (j0 := 8 + h + p + h) (n' := p) (8 + (h : Int) + (p : Int) + (h : Int)) (by omega) (by have := HK.out; have := HM.out; omega) (by have := HK.out; have := HM.out; omega)
  rw [hWX]
  go_loopw [10, 141] (fun s i wr => (i = .int .i64 0 ∧ s = .int .i64 (8) ∧ wr = rowW X (w.heap.size + 1) (H ++ zs (h + (p + (h + p)))) 5) ∨ (i = .int .i64 1 ∧ s = .int .i64 (8 + (h : Int)) ∧ wr = rowW X (w.heap.size + 1) (A1 ++ zs (p + (h + p))) 5) ∨ (i = .int .i64 2 ∧ s = .int .i64 (8 + (h : Int) + (p : Int)) ∧ wr = rowW X (w.heap.size + 1) (A2 ++ zs (h + p)) 5) ∨ (i = .int .i64 3 ∧ s = .int .i64 (8 + (h : Int) + (p : Int) + (h : Int)) ∧ wr = rowW X (w.heap.size + 1) (A3 ++ zs (p)) 5) ∨ (i = .int .i64 4 ∧ wr = rowW X (w.heap.size + 1) (A4 ++ zs 0) 5)) (fun _ i _ => 5 - (intOf i).toNat)
  case atStart => exact .inl ⟨rfl, rfl, rfl⟩
  case round =>
    rcases hrel with ⟨rfl, rfl, rfl⟩ | ⟨rfl, rfl, rfl⟩ | ⟨rfl, rfl, rfl⟩ | ⟨rfl, rfl, rfl⟩ | ⟨rfl, rfl⟩
    · go_wp2_with (with_reducible refine wpList_copy_room rfl (.tmp 147) (.tmp 148) 22 22 rfl 5 Try.underlying22 size_u8 (w.heap.size + 1) (8) (h + (p + (h + p))) h (p + (h + p)) c1 dp0 a1 H l1 (by simp [Act.eval]) (by simp [Act.eval]) hdp0 hXN hHl (by omega) (hs0 _) ?_)
      go_roundw
      case rel => exact Or.inr <| Or.inl ⟨rfl, rfl, by rw [HA1.out, List.append_assoc]⟩
      case measure => simp [intOf]
    · go_wp2_with (with_reducible refine wpList_copy_room rfl (.tmp 147) (.tmp 148) 22 22 rfl 5 Try.underlying22 size_u8 (w.heap.size + 1) (8 + h) (p + (h + p)) p (h + p) c2 dp1 a2 A1 l2 (by simp [Act.eval]) (by simp [Act.eval]) hdp1 hXN lA1 (by omega) (hs1 _) ?_)
      go_roundw
      case rel => exact Or.inr <| Or.inr <| Or.inl ⟨rfl, rfl, by rw [HA2.out, List.append_assoc]⟩
      case measure => simp [intOf]
    · go_wp2_with (with_reducible refine wpList_copy_room rfl (.tmp 147) (.tmp 148) 22 22 rfl 5 Try.underlying22 size_u8 (w.heap.size + 1) (8 + h + p) (h + p) h (p) c3 dp2 a3 A2 l3 (by simp [Act.eval]) (by simp [Act.eval]) hdp2 hXN lA2 (by omega) (hs2 _) ?_)
      go_roundw
      case rel => exact Or.inr <| Or.inr <| Or.inr <| Or.inl ⟨rfl, rfl, by rw [HA3.out, List.append_assoc]⟩
      case measure => simp [intOf]
    · go_wp2_with (with_reducible refine wpList_copy_room rfl (.tmp 147) (.tmp 148) 22 22 rfl 5 Try.underlying22 size_u8 (w.heap.size + 1) (8 + h + p + h) (p) p (0) c4 dp3 a4 A3 l4 (by simp [Act.eval]) (by simp [Act.eval]) hdp3 hXN lA3 (by omega) (hs3 _) ?_)
      go_roundw
      case rel => exact Or.inr <| Or.inr <| Or.inr <| Or.inr <| ⟨rfl, by rw [HA4.out, List.append_assoc]⟩
      case measure => simp [intOf]
    · go_wp2_with fail
      go_ret
      refine ⟨rfl, ?_⟩
      rw [HX.out]
      exact Opened.finV (cs := [.slice none 0 0, .slice none 0 0, .int .u8 li, .int .u16 pr, .int .u8 0, .int .u8 0, .int .u16 op, .slice a1 h c1, .slice a2 p c2, .slice a3 h c3, .slice a4 p c4]) (w := (World.alloc w (.cells #[.bool true, .bool true] 128)).drew) (hd := [(li / 256 % 256), (li % 256), (pr / 256 % 256), (pr % 256), (h : Int), (p : Int), (op / 256 % 256), (op % 256)] ++ (l1 ++ (l2 ++ (l3 ++ l4)))) (l := []) (k := K) (N := (w.heap.size + 1)) _ hO5 hBV hVP (below_to (((Gr.refl w).alloc _).drew).below hB) (by have := HK.out; have := HM.out; have := HC0.out; have := HC1.out; have := HC2.out; have := HC3.out; simp only [List.length_append, List.length_cons, List.length_nil]; omega) (by intro x hx; simp only [List.mem_append, List.mem_cons, List.not_mem_nil, or_false] at hx; rcases hx with (rfl | rfl | rfl | rfl | rfl | rfl | rfl | rfl) | hx | hx | hx | hx <;> first | omega | exact I1.out.bytes x hx | exact I2.out.bytes x hx | exact I3.out.bytes x hx | exact I4.out.bytes x hx) (by simp) (by have := HK.out; have := HM.out; omega) (by rw [HA4.out, HA3.out, HA2.out, HA1.out, HHH.out]; simp [bcells, zs])
end Go.Proofs.Ytbojideclbjlgaa
