/-
  A header of the sixth version, written.
-/
import Derived.Test.YtbojideclbjlgaaIP6Pre
namespace Go.Proofs.Ytbojideclbjlgaa
open Go.RowKit

theorem rows40 (H Z T A B : List Value) (hH : H.length = 8) (hZ : Z.length = 32) (hA : A.length = 16) (hB : B.length = 16) : splice (splice (H ++ (Z ++ T)) 8 A) 24 B = H ++ (A ++ (B ++ T)) := by
  have e1 : splice (H ++ (Z ++ T)) 8 A = H ++ (A ++ (Z.drop 16 ++ T)) := by
    unfold splice
    rw [hA, ← hH, List.take_left]
    congr 2
    rw [List.drop_append, List.drop_of_length_le (by omega), List.nil_append, List.drop_append]
    have e : H.length + 16 - H.length = 16 := by omega
    rw [e, show 16 - Z.length = 0 by omega, List.drop_zero]
  rw [e1]
  unfold splice
  rw [hB]
  have e2 : (H ++ (A ++ (Z.drop 16 ++ T))).take 24 = H ++ A := by
    rw [← List.append_assoc, List.take_append_of_le_length (by rw [List.length_append]; omega), List.take_of_length_le (by rw [List.length_append]; omega)]
  have e3 : (H ++ (A ++ (Z.drop 16 ++ T))).drop (24 + 16) = T := by
    rw [← List.append_assoc, ← List.append_assoc]
    refine List.drop_left' ?_
    rw [List.length_append, List.length_append, List.length_drop]; omega
  rw [e2, e3, List.append_assoc]

set_option maxRecDepth 100000 in
set_option maxHeartbeats 6000000 in
theorem ip6Ser_calls (V P : Nat) (cl fl nx ho : Int) (sa : Option Addr) (sn sc : Nat) (da : Option Addr) (dn dc : Nat) (l1 l2 : List Int) (B : Nat) (l : List Int) (w : World) (hV : w.heap[V]? = some (.cells [.slice none 0 0, .slice none 0 0, .int .u8 6, .int .u8 cl, .int .u32 fl, .int .u16 0, .int .u8 nx, .int .u8 ho, .slice sa sn sc, .slice da dn dc, .pointer none, .slice none 0 0, .slice none 0 0, .int .u8 0, .int .u8 0, .int .i64 0, .slice none 0 0].toArray 212 (0, 0))) (hC : Carries w B P l) (hVP : V ≠ P) (hBV : B ≤ V) (hB : B ≤ w.heap.size) (hl : l.length ≤ 2000) (h1 : IsB w (.slice sa sn sc) l1) (h2 : IsB w (.slice da dn dc) l2) (z1 : l1.length = 16) (z2 : l2.length = 16) (e1 : (Value.slice sa sn sc).ownBlock ≠ some P) (e2 : (Value.slice da dn dc).ownBlock ≠ some P) (e3 : (Value.slice sa sn sc).ownBlock ≠ some V) (e4 : (Value.slice da dn dc).ownBlock ≠ some V) (u1 : 0 ≤ cl ∧ cl ≤ 255) (u2 : 0 ≤ fl ∧ fl ≤ 1048575) (u3 : 0 ≤ nx ∧ nx ≤ 255) (u4 : 0 ≤ ho ∧ ho ≤ 255) :
    Calls Try.prog 92 #[.pointer (some ⟨V, 0, none⟩), .iface 179 (.pointer (some ⟨P, 0, none⟩)), .agg #[.bool true, .bool true]] w fun e w' => e = .returned .nilIface ∧ Below B w w' ∧ Done w' P (([(96 + cl / 16), (cl % 16 * 16 + fl / 65536), (fl % 65536 / 256 % 256), (fl % 256), ((l.length : Int) / 256 % 256), ((l.length : Int) % 256), nx, ho] ++ (l1 ++ l2)) ++ l) := by
  have hVl : V < w.heap.size := (Array.getElem?_eq_some_iff.1 hV).1
  have hNE : V ≠ (w.heap.size + 1) := by omega
  have hNO : w.heap.size ≠ (w.heap.size + 1) := by omega
  have hVO : w.heap.size ≠ V := by omega
  have hPl := hC.lt
  have HV := Lib.hid hV
  clear hV
  have hmt := prepend_method
  have hmb := bytes_method
  obtain rfl : sn = 16 := by rw [h1.count, z1]
  obtain rfl : dn = 16 := by rw [h2.count, z2]
  obtain ⟨i0, hi, hz0, hz1, hz2⟩ := info_parts info_u8
  have s0 := fun K w' => at_l (P := Try.prog) 22 5 i0 Try.underlying22 hi hz1 (w.heap.size + 1) 0 40 (l.length + 40) 2 38 (l.length + 38) 2 2 rfl rfl (by omega) (by omega) (by omega) rfl K w'
  have s1 := fun K w' => at_l (P := Try.prog) 22 5 i0 Try.underlying22 hi hz1 (w.heap.size + 1) 0 40 (l.length + 40) 4 36 (l.length + 36) 4 4 rfl rfl (by omega) (by omega) (by omega) rfl K w'
  have s2 := fun K w' => at_l (P := Try.prog) 22 5 i0 Try.underlying22 hi hz1 (w.heap.size + 1) 0 40 (l.length + 40) 8 32 (l.length + 32) 8 8 rfl rfl (by omega) (by omega) (by omega) rfl K w'
  have s3 := fun K w' => at_l (P := Try.prog) 22 5 i0 Try.underlying22 hi hz1 (w.heap.size + 1) 0 40 (l.length + 40) 24 16 (l.length + 16) 24 24 rfl rfl (by omega) (by omega) (by omega) rfl K w'
  have x0 := fun K w' => at_i (P := Try.prog) 22 5 i0 Try.underlying22 hi hz1 (w.heap.size + 1) 0 40 (l.length + 40) 0 0 0 rfl (by omega) rfl K w'
  have x1 := fun K w' => at_i (P := Try.prog) 22 5 i0 Try.underlying22 hi hz1 (w.heap.size + 1) 0 40 (l.length + 40) 1 1 1 rfl (by omega) rfl K w'
  have x6 := fun K w' => at_i (P := Try.prog) 22 5 i0 Try.underlying22 hi hz1 (w.heap.size + 1) 0 40 (l.length + 40) 6 6 6 rfl (by omega) rfl K w'
  have x7 := fun K w' => at_i (P := Try.prog) 22 5 i0 Try.underlying22 hi hz1 (w.heap.size + 1) 0 40 (l.length + 40) 7 7 7 rfl (by omega) rfl K w'
  clear hi hz0 hz1 hz2
  have f0 : IntKind.u8.wrap (cl * 16) = cl % 16 * 16 := by simp [IntKind.wrap, IntKind.bits, IntKind.signed]; omega
  have f1 : bits .or .u8 96 (cl / 16) = 96 + cl / 16 := bor .u8 5 (by omega) (by omega) (by omega) (by omega) (by rw [max_u8]; omega)
  have f2 : IntKind.u8.wrap (fl / 65536) = fl / 65536 := by simp [IntKind.wrap, IntKind.bits, IntKind.signed]; omega
  have f3 : bits .or .u8 (cl % 16 * 16) (fl / 65536) = cl % 16 * 16 + fl / 65536 := bor .u8 4 (by omega) (by omega) (by omega) (by omega) (by rw [max_u8]; omega)
  have f4 : IntKind.u16.wrap fl = fl % 65536 := by simp [IntKind.wrap, IntKind.bits, IntKind.signed]
  have f5 : IntKind.u16.wrap (l.length : Int) = l.length := by simp [IntKind.wrap, IntKind.bits, IntKind.signed]; omega
  have f6 : IntKind.u8.wrap nx = nx := by simp [IntKind.wrap, IntKind.bits, IntKind.signed]; omega
  have f7 : IntKind.u8.wrap ho = ho := by simp [IntKind.wrap, IntKind.bits, IntKind.signed]; omega
  have f8 : decide (65535 < (l.length : Int)) = false := by simp; omega
  have f9 : IntKind.u8.wrap 96 = 96 := by decide
  obtain ⟨a5, k1, k2, k3, k4⟩ := id hC
  have K2 := Lib.hid k2
  have K3 := Lib.hid k3
  have H1 := Lib.hid h1
  have H2 := Lib.hid h2
  clear k1 k2 k3 k4 h1 h2
  go_enter Try.func92, Try.ntmps92
  go_wp2_with (first
      | (go_at_call 157; refine (bytes_calls P a5 l.length l.length _ _ _ l _ (heap_gr ((Gr.refl w).alloc _) K2.out) (K3.out.gr ((Gr.refl w).alloc _))).mono ?_; rintro e w3 ⟨a', rfl, hb3, r3, hw3⟩; have hs3 : w3.heap.size = (w.heap.size + 1) := (by rw [hw3]; exact World.size_alloc _ _); have HV3 := Lib.hid (show w3.heap[V]? = some (.cells [.slice none 0 0, .slice none 0 0, .int .u8 6, .int .u8 cl, .int .u32 fl, .int .u16 0, .int .u8 nx, .int .u8 ho, .slice sa 16 sc, .slice da 16 dc, .pointer none, .slice none 0 0, .slice none 0 0, .int .u8 0, .int .u8 0, .int .i64 0, .slice none 0 0].toArray 212 (0, 0)) from (by rw [hw3]; exact heap_gr (((Gr.refl w).alloc _).drewN r3) HV.out)); have HO3 := Lib.hid (show w3.heap[w.heap.size]? = some (.cells #[.bool true, .bool true] 128) from (by rw [hw3]; exact heap_alloc_new w (.cells #[.bool true, .bool true] 128))); have hg3 : Gr w w3 := (by rw [hw3]; exact ((Gr.refl w).alloc _).drewN r3); have hC3 := hC.gr hg3; have m10 := cell_of_heap HV3.out 10 _ rfl; clear hw3)
      | (go_at_call 160; refine (prepC_calls P 40 (w.heap.size + 1) (.int .u8 0 :: .int .u8 0 :: .int .u8 0 :: .int .u8 0 :: .int .u8 0 :: .int .u8 0 :: .int .u8 0 :: .int .u8 0 :: .int .u8 0 :: .int .u8 0 :: .int .u8 0 :: .int .u8 0 :: .int .u8 0 :: .int .u8 0 :: .int .u8 0 :: .int .u8 0 :: .int .u8 0 :: .int .u8 0 :: .int .u8 0 :: .int .u8 0 :: .int .u8 0 :: .int .u8 0 :: .int .u8 0 :: .int .u8 0 :: .int .u8 0 :: .int .u8 0 :: .int .u8 0 :: .int .u8 0 :: .int .u8 0 :: .int .u8 0 :: .int .u8 0 :: .int .u8 0 :: .int .u8 0 :: .int .u8 0 :: .int .u8 0 :: .int .u8 0 :: .int .u8 0 :: .int .u8 0 :: .int .u8 0 :: .int .u8 0 :: bcells l) l B _ hC3 hs3.symm rfl (by omega) (by omega) (by omega) (by omega)).mono ?_; rintro e w1 ⟨rfl, z, rfl, hO⟩; have hz := (hO.keep V (by omega) hVP).trans HV3.out; have hzo := (hO.keep w.heap.size (by omega) (by omega)).trans HO3.out; obtain ⟨y, hyV, rfl⟩ : ∃ y, Has y V ∧ z = rowW y V [.slice none 0 0, .slice none 0 0, .int .u8 6, .int .u8 cl, .int .u32 fl, .int .u16 0, .int .u8 nx, .int .u8 ho, .slice sa 16 sc, .slice da 16 dc, .pointer none, .slice none 0 0, .slice none 0 0, .int .u8 0, .int .u8 0, .int .i64 0, .slice none 0 0] 212 := ⟨z, (Array.getElem?_eq_some_iff.1 hz).1, (rowW_self hz).symm⟩; rw [rowW_other hVO] at hzo; have ob0 := cell_of_heap (cs := [.bool true, .bool true]) hzo 0 _ rfl; have hd := hO.hasN; clear hz hzo))
  go_region_held3 (fun w' => w'.cell? ⟨V, 2, none⟩ = some (.int .u8 6) ∧ w'.cell? ⟨V, 3, none⟩ = some (.int .u8 cl)) (first | exact ⟨((rowW_cell_other hNE).trans (rowW_cell (show Has _ _ from hyV) 2)).trans rfl, ((rowW_cell_other hNE).trans (rowW_cell (show Has _ _ from hyV) 3)).trans rfl⟩ | go_keep) (first
        | fail)
  go_wp2_with fail
  go_region_held3 (fun w' => w'.cell? ⟨V, 3, none⟩ = some (.int .u8 cl) ∧ w'.cell? ⟨V, 4, none⟩ = some (.int .u32 fl)) (first | exact ⟨((rowW_cell_other hNE).trans (rowW_cell (show Has _ _ from hyV) 3)).trans rfl, ((rowW_cell_other hNE).trans (rowW_cell (show Has _ _ from hyV) 4)).trans rfl⟩ | go_keep) (first
        | fail)
  go_wp2_with fail
  go_region_held3 (fun w' => w'.cell? ⟨V, 4, none⟩ = some (.int .u32 fl)) (first | exact ((rowW_cell_other hNE).trans (rowW_cell (show Has _ _ from hyV) 4)).trans rfl | go_keep) (first
        | (go_at_call 98; refine (put16_calls (w.heap.size + 1) _ _ _ _ _ _ (by rw [has_rowW]; exact hd) (by simp only [List.length_cons]; omega) (by omega)).mono ?_; rintro e w2 ⟨rfl, rfl⟩))
  go_wp2_with fail
  go_region_held3 (fun w' => w'.cell? ⟨V, 5, none⟩ = some (.int .u16 (l.length : Int))) (first | exact ((rowW_cell_other hNE).trans (rowW_cell (show Has _ _ from hyV) 5)).trans rfl | go_keep) (first
        | (go_at_call 98; refine (put16_calls (w.heap.size + 1) _ _ _ _ _ _ (by rw [has_rowW]; exact hd) (by simp only [List.length_cons]; omega) (by omega)).mono ?_; rintro e w2 ⟨rfl, rfl⟩))
  go_wp2_with (first
        | (go_at_call 112; refine (to16_calls V sa da sc dc _ (by exact ((rowW_cell_other hNE).trans (rowW_cell (show Has _ _ from hyV) 8)).trans rfl) (by exact ((rowW_cell_other hNE).trans (rowW_cell (show Has _ _ from hyV) 9)).trans rfl)).mono ?_; rintro e w9 ⟨rfl, rfl⟩))
  have hO5 : Opened w3 (rowW y.drew.drew.drew.drew V [.slice none 0 0, .slice none 0 0, .int .u8 6, .int .u8 cl, .int .u32 fl, .int .u16 0, .int .u8 nx, .int .u8 ho, .slice sa 16 sc, .slice da 16 dc, .pointer none, .slice none 0 0, .slice none 0 0, .int .u8 0, .int .u8 0, .int .i64 0, .slice none 0 0] 212) (w.heap.size + 1) B P 40 l := hO.rdrew.rdrew.rdrew.rdrew
  have hdC := hO5.hasN
  have hyC : Has y.drew.drew.drew.drew V := hyV
  have hS5 : IsB (rowW (rowW y.drew.drew.drew.drew V [.slice none 0 0, .slice none 0 0, .int .u8 6, .int .u8 cl, .int .u32 fl, .int .u16 (l.length : Int), .int .u8 nx, .int .u8 ho, .slice sa 16 sc, .slice da 16 dc, .pointer none, .slice none 0 0, .slice none 0 0, .int .u8 0, .int .u8 0, .int .i64 0, .slice none 0 0] 212) (w.heap.size + 1) (.int .u8 (96 + cl / 16) :: .int .u8 (cl % 16 * 16 + fl / 65536) :: .int .u8 (fl % 65536 / 256 % 256) :: .int .u8 (fl % 256) :: .int .u8 ((l.length : Int) / 256 % 256) :: .int .u8 ((l.length : Int) % 256) :: .int .u8 nx :: .int .u8 ho :: .int .u8 0 :: .int .u8 0 :: .int .u8 0 :: .int .u8 0 :: .int .u8 0 :: .int .u8 0 :: .int .u8 0 :: .int .u8 0 :: .int .u8 0 :: .int .u8 0 :: .int .u8 0 :: .int .u8 0 :: .int .u8 0 :: .int .u8 0 :: .int .u8 0 :: .int .u8 0 :: .int .u8 0 :: .int .u8 0 :: .int .u8 0 :: .int .u8 0 :: .int .u8 0 :: .int .u8 0 :: .int .u8 0 :: .int .u8 0 :: .int .u8 0 :: .int .u8 0 :: .int .u8 0 :: .int .u8 0 :: .int .u8 0 :: .int .u8 0 :: .int .u8 0 :: .int .u8 0 :: bcells l) 5).drew (.slice sa 16 sc) l1 := ((((H1.out.gr hg3).keep hO5 e1).unrow e3).rowW e3).rowW (H1.out.new (by omega) (by omega))
  have hsr := hS5.src (by omega)
  go_region_law (refine step_copy_splice rfl (.tmp 193) (.tmp 197) 22 196 rfl 5 Try.underlying22 size_u8 (some ⟨(w.heap.size + 1), 8, none⟩) sa 32 (l.length + 32) 16 sc (by simp [Act.eval]) (by simp [Act.eval]) (w.heap.size + 1) 8 (.int .u8 (96 + cl / 16) :: .int .u8 (cl % 16 * 16 + fl / 65536) :: .int .u8 (fl % 65536 / 256 % 256) :: .int .u8 (fl % 256) :: .int .u8 ((l.length : Int) / 256 % 256) :: .int .u8 ((l.length : Int) % 256) :: .int .u8 nx :: .int .u8 ho :: .int .u8 0 :: .int .u8 0 :: .int .u8 0 :: .int .u8 0 :: .int .u8 0 :: .int .u8 0 :: .int .u8 0 :: .int .u8 0 :: .int .u8 0 :: .int .u8 0 :: .int .u8 0 :: .int .u8 0 :: .int .u8 0 :: .int .u8 0 :: .int .u8 0 :: .int .u8 0 :: .int .u8 0 :: .int .u8 0 :: .int .u8 0 :: .int .u8 0 :: .int .u8 0 :: .int .u8 0 :: .int .u8 0 :: .int .u8 0 :: .int .u8 0 :: .int .u8 0 :: .int .u8 0 :: .int .u8 0 :: .int .u8 0 :: .int .u8 0 :: .int .u8 0 :: .int .u8 0 :: bcells l) 5 (rowW_heap (by rw [has_rowW]; exact hdC)) (bcells l1) (by rw [bcells_length, z1]; rfl) (fun _ => ⟨rfl, hsr⟩) (by simp only [List.length_cons, bcells_length]; omega) (bcells_one l1) (w.heap.size + 1) (rowW (rowW y.drew.drew.drew.drew V [.slice none 0 0, .slice none 0 0, .int .u8 6, .int .u8 cl, .int .u32 fl, .int .u16 (l.length : Int), .int .u8 nx, .int .u8 ho, .slice sa 16 sc, .slice da 16 dc, .pointer none, .slice none 0 0, .slice none 0 0, .int .u8 0, .int .u8 0, .int .i64 0, .slice none 0 0] 212) (w.heap.size + 1) (.int .u8 (96 + cl / 16) :: .int .u8 (cl % 16 * 16 + fl / 65536) :: .int .u8 (fl % 65536 / 256 % 256) :: .int .u8 (fl % 256) :: .int .u8 ((l.length : Int) / 256 % 256) :: .int .u8 ((l.length : Int) % 256) :: .int .u8 nx :: .int .u8 ho :: .int .u8 0 :: .int .u8 0 :: .int .u8 0 :: .int .u8 0 :: .int .u8 0 :: .int .u8 0 :: .int .u8 0 :: .int .u8 0 :: .int .u8 0 :: .int .u8 0 :: .int .u8 0 :: .int .u8 0 :: .int .u8 0 :: .int .u8 0 :: .int .u8 0 :: .int .u8 0 :: .int .u8 0 :: .int .u8 0 :: .int .u8 0 :: .int .u8 0 :: .int .u8 0 :: .int .u8 0 :: .int .u8 0 :: .int .u8 0 :: .int .u8 0 :: .int .u8 0 :: .int .u8 0 :: .int .u8 0 :: .int .u8 0 :: .int .u8 0 :: .int .u8 0 :: .int .u8 0 :: bcells l) 5) ⟨rfl, rfl, rfl, Nat.le_refl _, fun _ _ => rfl⟩ (Nat.le_refl _) ?_; intro w4 hg4 hb4)
  have hr4 := hg4.out
  obtain ⟨R2, hR2⟩ : ∃ R2, R2 = splice (.int .u8 (96 + cl / 16) :: .int .u8 (cl % 16 * 16 + fl / 65536) :: .int .u8 (fl % 65536 / 256 % 256) :: .int .u8 (fl % 256) :: .int .u8 ((l.length : Int) / 256 % 256) :: .int .u8 ((l.length : Int) % 256) :: .int .u8 nx :: .int .u8 ho :: .int .u8 0 :: .int .u8 0 :: .int .u8 0 :: .int .u8 0 :: .int .u8 0 :: .int .u8 0 :: .int .u8 0 :: .int .u8 0 :: .int .u8 0 :: .int .u8 0 :: .int .u8 0 :: .int .u8 0 :: .int .u8 0 :: .int .u8 0 :: .int .u8 0 :: .int .u8 0 :: .int .u8 0 :: .int .u8 0 :: .int .u8 0 :: .int .u8 0 :: .int .u8 0 :: .int .u8 0 :: .int .u8 0 :: .int .u8 0 :: .int .u8 0 :: .int .u8 0 :: .int .u8 0 :: .int .u8 0 :: .int .u8 0 :: .int .u8 0 :: .int .u8 0 :: .int .u8 0 :: bcells l) 8 (bcells l1) := ⟨_, rfl⟩
  rw [← hR2] at hr4
  have HR2 := Lib.hid hR2
  clear hR2 hg4
  obtain ⟨y4, rfl, hO6, hyV4⟩ := hO5.copy (by omega) hBV hVP (by omega) hb4 hr4
  clear hb4 hr4 hdC hS5 hsr hyC
  have hdC := hO6.hasN
  go_wp2_with fail
  have hS6 : IsB (rowW (rowW y4 V [.slice none 0 0, .slice none 0 0, .int .u8 6, .int .u8 cl, .int .u32 fl, .int .u16 (l.length : Int), .int .u8 nx, .int .u8 ho, .slice sa 16 sc, .slice da 16 dc, .pointer none, .slice none 0 0, .slice none 0 0, .int .u8 0, .int .u8 0, .int .i64 0, .slice none 0 0] 212) (w.heap.size + 1) R2 5).drew (.slice da 16 dc) l2 := ((((H2.out.gr hg3).keep hO6 e2).unrow e4).rowW e4).rowW (H2.out.new (by omega) (by omega))
  have hsr := hS6.src (by omega)
  have hL2 : R2.length = l.length + 40 := by rw [HR2.out, length_splice _ _ _ (by simp only [List.length_cons, bcells_length]; omega)]; simp only [List.length_cons, bcells_length]
  go_region_law (refine step_copy_splice rfl (.tmp 200) (.tmp 204) 22 196 rfl 5 Try.underlying22 size_u8 (some ⟨(w.heap.size + 1), 24, none⟩) da 16 (l.length + 16) 16 dc (by simp [Act.eval]) (by simp [Act.eval]) (w.heap.size + 1) 24 R2 5 (rowW_heap (by rw [has_rowW]; exact hdC)) (bcells l2) (by rw [bcells_length, z2]; rfl) (fun _ => ⟨rfl, hsr⟩) (by rw [hL2, bcells_length]; omega) (bcells_one l2) (w.heap.size + 1) (rowW (rowW y4 V [.slice none 0 0, .slice none 0 0, .int .u8 6, .int .u8 cl, .int .u32 fl, .int .u16 (l.length : Int), .int .u8 nx, .int .u8 ho, .slice sa 16 sc, .slice da 16 dc, .pointer none, .slice none 0 0, .slice none 0 0, .int .u8 0, .int .u8 0, .int .i64 0, .slice none 0 0] 212) (w.heap.size + 1) R2 5) ⟨rfl, rfl, rfl, Nat.le_refl _, fun _ _ => rfl⟩ (Nat.le_refl _) ?_; intro w4 hg4 hb4)
  have hr4 := hg4.out
  have e9 : splice R2 24 (bcells l2) = [.int .u8 (96 + cl / 16), .int .u8 (cl % 16 * 16 + fl / 65536), .int .u8 (fl % 65536 / 256 % 256), .int .u8 (fl % 256), .int .u8 ((l.length : Int) / 256 % 256), .int .u8 ((l.length : Int) % 256), .int .u8 nx, .int .u8 ho] ++ (bcells l1 ++ (bcells l2 ++ bcells l)) := by rw [HR2.out]; exact rows40 [.int .u8 (96 + cl / 16), .int .u8 (cl % 16 * 16 + fl / 65536), .int .u8 (fl % 65536 / 256 % 256), .int .u8 (fl % 256), .int .u8 ((l.length : Int) / 256 % 256), .int .u8 ((l.length : Int) % 256), .int .u8 nx, .int .u8 ho] (zs 32) (bcells l) (bcells l1) (bcells l2) rfl rfl (by rw [bcells_length]; exact z1) (by rw [bcells_length]; exact z2)
  rw [e9] at hr4
  obtain ⟨y5, rfl, hO7, hyV5⟩ := hO6.copy (by omega) hBV hVP (by omega) hb4 hr4
  go_wp2
  go_ret
  refine ⟨rfl, ?_⟩
  exact Opened.finV (cs := [.slice none 0 0, .slice none 0 0, .int .u8 6, .int .u8 cl, .int .u32 fl, .int .u16 0, .int .u8 nx, .int .u8 ho, .slice sa 16 sc, .slice da 16 dc, .pointer none, .slice none 0 0, .slice none 0 0, .int .u8 0, .int .u8 0, .int .i64 0, .slice none 0 0]) (w := w3) (hd := [(96 + cl / 16), (cl % 16 * 16 + fl / 65536), (fl % 65536 / 256 % 256), (fl % 256), ((l.length : Int) / 256 % 256), ((l.length : Int) % 256), nx, ho] ++ (l1 ++ l2)) (l := l) (k := 40) (N := (w.heap.size + 1)) _ (by repeat (first | exact hO7 | refine Opened.rdrew ?_ | refine Opened.rdrewN ?_ _)) hBV hVP (below_to hg3.below hB) (by simp [z1, z2]) (by intro x hx; simp only [List.mem_append, List.mem_cons, List.not_mem_nil, or_false] at hx; rcases hx with (rfl | rfl | rfl | rfl | rfl | rfl | rfl | rfl) | hx | hx <;> first | omega | exact H1.out.bytes x hx | exact H2.out.bytes x hx) (by omega) (by omega) (by simp [bcells])
end Go.Proofs.Ytbojideclbjlgaa
