/-
  A header of routing encapsulation, written, part 0.
-/
import Derived.Test.YtbojideclbjlgaaGRESer
import Derived.Deep.RegionHeld3
import Derived.Deep.QuietTactic
import Derived.RegionTactic
namespace Go.Proofs.Ytbojideclbjlgaa
open Go.RowKit

set_option maxRecDepth 100000 in
set_option maxHeartbeats 4000000 in
theorem greSer0000_calls (V P : Nat) (ve pr su ky sq ak : Int) (o1 o2 : Bool) (B : Nat) (l : List Int) (w : World) (hV : w.heap[V]? = some (.cells [.slice none 0 0, .slice none 0 0, .bool false, .bool false, .bool false, .bool false, .bool false, .bool false, .int .u8 0, .int .u8 0, .int .u8 ve, .int .u16 pr, .int .u16 su, .int .u16 0, .int .u32 ky, .int .u32 sq, .int .u32 ak, .pointer none].toArray 154 (0, 0))) (hC : Carries w B P l) (hVP : V ≠ P) (hB : B ≤ w.heap.size) (hl : l.length ≤ 2000) (hv : 0 ≤ ve ∧ ve ≤ 7) (ho : o2 = false) :
    Calls Try.prog 80 #[.pointer (some ⟨V, 0, none⟩), .iface 179 (.pointer (some ⟨P, 0, none⟩)), .agg #[.bool o1, .bool o2]] w fun e w' => e = .returned .nilIface ∧ Below B w w' ∧ Done w' P (gre ve pr false false false false su ky sq ak ++ l) := by
  have hVl : V < w.heap.size := (Array.getElem?_eq_some_iff.1 hV).1
  have hNE : V ≠ (w.heap.size + 1) := by omega
  have HV := Lib.hid hV
  clear hV
  have hmt := prepend_method
  obtain ⟨i0, hi, hz0, hz1, hz2⟩ := info_parts info_u8
  have s0 := fun K K' w' => at_lh (P := Try.prog) 22 5 i0 Try.underlying22 hi hz1 (w.heap.size + 1) 0 4 (l.length + 4) 2 4 2 (l.length + 2) 2 2 4 rfl rfl (by omega) (by omega) rfl (by omega) (by omega) rfl K K' w'
  have x0 := fun K w' => at_i (P := Try.prog) 22 5 i0 Try.underlying22 hi hz1 (w.heap.size + 1) 0 4 (l.length + 4) 0 0 0 rfl (by omega) rfl K w'
  have x1 := fun K w' => at_i (P := Try.prog) 22 5 i0 Try.underlying22 hi hz1 (w.heap.size + 1) 0 4 (l.length + 4) 1 1 1 rfl (by omega) rfl K w'
  clear hi hz0 hz1 hz2
  subst ho
  have t6 : IntKind.i64.wrap 6 = 6 := by decide
  have t8 : IntKind.i64.wrap 8 = 8 := by decide
  have t12 : IntKind.i64.wrap 12 = 12 := by decide
  have t16 : IntKind.i64.wrap 16 = 16 := by decide
  have t20 : IntKind.i64.wrap 20 = 20 := by decide
  have b0 : bits .or .u8 0 0 = 0 := by decide
  have m2 := cell_of_heap HV.out 2 _ rfl
  have k2 := cell_of_heap (heap_gr ((Gr.refl w).alloc (.cells #[.bool o1, .bool false] 128)) HV.out) 2 _ rfl
  have m3 := cell_of_heap HV.out 3 _ rfl
  have k3 := cell_of_heap (heap_gr ((Gr.refl w).alloc (.cells #[.bool o1, .bool false] 128)) HV.out) 3 _ rfl
  have m4 := cell_of_heap HV.out 4 _ rfl
  have k4 := cell_of_heap (heap_gr ((Gr.refl w).alloc (.cells #[.bool o1, .bool false] 128)) HV.out) 4 _ rfl
  have m5 := cell_of_heap HV.out 5 _ rfl
  have k5 := cell_of_heap (heap_gr ((Gr.refl w).alloc (.cells #[.bool o1, .bool false] 128)) HV.out) 5 _ rfl
  have m7 := cell_of_heap HV.out 7 _ rfl
  have k7 := cell_of_heap (heap_gr ((Gr.refl w).alloc (.cells #[.bool o1, .bool false] 128)) HV.out) 7 _ rfl
  have b1 : bits .or .u8 0 ve = ve := by have := bor .u8 7 (x := 0) (y := ve) (by omega) (by omega) (by omega) (by omega) (by rw [max_u8]; omega); simpa using this
  go_enter Try.func80, Try.ntmps80
  go_wp2_with (first
        | (go_at_call 160; refine (prepC_calls P 4 (w.heap.size + 1) (.int .u8 0 :: .int .u8 0 :: .int .u8 0 :: .int .u8 0 :: bcells l) l B _ (hC.gr ((Gr.refl w).alloc _)) (World.size_alloc _ _).symm rfl (by omega) (by omega) (by omega) (by rw [World.size_alloc]; omega)).mono ?_; rintro e w1 ⟨rfl, z, rfl, hO⟩; have hd := hO.has; have hz := (hO.keep V (by rw [World.size_alloc]; omega) hVP).trans (heap_gr ((Gr.refl w).alloc _) HV.out); have c2 := cell_of_heap hz 2 _ rfl; have c3 := cell_of_heap hz 3 _ rfl; have c4 := cell_of_heap hz 4 _ rfl; have c5 := cell_of_heap hz 5 _ rfl; have c6 := cell_of_heap hz 6 _ rfl; have c7 := cell_of_heap hz 7 _ rfl; have c8 := cell_of_heap hz 8 _ rfl; have c9 := cell_of_heap hz 9 _ rfl; have c10 := cell_of_heap hz 10 _ rfl; have c11 := cell_of_heap hz 11 _ rfl; have c12 := cell_of_heap hz 12 _ rfl; have c13 := cell_of_heap hz 13 _ rfl; have c14 := cell_of_heap hz 14 _ rfl; have c15 := cell_of_heap hz 15 _ rfl; have c16 := cell_of_heap hz 16 _ rfl; clear hz)
        | (go_at_call 98; refine (put16_calls (w.heap.size + 1) _ _ _ _ _ _ (by first | exact hd | assumption) (by simp only [List.length_cons]; omega) (by omega)).mono ?_; rintro e w2 ⟨rfl, rfl⟩)
        | (go_at_call 96; refine (put32_calls (w.heap.size + 1) _ _ _ _ _ _ (by first | exact hd | assumption) (by simp only [List.length_cons]; omega) (by omega)).mono ?_; rintro e w2 ⟨rfl, rfl⟩))
  go_region_held3 (fun w' => w'.cell? ⟨V, 8, none⟩ = some (.int .u8 0) ∧ w'.cell? ⟨w.heap.size + 1, 0, none⟩ = some (.int .u8 0)) (first | exact ⟨(rowW_cell_other hNE).trans c8, (rowW_cell (show Has _ _ from hd) 0).trans rfl⟩ | go_keep) (first
        | fail)
  go_wp2_with fail
  go_region_held3 (fun w' => w'.cell? ⟨V, 9, none⟩ = some (.int .u8 0) ∧ w'.cell? ⟨w.heap.size + 1, 1, none⟩ = some (.int .u8 0)) (first | exact ⟨(rowW_cell_other hNE).trans c9, (rowW_cell (show Has _ _ from hd) 1).trans rfl⟩ | go_keep) (first
        | fail)
  go_wp2_with fail
  go_region
  all_goals go_wp2_with fail
  all_goals go_region_held3 (fun w' => w'.cell? ⟨V, 11, none⟩ = some (.int .u16 pr)) (first | exact (rowW_cell_other hNE).trans c11 | go_keep) (first
        | (go_at_call 98; refine (put16_calls (w.heap.size + 1) _ _ _ _ _ _ (by first | exact hd | assumption) (by simp only [List.length_cons]; omega) (by omega)).mono ?_; rintro e w2 ⟨rfl, rfl⟩)
        | (go_at_call 96; refine (put32_calls (w.heap.size + 1) _ _ _ _ _ _ (by first | exact hd | assumption) (by simp only [List.length_cons]; omega) (by omega)).mono ?_; rintro e w2 ⟨rfl, rfl⟩))
  all_goals go_wp2_with fail
  all_goals go_ret
  all_goals refine ⟨rfl, ?_⟩
  all_goals exact Opened.fin0 (hd := gre ve pr false false false false su ky sq ak) (l := l) (k := 4) (N := (w.heap.size + 1)) (by repeat (first | exact hO | refine Opened.drew ?_ | refine Opened.drewN ?_ _)) (below_to ((Gr.refl w).alloc _).below hB) rfl (gre_bytes _ _ _ _ _ _ _ _ _ _) (by omega) (by omega) (by have f0 : (bi false * 32768 + bi false * 8192 + bi false * 4096 + bi false * 128 + ve) / 256 % 256 = 0 := (by simp only [bi]; simp; omega); have f1 : (bi false * 32768 + bi false * 8192 + bi false * 4096 + bi false * 128 + ve) % 256 = ve := (by simp only [bi]; simp; omega); have hF : sh (bi false * 32768 + bi false * 8192 + bi false * 4096 + bi false * 128 + ve) = [0, ve] := (by unfold sh; rw [f0, f1]); have hG : gre ve pr false false false false su ky sq ak = ap false (ap false (ap false (gsum false [sh (bi false * 32768 + bi false * 8192 + bi false * 4096 + bi false * 128 + ve), sh pr].flatten su) (lo ky)) (lo sq)) (lo ak) := rfl; rw [hG, hF]; rfl)

set_option maxRecDepth 100000 in
set_option maxHeartbeats 4000000 in
theorem greSer0001_calls (V P : Nat) (ve pr su ky sq ak : Int) (o1 o2 : Bool) (B : Nat) (l : List Int) (w : World) (hV : w.heap[V]? = some (.cells [.slice none 0 0, .slice none 0 0, .bool false, .bool false, .bool false, .bool false, .bool false, .bool true, .int .u8 0, .int .u8 0, .int .u8 ve, .int .u16 pr, .int .u16 su, .int .u16 0, .int .u32 ky, .int .u32 sq, .int .u32 ak, .pointer none].toArray 154 (0, 0))) (hC : Carries w B P l) (hVP : V ≠ P) (hB : B ≤ w.heap.size) (hl : l.length ≤ 2000) (hv : 0 ≤ ve ∧ ve ≤ 7) (ho : o2 = false) :
    Calls Try.prog 80 #[.pointer (some ⟨V, 0, none⟩), .iface 179 (.pointer (some ⟨P, 0, none⟩)), .agg #[.bool o1, .bool o2]] w fun e w' => e = .returned .nilIface ∧ Below B w w' ∧ Done w' P (gre ve pr false false false true su ky sq ak ++ l) := by
  have hVl : V < w.heap.size := (Array.getElem?_eq_some_iff.1 hV).1
  have hNE : V ≠ (w.heap.size + 1) := by omega
  have HV := Lib.hid hV
  clear hV
  have hmt := prepend_method
  obtain ⟨i0, hi, hz0, hz1, hz2⟩ := info_parts info_u8
  have s0 := fun K K' w' => at_lh (P := Try.prog) 22 5 i0 Try.underlying22 hi hz1 (w.heap.size + 1) 0 8 (l.length + 8) 2 4 2 (l.length + 6) 2 2 4 rfl rfl (by omega) (by omega) rfl (by omega) (by omega) rfl K K' w'
  have s1 := fun K K' w' => at_lh (P := Try.prog) 22 5 i0 Try.underlying22 hi hz1 (w.heap.size + 1) 0 8 (l.length + 8) 4 8 4 (l.length + 4) 4 4 8 rfl rfl (by omega) (by omega) rfl (by omega) (by omega) rfl K K' w'
  have x0 := fun K w' => at_i (P := Try.prog) 22 5 i0 Try.underlying22 hi hz1 (w.heap.size + 1) 0 8 (l.length + 8) 0 0 0 rfl (by omega) rfl K w'
  have x1 := fun K w' => at_i (P := Try.prog) 22 5 i0 Try.underlying22 hi hz1 (w.heap.size + 1) 0 8 (l.length + 8) 1 1 1 rfl (by omega) rfl K w'
  clear hi hz0 hz1 hz2
  subst ho
  have t6 : IntKind.i64.wrap 6 = 6 := by decide
  have t8 : IntKind.i64.wrap 8 = 8 := by decide
  have t12 : IntKind.i64.wrap 12 = 12 := by decide
  have t16 : IntKind.i64.wrap 16 = 16 := by decide
  have t20 : IntKind.i64.wrap 20 = 20 := by decide
  have b0 : bits .or .u8 0 0 = 0 := by decide
  have b1 : bits .or .u8 0 128 = 128 := by decide
  have b2 : bits .or .u8 128 0 = 128 := by decide
  have m2 := cell_of_heap HV.out 2 _ rfl
  have k2 := cell_of_heap (heap_gr ((Gr.refl w).alloc (.cells #[.bool o1, .bool false] 128)) HV.out) 2 _ rfl
  have m3 := cell_of_heap HV.out 3 _ rfl
  have k3 := cell_of_heap (heap_gr ((Gr.refl w).alloc (.cells #[.bool o1, .bool false] 128)) HV.out) 3 _ rfl
  have m4 := cell_of_heap HV.out 4 _ rfl
  have k4 := cell_of_heap (heap_gr ((Gr.refl w).alloc (.cells #[.bool o1, .bool false] 128)) HV.out) 4 _ rfl
  have m5 := cell_of_heap HV.out 5 _ rfl
  have k5 := cell_of_heap (heap_gr ((Gr.refl w).alloc (.cells #[.bool o1, .bool false] 128)) HV.out) 5 _ rfl
  have m7 := cell_of_heap HV.out 7 _ rfl
  have k7 := cell_of_heap (heap_gr ((Gr.refl w).alloc (.cells #[.bool o1, .bool false] 128)) HV.out) 7 _ rfl
  have b3 : bits .or .u8 128 ve = 128 + ve := by have := bor .u8 7 (x := 128) (y := ve) (by omega) (by omega) (by omega) (by omega) (by rw [max_u8]; omega); simpa using this
  go_enter Try.func80, Try.ntmps80
  go_wp2_with (first
        | (go_at_call 160; refine (prepC_calls P 8 (w.heap.size + 1) (.int .u8 0 :: .int .u8 0 :: .int .u8 0 :: .int .u8 0 :: .int .u8 0 :: .int .u8 0 :: .int .u8 0 :: .int .u8 0 :: bcells l) l B _ (hC.gr ((Gr.refl w).alloc _)) (World.size_alloc _ _).symm rfl (by omega) (by omega) (by omega) (by rw [World.size_alloc]; omega)).mono ?_; rintro e w1 ⟨rfl, z, rfl, hO⟩; have hd := hO.has; have hz := (hO.keep V (by rw [World.size_alloc]; omega) hVP).trans (heap_gr ((Gr.refl w).alloc _) HV.out); have c2 := cell_of_heap hz 2 _ rfl; have c3 := cell_of_heap hz 3 _ rfl; have c4 := cell_of_heap hz 4 _ rfl; have c5 := cell_of_heap hz 5 _ rfl; have c6 := cell_of_heap hz 6 _ rfl; have c7 := cell_of_heap hz 7 _ rfl; have c8 := cell_of_heap hz 8 _ rfl; have c9 := cell_of_heap hz 9 _ rfl; have c10 := cell_of_heap hz 10 _ rfl; have c11 := cell_of_heap hz 11 _ rfl; have c12 := cell_of_heap hz 12 _ rfl; have c13 := cell_of_heap hz 13 _ rfl; have c14 := cell_of_heap hz 14 _ rfl; have c15 := cell_of_heap hz 15 _ rfl; have c16 := cell_of_heap hz 16 _ rfl; clear hz)
        | (go_at_call 98; refine (put16_calls (w.heap.size + 1) _ _ _ _ _ _ (by first | exact hd | assumption) (by simp only [List.length_cons]; omega) (by omega)).mono ?_; rintro e w2 ⟨rfl, rfl⟩)
        | (go_at_call 96; refine (put32_calls (w.heap.size + 1) _ _ _ _ _ _ (by first | exact hd | assumption) (by simp only [List.length_cons]; omega) (by omega)).mono ?_; rintro e w2 ⟨rfl, rfl⟩))
  go_region_held3 (fun w' => w'.cell? ⟨V, 8, none⟩ = some (.int .u8 0) ∧ w'.cell? ⟨w.heap.size + 1, 0, none⟩ = some (.int .u8 0)) (first | exact ⟨(rowW_cell_other hNE).trans c8, (rowW_cell (show Has _ _ from hd) 0).trans rfl⟩ | go_keep) (first
        | fail)
  go_wp2_with fail
  go_region_held3 (fun w' => w'.cell? ⟨V, 9, none⟩ = some (.int .u8 0) ∧ w'.cell? ⟨w.heap.size + 1, 1, none⟩ = some (.int .u8 128)) (first | exact ⟨(rowW_cell_other hNE).trans c9, (rowW_cell (show Has _ _ from hd) 1).trans rfl⟩ | go_keep) (first
        | fail)
  go_wp2_with fail
  go_region
  all_goals go_wp2_with fail
  all_goals go_region_held3 (fun w' => w'.cell? ⟨V, 11, none⟩ = some (.int .u16 pr)) (first | exact (rowW_cell_other hNE).trans c11 | go_keep) (first
        | (go_at_call 98; refine (put16_calls (w.heap.size + 1) _ _ _ _ _ _ (by first | exact hd | assumption) (by simp only [List.length_cons]; omega) (by omega)).mono ?_; rintro e w2 ⟨rfl, rfl⟩)
        | (go_at_call 96; refine (put32_calls (w.heap.size + 1) _ _ _ _ _ _ (by first | exact hd | assumption) (by simp only [List.length_cons]; omega) (by omega)).mono ?_; rintro e w2 ⟨rfl, rfl⟩))
  all_goals go_wp2_with fail
  all_goals go_region_held3 (fun w' => w'.cell? ⟨V, 16, none⟩ = some (.int .u32 ak)) (first | exact (rowW_cell_other hNE).trans c16 | go_keep) (first
        | (go_at_call 98; refine (put16_calls (w.heap.size + 1) _ _ _ _ _ _ (by first | exact hd | assumption) (by simp only [List.length_cons]; omega) (by omega)).mono ?_; rintro e w2 ⟨rfl, rfl⟩)
        | (go_at_call 96; refine (put32_calls (w.heap.size + 1) _ _ _ _ _ _ (by first | exact hd | assumption) (by simp only [List.length_cons]; omega) (by omega)).mono ?_; rintro e w2 ⟨rfl, rfl⟩))
  all_goals go_wp2_with fail
  all_goals go_ret
  all_goals refine ⟨rfl, ?_⟩
  all_goals exact Opened.fin0 (hd := gre ve pr false false false true su ky sq ak) (l := l) (k := 8) (N := (w.heap.size + 1)) (by repeat (first | exact hO | refine Opened.drew ?_ | refine Opened.drewN ?_ _)) (below_to ((Gr.refl w).alloc _).below hB) rfl (gre_bytes _ _ _ _ _ _ _ _ _ _) (by omega) (by omega) (by have f0 : (bi false * 32768 + bi false * 8192 + bi false * 4096 + bi true * 128 + ve) / 256 % 256 = 0 := (by simp only [bi]; simp; omega); have f1 : (bi false * 32768 + bi false * 8192 + bi false * 4096 + bi true * 128 + ve) % 256 = 128 + ve := (by simp only [bi]; simp; omega); have gak : ak / 16777216 = ak / 65536 / 256 := (by omega); rw [gak]; have hF : sh (bi false * 32768 + bi false * 8192 + bi false * 4096 + bi true * 128 + ve) = [0, 128 + ve] := (by unfold sh; rw [f0, f1]); have hG : gre ve pr false false false true su ky sq ak = ap true (ap false (ap false (gsum false [sh (bi false * 32768 + bi false * 8192 + bi false * 4096 + bi true * 128 + ve), sh pr].flatten su) (lo ky)) (lo sq)) (lo ak) := rfl; rw [hG, hF]; rfl)

set_option maxRecDepth 100000 in
set_option maxHeartbeats 4000000 in
theorem greSer0010_calls (V P : Nat) (ve pr su ky sq ak : Int) (o1 o2 : Bool) (B : Nat) (l : List Int) (w : World) (hV : w.heap[V]? = some (.cells [.slice none 0 0, .slice none 0 0, .bool false, .bool false, .bool false, .bool true, .bool false, .bool false, .int .u8 0, .int .u8 0, .int .u8 ve, .int .u16 pr, .int .u16 su, .int .u16 0, .int .u32 ky, .int .u32 sq, .int .u32 ak, .pointer none].toArray 154 (0, 0))) (hC : Carries w B P l) (hVP : V ≠ P) (hB : B ≤ w.heap.size) (hl : l.length ≤ 2000) (hv : 0 ≤ ve ∧ ve ≤ 7) (ho : o2 = false) :
    Calls Try.prog 80 #[.pointer (some ⟨V, 0, none⟩), .iface 179 (.pointer (some ⟨P, 0, none⟩)), .agg #[.bool o1, .bool o2]] w fun e w' => e = .returned .nilIface ∧ Below B w w' ∧ Done w' P (gre ve pr false false true false su ky sq ak ++ l) := by
  have hVl : V < w.heap.size := (Array.getElem?_eq_some_iff.1 hV).1
  have hNE : V ≠ (w.heap.size + 1) := by omega
  have HV := Lib.hid hV
  clear hV
  have hmt := prepend_method
  obtain ⟨i0, hi, hz0, hz1, hz2⟩ := info_parts info_u8
  have s0 := fun K K' w' => at_lh (P := Try.prog) 22 5 i0 Try.underlying22 hi hz1 (w.heap.size + 1) 0 8 (l.length + 8) 2 4 2 (l.length + 6) 2 2 4 rfl rfl (by omega) (by omega) rfl (by omega) (by omega) rfl K K' w'
  have s1 := fun K K' w' => at_lh (P := Try.prog) 22 5 i0 Try.underlying22 hi hz1 (w.heap.size + 1) 0 8 (l.length + 8) 4 8 4 (l.length + 4) 4 4 8 rfl rfl (by omega) (by omega) rfl (by omega) (by omega) rfl K K' w'
  have x0 := fun K w' => at_i (P := Try.prog) 22 5 i0 Try.underlying22 hi hz1 (w.heap.size + 1) 0 8 (l.length + 8) 0 0 0 rfl (by omega) rfl K w'
  have x1 := fun K w' => at_i (P := Try.prog) 22 5 i0 Try.underlying22 hi hz1 (w.heap.size + 1) 0 8 (l.length + 8) 1 1 1 rfl (by omega) rfl K w'
  clear hi hz0 hz1 hz2
  subst ho
  have t6 : IntKind.i64.wrap 6 = 6 := by decide
  have t8 : IntKind.i64.wrap 8 = 8 := by decide
  have t12 : IntKind.i64.wrap 12 = 12 := by decide
  have t16 : IntKind.i64.wrap 16 = 16 := by decide
  have t20 : IntKind.i64.wrap 20 = 20 := by decide
  have b0 : bits .or .u8 0 16 = 16 := by decide
  have b1 : bits .or .u8 16 0 = 16 := by decide
  have b2 : bits .or .u8 0 0 = 0 := by decide
  have m2 := cell_of_heap HV.out 2 _ rfl
  have k2 := cell_of_heap (heap_gr ((Gr.refl w).alloc (.cells #[.bool o1, .bool false] 128)) HV.out) 2 _ rfl
  have m3 := cell_of_heap HV.out 3 _ rfl
  have k3 := cell_of_heap (heap_gr ((Gr.refl w).alloc (.cells #[.bool o1, .bool false] 128)) HV.out) 3 _ rfl
  have m4 := cell_of_heap HV.out 4 _ rfl
  have k4 := cell_of_heap (heap_gr ((Gr.refl w).alloc (.cells #[.bool o1, .bool false] 128)) HV.out) 4 _ rfl
  have m5 := cell_of_heap HV.out 5 _ rfl
  have k5 := cell_of_heap (heap_gr ((Gr.refl w).alloc (.cells #[.bool o1, .bool false] 128)) HV.out) 5 _ rfl
  have m7 := cell_of_heap HV.out 7 _ rfl
  have k7 := cell_of_heap (heap_gr ((Gr.refl w).alloc (.cells #[.bool o1, .bool false] 128)) HV.out) 7 _ rfl
  have b3 : bits .or .u8 0 ve = ve := by have := bor .u8 7 (x := 0) (y := ve) (by omega) (by omega) (by omega) (by omega) (by rw [max_u8]; omega); simpa using this
  go_enter Try.func80, Try.ntmps80
  go_wp2_with (first
        | (go_at_call 160; refine (prepC_calls P 8 (w.heap.size + 1) (.int .u8 0 :: .int .u8 0 :: .int .u8 0 :: .int .u8 0 :: .int .u8 0 :: .int .u8 0 :: .int .u8 0 :: .int .u8 0 :: bcells l) l B _ (hC.gr ((Gr.refl w).alloc _)) (World.size_alloc _ _).symm rfl (by omega) (by omega) (by omega) (by rw [World.size_alloc]; omega)).mono ?_; rintro e w1 ⟨rfl, z, rfl, hO⟩; have hd := hO.has; have hz := (hO.keep V (by rw [World.size_alloc]; omega) hVP).trans (heap_gr ((Gr.refl w).alloc _) HV.out); have c2 := cell_of_heap hz 2 _ rfl; have c3 := cell_of_heap hz 3 _ rfl; have c4 := cell_of_heap hz 4 _ rfl; have c5 := cell_of_heap hz 5 _ rfl; have c6 := cell_of_heap hz 6 _ rfl; have c7 := cell_of_heap hz 7 _ rfl; have c8 := cell_of_heap hz 8 _ rfl; have c9 := cell_of_heap hz 9 _ rfl; have c10 := cell_of_heap hz 10 _ rfl; have c11 := cell_of_heap hz 11 _ rfl; have c12 := cell_of_heap hz 12 _ rfl; have c13 := cell_of_heap hz 13 _ rfl; have c14 := cell_of_heap hz 14 _ rfl; have c15 := cell_of_heap hz 15 _ rfl; have c16 := cell_of_heap hz 16 _ rfl; clear hz)
        | (go_at_call 98; refine (put16_calls (w.heap.size + 1) _ _ _ _ _ _ (by first | exact hd | assumption) (by simp only [List.length_cons]; omega) (by omega)).mono ?_; rintro e w2 ⟨rfl, rfl⟩)
        | (go_at_call 96; refine (put32_calls (w.heap.size + 1) _ _ _ _ _ _ (by first | exact hd | assumption) (by simp only [List.length_cons]; omega) (by omega)).mono ?_; rintro e w2 ⟨rfl, rfl⟩))
  go_region_held3 (fun w' => w'.cell? ⟨V, 8, none⟩ = some (.int .u8 0) ∧ w'.cell? ⟨w.heap.size + 1, 0, none⟩ = some (.int .u8 16)) (first | exact ⟨(rowW_cell_other hNE).trans c8, (rowW_cell (show Has _ _ from hd) 0).trans rfl⟩ | go_keep) (first
        | fail)
  go_wp2_with fail
  go_region_held3 (fun w' => w'.cell? ⟨V, 9, none⟩ = some (.int .u8 0) ∧ w'.cell? ⟨w.heap.size + 1, 1, none⟩ = some (.int .u8 0)) (first | exact ⟨(rowW_cell_other hNE).trans c9, (rowW_cell (show Has _ _ from hd) 1).trans rfl⟩ | go_keep) (first
        | fail)
  go_wp2_with fail
  go_region
  all_goals go_wp2_with fail
  all_goals go_region_held3 (fun w' => w'.cell? ⟨V, 11, none⟩ = some (.int .u16 pr)) (first | exact (rowW_cell_other hNE).trans c11 | go_keep) (first
        | (go_at_call 98; refine (put16_calls (w.heap.size + 1) _ _ _ _ _ _ (by first | exact hd | assumption) (by simp only [List.length_cons]; omega) (by omega)).mono ?_; rintro e w2 ⟨rfl, rfl⟩)
        | (go_at_call 96; refine (put32_calls (w.heap.size + 1) _ _ _ _ _ _ (by first | exact hd | assumption) (by simp only [List.length_cons]; omega) (by omega)).mono ?_; rintro e w2 ⟨rfl, rfl⟩))
  all_goals go_wp2_with fail
  all_goals go_region_held3 (fun w' => w'.cell? ⟨V, 15, none⟩ = some (.int .u32 sq)) (first | exact (rowW_cell_other hNE).trans c15 | go_keep) (first
        | (go_at_call 98; refine (put16_calls (w.heap.size + 1) _ _ _ _ _ _ (by first | exact hd | assumption) (by simp only [List.length_cons]; omega) (by omega)).mono ?_; rintro e w2 ⟨rfl, rfl⟩)
        | (go_at_call 96; refine (put32_calls (w.heap.size + 1) _ _ _ _ _ _ (by first | exact hd | assumption) (by simp only [List.length_cons]; omega) (by omega)).mono ?_; rintro e w2 ⟨rfl, rfl⟩))
  all_goals go_wp2_with fail
  all_goals go_ret
  all_goals refine ⟨rfl, ?_⟩
  all_goals exact Opened.fin0 (hd := gre ve pr false false true false su ky sq ak) (l := l) (k := 8) (N := (w.heap.size + 1)) (by repeat (first | exact hO | refine Opened.drew ?_ | refine Opened.drewN ?_ _)) (below_to ((Gr.refl w).alloc _).below hB) rfl (gre_bytes _ _ _ _ _ _ _ _ _ _) (by omega) (by omega) (by have f0 : (bi false * 32768 + bi false * 8192 + bi true * 4096 + bi false * 128 + ve) / 256 % 256 = 16 := (by simp only [bi]; simp; omega); have f1 : (bi false * 32768 + bi false * 8192 + bi true * 4096 + bi false * 128 + ve) % 256 = ve := (by simp only [bi]; simp; omega); have gsq : sq / 16777216 = sq / 65536 / 256 := (by omega); rw [gsq]; have hF : sh (bi false * 32768 + bi false * 8192 + bi true * 4096 + bi false * 128 + ve) = [16, ve] := (by unfold sh; rw [f0, f1]); have hG : gre ve pr false false true false su ky sq ak = ap false (ap true (ap false (gsum false [sh (bi false * 32768 + bi false * 8192 + bi true * 4096 + bi false * 128 + ve), sh pr].flatten su) (lo ky)) (lo sq)) (lo ak) := rfl; rw [hG, hF]; rfl)

set_option maxRecDepth 100000 in
set_option maxHeartbeats 4000000 in
theorem greSer0011_calls (V P : Nat) (ve pr su ky sq ak : Int) (o1 o2 : Bool) (B : Nat) (l : List Int) (w : World) (hV : w.heap[V]? = some (.cells [.slice none 0 0, .slice none 0 0, .bool false, .bool false, .bool false, .bool true, .bool false, .bool true, .int .u8 0, .int .u8 0, .int .u8 ve, .int .u16 pr, .int .u16 su, .int .u16 0, .int .u32 ky, .int .u32 sq, .int .u32 ak, .pointer none].toArray 154 (0, 0))) (hC : Carries w B P l) (hVP : V ≠ P) (hB : B ≤ w.heap.size) (hl : l.length ≤ 2000) (hv : 0 ≤ ve ∧ ve ≤ 7) (ho : o2 = false) :
    Calls Try.prog 80 #[.pointer (some ⟨V, 0, none⟩), .iface 179 (.pointer (some ⟨P, 0, none⟩)), .agg #[.bool o1, .bool o2]] w fun e w' => e = .returned .nilIface ∧ Below B w w' ∧ Done w' P (gre ve pr false false true true su ky sq ak ++ l) := by
  have hVl : V < w.heap.size := (Array.getElem?_eq_some_iff.1 hV).1
  have hNE : V ≠ (w.heap.size + 1) := by omega
  have HV := Lib.hid hV
  clear hV
  have hmt := prepend_method
  obtain ⟨i0, hi, hz0, hz1, hz2⟩ := info_parts info_u8
  have s0 := fun K K' w' => at_lh (P := Try.prog) 22 5 i0 Try.underlying22 hi hz1 (w.heap.size + 1) 0 12 (l.length + 12) 2 4 2 (l.length + 10) 2 2 4 rfl rfl (by omega) (by omega) rfl (by omega) (by omega) rfl K K' w'
  have s1 := fun K K' w' => at_lh (P := Try.prog) 22 5 i0 Try.underlying22 hi hz1 (w.heap.size + 1) 0 12 (l.length + 12) 4 8 4 (l.length + 8) 4 4 8 rfl rfl (by omega) (by omega) rfl (by omega) (by omega) rfl K K' w'
  have s2 := fun K K' w' => at_lh (P := Try.prog) 22 5 i0 Try.underlying22 hi hz1 (w.heap.size + 1) 0 12 (l.length + 12) 8 12 4 (l.length + 4) 8 8 12 rfl rfl (by omega) (by omega) rfl (by omega) (by omega) rfl K K' w'
  have x0 := fun K w' => at_i (P := Try.prog) 22 5 i0 Try.underlying22 hi hz1 (w.heap.size + 1) 0 12 (l.length + 12) 0 0 0 rfl (by omega) rfl K w'
  have x1 := fun K w' => at_i (P := Try.prog) 22 5 i0 Try.underlying22 hi hz1 (w.heap.size + 1) 0 12 (l.length + 12) 1 1 1 rfl (by omega) rfl K w'
  clear hi hz0 hz1 hz2
  subst ho
  have t6 : IntKind.i64.wrap 6 = 6 := by decide
  have t8 : IntKind.i64.wrap 8 = 8 := by decide
  have t12 : IntKind.i64.wrap 12 = 12 := by decide
  have t16 : IntKind.i64.wrap 16 = 16 := by decide
  have t20 : IntKind.i64.wrap 20 = 20 := by decide
  have b0 : bits .or .u8 0 16 = 16 := by decide
  have b1 : bits .or .u8 16 0 = 16 := by decide
  have b2 : bits .or .u8 0 128 = 128 := by decide
  have b3 : bits .or .u8 128 0 = 128 := by decide
  have m2 := cell_of_heap HV.out 2 _ rfl
  have k2 := cell_of_heap (heap_gr ((Gr.refl w).alloc (.cells #[.bool o1, .bool false] 128)) HV.out) 2 _ rfl
  have m3 := cell_of_heap HV.out 3 _ rfl
  have k3 := cell_of_heap (heap_gr ((Gr.refl w).alloc (.cells #[.bool o1, .bool false] 128)) HV.out) 3 _ rfl
  have m4 := cell_of_heap HV.out 4 _ rfl
  have k4 := cell_of_heap (heap_gr ((Gr.refl w).alloc (.cells #[.bool o1, .bool false] 128)) HV.out) 4 _ rfl
  have m5 := cell_of_heap HV.out 5 _ rfl
  have k5 := cell_of_heap (heap_gr ((Gr.refl w).alloc (.cells #[.bool o1, .bool false] 128)) HV.out) 5 _ rfl
  have m7 := cell_of_heap HV.out 7 _ rfl
  have k7 := cell_of_heap (heap_gr ((Gr.refl w).alloc (.cells #[.bool o1, .bool false] 128)) HV.out) 7 _ rfl
  have b4 : bits .or .u8 128 ve = 128 + ve := by have := bor .u8 7 (x := 128) (y := ve) (by omega) (by omega) (by omega) (by omega) (by rw [max_u8]; omega); simpa using this
  go_enter Try.func80, Try.ntmps80
  go_wp2_with (first
        | (go_at_call 160; refine (prepC_calls P 12 (w.heap.size + 1) (.int .u8 0 :: .int .u8 0 :: .int .u8 0 :: .int .u8 0 :: .int .u8 0 :: .int .u8 0 :: .int .u8 0 :: .int .u8 0 :: .int .u8 0 :: .int .u8 0 :: .int .u8 0 :: .int .u8 0 :: bcells l) l B _ (hC.gr ((Gr.refl w).alloc _)) (World.size_alloc _ _).symm rfl (by omega) (by omega) (by omega) (by rw [World.size_alloc]; omega)).mono ?_; rintro e w1 ⟨rfl, z, rfl, hO⟩; have hd := hO.has; have hz := (hO.keep V (by rw [World.size_alloc]; omega) hVP).trans (heap_gr ((Gr.refl w).alloc _) HV.out); have c2 := cell_of_heap hz 2 _ rfl; have c3 := cell_of_heap hz 3 _ rfl; have c4 := cell_of_heap hz 4 _ rfl; have c5 := cell_of_heap hz 5 _ rfl; have c6 := cell_of_heap hz 6 _ rfl; have c7 := cell_of_heap hz 7 _ rfl; have c8 := cell_of_heap hz 8 _ rfl; have c9 := cell_of_heap hz 9 _ rfl; have c10 := cell_of_heap hz 10 _ rfl; have c11 := cell_of_heap hz 11 _ rfl; have c12 := cell_of_heap hz 12 _ rfl; have c13 := cell_of_heap hz 13 _ rfl; have c14 := cell_of_heap hz 14 _ rfl; have c15 := cell_of_heap hz 15 _ rfl; have c16 := cell_of_heap hz 16 _ rfl; clear hz)
        | (go_at_call 98; refine (put16_calls (w.heap.size + 1) _ _ _ _ _ _ (by first | exact hd | assumption) (by simp only [List.length_cons]; omega) (by omega)).mono ?_; rintro e w2 ⟨rfl, rfl⟩)
        | (go_at_call 96; refine (put32_calls (w.heap.size + 1) _ _ _ _ _ _ (by first | exact hd | assumption) (by simp only [List.length_cons]; omega) (by omega)).mono ?_; rintro e w2 ⟨rfl, rfl⟩))
  go_region_held3 (fun w' => w'.cell? ⟨V, 8, none⟩ = some (.int .u8 0) ∧ w'.cell? ⟨w.heap.size + 1, 0, none⟩ = some (.int .u8 16)) (first | exact ⟨(rowW_cell_other hNE).trans c8, (rowW_cell (show Has _ _ from hd) 0).trans rfl⟩ | go_keep) (first
        | fail)
  go_wp2_with fail
  go_region_held3 (fun w' => w'.cell? ⟨V, 9, none⟩ = some (.int .u8 0) ∧ w'.cell? ⟨w.heap.size + 1, 1, none⟩ = some (.int .u8 128)) (first | exact ⟨(rowW_cell_other hNE).trans c9, (rowW_cell (show Has _ _ from hd) 1).trans rfl⟩ | go_keep) (first
        | fail)
  go_wp2_with fail
  go_region
  all_goals go_wp2_with fail
  all_goals go_region_held3 (fun w' => w'.cell? ⟨V, 11, none⟩ = some (.int .u16 pr)) (first | exact (rowW_cell_other hNE).trans c11 | go_keep) (first
        | (go_at_call 98; refine (put16_calls (w.heap.size + 1) _ _ _ _ _ _ (by first | exact hd | assumption) (by simp only [List.length_cons]; omega) (by omega)).mono ?_; rintro e w2 ⟨rfl, rfl⟩)
        | (go_at_call 96; refine (put32_calls (w.heap.size + 1) _ _ _ _ _ _ (by first | exact hd | assumption) (by simp only [List.length_cons]; omega) (by omega)).mono ?_; rintro e w2 ⟨rfl, rfl⟩))
  all_goals go_wp2_with fail
  all_goals go_region_held3 (fun w' => w'.cell? ⟨V, 15, none⟩ = some (.int .u32 sq)) (first | exact (rowW_cell_other hNE).trans c15 | go_keep) (first
        | (go_at_call 98; refine (put16_calls (w.heap.size + 1) _ _ _ _ _ _ (by first | exact hd | assumption) (by simp only [List.length_cons]; omega) (by omega)).mono ?_; rintro e w2 ⟨rfl, rfl⟩)
        | (go_at_call 96; refine (put32_calls (w.heap.size + 1) _ _ _ _ _ _ (by first | exact hd | assumption) (by simp only [List.length_cons]; omega) (by omega)).mono ?_; rintro e w2 ⟨rfl, rfl⟩))
  all_goals go_wp2_with fail
  all_goals go_region_held3 (fun w' => w'.cell? ⟨V, 16, none⟩ = some (.int .u32 ak)) (first | exact (rowW_cell_other hNE).trans c16 | go_keep) (first
        | (go_at_call 98; refine (put16_calls (w.heap.size + 1) _ _ _ _ _ _ (by first | exact hd | assumption) (by simp only [List.length_cons]; omega) (by omega)).mono ?_; rintro e w2 ⟨rfl, rfl⟩)
        | (go_at_call 96; refine (put32_calls (w.heap.size + 1) _ _ _ _ _ _ (by first | exact hd | assumption) (by simp only [List.length_cons]; omega) (by omega)).mono ?_; rintro e w2 ⟨rfl, rfl⟩))
  all_goals go_wp2_with fail
  all_goals go_ret
  all_goals refine ⟨rfl, ?_⟩
  all_goals exact Opened.fin0 (hd := gre ve pr false false true true su ky sq ak) (l := l) (k := 12) (N := (w.heap.size + 1)) (by repeat (first | exact hO | refine Opened.drew ?_ | refine Opened.drewN ?_ _)) (below_to ((Gr.refl w).alloc _).below hB) rfl (gre_bytes _ _ _ _ _ _ _ _ _ _) (by omega) (by omega) (by have f0 : (bi false * 32768 + bi false * 8192 + bi true * 4096 + bi true * 128 + ve) / 256 % 256 = 16 := (by simp only [bi]; simp; omega); have f1 : (bi false * 32768 + bi false * 8192 + bi true * 4096 + bi true * 128 + ve) % 256 = 128 + ve := (by simp only [bi]; simp; omega); have gsq : sq / 16777216 = sq / 65536 / 256 := (by omega); have gak : ak / 16777216 = ak / 65536 / 256 := (by omega); rw [gsq, gak]; have hF : sh (bi false * 32768 + bi false * 8192 + bi true * 4096 + bi true * 128 + ve) = [16, 128 + ve] := (by unfold sh; rw [f0, f1]); have hG : gre ve pr false false true true su ky sq ak = ap true (ap true (ap false (gsum false [sh (bi false * 32768 + bi false * 8192 + bi true * 4096 + bi true * 128 + ve), sh pr].flatten su) (lo ky)) (lo sq)) (lo ak) := rfl; rw [hG, hF]; rfl)

end Go.Proofs.Ytbojideclbjlgaa
