/-
  A header of a virtual extensible network, written.
-/
import Derived.Test.YtbojideclbjlgaaSer
import Derived.Test.YtbojideclbjlgaaVXLANSpec
import Derived.Deep.QuietTactic
import Derived.BigQuiet
namespace Go.Proofs.Ytbojideclbjlgaa
open Go.RowKit

set_option maxRecDepth 100000 in
set_option maxHeartbeats 4000000 in
theorem vxlanSer_calls (V P : Nat) (v : Bool) (n : Int) (po st : Bool) (g : Int) (o1 o2 : Bool) (B : Nat) (l : List Int) (w : World) (hV : w.heap[V]? = some (.cells [.slice none 0 0, .slice none 0 0, .bool v, .int .u32 n, .bool po, .bool st, .bool false, .int .u16 g].toArray 141 (0, 0))) (hC : Carries w B P l) (hVP : V ≠ P) (hB : B ≤ w.heap.size) (hl : l.length ≤ 2000) (hn : 0 ≤ n ∧ n ≤ 16777215) :
    Calls Try.prog 75 #[.pointer (some ⟨V, 0, none⟩), .iface 179 (.pointer (some ⟨P, 0, none⟩)), .agg #[.bool o1, .bool o2]] w fun e w' => e = .returned .nilIface ∧ Below B w w' ∧ Done w' P (vxlan v n po st false g ++ l) := by
  have hVl : V < w.heap.size := (Array.getElem?_eq_some_iff.1 hV).1
  have hNE : V ≠ (w.heap.size + 1) := by omega
  have HV := Lib.hid hV
  clear hV
  have hmt := prepend_method
  obtain ⟨i0, hi, hz0, hz1, hz2⟩ := info_parts info_u8
  have s0 := fun K K' w' => at_lh (P := Try.prog) 22 5 i0 Try.underlying22 hi hz1 (w.heap.size + 1) 0 8 (l.length + 8) 2 4 2 (l.length + 6) 2 2 4 rfl rfl (by omega) (by omega) rfl (by omega) (by omega) rfl K K' w'
  have s1 := fun K K' w' => at_lh (P := Try.prog) 22 5 i0 Try.underlying22 hi hz1 (w.heap.size + 1) 0 8 (l.length + 8) 4 8 4 (l.length + 4) 4 4 8 rfl rfl (by omega) (by omega) rfl (by omega) (by omega) rfl K K' w'
  have x0 := fun K w' => at_i (P := Try.prog) 22 5 i0 Try.underlying22 hi hz1 (w.heap.size + 1) 0 8 (l.length + 8) 0 0 0 rfl (by omega) rfl K w'
  have x1 := fun K w' => at_i (P := Try.prog) 22 5 i0 Try.underlying22 hi hz1 (w.heap.size + 1) 0 8 (l.length + 8) 1 1 1 rfl (by omega) rfl K w'
  clear hi hz0 hz1 hz2
  have b1 : bits .or .u8 0 8 = 8 := by decide
  have b2 : bits .or .u8 8 128 = 136 := by decide
  have b3 : bits .or .u8 0 128 = 128 := by decide
  have b4 : bits .or .u8 0 64 = 64 := by decide
  have q0 : IntKind.u32.wrap (n * 256) = n * 256 := by simp [IntKind.wrap, IntKind.bits, IntKind.signed]; omega
  have d0 : decide (16777216 ≤ n) = false := by simp; omega
  cases v with
  | false =>
    cases po with
    | false =>
      cases st with
      | false =>
        go_enter Try.func75, Try.ntmps75
        go_wp2_with (first
              | (go_at_call 160; refine (prepC_calls P 8 (w.heap.size + 1) (.int .u8 0 :: .int .u8 0 :: .int .u8 0 :: .int .u8 0 :: .int .u8 0 :: .int .u8 0 :: .int .u8 0 :: .int .u8 0 :: bcells l) l B _ (hC.gr ((Gr.refl w).alloc _)) (World.size_alloc _ _).symm rfl (by omega) (by omega) (by omega) (by rw [World.size_alloc]; omega)).mono ?_; rintro e w1 ⟨rfl, z, rfl, hO⟩; have hd := hO.has; have hz := (hO.keep V (by rw [World.size_alloc]; omega) hVP).trans (heap_gr ((Gr.refl w).alloc _) HV.out); have c2 := cell_of_heap hz 2 _ rfl; have c3 := cell_of_heap hz 3 _ rfl; have c4 := cell_of_heap hz 4 _ rfl; have c5 := cell_of_heap hz 5 _ rfl; have c6 := cell_of_heap hz 6 _ rfl; have c7 := cell_of_heap hz 7 _ rfl; clear hz)
              | (go_at_call 98; refine (put16_calls (w.heap.size + 1) _ _ _ _ _ _ (by first | exact hd | assumption) (by simp only [List.length_cons]; omega) (by omega)).mono ?_; rintro e w2 ⟨rfl, rfl⟩)
              | (go_at_call 96; refine (put32_calls (w.heap.size + 1) _ _ _ _ _ _ (by first | exact hd | assumption) (by simp only [List.length_cons]; omega) (by omega)).mono ?_; rintro e w2 ⟨rfl, rfl⟩))
        go_region_held3 (fun w' => w'.cell? ⟨V, 7, none⟩ = some (.int .u16 g)) (first | exact (rowW_cell_other hNE).trans c7 | go_keep) (first
              | (go_at_call 98; refine (put16_calls (w.heap.size + 1) _ _ _ _ _ _ (by first | exact hd | assumption) (by simp only [List.length_cons]; omega) (by omega)).mono ?_; rintro e w2 ⟨rfl, rfl⟩)
              | (go_at_call 96; refine (put32_calls (w.heap.size + 1) _ _ _ _ _ _ (by first | exact hd | assumption) (by simp only [List.length_cons]; omega) (by omega)).mono ?_; rintro e w2 ⟨rfl, rfl⟩))
        go_wp2_with fail
        go_region_held3 (fun w' => w'.cell? ⟨V, 3, none⟩ = some (.int .u32 n)) (first | exact (rowW_cell_other hNE).trans c3 | go_keep) (first
              | (go_at_call 98; refine (put16_calls (w.heap.size + 1) _ _ _ _ _ _ (by first | exact hd | assumption) (by simp only [List.length_cons]; omega) (by omega)).mono ?_; rintro e w2 ⟨rfl, rfl⟩)
              | (go_at_call 96; refine (put32_calls (w.heap.size + 1) _ _ _ _ _ _ (by first | exact hd | assumption) (by simp only [List.length_cons]; omega) (by omega)).mono ?_; rintro e w2 ⟨rfl, rfl⟩))
        go_wp2
        go_ret
        refine ⟨rfl, ?_⟩
        exact Opened.fin0 (hd := vxlan false n false false false g) (l := l) (k := 8) (N := (w.heap.size + 1)) (by repeat (first | exact hO | refine Opened.drew ?_ | refine Opened.drewN ?_ _)) (below_to ((Gr.refl w).alloc _).below hB) rfl (by unfold vxlan; refine AllB.flat ?_; intro x hx; simp only [List.mem_cons, List.not_mem_nil, or_false] at hx; rcases hx with rfl | rfl | rfl; exact two_bytes _ _ (by decide) (by decide); exact sh_bytes _; exact lo_bytes _) (by omega) (by omega) (by have e1 : n * 256 / 16777216 = n * 256 / 65536 / 256 := (by omega); rw [e1]; simp [vxlan, lo, sh, bi, bcells])
      | true =>
        go_enter Try.func75, Try.ntmps75
        go_wp2_with (first
              | (go_at_call 160; refine (prepC_calls P 8 (w.heap.size + 1) (.int .u8 0 :: .int .u8 0 :: .int .u8 0 :: .int .u8 0 :: .int .u8 0 :: .int .u8 0 :: .int .u8 0 :: .int .u8 0 :: bcells l) l B _ (hC.gr ((Gr.refl w).alloc _)) (World.size_alloc _ _).symm rfl (by omega) (by omega) (by omega) (by rw [World.size_alloc]; omega)).mono ?_; rintro e w1 ⟨rfl, z, rfl, hO⟩; have hd := hO.has; have hz := (hO.keep V (by rw [World.size_alloc]; omega) hVP).trans (heap_gr ((Gr.refl w).alloc _) HV.out); have c2 := cell_of_heap hz 2 _ rfl; have c3 := cell_of_heap hz 3 _ rfl; have c4 := cell_of_heap hz 4 _ rfl; have c5 := cell_of_heap hz 5 _ rfl; have c6 := cell_of_heap hz 6 _ rfl; have c7 := cell_of_heap hz 7 _ rfl; clear hz)
              | (go_at_call 98; refine (put16_calls (w.heap.size + 1) _ _ _ _ _ _ (by first | exact hd | assumption) (by simp only [List.length_cons]; omega) (by omega)).mono ?_; rintro e w2 ⟨rfl, rfl⟩)
              | (go_at_call 96; refine (put32_calls (w.heap.size + 1) _ _ _ _ _ _ (by first | exact hd | assumption) (by simp only [List.length_cons]; omega) (by omega)).mono ?_; rintro e w2 ⟨rfl, rfl⟩))
        go_region_held3 (fun w' => w'.cell? ⟨V, 7, none⟩ = some (.int .u16 g)) (first | exact (rowW_cell_other hNE).trans c7 | go_keep) (first
              | (go_at_call 98; refine (put16_calls (w.heap.size + 1) _ _ _ _ _ _ (by first | exact hd | assumption) (by simp only [List.length_cons]; omega) (by omega)).mono ?_; rintro e w2 ⟨rfl, rfl⟩)
              | (go_at_call 96; refine (put32_calls (w.heap.size + 1) _ _ _ _ _ _ (by first | exact hd | assumption) (by simp only [List.length_cons]; omega) (by omega)).mono ?_; rintro e w2 ⟨rfl, rfl⟩))
        go_wp2_with fail
        go_region_held3 (fun w' => w'.cell? ⟨V, 3, none⟩ = some (.int .u32 n)) (first | exact (rowW_cell_other hNE).trans c3 | go_keep) (first
              | (go_at_call 98; refine (put16_calls (w.heap.size + 1) _ _ _ _ _ _ (by first | exact hd | assumption) (by simp only [List.length_cons]; omega) (by omega)).mono ?_; rintro e w2 ⟨rfl, rfl⟩)
              | (go_at_call 96; refine (put32_calls (w.heap.size + 1) _ _ _ _ _ _ (by first | exact hd | assumption) (by simp only [List.length_cons]; omega) (by omega)).mono ?_; rintro e w2 ⟨rfl, rfl⟩))
        go_wp2
        go_ret
        refine ⟨rfl, ?_⟩
        exact Opened.fin0 (hd := vxlan false n false true false g) (l := l) (k := 8) (N := (w.heap.size + 1)) (by repeat (first | exact hO | refine Opened.drew ?_ | refine Opened.drewN ?_ _)) (below_to ((Gr.refl w).alloc _).below hB) rfl (by unfold vxlan; refine AllB.flat ?_; intro x hx; simp only [List.mem_cons, List.not_mem_nil, or_false] at hx; rcases hx with rfl | rfl | rfl; exact two_bytes _ _ (by decide) (by decide); exact sh_bytes _; exact lo_bytes _) (by omega) (by omega) (by have e1 : n * 256 / 16777216 = n * 256 / 65536 / 256 := (by omega); rw [e1]; simp [vxlan, lo, sh, bi, bcells])
    | true =>
      cases st with
      | false =>
        go_enter Try.func75, Try.ntmps75
        go_wp2_with (first
              | (go_at_call 160; refine (prepC_calls P 8 (w.heap.size + 1) (.int .u8 0 :: .int .u8 0 :: .int .u8 0 :: .int .u8 0 :: .int .u8 0 :: .int .u8 0 :: .int .u8 0 :: .int .u8 0 :: bcells l) l B _ (hC.gr ((Gr.refl w).alloc _)) (World.size_alloc _ _).symm rfl (by omega) (by omega) (by omega) (by rw [World.size_alloc]; omega)).mono ?_; rintro e w1 ⟨rfl, z, rfl, hO⟩; have hd := hO.has; have hz := (hO.keep V (by rw [World.size_alloc]; omega) hVP).trans (heap_gr ((Gr.refl w).alloc _) HV.out); have c2 := cell_of_heap hz 2 _ rfl; have c3 := cell_of_heap hz 3 _ rfl; have c4 := cell_of_heap hz 4 _ rfl; have c5 := cell_of_heap hz 5 _ rfl; have c6 := cell_of_heap hz 6 _ rfl; have c7 := cell_of_heap hz 7 _ rfl; clear hz)
              | (go_at_call 98; refine (put16_calls (w.heap.size + 1) _ _ _ _ _ _ (by first | exact hd | assumption) (by simp only [List.length_cons]; omega) (by omega)).mono ?_; rintro e w2 ⟨rfl, rfl⟩)
              | (go_at_call 96; refine (put32_calls (w.heap.size + 1) _ _ _ _ _ _ (by first | exact hd | assumption) (by simp only [List.length_cons]; omega) (by omega)).mono ?_; rintro e w2 ⟨rfl, rfl⟩))
        go_region_held3 (fun w' => w'.cell? ⟨V, 7, none⟩ = some (.int .u16 g)) (first | exact (rowW_cell_other hNE).trans c7 | go_keep) (first
              | (go_at_call 98; refine (put16_calls (w.heap.size + 1) _ _ _ _ _ _ (by first | exact hd | assumption) (by simp only [List.length_cons]; omega) (by omega)).mono ?_; rintro e w2 ⟨rfl, rfl⟩)
              | (go_at_call 96; refine (put32_calls (w.heap.size + 1) _ _ _ _ _ _ (by first | exact hd | assumption) (by simp only [List.length_cons]; omega) (by omega)).mono ?_; rintro e w2 ⟨rfl, rfl⟩))
        go_wp2_with fail
        go_region_held3 (fun w' => w'.cell? ⟨V, 3, none⟩ = some (.int .u32 n)) (first | exact (rowW_cell_other hNE).trans c3 | go_keep) (first
              | (go_at_call 98; refine (put16_calls (w.heap.size + 1) _ _ _ _ _ _ (by first | exact hd | assumption) (by simp only [List.length_cons]; omega) (by omega)).mono ?_; rintro e w2 ⟨rfl, rfl⟩)
              | (go_at_call 96; refine (put32_calls (w.heap.size + 1) _ _ _ _ _ _ (by first | exact hd | assumption) (by simp only [List.length_cons]; omega) (by omega)).mono ?_; rintro e w2 ⟨rfl, rfl⟩))
        go_wp2
        go_ret
        refine ⟨rfl, ?_⟩
        exact Opened.fin0 (hd := vxlan false n true false false g) (l := l) (k := 8) (N := (w.heap.size + 1)) (by repeat (first | exact hO | refine Opened.drew ?_ | refine Opened.drewN ?_ _)) (below_to ((Gr.refl w).alloc _).below hB) rfl (by unfold vxlan; refine AllB.flat ?_; intro x hx; simp only [List.mem_cons, List.not_mem_nil, or_false] at hx; rcases hx with rfl | rfl | rfl; exact two_bytes _ _ (by decide) (by decide); exact sh_bytes _; exact lo_bytes _) (by omega) (by omega) (by have e1 : n * 256 / 16777216 = n * 256 / 65536 / 256 := (by omega); rw [e1]; simp [vxlan, lo, sh, bi, bcells])
      | true =>
        go_enter Try.func75, Try.ntmps75
        go_wp2_with (first
              | (go_at_call 160; refine (prepC_calls P 8 (w.heap.size + 1) (.int .u8 0 :: .int .u8 0 :: .int .u8 0 :: .int .u8 0 :: .int .u8 0 :: .int .u8 0 :: .int .u8 0 :: .int .u8 0 :: bcells l) l B _ (hC.gr ((Gr.refl w).alloc _)) (World.size_alloc _ _).symm rfl (by omega) (by omega) (by omega) (by rw [World.size_alloc]; omega)).mono ?_; rintro e w1 ⟨rfl, z, rfl, hO⟩; have hd := hO.has; have hz := (hO.keep V (by rw [World.size_alloc]; omega) hVP).trans (heap_gr ((Gr.refl w).alloc _) HV.out); have c2 := cell_of_heap hz 2 _ rfl; have c3 := cell_of_heap hz 3 _ rfl; have c4 := cell_of_heap hz 4 _ rfl; have c5 := cell_of_heap hz 5 _ rfl; have c6 := cell_of_heap hz 6 _ rfl; have c7 := cell_of_heap hz 7 _ rfl; clear hz)
              | (go_at_call 98; refine (put16_calls (w.heap.size + 1) _ _ _ _ _ _ (by first | exact hd | assumption) (by simp only [List.length_cons]; omega) (by omega)).mono ?_; rintro e w2 ⟨rfl, rfl⟩)
              | (go_at_call 96; refine (put32_calls (w.heap.size + 1) _ _ _ _ _ _ (by first | exact hd | assumption) (by simp only [List.length_cons]; omega) (by omega)).mono ?_; rintro e w2 ⟨rfl, rfl⟩))
        go_region_held3 (fun w' => w'.cell? ⟨V, 7, none⟩ = some (.int .u16 g)) (first | exact (rowW_cell_other hNE).trans c7 | go_keep) (first
              | (go_at_call 98; refine (put16_calls (w.heap.size + 1) _ _ _ _ _ _ (by first | exact hd | assumption) (by simp only [List.length_cons]; omega) (by omega)).mono ?_; rintro e w2 ⟨rfl, rfl⟩)
              | (go_at_call 96; refine (put32_calls (w.heap.size + 1) _ _ _ _ _ _ (by first | exact hd | assumption) (by simp only [List.length_cons]; omega) (by omega)).mono ?_; rintro e w2 ⟨rfl, rfl⟩))
        go_wp2_with fail
        go_region_held3 (fun w' => w'.cell? ⟨V, 3, none⟩ = some (.int .u32 n)) (first | exact (rowW_cell_other hNE).trans c3 | go_keep) (first
              | (go_at_call 98; refine (put16_calls (w.heap.size + 1) _ _ _ _ _ _ (by first | exact hd | assumption) (by simp only [List.length_cons]; omega) (by omega)).mono ?_; rintro e w2 ⟨rfl, rfl⟩)
              | (go_at_call 96; refine (put32_calls (w.heap.size + 1) _ _ _ _ _ _ (by first | exact hd | assumption) (by simp only [List.length_cons]; omega) (by omega)).mono ?_; rintro e w2 ⟨rfl, rfl⟩))
        go_wp2
        go_ret
        refine ⟨rfl, ?_⟩
        exact Opened.fin0 (hd := vxlan false n true true false g) (l := l) (k := 8) (N := (w.heap.size + 1)) (by repeat (first | exact hO | refine Opened.drew ?_ | refine Opened.drewN ?_ _)) (below_to ((Gr.refl w).alloc _).below hB) rfl (by unfold vxlan; refine AllB.flat ?_; intro x hx; simp only [List.mem_cons, List.not_mem_nil, or_false] at hx; rcases hx with rfl | rfl | rfl; exact two_bytes _ _ (by decide) (by decide); exact sh_bytes _; exact lo_bytes _) (by omega) (by omega) (by have e1 : n * 256 / 16777216 = n * 256 / 65536 / 256 := (by omega); rw [e1]; simp [vxlan, lo, sh, bi, bcells])
  | true =>
    cases po with
    | false =>
      cases st with
      | false =>
        go_enter Try.func75, Try.ntmps75
        go_wp2_with (first
              | (go_at_call 160; refine (prepC_calls P 8 (w.heap.size + 1) (.int .u8 0 :: .int .u8 0 :: .int .u8 0 :: .int .u8 0 :: .int .u8 0 :: .int .u8 0 :: .int .u8 0 :: .int .u8 0 :: bcells l) l B _ (hC.gr ((Gr.refl w).alloc _)) (World.size_alloc _ _).symm rfl (by omega) (by omega) (by omega) (by rw [World.size_alloc]; omega)).mono ?_; rintro e w1 ⟨rfl, z, rfl, hO⟩; have hd := hO.has; have hz := (hO.keep V (by rw [World.size_alloc]; omega) hVP).trans (heap_gr ((Gr.refl w).alloc _) HV.out); have c2 := cell_of_heap hz 2 _ rfl; have c3 := cell_of_heap hz 3 _ rfl; have c4 := cell_of_heap hz 4 _ rfl; have c5 := cell_of_heap hz 5 _ rfl; have c6 := cell_of_heap hz 6 _ rfl; have c7 := cell_of_heap hz 7 _ rfl; clear hz)
              | (go_at_call 98; refine (put16_calls (w.heap.size + 1) _ _ _ _ _ _ (by first | exact hd | assumption) (by simp only [List.length_cons]; omega) (by omega)).mono ?_; rintro e w2 ⟨rfl, rfl⟩)
              | (go_at_call 96; refine (put32_calls (w.heap.size + 1) _ _ _ _ _ _ (by first | exact hd | assumption) (by simp only [List.length_cons]; omega) (by omega)).mono ?_; rintro e w2 ⟨rfl, rfl⟩))
        go_region_held3 (fun w' => w'.cell? ⟨V, 7, none⟩ = some (.int .u16 g)) (first | exact (rowW_cell_other hNE).trans c7 | go_keep) (first
              | (go_at_call 98; refine (put16_calls (w.heap.size + 1) _ _ _ _ _ _ (by first | exact hd | assumption) (by simp only [List.length_cons]; omega) (by omega)).mono ?_; rintro e w2 ⟨rfl, rfl⟩)
              | (go_at_call 96; refine (put32_calls (w.heap.size + 1) _ _ _ _ _ _ (by first | exact hd | assumption) (by simp only [List.length_cons]; omega) (by omega)).mono ?_; rintro e w2 ⟨rfl, rfl⟩))
        go_wp2_with fail
        go_region_held3 (fun w' => w'.cell? ⟨V, 3, none⟩ = some (.int .u32 n)) (first | exact (rowW_cell_other hNE).trans c3 | go_keep) (first
              | (go_at_call 98; refine (put16_calls (w.heap.size + 1) _ _ _ _ _ _ (by first | exact hd | assumption) (by simp only [List.length_cons]; omega) (by omega)).mono ?_; rintro e w2 ⟨rfl, rfl⟩)
              | (go_at_call 96; refine (put32_calls (w.heap.size + 1) _ _ _ _ _ _ (by first | exact hd | assumption) (by simp only [List.length_cons]; omega) (by omega)).mono ?_; rintro e w2 ⟨rfl, rfl⟩))
        go_wp2
        go_ret
        refine ⟨rfl, ?_⟩
        exact Opened.fin0 (hd := vxlan true n false false false g) (l := l) (k := 8) (N := (w.heap.size + 1)) (by repeat (first | exact hO | refine Opened.drew ?_ | refine Opened.drewN ?_ _)) (below_to ((Gr.refl w).alloc _).below hB) rfl (by unfold vxlan; refine AllB.flat ?_; intro x hx; simp only [List.mem_cons, List.not_mem_nil, or_false] at hx; rcases hx with rfl | rfl | rfl; exact two_bytes _ _ (by decide) (by decide); exact sh_bytes _; exact lo_bytes _) (by omega) (by omega) (by have e1 : n * 256 / 16777216 = n * 256 / 65536 / 256 := (by omega); rw [e1]; simp [vxlan, lo, sh, bi, bcells])
      | true =>
        go_enter Try.func75, Try.ntmps75
        go_wp2_with (first
              | (go_at_call 160; refine (prepC_calls P 8 (w.heap.size + 1) (.int .u8 0 :: .int .u8 0 :: .int .u8 0 :: .int .u8 0 :: .int .u8 0 :: .int .u8 0 :: .int .u8 0 :: .int .u8 0 :: bcells l) l B _ (hC.gr ((Gr.refl w).alloc _)) (World.size_alloc _ _).symm rfl (by omega) (by omega) (by omega) (by rw [World.size_alloc]; omega)).mono ?_; rintro e w1 ⟨rfl, z, rfl, hO⟩; have hd := hO.has; have hz := (hO.keep V (by rw [World.size_alloc]; omega) hVP).trans (heap_gr ((Gr.refl w).alloc _) HV.out); have c2 := cell_of_heap hz 2 _ rfl; have c3 := cell_of_heap hz 3 _ rfl; have c4 := cell_of_heap hz 4 _ rfl; have c5 := cell_of_heap hz 5 _ rfl; have c6 := cell_of_heap hz 6 _ rfl; have c7 := cell_of_heap hz 7 _ rfl; clear hz)
              | (go_at_call 98; refine (put16_calls (w.heap.size + 1) _ _ _ _ _ _ (by first | exact hd | assumption) (by simp only [List.length_cons]; omega) (by omega)).mono ?_; rintro e w2 ⟨rfl, rfl⟩)
              | (go_at_call 96; refine (put32_calls (w.heap.size + 1) _ _ _ _ _ _ (by first | exact hd | assumption) (by simp only [List.length_cons]; omega) (by omega)).mono ?_; rintro e w2 ⟨rfl, rfl⟩))
        go_region_held3 (fun w' => w'.cell? ⟨V, 7, none⟩ = some (.int .u16 g)) (first | exact (rowW_cell_other hNE).trans c7 | go_keep) (first
              | (go_at_call 98; refine (put16_calls (w.heap.size + 1) _ _ _ _ _ _ (by first | exact hd | assumption) (by simp only [List.length_cons]; omega) (by omega)).mono ?_; rintro e w2 ⟨rfl, rfl⟩)
              | (go_at_call 96; refine (put32_calls (w.heap.size + 1) _ _ _ _ _ _ (by first | exact hd | assumption) (by simp only [List.length_cons]; omega) (by omega)).mono ?_; rintro e w2 ⟨rfl, rfl⟩))
        go_wp2_with fail
        go_region_held3 (fun w' => w'.cell? ⟨V, 3, none⟩ = some (.int .u32 n)) (first | exact (rowW_cell_other hNE).trans c3 | go_keep) (first
              | (go_at_call 98; refine (put16_calls (w.heap.size + 1) _ _ _ _ _ _ (by first | exact hd | assumption) (by simp only [List.length_cons]; omega) (by omega)).mono ?_; rintro e w2 ⟨rfl, rfl⟩)
              | (go_at_call 96; refine (put32_calls (w.heap.size + 1) _ _ _ _ _ _ (by first | exact hd | assumption) (by simp only [List.length_cons]; omega) (by omega)).mono ?_; rintro e w2 ⟨rfl, rfl⟩))
        go_wp2
        go_ret
        refine ⟨rfl, ?_⟩
        exact Opened.fin0 (hd := vxlan true n false true false g) (l := l) (k := 8) (N := (w.heap.size + 1)) (by repeat (first | exact hO | refine Opened.drew ?_ | refine Opened.drewN ?_ _)) (below_to ((Gr.refl w).alloc _).below hB) rfl (by unfold vxlan; refine AllB.flat ?_; intro x hx; simp only [List.mem_cons, List.not_mem_nil, or_false] at hx; rcases hx with rfl | rfl | rfl; exact two_bytes _ _ (by decide) (by decide); exact sh_bytes _; exact lo_bytes _) (by omega) (by omega) (by have e1 : n * 256 / 16777216 = n * 256 / 65536 / 256 := (by omega); rw [e1]; simp [vxlan, lo, sh, bi, bcells])
    | true =>
      cases st with
      | false =>
        go_enter Try.func75, Try.ntmps75
        go_wp2_with (first
              | (go_at_call 160; refine (prepC_calls P 8 (w.heap.size + 1) (.int .u8 0 :: .int .u8 0 :: .int .u8 0 :: .int .u8 0 :: .int .u8 0 :: .int .u8 0 :: .int .u8 0 :: .int .u8 0 :: bcells l) l B _ (hC.gr ((Gr.refl w).alloc _)) (World.size_alloc _ _).symm rfl (by omega) (by omega) (by omega) (by rw [World.size_alloc]; omega)).mono ?_; rintro e w1 ⟨rfl, z, rfl, hO⟩; have hd := hO.has; have hz := (hO.keep V (by rw [World.size_alloc]; omega) hVP).trans (heap_gr ((Gr.refl w).alloc _) HV.out); have c2 := cell_of_heap hz 2 _ rfl; have c3 := cell_of_heap hz 3 _ rfl; have c4 := cell_of_heap hz 4 _ rfl; have c5 := cell_of_heap hz 5 _ rfl; have c6 := cell_of_heap hz 6 _ rfl; have c7 := cell_of_heap hz 7 _ rfl; clear hz)
              | (go_at_call 98; refine (put16_calls (w.heap.size + 1) _ _ _ _ _ _ (by first | exact hd | assumption) (by simp only [List.length_cons]; omega) (by omega)).mono ?_; rintro e w2 ⟨rfl, rfl⟩)
              | (go_at_call 96; refine (put32_calls (w.heap.size + 1) _ _ _ _ _ _ (by first | exact hd | assumption) (by simp only [List.length_cons]; omega) (by omega)).mono ?_; rintro e w2 ⟨rfl, rfl⟩))
        go_region_held3 (fun w' => w'.cell? ⟨V, 7, none⟩ = some (.int .u16 g)) (first | exact (rowW_cell_other hNE).trans c7 | go_keep) (first
              | (go_at_call 98; refine (put16_calls (w.heap.size + 1) _ _ _ _ _ _ (by first | exact hd | assumption) (by simp only [List.length_cons]; omega) (by omega)).mono ?_; rintro e w2 ⟨rfl, rfl⟩)
              | (go_at_call 96; refine (put32_calls (w.heap.size + 1) _ _ _ _ _ _ (by first | exact hd | assumption) (by simp only [List.length_cons]; omega) (by omega)).mono ?_; rintro e w2 ⟨rfl, rfl⟩))
        go_wp2_with fail
        go_region_held3 (fun w' => w'.cell? ⟨V, 3, none⟩ = some (.int .u32 n)) (first | exact (rowW_cell_other hNE).trans c3 | go_keep) (first
              | (go_at_call 98; refine (put16_calls (w.heap.size + 1) _ _ _ _ _ _ (by first | exact hd | assumption) (by simp only [List.length_cons]; omega) (by omega)).mono ?_; rintro e w2 ⟨rfl, rfl⟩)
              | (go_at_call 96; refine (put32_calls (w.heap.size + 1) _ _ _ _ _ _ (by first | exact hd | assumption) (by simp only [List.length_cons]; omega) (by omega)).mono ?_; rintro e w2 ⟨rfl, rfl⟩))
        go_wp2
        go_ret
        refine ⟨rfl, ?_⟩
        exact Opened.fin0 (hd := vxlan true n true false false g) (l := l) (k := 8) (N := (w.heap.size + 1)) (by repeat (first | exact hO | refine Opened.drew ?_ | refine Opened.drewN ?_ _)) (below_to ((Gr.refl w).alloc _).below hB) rfl (by unfold vxlan; refine AllB.flat ?_; intro x hx; simp only [List.mem_cons, List.not_mem_nil, or_false] at hx; rcases hx with rfl | rfl | rfl; exact two_bytes _ _ (by decide) (by decide); exact sh_bytes _; exact lo_bytes _) (by omega) (by omega) (by have e1 : n * 256 / 16777216 = n * 256 / 65536 / 256 := (by omega); rw [e1]; simp [vxlan, lo, sh, bi, bcells])
      | true =>
        go_enter Try.func75, Try.ntmps75
        go_wp2_with (first
              | (go_at_call 160; refine (prepC_calls P 8 (w.heap.size + 1) (.int .u8 0 :: .int .u8 0 :: .int .u8 0 :: .int .u8 0 :: .int .u8 0 :: .int .u8 0 :: .int .u8 0 :: .int .u8 0 :: bcells l) l B _ (hC.gr ((Gr.refl w).alloc _)) (World.size_alloc _ _).symm rfl (by omega) (by omega) (by omega) (by rw [World.size_alloc]; omega)).mono ?_; rintro e w1 ⟨rfl, z, rfl, hO⟩; have hd := hO.has; have hz := (hO.keep V (by rw [World.size_alloc]; omega) hVP).trans (heap_gr ((Gr.refl w).alloc _) HV.out); have c2 := cell_of_heap hz 2 _ rfl; have c3 := cell_of_heap hz 3 _ rfl; have c4 := cell_of_heap hz 4 _ rfl; have c5 := cell_of_heap hz 5 _ rfl; have c6 := cell_of_heap hz 6 _ rfl; have c7 := cell_of_heap hz 7 _ rfl; clear hz)
              | (go_at_call 98; refine (put16_calls (w.heap.size + 1) _ _ _ _ _ _ (by first | exact hd | assumption) (by simp only [List.length_cons]; omega) (by omega)).mono ?_; rintro e w2 ⟨rfl, rfl⟩)
              | (go_at_call 96; refine (put32_calls (w.heap.size + 1) _ _ _ _ _ _ (by first | exact hd | assumption) (by simp only [List.length_cons]; omega) (by omega)).mono ?_; rintro e w2 ⟨rfl, rfl⟩))
        go_region_held3 (fun w' => w'.cell? ⟨V, 7, none⟩ = some (.int .u16 g)) (first | exact (rowW_cell_other hNE).trans c7 | go_keep) (first
              | (go_at_call 98; refine (put16_calls (w.heap.size + 1) _ _ _ _ _ _ (by first | exact hd | assumption) (by simp only [List.length_cons]; omega) (by omega)).mono ?_; rintro e w2 ⟨rfl, rfl⟩)
              | (go_at_call 96; refine (put32_calls (w.heap.size + 1) _ _ _ _ _ _ (by first | exact hd | assumption) (by simp only [List.length_cons]; omega) (by omega)).mono ?_; rintro e w2 ⟨rfl, rfl⟩))
        go_wp2_with fail
        go_region_held3 (fun w' => w'.cell? ⟨V, 3, none⟩ = some (.int .u32 n)) (first | exact (rowW_cell_other hNE).trans c3 | go_keep) (first
              | (go_at_call 98; refine (put16_calls (w.heap.size + 1) _ _ _ _ _ _ (by first | exact hd | assumption) (by simp only [List.length_cons]; omega) (by omega)).mono ?_; rintro e w2 ⟨rfl, rfl⟩)
              | (go_at_call 96; refine (put32_calls (w.heap.size + 1) _ _ _ _ _ _ (by first | exact hd | assumption) (by simp only [List.length_cons]; omega) (by omega)).mono ?_; rintro e w2 ⟨rfl, rfl⟩))
        go_wp2
        go_ret
        refine ⟨rfl, ?_⟩
        exact Opened.fin0 (hd := vxlan true n true true false g) (l := l) (k := 8) (N := (w.heap.size + 1)) (by repeat (first | exact hO | refine Opened.drew ?_ | refine Opened.drewN ?_ _)) (below_to ((Gr.refl w).alloc _).below hB) rfl (by unfold vxlan; refine AllB.flat ?_; intro x hx; simp only [List.mem_cons, List.not_mem_nil, or_false] at hx; rcases hx with rfl | rfl | rfl; exact two_bytes _ _ (by decide) (by decide); exact sh_bytes _; exact lo_bytes _) (by omega) (by omega) (by have e1 : n * 256 / 16777216 = n * 256 / 65536 / 256 := (by omega); rw [e1]; simp [vxlan, lo, sh, bi, bcells])

end Go.Proofs.Ytbojideclbjlgaa
