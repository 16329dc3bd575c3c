/-
  The tag of a virtual network, written.
-/
import Derived.Test.YtbojideclbjlgaaSer
import Derived.Test.YtbojideclbjlgaaVLAN
import Derived.Deep.QuietTactic
import Derived.BigQuiet
namespace Go.Proofs.Ytbojideclbjlgaa
open Go.RowKit

set_option maxRecDepth 100000 in
set_option maxHeartbeats 2000000 in
theorem vlanSer_calls (V P : Nat) (p i t : Int) (d : Bool) (o1 o2 : Bool) (B : Nat) (l : List Int) (w : World) (hV : w.heap[V]? = some (.cells [.slice none 0 0, .slice none 0 0, .int .u8 p, .bool d, .int .u16 i, .int .u16 t].toArray 138 (0, 0))) (hC : Carries w B P l) (hVP : V ≠ P) (hB : B ≤ w.heap.size) (hl : l.length ≤ 2000) (hp : 0 ≤ p ∧ p ≤ 7) (hi' : 0 ≤ i ∧ i ≤ 4095) :
    Calls Try.prog 73 #[.pointer (some ⟨V, 0, none⟩), .iface 179 (.pointer (some ⟨P, 0, none⟩)), .agg #[.bool o1, .bool o2]] w fun e w' => e = .returned .nilIface ∧ Below B w w' ∧ Done w' P (vlan p i t d ++ l) := by
  have hVl : V < w.heap.size := (Array.getElem?_eq_some_iff.1 hV).1
  have hNE : V ≠ (w.heap.size + 1) := by omega
  have HV := Lib.hid hV
  clear hV
  have hmt := prepend_method
  obtain ⟨i0, hi, hz0, hz1, hz2⟩ := info_parts info_u8
  have s0 := fun K w' => at_l (P := Try.prog) 22 5 i0 Try.underlying22 hi hz1 (w.heap.size + 1) 0 4 (l.length + 4) 2 2 (l.length + 2) 2 2 rfl rfl (by omega) (by omega) (by omega) rfl K w'
  clear hi hz0 hz1 hz2
  have q0 : IntKind.u16.wrap p = p := by simp [IntKind.wrap, IntKind.bits, IntKind.signed]; omega
  have q1 : IntKind.u16.wrap (p * 8192) = p * 8192 := by simp [IntKind.wrap, IntKind.bits, IntKind.signed]; omega
  have e1 : bits .or .u16 (p * 8192) i = p * 8192 + i := bor .u16 13 (by omega) (by omega) (by omega) (by omega) (by rw [max_u16]; omega)
  have e2 : bits .or .u16 (p * 8192 + i) 4096 = p * 8192 + 4096 + i := bor_mid .u16 13 12 (by omega) (by omega) (by omega) (by omega) (by omega) (by omega) (by omega) (by omega) (by rw [max_u16]; omega)
  have d0 : decide (4095 < i) = false := by simp; omega
  cases d with
  | false =>
    go_enter Try.func73, Try.ntmps73
    go_wp2_with (first
          | (go_at_call 160; refine (prepC_calls P 4 (w.heap.size + 1) (.int .u8 0 :: .int .u8 0 :: .int .u8 0 :: .int .u8 0 :: bcells l) l B _ (hC.gr ((Gr.refl w).alloc _)) (World.size_alloc _ _).symm rfl (by omega) (by omega) (by omega) (by rw [World.size_alloc]; omega)).mono ?_; rintro e w1 ⟨rfl, z, rfl, hO⟩; have hd := hO.has; have hz := (hO.keep V (by rw [World.size_alloc]; omega) hVP).trans (heap_gr ((Gr.refl w).alloc _) HV.out); have c2 := cell_of_heap hz 2 _ rfl; have c3 := cell_of_heap hz 3 _ rfl; have c4 := cell_of_heap hz 4 _ rfl; have c5 := cell_of_heap hz 5 _ rfl; clear hz)
          | (go_at_call 98; refine (put16_calls (w.heap.size + 1) _ _ _ _ _ _ (by first | exact hd | assumption) (by simp only [List.length_cons]; omega) (by omega)).mono ?_; rintro e w2 ⟨rfl, rfl⟩)
          | (go_at_call 96; refine (put32_calls (w.heap.size + 1) _ _ _ _ _ _ (by first | exact hd | assumption) (by simp only [List.length_cons]; omega) (by omega)).mono ?_; rintro e w2 ⟨rfl, rfl⟩))
    go_quiet (fail)
    go_wp2_with (first
          | (go_at_call 98; refine (put16_calls (w.heap.size + 1) _ _ _ _ _ _ (by first | exact hd | assumption) (by simp only [List.length_cons]; omega) (by omega)).mono ?_; rintro e w2 ⟨rfl, rfl⟩)
          | (go_at_call 96; refine (put32_calls (w.heap.size + 1) _ _ _ _ _ _ (by first | exact hd | assumption) (by simp only [List.length_cons]; omega) (by omega)).mono ?_; rintro e w2 ⟨rfl, rfl⟩))
    go_region_held3 (fun w' => w'.cell? ⟨V, 5, none⟩ = some (.int .u16 t)) (first | exact (rowW_cell_other hNE).trans c5 | go_keep) (first
          | (go_at_call 98; refine (put16_calls (w.heap.size + 1) _ _ _ _ _ _ (by first | exact hd | assumption) (by simp only [List.length_cons]; omega) (by omega)).mono ?_; rintro e w2 ⟨rfl, rfl⟩)
          | (go_at_call 96; refine (put32_calls (w.heap.size + 1) _ _ _ _ _ _ (by first | exact hd | assumption) (by simp only [List.length_cons]; omega) (by omega)).mono ?_; rintro e w2 ⟨rfl, rfl⟩))
    go_wp2
    go_ret
    refine ⟨rfl, ?_⟩
    exact Opened.fin0 (hd := vlan p i t false) (l := l) (k := 4) (N := (w.heap.size + 1)) (by repeat (first | exact hO | refine Opened.drew ?_ | refine Opened.drewN ?_ _)) (below_to ((Gr.refl w).alloc _).below hB) rfl (by unfold vlan; exact (sh_bytes _).append (sh_bytes _)) (by omega) (by omega) (by have hx : p * 8192 + bi false * 4096 + i = p * 8192 + i := (by simp [bi]); unfold vlan; rw [hx]; rfl)
  | true =>
    go_enter Try.func73, Try.ntmps73
    go_wp2_with (first
          | (go_at_call 160; refine (prepC_calls P 4 (w.heap.size + 1) (.int .u8 0 :: .int .u8 0 :: .int .u8 0 :: .int .u8 0 :: bcells l) l B _ (hC.gr ((Gr.refl w).alloc _)) (World.size_alloc _ _).symm rfl (by omega) (by omega) (by omega) (by rw [World.size_alloc]; omega)).mono ?_; rintro e w1 ⟨rfl, z, rfl, hO⟩; have hd := hO.has; have hz := (hO.keep V (by rw [World.size_alloc]; omega) hVP).trans (heap_gr ((Gr.refl w).alloc _) HV.out); have c2 := cell_of_heap hz 2 _ rfl; have c3 := cell_of_heap hz 3 _ rfl; have c4 := cell_of_heap hz 4 _ rfl; have c5 := cell_of_heap hz 5 _ rfl; clear hz)
          | (go_at_call 98; refine (put16_calls (w.heap.size + 1) _ _ _ _ _ _ (by first | exact hd | assumption) (by simp only [List.length_cons]; omega) (by omega)).mono ?_; rintro e w2 ⟨rfl, rfl⟩)
          | (go_at_call 96; refine (put32_calls (w.heap.size + 1) _ _ _ _ _ _ (by first | exact hd | assumption) (by simp only [List.length_cons]; omega) (by omega)).mono ?_; rintro e w2 ⟨rfl, rfl⟩))
    go_quiet (fail)
    go_wp2_with (first
          | (go_at_call 98; refine (put16_calls (w.heap.size + 1) _ _ _ _ _ _ (by first | exact hd | assumption) (by simp only [List.length_cons]; omega) (by omega)).mono ?_; rintro e w2 ⟨rfl, rfl⟩)
          | (go_at_call 96; refine (put32_calls (w.heap.size + 1) _ _ _ _ _ _ (by first | exact hd | assumption) (by simp only [List.length_cons]; omega) (by omega)).mono ?_; rintro e w2 ⟨rfl, rfl⟩))
    go_region_held3 (fun w' => w'.cell? ⟨V, 5, none⟩ = some (.int .u16 t)) (first | exact (rowW_cell_other hNE).trans c5 | go_keep) (first
          | (go_at_call 98; refine (put16_calls (w.heap.size + 1) _ _ _ _ _ _ (by first | exact hd | assumption) (by simp only [List.length_cons]; omega) (by omega)).mono ?_; rintro e w2 ⟨rfl, rfl⟩)
          | (go_at_call 96; refine (put32_calls (w.heap.size + 1) _ _ _ _ _ _ (by first | exact hd | assumption) (by simp only [List.length_cons]; omega) (by omega)).mono ?_; rintro e w2 ⟨rfl, rfl⟩))
    go_wp2
    go_ret
    refine ⟨rfl, ?_⟩
    exact Opened.fin0 (hd := vlan p i t true) (l := l) (k := 4) (N := (w.heap.size + 1)) (by repeat (first | exact hO | refine Opened.drew ?_ | refine Opened.drewN ?_ _)) (below_to ((Gr.refl w).alloc _).below hB) rfl (by unfold vlan; exact (sh_bytes _).append (sh_bytes _)) (by omega) (by omega) (by have hx : p * 8192 + bi true * 4096 + i = p * 8192 + 4096 + i := (by simp [bi]); unfold vlan; rw [hx]; rfl)

end Go.Proofs.Ytbojideclbjlgaa
