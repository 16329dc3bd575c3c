/-
  A control message, written.
-/
import Derived.Test.YtbojideclbjlgaaSerV
import Derived.Test.YtbojideclbjlgaaICMPSpec
import Derived.Deep.QuietTactic
import Derived.Deep.RegionHeld3
import Derived.BigQuiet
namespace Go.Proofs.Ytbojideclbjlgaa
open Go.RowKit

set_option maxHeartbeats 400000 in
theorem create_calls (x y : Int) (w : World) (hx : 0 ≤ x ∧ x ≤ 255) (hy : 0 ≤ y ∧ y ≤ 255) : Calls Try.prog 78 #[.int .u8 x, .int .u8 y] w fun e w' => e = .returned (.int .u16 (x * 256 + y)) ∧ Gr w w' := by
  go_enter Try.func78, Try.ntmps78
  go_wp2_with (first | (go_at_call 99; refine (be16_calls _ [x, y] _ (lit2_gr (Gr.refl _) (by simp) hx hy) (by simp)).mono ?_; rintro e w9 ⟨rfl, n, rfl⟩))
  go_ret
  exact ⟨rfl, (by (repeat (with_reducible first | exact Gr.refl _ | assumption | refine Gr.alloc ?_ _ | refine Gr.drew ?_ | refine Gr.drewN ?_ _ | refine Gr.trans ?_ (by assumption))); done)⟩

/-- the head of a control message, its type and code as one number -/
def icmpH (T K j q : Int) : List Int := [T / 256 % 256, T % 256, K / 256 % 256, K % 256, j / 256 % 256, j % 256, q / 256 % 256, q % 256]
theorem icmpH_bytes (T K j q : Int) : AllB (icmpH T K j q) := (sh_bytes T).append ((sh_bytes K).append ((sh_bytes j).append (sh_bytes q)))
/-- its checksum -/
def icmpK (T j q : Int) (l : List Int) : Int := 65535 - fd (0 + tot (icmpH T 0 j q ++ l))

set_option maxHeartbeats 400000 in
theorem typePut_calls (D n c : Nat) (x : Int) (cs : List Value) (w : World) (hD : Has w D) (h : 2 ≤ cs.length) (hn : 2 ≤ n) :
    Calls Try.prog 100 #[.int .u16 x, .slice (some ⟨D, 0, none⟩) n c] (rowW w D cs 5) fun e w' => e = .returned (.tuple #[]) ∧ w' = rowW w D ((cs.set 0 (.int .u8 (x / 256 % 256))).set (0 + 1) (.int .u8 (x % 256))) 5 := by
  go_enter Try.func100, Try.ntmps100
  go_wp2_with (first | (go_at_call 98; refine (put16_calls D 0 _ _ _ _ _ hD (by omega) hn).mono ?_; rintro e w2 ⟨rfl, rfl⟩))
  go_end0
  exact ⟨rfl, rfl⟩

set_option maxRecDepth 100000 in
set_option maxHeartbeats 3000000 in
theorem icmpSer_calls (V P : Nat) (T j q : Int) (B : Nat) (l : List Int) (w : World) (hV : w.heap[V]? = some (.cells [.slice none 0 0, .slice none 0 0, .int .u16 T, .int .u16 0, .int .u16 j, .int .u16 q].toArray 150 (0, 0))) (hC : Carries w B P l) (hVP : V ≠ P) (hBV : B ≤ V) (hB : B ≤ w.heap.size) (hl : l.length ≤ 2000)  :
    Calls Try.prog 79 #[.pointer (some ⟨V, 0, none⟩), .iface 179 (.pointer (some ⟨P, 0, none⟩)), .agg #[.bool true, .bool true]] w fun e w' => e = .returned .nilIface ∧ Below B w w' ∧ Done w' P (icmpH T (icmpK T j q l) j q ++ l) := by
  have hVl : V < w.heap.size := (Array.getElem?_eq_some_iff.1 hV).1
  have hNE : V ≠ (w.heap.size + 1) := by omega
  have hNO : w.heap.size ≠ (w.heap.size + 1) := by omega
  have hVO : w.heap.size ≠ V := by omega
  have hPl := hC.lt
  have HV := Lib.hid hV
  clear hV
  have hmt := prepend_method
  have hmb := bytes_method
  obtain ⟨i0, hi, hz0, hz1, hz2⟩ := info_parts info_u8
  have s0 := fun K w' => at_l (P := Try.prog) 22 5 i0 Try.underlying22 hi hz1 (w.heap.size + 1) 0 8 (l.length + 8) 4 4 (l.length + 4) 4 4 rfl rfl (by omega) (by omega) (by omega) rfl K w'
  have s1 := fun K w' => at_l (P := Try.prog) 22 5 i0 Try.underlying22 hi hz1 (w.heap.size + 1) 0 8 (l.length + 8) 6 2 (l.length + 2) 6 6 rfl rfl (by omega) (by omega) (by omega) rfl K w'
  have s2 := fun K w' => at_l (P := Try.prog) 22 5 i0 Try.underlying22 hi hz1 (w.heap.size + 1) 0 8 (l.length + 8) 2 6 (l.length + 6) 2 2 rfl rfl (by omega) (by omega) (by omega) rfl K w'
  have x2 := fun K w' => at_i (P := Try.prog) 22 5 i0 Try.underlying22 hi hz1 (w.heap.size + 1) 0 8 (l.length + 8) 2 2 2 rfl (by omega) rfl K w'
  have x3 := fun K w' => at_i (P := Try.prog) 22 5 i0 Try.underlying22 hi hz1 (w.heap.size + 1) 0 8 (l.length + 8) 3 3 3 rfl (by omega) rfl K w'
  have HI := Lib.hid (And.intro hi hz1)
  clear hi hz0 hz1 hz2
  go_enter Try.func79, Try.ntmps79
  go_wp2_with (first
        | (go_at_call 160; refine (prepC_calls P 8 (w.heap.size + 1) (.int .u8 0 :: .int .u8 0 :: .int .u8 0 :: .int .u8 0 :: .int .u8 0 :: .int .u8 0 :: .int .u8 0 :: .int .u8 0 :: bcells l) l B _ (hC.gr ((Gr.refl w).alloc _)) (World.size_alloc _ _).symm rfl (by omega) (by omega) (by omega) (by rw [World.size_alloc]; omega)).mono ?_; rintro e w1 ⟨rfl, z, rfl, hO⟩; have hz := (hO.keep V (by rw [World.size_alloc]; omega) hVP).trans (heap_gr ((Gr.refl w).alloc _) HV.out); have hzo := (hO.keep w.heap.size (by rw [World.size_alloc]; omega) (by omega)).trans (heap_alloc_new w (.cells #[.bool true, .bool true] 128)); obtain ⟨y, hyV, rfl⟩ : ∃ y, Has y V ∧ z = rowW y V [.slice none 0 0, .slice none 0 0, .int .u16 T, .int .u16 0, .int .u16 j, .int .u16 q] 150 := ⟨z, (Array.getElem?_eq_some_iff.1 hz).1, (rowW_self hz).symm⟩; rw [rowW_other hVO] at hzo; have ob0 := cell_of_heap (cs := [.bool true, .bool true]) hzo 0 _ rfl; have ob1 := cell_of_heap (cs := [.bool true, .bool true]) hzo 1 _ rfl; have hd := hO.hasN; clear hz hzo)
        | (go_at_call 98; refine (put16_calls (w.heap.size + 1) _ _ _ _ _ _ (by rw [has_rowW]; first | exact hd | exact hd3 | assumption) (by simp only [List.length_cons]; omega) (by omega)).mono ?_; rintro e w2 ⟨rfl, rfl⟩)
        | (go_at_call 100; refine (typePut_calls (w.heap.size + 1) _ _ _ _ _ (by rw [has_rowW]; exact hd) (by simp only [List.length_cons]; omega) (by omega)).mono ?_; rintro e w2 ⟨rfl, rfl⟩))
  go_region_held3 (fun w' => w'.cell? ⟨V, 4, none⟩ = some (.int .u16 j)) (first | exact ((rowW_cell_other hNE).trans (rowW_cell (show Has _ _ from hyV) 4)).trans rfl | exact ((rowW_cell_other hNE).trans (rowW_cell (show Has _ _ from hyV3) 4)).trans rfl | go_keep) (first
        | (go_at_call 98; refine (put16_calls (w.heap.size + 1) _ _ _ _ _ _ (by rw [has_rowW]; first | exact hd | exact hd3 | assumption) (by simp only [List.length_cons]; omega) (by omega)).mono ?_; rintro e w2 ⟨rfl, rfl⟩))
  go_wp2_with fail
  go_region_held3 (fun w' => w'.cell? ⟨V, 5, none⟩ = some (.int .u16 q)) (first | exact ((rowW_cell_other hNE).trans (rowW_cell (show Has _ _ from hyV) 5)).trans rfl | exact ((rowW_cell_other hNE).trans (rowW_cell (show Has _ _ from hyV3) 5)).trans rfl | go_keep) (first
        | (go_at_call 98; refine (put16_calls (w.heap.size + 1) _ _ _ _ _ _ (by rw [has_rowW]; first | exact hd | exact hd3 | assumption) (by simp only [List.length_cons]; omega) (by omega)).mono ?_; rintro e w2 ⟨rfl, rfl⟩))
  go_wp2_with fail
  have hO2 : Opened _ (rowW y.drew.drew V [.slice none 0 0, .slice none 0 0, .int .u16 T, .int .u16 0, .int .u16 j, .int .u16 q] 150) (w.heap.size + 1) B P 8 l := hO.rdrew.rdrew
  obtain ⟨a1, n1, p1, q1, ly1, hd1, hd2⟩ := Opened.now (hd := icmpH T 0 j q) (row := (.int .u8 (T / 256 % 256) :: .int .u8 (T % 256) :: .int .u8 0 :: .int .u8 0 :: .int .u8 (j / 256 % 256) :: .int .u8 (j % 256) :: .int .u8 (q / 256 % 256) :: .int .u8 (q % 256) :: bcells l)) hO2 rfl (icmpH_bytes _ _ _ _) (by omega) (by omega) rfl
  have HD1 := Lib.hid hd1
  have HD2 := Lib.hid hd2
  clear hd1 hd2
  go_wp2_with (first
        | (go_at_call 157; refine (bytes_calls P a1 n1 n1 p1 q1 ly1 (icmpH T 0 j q ++ l) _ HD1.out HD2.out).mono ?_; rintro e w3 ⟨a', rfl, hb3, r3, rfl⟩; obtain ⟨y3, hy3⟩ : ∃ y3, y3 = y.drew.drew.drewN r3 := ⟨_, rfl⟩; have hw3 : (rowW (rowW y.drew.drew V [.slice none 0 0, .slice none 0 0, .int .u16 T, .int .u16 0, .int .u16 j, .int .u16 q] 150) (w.heap.size + 1) (.int .u8 (T / 256 % 256) :: .int .u8 (T % 256) :: .int .u8 0 :: .int .u8 0 :: .int .u8 (j / 256 % 256) :: .int .u8 (j % 256) :: .int .u8 (q / 256 % 256) :: .int .u8 (q % 256) :: bcells l) 5).drewN r3 = rowW (rowW y3 V [.slice none 0 0, .slice none 0 0, .int .u16 T, .int .u16 0, .int .u16 j, .int .u16 q] 150) (w.heap.size + 1) (.int .u8 (T / 256 % 256) :: .int .u8 (T % 256) :: .int .u8 0 :: .int .u8 0 :: .int .u8 (j / 256 % 256) :: .int .u8 (j % 256) :: .int .u8 (q / 256 % 256) :: .int .u8 (q % 256) :: bcells l) 5 := (by rw [hy3]; rfl); rw [hw3] at hb3 ⊢; have hO3 : Opened _ (rowW y3 V [.slice none 0 0, .slice none 0 0, .int .u16 T, .int .u16 0, .int .u16 j, .int .u16 q] 150) (w.heap.size + 1) B P 8 l := (by rw [hy3]; exact hO2.rdrewN r3); have hd3 := hO3.hasN; have hyV3 : Has y3 V := (by rw [hy3]; exact hyV); clear hw3 hy3)
        | (go_at_call 101; refine (tcpip_calls _ (icmpH T 0 j q ++ l) 0 _ hb3 (by rw [List.length_append]; have : (icmpH T 0 j q).length = 8 := rfl; omega) (by omega) (by omega)).mono ?_; rintro e w4 ⟨rfl, rfl⟩; rw [← icmpK.eq_def]))
  go_region_held3 (fun w' => w'.cell? ⟨V, 3, none⟩ = some (.int .u16 (icmpK T j q l))) (first | exact ((rowW_cell_other hNE).trans (rowW_cell (show Has _ _ from hyV) 3)).trans rfl | exact ((rowW_cell_other hNE).trans (rowW_cell (show Has _ _ from hyV3) 3)).trans rfl | go_keep) (first
        | (go_at_call 98; refine (put16_calls (w.heap.size + 1) _ _ _ _ _ _ (by rw [has_rowW]; first | exact hd | exact hd3 | assumption) (by simp only [List.length_cons]; omega) (by omega)).mono ?_; rintro e w2 ⟨rfl, rfl⟩))
  all_goals go_wp2
  all_goals go_ret
  all_goals refine ⟨rfl, ?_⟩
  all_goals exact Opened.finV (cs := [.slice none 0 0, .slice none 0 0, .int .u16 T, .int .u16 0, .int .u16 j, .int .u16 q]) (w := World.alloc w (.cells #[.bool true, .bool true] 128)) (hd := icmpH T (icmpK T j q l) j q) (l := l) (k := 8) (N := (w.heap.size + 1)) _ (by repeat (first | exact hO3 | exact hO | refine Opened.rdrew ?_ | refine Opened.rdrewN ?_ _)) hBV hVP (below_to ((Gr.refl w).alloc _).below hB) rfl (icmpH_bytes _ _ _ _) (by omega) (by omega) (rfl)

end Go.Proofs.Ytbojideclbjlgaa
