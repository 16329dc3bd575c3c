/-
  A datagram, written.
-/
import Derived.Test.YtdpffedmgmllbaaUMk
import Derived.Test.YtdpffedmgmllbaaW4Mid
import Derived.Deep.QuietTactic
import Derived.Deep.RegionHeld3
import Derived.Deep.RegionLaw
import Derived.BigQuiet
namespace Go.Proofs.Ytdpffedmgmllbaa
open Go.RowKit

set_option linter.unusedVariables false in
set_option linter.unusedSimpArgs false in
set_option maxRecDepth 100000 in
set_option maxHeartbeats 8000000 in
theorem udpSer4_calls (V P Q : Nat) (s d : Int) (ls ld : List Int) (B : Nat) (l : List Int) (w : World) (hV : w.heap[V]? = some (.cells [.slice none 0 0, .slice none 0 0, .int .u16 s, .int .u16 d, .int .u16 0, .int .u16 0, .slice none 0 0, .slice none 0 0, .iface 139 (.pointer (some ⟨Q, 0, none⟩))].toArray 146 (0, 0))) (hC : Carries w B P l) (hVP : V ≠ P) (hBV : B ≤ V) (hB : B ≤ w.heap.size) (hl : l.length ≤ 2000) (hn : IsNet4 w Q ls ld (fun j => j = V ∨ j = P)) (us : 0 ≤ s ∧ s ≤ 65535) (ud : 0 ≤ d ∧ d ≤ 65535) (z1 : ls.length = 4) (z2 : ld.length = 4) (al : AllB ls) (ad : AllB ld) :
    Calls Try.prog 65 #[.pointer (some ⟨V, 0, none⟩), .iface 157 (.pointer (some ⟨P, 0, none⟩)), .agg #[.bool true, .bool true]] w fun e w' => e = .returned .nilIface ∧ Below B w w' ∧ Done w' P (udp s d (8 + l.length) (udpCk s d ls ld l) ++ l) := by
  have hVl : V < w.heap.size := (Array.getElem?_eq_some_iff.1 hV).1
  have hVO : w.heap.size ≠ V := by omega
  have hPl := hC.lt
  have HV := Lib.hid hV
  have hbl : AllB l := by obtain ⟨a9, -, -, h9, -⟩ := hC; exact h9.bytes
  clear hV
  have hmt := prepend_method
  have as1 := assert46
  have hmb := bytes_method
  obtain ⟨i0, hi, hz0, hz1, hz2⟩ := info_parts info_u8
  have HI := Lib.hid (And.intro hi hz1)
  obtain ⟨LN, hLN⟩ : ∃ LN, LN = 8 + (l.length : Int) := ⟨_, rfl⟩
  obtain ⟨CK, hCK⟩ : ∃ CK, CK = udpCk s d ls ld l := ⟨_, rfl⟩
  rw [← hLN, ← hCK]
  have hck : 65535 - fd (tot ls + tot ld + 17 + (([(s / 256 % 256), (s % 256), (d / 256 % 256), (d % 256), (LN / 256 % 256), (LN % 256), 0, 0] ++ l).length : Int) + tot ([(s / 256 % 256), (s % 256), (d / 256 % 256), (d % 256), (LN / 256 % 256), (LN % 256), 0, 0] ++ l)) = CK := by
    have e := udpCk_eq (s := s) (d := d) hl (show (ls.length = 4 ∧ ld.length = 4) ∨ (ls.length = 16 ∧ ld.length = 16) by left; exact ⟨z1, z2⟩) al ad hbl
    rw [← hLN, ← hCK] at e
    exact e
  have f1 : IntKind.u16.wrap (l.length : Int) = l.length := by simp [IntKind.wrap, IntKind.bits, IntKind.signed]; omega
  have f2 : IntKind.u16.wrap ((l.length : Int) + 8) = LN := by simp [IntKind.wrap, IntKind.bits, IntKind.signed]; omega
  have f3 : IntKind.i64.wrap ((l.length : Int) + 8) = (l.length : Int) + 8 := w64 (by omega) (by omega)
  have f4 : decide (65535 < (l.length : Int) + 8) = false := by simp; omega
  have HQ := Lib.hid (And.intro hLN (And.intro hCK hck))
  have HNT := Lib.hid hn
  have HCC := Lib.hid hC
  obtain ⟨a5, k1, k2, k3, k4⟩ := id hC
  have K2 := Lib.hid k2
  have K3 := Lib.hid k3
  clear hi hz0 hz1 hz2 hLN hCK hck hn hC k1 k2 k3 k4
  go_enter Try.func65, Try.ntmps65
  go_wp2_with (first
      | (go_at_call 116; refine (bytes_calls P a5 l.length l.length _ _ _ l _ (heap_gr ((Gr.refl w).alloc _) K2.out) (K3.out.gr ((Gr.refl w).alloc _))).mono ?_; rintro e w3 ⟨a', rfl, hb3, r3, hw3⟩; have hs3 : w3.heap.size = w.heap.size + 1 := (by rw [hw3]; exact World.size_alloc _ _); have hg3 : Gr w w3 := (by rw [hw3]; exact ((Gr.refl w).alloc _).drewN r3); have HV3 := Lib.hid (heap_gr hg3 HV.out); have HO3 := Lib.hid (show w3.heap[w.heap.size]? = some (.cells #[.bool true, .bool true] 118) from (by rw [hw3]; exact heap_alloc_new w (.cells #[.bool true, .bool true] 118))); have hC3 := HCC.out.gr hg3; have hNE : V ≠ (w.heap.size + 1) := (by omega); have hNO : w.heap.size ≠ (w.heap.size + 1) := (by omega); have m8 := cell_of_heap HV3.out 8 _ rfl; clear hw3;
         have s0 := (fun K9 w' => at_l (P := Try.prog) 25 5 i0 Try.underlying25 HI.out.1 HI.out.2 (w.heap.size + 1) 0 8 (l.length + 8) 2 6 (l.length + 6) 2 2 rfl rfl (by omega) (by omega) (by omega) rfl K9 w'); have s1 := (fun K9 w' => at_l (P := Try.prog) 25 5 i0 Try.underlying25 HI.out.1 HI.out.2 (w.heap.size + 1) 0 8 (l.length + 8) 4 4 (l.length + 4) 4 4 rfl rfl (by omega) (by omega) (by omega) rfl K9 w'); have s2 := (fun K9 w' => at_l (P := Try.prog) 25 5 i0 Try.underlying25 HI.out.1 HI.out.2 (w.heap.size + 1) 0 8 (l.length + 8) 6 2 (l.length + 2) 6 6 rfl rfl (by omega) (by omega) (by omega) rfl K9 w'); have x6 := (fun K9 w' => at_i (P := Try.prog) 25 5 i0 Try.underlying25 HI.out.1 HI.out.2 (w.heap.size + 1) 0 8 (l.length + 8) 6 6 6 rfl (by omega) rfl K9 w'); have x7 := (fun K9 w' => at_i (P := Try.prog) 25 5 i0 Try.underlying25 HI.out.1 HI.out.2 (w.heap.size + 1) 0 8 (l.length + 8) 7 7 7 rfl (by omega) rfl K9 w'); skip)
      | (go_at_call 119; refine (prepC_calls P 8 (w.heap.size + 1) (.int .u8 0 :: .int .u8 0 :: .int .u8 0 :: .int .u8 0 :: .int .u8 0 :: .int .u8 0 :: .int .u8 0 :: .int .u8 0 :: bcells l) l B _ hC3 hs3.symm rfl (by omega) (by omega) (by omega) (by omega)).mono ?_; rintro e w1 ⟨rfl, z, rfl, hO⟩; have hz := (hO.keep V (by omega) hVP).trans HV3.out; have hzo := (hO.keep w.heap.size (by omega) (by omega)).trans HO3.out; obtain ⟨y, hyV, rfl⟩ : ∃ y, Has y V ∧ z = rowW y V [.slice none 0 0, .slice none 0 0, .int .u16 s, .int .u16 d, .int .u16 0, .int .u16 0, .slice none 0 0, .slice none 0 0, .iface 139 (.pointer (some ⟨Q, 0, none⟩))] 146 := ⟨z, (Array.getElem?_eq_some_iff.1 hz).1, (rowW_self hz).symm⟩; rw [rowW_other hVO] at hzo; have ob0 := cell_of_heap (cs := [.bool true, .bool true]) hzo 0 _ rfl; have ob1 := cell_of_heap (cs := [.bool true, .bool true]) hzo 1 _ rfl; have hd := hO.hasN; clear hz hzo)
      | (go_at_call 72; refine (put16_calls (w.heap.size + 1) _ _ _ _ _ _ (by rw [has_rowW]; exact hd) (by simp only [List.length_cons]; omega) (by omega)).mono ?_; rintro e w2 ⟨rfl, rfl⟩))
  go_region_held3 (fun w' => w'.cell? ⟨V, 3, none⟩ = some (.int .u16 d)) (first | exact ((rowW_cell_other hNE).trans (rowW_cell (show Has _ _ from hyV) 3)).trans rfl | go_keep) (first
      | (go_at_call 72; refine (put16_calls (w.heap.size + 1) _ _ _ _ _ _ (by rw [has_rowW]; exact hd) (by simp only [List.length_cons]; omega) (by omega)).mono ?_; rintro e w2 ⟨rfl, rfl⟩))
  go_wp2_with fail
  go_region_held3 (fun w' => w'.cell? ⟨V, 4, none⟩ = some (.int .u16 LN)) (first | exact ((rowW_cell_other hNE).trans (rowW_cell (show Has _ _ from hyV) 4)).trans rfl | go_keep) (first
      | (go_at_call 72; refine (put16_calls (w.heap.size + 1) _ _ _ _ _ _ (by rw [has_rowW]; exact hd) (by simp only [List.length_cons]; omega) (by omega)).mono ?_; rintro e w2 ⟨rfl, rfl⟩))
  go_wp2_with fail
  have hO5 : Opened w3 (rowW y.drew.drew V [.slice none 0 0, .slice none 0 0, .int .u16 s, .int .u16 d, .int .u16 0, .int .u16 0, .slice none 0 0, .slice none 0 0, .iface 139 (.pointer (some ⟨Q, 0, none⟩))] 146) (w.heap.size + 1) B P 8 l := hO.rdrew.rdrew
  obtain ⟨a1, n1, p1, q1, ly1, hd1, hd2⟩ := (Opened.finV (w0 := w3) [.slice none 0 0, .slice none 0 0, .int .u16 s, .int .u16 d, .int .u16 LN, .int .u16 0, .slice none 0 0, .slice none 0 0, .iface 139 (.pointer (some ⟨Q, 0, none⟩))] hO5 hBV hVP (below_refl _ _) (hd := [(s / 256 % 256), (s % 256), (d / 256 % 256), (d % 256), (LN / 256 % 256), (LN % 256), 0, 0]) rfl (show AllB [(s / 256 % 256), (s % 256), (d / 256 % 256), (d % 256), (LN / 256 % 256), (LN % 256), 0, 0] from fun x hx => by simp at hx; rcases hx with rfl | rfl | rfl | rfl | rfl | rfl | rfl | rfl <;> omega) (by omega) (by omega) (row := (.int .u8 (s / 256 % 256) :: .int .u8 (s % 256) :: .int .u8 (d / 256 % 256) :: .int .u8 (d % 256) :: .int .u8 (LN / 256 % 256) :: .int .u8 (LN % 256) :: .int .u8 0 :: .int .u8 0 :: bcells l)) rfl).2
  have hNT : IsNet4 (rowW (rowW y.drew.drew V [.slice none 0 0, .slice none 0 0, .int .u16 s, .int .u16 d, .int .u16 LN, .int .u16 0, .slice none 0 0, .slice none 0 0, .iface 139 (.pointer (some ⟨Q, 0, none⟩))] 146) (w.heap.size + 1) (.int .u8 (s / 256 % 256) :: .int .u8 (s % 256) :: .int .u8 (d / 256 % 256) :: .int .u8 (d % 256) :: .int .u8 (LN / 256 % 256) :: .int .u8 (LN % 256) :: .int .u8 0 :: .int .u8 0 :: bcells l) 5) Q ls ld (fun j => j = V ∨ j = P) := ((HNT.out.gr hg3).keep hO5.old)
  have hcell : ((rowW (rowW y.drew.drew V [.slice none 0 0, .slice none 0 0, .int .u16 s, .int .u16 d, .int .u16 LN, .int .u16 0, .slice none 0 0, .slice none 0 0, .iface 139 (.pointer (some ⟨Q, 0, none⟩))] 146) (w.heap.size + 1) (.int .u8 (s / 256 % 256) :: .int .u8 (s % 256) :: .int .u8 (d / 256 % 256) :: .int .u8 (d % 256) :: .int .u8 (LN / 256 % 256) :: .int .u8 (LN % 256) :: .int .u8 0 :: .int .u8 0 :: bcells l) 5)).cell? ⟨V, 8, none⟩ = some (.iface 139 (.pointer (some ⟨Q, 0, none⟩))) := ((rowW_cell_other hNE).trans (rowW_cell (w := y.drew.drew) hyV 8)).trans rfl
  have HD1' := Lib.hid hd1
  have HD2' := Lib.hid hd2
  have HNT' := Lib.hid hNT
  have HCL := Lib.hid hcell
  clear hd1 hd2 hNT hcell
  go_region_held3 (fun _ => True) (trivial) (first
      | (go_at_call 116; refine (bytes_calls P a1 n1 n1 p1 q1 ly1 _ ((rowW (rowW y.drew.drew V [.slice none 0 0, .slice none 0 0, .int .u16 s, .int .u16 d, .int .u16 LN, .int .u16 0, .slice none 0 0, .slice none 0 0, .iface 139 (.pointer (some ⟨Q, 0, none⟩))] 146) (w.heap.size + 1) (.int .u8 (s / 256 % 256) :: .int .u8 (s % 256) :: .int .u8 (d / 256 % 256) :: .int .u8 (d % 256) :: .int .u8 (LN / 256 % 256) :: .int .u8 (LN % 256) :: .int .u8 0 :: .int .u8 0 :: bcells l) 5)).drew HD1'.out HD2'.out).mono ?_; rintro e w5 ⟨a6, rfl, hb5, r5, hw5⟩; subst hw5)
      | (go_at_call 82; refine (computeN4_calls V Q ls ld (fun j => j = V ∨ j = P) (.slice a6 n1 n1) ([(s / 256 % 256), (s % 256), (d / 256 % 256), (d % 256), (LN / 256 % 256), (LN % 256), 0, 0] ++ l) _ (by exact HNT'.out) (by exact HCL.out) (by exact hb5) (by simp only [List.length_append, List.length_cons, List.length_nil]; omega)).mono ?_; rintro e w7 ⟨rfl, r7, hw7⟩; subst hw7; rw [HQ.out.2.2]))
  go_wp2_with fail
  go_region_held3 (fun w' => w'.cell? ⟨V, 5, none⟩ = some (.int .u16 CK)) (first | exact ((rowW_cell_other hNE).trans (rowW_cell (show Has _ _ from hyV) 5)).trans rfl | go_keep) (first
      | (go_at_call 72; refine (put16_calls (w.heap.size + 1) _ _ _ _ _ _ (by rw [has_rowW]; exact hd) (by simp only [List.length_cons]; omega) (by omega)).mono ?_; rintro e w2 ⟨rfl, rfl⟩))
  go_wp2
  go_ret
  refine ⟨rfl, ?_⟩
  have hfin : udp s d LN CK = [(s / 256 % 256), (s % 256), (d / 256 % 256), (d % 256), (LN / 256 % 256), (LN % 256), (CK / 256 % 256), (CK % 256)] := rfl
  rw [hfin]
  exact Opened.finV (cs := [.slice none 0 0, .slice none 0 0, .int .u16 s, .int .u16 d, .int .u16 0, .int .u16 0, .slice none 0 0, .slice none 0 0, .iface 139 (.pointer (some ⟨Q, 0, none⟩))]) (w := w3) (l := l) (k := 8) (N := (w.heap.size + 1)) _ (by repeat (first | exact hO5 | exact hO | refine Opened.rdrew ?_ | refine Opened.rdrewN ?_ _)) hBV hVP (below_to hg3.below hB) rfl (fun x hx => by simp at hx; rcases hx with rfl | rfl | rfl | rfl | rfl | rfl | rfl | rfl <;> omega) (by omega) (by omega) rfl

set_option linter.unusedVariables false in
set_option linter.unusedSimpArgs false in
set_option maxRecDepth 100000 in
set_option maxHeartbeats 8000000 in
theorem udpSer6_calls (V P Q : Nat) (s d : Int) (ls ld : List Int) (B : Nat) (l : List Int) (w : World) (hV : w.heap[V]? = some (.cells [.slice none 0 0, .slice none 0 0, .int .u16 s, .int .u16 d, .int .u16 0, .int .u16 0, .slice none 0 0, .slice none 0 0, .iface 185 (.pointer (some ⟨Q, 0, none⟩))].toArray 146 (0, 0))) (hC : Carries w B P l) (hVP : V ≠ P) (hBV : B ≤ V) (hB : B ≤ w.heap.size) (hl : l.length ≤ 2000) (hn : IsNet6 w Q ls ld (fun j => j = V ∨ j = P)) (us : 0 ≤ s ∧ s ≤ 65535) (ud : 0 ≤ d ∧ d ≤ 65535) (z1 : ls.length = 16) (z2 : ld.length = 16) (al : AllB ls) (ad : AllB ld) :
    Calls Try.prog 65 #[.pointer (some ⟨V, 0, none⟩), .iface 157 (.pointer (some ⟨P, 0, none⟩)), .agg #[.bool true, .bool true]] w fun e w' => e = .returned .nilIface ∧ Below B w w' ∧ Done w' P (udp s d (8 + l.length) (udpCk s d ls ld l) ++ l) := by
  have hVl : V < w.heap.size := (Array.getElem?_eq_some_iff.1 hV).1
  have hVO : w.heap.size ≠ V := by omega
  have hPl := hC.lt
  have HV := Lib.hid hV
  have hbl : AllB l := by obtain ⟨a9, -, -, h9, -⟩ := hC; exact h9.bytes
  clear hV
  have hmt := prepend_method
  have as1 := assert66
  have hmb := bytes_method
  obtain ⟨i0, hi, hz0, hz1, hz2⟩ := info_parts info_u8
  have HI := Lib.hid (And.intro hi hz1)
  obtain ⟨LN, hLN⟩ : ∃ LN, LN = 8 + (l.length : Int) := ⟨_, rfl⟩
  obtain ⟨CK, hCK⟩ : ∃ CK, CK = udpCk s d ls ld l := ⟨_, rfl⟩
  rw [← hLN, ← hCK]
  have hck : 65535 - fd (tot ls + tot ld + 17 + (([(s / 256 % 256), (s % 256), (d / 256 % 256), (d % 256), (LN / 256 % 256), (LN % 256), 0, 0] ++ l).length : Int) + tot ([(s / 256 % 256), (s % 256), (d / 256 % 256), (d % 256), (LN / 256 % 256), (LN % 256), 0, 0] ++ l)) = CK := by
    have e := udpCk_eq (s := s) (d := d) hl (show (ls.length = 4 ∧ ld.length = 4) ∨ (ls.length = 16 ∧ ld.length = 16) by right; exact ⟨z1, z2⟩) al ad hbl
    rw [← hLN, ← hCK] at e
    exact e
  have f1 : IntKind.u16.wrap (l.length : Int) = l.length := by simp [IntKind.wrap, IntKind.bits, IntKind.signed]; omega
  have f2 : IntKind.u16.wrap ((l.length : Int) + 8) = LN := by simp [IntKind.wrap, IntKind.bits, IntKind.signed]; omega
  have f3 : IntKind.i64.wrap ((l.length : Int) + 8) = (l.length : Int) + 8 := w64 (by omega) (by omega)
  have f4 : decide (65535 < (l.length : Int) + 8) = false := by simp; omega
  have HQ := Lib.hid (And.intro hLN (And.intro hCK hck))
  have HNT := Lib.hid hn
  have HCC := Lib.hid hC
  obtain ⟨a5, k1, k2, k3, k4⟩ := id hC
  have K2 := Lib.hid k2
  have K3 := Lib.hid k3
  clear hi hz0 hz1 hz2 hLN hCK hck hn hC k1 k2 k3 k4
  go_enter Try.func65, Try.ntmps65
  go_wp2_with (first
      | (go_at_call 116; refine (bytes_calls P a5 l.length l.length _ _ _ l _ (heap_gr ((Gr.refl w).alloc _) K2.out) (K3.out.gr ((Gr.refl w).alloc _))).mono ?_; rintro e w3 ⟨a', rfl, hb3, r3, hw3⟩; have hs3 : w3.heap.size = w.heap.size + 1 := (by rw [hw3]; exact World.size_alloc _ _); have hg3 : Gr w w3 := (by rw [hw3]; exact ((Gr.refl w).alloc _).drewN r3); have HV3 := Lib.hid (heap_gr hg3 HV.out); have HO3 := Lib.hid (show w3.heap[w.heap.size]? = some (.cells #[.bool true, .bool true] 118) from (by rw [hw3]; exact heap_alloc_new w (.cells #[.bool true, .bool true] 118))); have hC3 := HCC.out.gr hg3; have hNE : V ≠ (w.heap.size + 1) := (by omega); have hNO : w.heap.size ≠ (w.heap.size + 1) := (by omega); have m8 := cell_of_heap HV3.out 8 _ rfl; clear hw3;
         have s0 := (fun K9 w' => at_l (P := Try.prog) 25 5 i0 Try.underlying25 HI.out.1 HI.out.2 (w.heap.size + 1) 0 8 (l.length + 8) 2 6 (l.length + 6) 2 2 rfl rfl (by omega) (by omega) (by omega) rfl K9 w'); have s1 := (fun K9 w' => at_l (P := Try.prog) 25 5 i0 Try.underlying25 HI.out.1 HI.out.2 (w.heap.size + 1) 0 8 (l.length + 8) 4 4 (l.length + 4) 4 4 rfl rfl (by omega) (by omega) (by omega) rfl K9 w'); have s2 := (fun K9 w' => at_l (P := Try.prog) 25 5 i0 Try.underlying25 HI.out.1 HI.out.2 (w.heap.size + 1) 0 8 (l.length + 8) 6 2 (l.length + 2) 6 6 rfl rfl (by omega) (by omega) (by omega) rfl K9 w'); have x6 := (fun K9 w' => at_i (P := Try.prog) 25 5 i0 Try.underlying25 HI.out.1 HI.out.2 (w.heap.size + 1) 0 8 (l.length + 8) 6 6 6 rfl (by omega) rfl K9 w'); have x7 := (fun K9 w' => at_i (P := Try.prog) 25 5 i0 Try.underlying25 HI.out.1 HI.out.2 (w.heap.size + 1) 0 8 (l.length + 8) 7 7 7 rfl (by omega) rfl K9 w'); skip)
      | (go_at_call 119; refine (prepC_calls P 8 (w.heap.size + 1) (.int .u8 0 :: .int .u8 0 :: .int .u8 0 :: .int .u8 0 :: .int .u8 0 :: .int .u8 0 :: .int .u8 0 :: .int .u8 0 :: bcells l) l B _ hC3 hs3.symm rfl (by omega) (by omega) (by omega) (by omega)).mono ?_; rintro e w1 ⟨rfl, z, rfl, hO⟩; have hz := (hO.keep V (by omega) hVP).trans HV3.out; have hzo := (hO.keep w.heap.size (by omega) (by omega)).trans HO3.out; obtain ⟨y, hyV, rfl⟩ : ∃ y, Has y V ∧ z = rowW y V [.slice none 0 0, .slice none 0 0, .int .u16 s, .int .u16 d, .int .u16 0, .int .u16 0, .slice none 0 0, .slice none 0 0, .iface 185 (.pointer (some ⟨Q, 0, none⟩))] 146 := ⟨z, (Array.getElem?_eq_some_iff.1 hz).1, (rowW_self hz).symm⟩; rw [rowW_other hVO] at hzo; have ob0 := cell_of_heap (cs := [.bool true, .bool true]) hzo 0 _ rfl; have ob1 := cell_of_heap (cs := [.bool true, .bool true]) hzo 1 _ rfl; have hd := hO.hasN; clear hz hzo)
      | (go_at_call 72; refine (put16_calls (w.heap.size + 1) _ _ _ _ _ _ (by rw [has_rowW]; exact hd) (by simp only [List.length_cons]; omega) (by omega)).mono ?_; rintro e w2 ⟨rfl, rfl⟩))
  go_region_held3 (fun w' => w'.cell? ⟨V, 3, none⟩ = some (.int .u16 d)) (first | exact ((rowW_cell_other hNE).trans (rowW_cell (show Has _ _ from hyV) 3)).trans rfl | go_keep) (first
      | (go_at_call 72; refine (put16_calls (w.heap.size + 1) _ _ _ _ _ _ (by rw [has_rowW]; exact hd) (by simp only [List.length_cons]; omega) (by omega)).mono ?_; rintro e w2 ⟨rfl, rfl⟩))
  go_wp2_with fail
  go_region_held3 (fun w' => w'.cell? ⟨V, 4, none⟩ = some (.int .u16 LN)) (first | exact ((rowW_cell_other hNE).trans (rowW_cell (show Has _ _ from hyV) 4)).trans rfl | go_keep) (first
      | (go_at_call 72; refine (put16_calls (w.heap.size + 1) _ _ _ _ _ _ (by rw [has_rowW]; exact hd) (by simp only [List.length_cons]; omega) (by omega)).mono ?_; rintro e w2 ⟨rfl, rfl⟩))
  go_wp2_with fail
  have hO5 : Opened w3 (rowW y.drew.drew V [.slice none 0 0, .slice none 0 0, .int .u16 s, .int .u16 d, .int .u16 0, .int .u16 0, .slice none 0 0, .slice none 0 0, .iface 185 (.pointer (some ⟨Q, 0, none⟩))] 146) (w.heap.size + 1) B P 8 l := hO.rdrew.rdrew
  obtain ⟨a1, n1, p1, q1, ly1, hd1, hd2⟩ := (Opened.finV (w0 := w3) [.slice none 0 0, .slice none 0 0, .int .u16 s, .int .u16 d, .int .u16 LN, .int .u16 0, .slice none 0 0, .slice none 0 0, .iface 185 (.pointer (some ⟨Q, 0, none⟩))] hO5 hBV hVP (below_refl _ _) (hd := [(s / 256 % 256), (s % 256), (d / 256 % 256), (d % 256), (LN / 256 % 256), (LN % 256), 0, 0]) rfl (show AllB [(s / 256 % 256), (s % 256), (d / 256 % 256), (d % 256), (LN / 256 % 256), (LN % 256), 0, 0] from fun x hx => by simp at hx; rcases hx with rfl | rfl | rfl | rfl | rfl | rfl | rfl | rfl <;> omega) (by omega) (by omega) (row := (.int .u8 (s / 256 % 256) :: .int .u8 (s % 256) :: .int .u8 (d / 256 % 256) :: .int .u8 (d % 256) :: .int .u8 (LN / 256 % 256) :: .int .u8 (LN % 256) :: .int .u8 0 :: .int .u8 0 :: bcells l)) rfl).2
  have hNT : IsNet6 (rowW (rowW y.drew.drew V [.slice none 0 0, .slice none 0 0, .int .u16 s, .int .u16 d, .int .u16 LN, .int .u16 0, .slice none 0 0, .slice none 0 0, .iface 185 (.pointer (some ⟨Q, 0, none⟩))] 146) (w.heap.size + 1) (.int .u8 (s / 256 % 256) :: .int .u8 (s % 256) :: .int .u8 (d / 256 % 256) :: .int .u8 (d % 256) :: .int .u8 (LN / 256 % 256) :: .int .u8 (LN % 256) :: .int .u8 0 :: .int .u8 0 :: bcells l) 5) Q ls ld (fun j => j = V ∨ j = P) := ((HNT.out.gr hg3).keep hO5.old)
  have hcell : ((rowW (rowW y.drew.drew V [.slice none 0 0, .slice none 0 0, .int .u16 s, .int .u16 d, .int .u16 LN, .int .u16 0, .slice none 0 0, .slice none 0 0, .iface 185 (.pointer (some ⟨Q, 0, none⟩))] 146) (w.heap.size + 1) (.int .u8 (s / 256 % 256) :: .int .u8 (s % 256) :: .int .u8 (d / 256 % 256) :: .int .u8 (d % 256) :: .int .u8 (LN / 256 % 256) :: .int .u8 (LN % 256) :: .int .u8 0 :: .int .u8 0 :: bcells l) 5)).cell? ⟨V, 8, none⟩ = some (.iface 185 (.pointer (some ⟨Q, 0, none⟩))) := ((rowW_cell_other hNE).trans (rowW_cell (w := y.drew.drew) hyV 8)).trans rfl
  have HD1' := Lib.hid hd1
  have HD2' := Lib.hid hd2
  have HNT' := Lib.hid hNT
  have HCL := Lib.hid hcell
  clear hd1 hd2 hNT hcell
  go_region_held3 (fun _ => True) (trivial) (first
      | (go_at_call 116; refine (bytes_calls P a1 n1 n1 p1 q1 ly1 _ ((rowW (rowW y.drew.drew V [.slice none 0 0, .slice none 0 0, .int .u16 s, .int .u16 d, .int .u16 LN, .int .u16 0, .slice none 0 0, .slice none 0 0, .iface 185 (.pointer (some ⟨Q, 0, none⟩))] 146) (w.heap.size + 1) (.int .u8 (s / 256 % 256) :: .int .u8 (s % 256) :: .int .u8 (d / 256 % 256) :: .int .u8 (d % 256) :: .int .u8 (LN / 256 % 256) :: .int .u8 (LN % 256) :: .int .u8 0 :: .int .u8 0 :: bcells l) 5)).drew HD1'.out HD2'.out).mono ?_; rintro e w5 ⟨a6, rfl, hb5, r5, hw5⟩; subst hw5)
      | (go_at_call 82; refine (computeN6_calls V Q ls ld (fun j => j = V ∨ j = P) (.slice a6 n1 n1) ([(s / 256 % 256), (s % 256), (d / 256 % 256), (d % 256), (LN / 256 % 256), (LN % 256), 0, 0] ++ l) _ (by exact HNT'.out) (by exact HCL.out) (by exact hb5) (by simp only [List.length_append, List.length_cons, List.length_nil]; omega)).mono ?_; rintro e w7 ⟨rfl, r7, hw7⟩; subst hw7; rw [HQ.out.2.2]))
  go_wp2_with fail
  go_region_held3 (fun w' => w'.cell? ⟨V, 5, none⟩ = some (.int .u16 CK)) (first | exact ((rowW_cell_other hNE).trans (rowW_cell (show Has _ _ from hyV) 5)).trans rfl | go_keep) (first
      | (go_at_call 72; refine (put16_calls (w.heap.size + 1) _ _ _ _ _ _ (by rw [has_rowW]; exact hd) (by simp only [List.length_cons]; omega) (by omega)).mono ?_; rintro e w2 ⟨rfl, rfl⟩))
  go_wp2
  go_ret
  refine ⟨rfl, ?_⟩
  have hfin : udp s d LN CK = [(s / 256 % 256), (s % 256), (d / 256 % 256), (d % 256), (LN / 256 % 256), (LN % 256), (CK / 256 % 256), (CK % 256)] := rfl
  rw [hfin]
  exact Opened.finV (cs := [.slice none 0 0, .slice none 0 0, .int .u16 s, .int .u16 d, .int .u16 0, .int .u16 0, .slice none 0 0, .slice none 0 0, .iface 185 (.pointer (some ⟨Q, 0, none⟩))]) (w := w3) (l := l) (k := 8) (N := (w.heap.size + 1)) _ (by repeat (first | exact hO5 | exact hO | refine Opened.rdrew ?_ | refine Opened.rdrewN ?_ _)) hBV hVP (below_to hg3.below hB) rfl (fun x hx => by simp at hx; rcases hx with rfl | rfl | rfl | rfl | rfl | rfl | rfl | rfl <;> omega) (by omega) (by omega) rfl
end Go.Proofs.Ytdpffedmgmllbaa
