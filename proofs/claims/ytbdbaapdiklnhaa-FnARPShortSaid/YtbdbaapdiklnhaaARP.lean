/-
  A question for an address: reading.
-/
import Derived.Test.YtbdbaapdiklnhaaLib3
import Derived.Test.YtbdbaapdiklnhaaLib2
import Derived.Test.YtbdbaapdiklnhaaTrunc
import Derived.Test.YtbdbaapdiklnhaaBase
import Derived.Deep.RegionHeld3
import Derived.Deep.RegionWith
namespace Go.Proofs.Ytbdbaapdiklnhaa
open Go.RowKit

set_option maxRecDepth 100000 in
set_option maxHeartbeats 1000000 in
theorem arpDecode_calls (D : Nat) (cs : List Value) (hcs : cs.length = 11) (v : Value) (l : List Int) (w : World) (hD : w.heap[D]? = some (.cells cs.toArray 132 (0, 0))) (h : IsB w v l) (Hn Pn : Nat) (hH : bt l 4 = (Hn : Int)) (hP : bt l 5 = (Pn : Int)) (h0 : bt l 0 = 0) (hs : 8 + 2 * Hn + 2 * Pn ≤ 255) (hl : 8 + 2 * Hn + 2 * Pn ≤ l.length) (hne : v.ownBlock ≠ some D) :
    Calls Try.prog 69 #[.pointer (some ⟨D, 0, none⟩), v, .iface 179 (.agg #[])] w fun e w' => e = .returned .nilIface ∧
      w.grownBy w' (some D) ∧ ∃ a8 n8 m8 a9 n9 m9 a4 n4 m4 a5 n5 m5 a6 n6 m6 a7 n7 m7, IsB w' (.slice a8 n8 m8) (l.take (8 + 2 * Hn + 2 * Pn)) ∧ IsB w' (.slice a9 n9 m9) (l.drop (8 + 2 * Hn + 2 * Pn)) ∧ IsB w' (.slice a4 n4 m4) ((l.take (8 + Hn)).drop (8)) ∧ IsB w' (.slice a5 n5 m5) ((l.take (8 + Hn + Pn)).drop (8 + Hn)) ∧ IsB w' (.slice a6 n6 m6) ((l.take (8 + 2 * Hn + Pn)).drop (8 + Hn + Pn)) ∧ IsB w' (.slice a7 n7 m7) ((l.take (8 + 2 * Hn + 2 * Pn)).drop (8 + 2 * Hn + Pn)) ∧
        w'.heap[D]? = some (.cells #[.slice a8 n8 m8, .slice a9 n9 m9, .int .u8 (bt l 1), .int .u16 (bt l 2 * 256 + bt l 3), .int .u8 (Hn : Int), .int .u8 (Pn : Int), .int .u16 (bt l 6 * 256 + bt l 7), .slice a4 n4 m4, .slice a5 n5 m5, .slice a6 n6 m6, .slice a7 n7 m7] 132 (0, 0)) := by
  obtain ⟨w0, rfl⟩ : ∃ w0, w = rowW w0 D cs 132 := ⟨w, (rowW_self hD).symm⟩
  have hd : Has w0 D := by unfold Has; rw [← rowW_size (cs := cs) (e := 132) (D := D)]; exact (Array.getElem?_eq_some_iff.1 hD).1
  clear hD
  replace h := h.unrow hne
  obtain ⟨w1, rfl⟩ : ∃ w1 : World, w0 = w1.drewN 0 := ⟨w0, rfl⟩
  have h : IsB w1 v l := h
  have hd : Has w1 D := hd
  have hlen := fun ty => h.len (P := Try.prog) 24 ty 5 Try.underlying24
  obtain ⟨i, hi, hz0, hz1, hz2⟩ := info_parts info_u8
  obtain ⟨b4, o4, i4, c4, z4⟩ := h.idx (P := Try.prog) 24 5 i Try.underlying24 hi hz1 .i64 4 4 rfl (by omega)
  have e4 : b4 ≠ D := by rintro rfl; exact hne z4
  clear z4
  have p4 := h.bytes.bt0 4
  have q4 := h.bytes.bt1 4
  obtain ⟨b5, o5, i5, c5, z5⟩ := h.idx (P := Try.prog) 24 5 i Try.underlying24 hi hz1 .i64 5 5 rfl (by omega)
  have e5 : b5 ≠ D := by rintro rfl; exact hne z5
  clear z5
  have p5 := h.bytes.bt0 5
  have q5 := h.bytes.bt1 5
  obtain ⟨a1, n1, m1, hv1, hb1, s1⟩ := h.cutLH (P := Try.prog) 24 5 i Try.underlying24 hi hz1 0 2 0 2 rfl rfl (by omega) (by omega)
  rw [← hb1] at hne
  have hne1 := hne
  rw [hb1] at hne
  clear hb1
  obtain ⟨a2, n2, m2, hv2, hb2, s2⟩ := h.cutLH (P := Try.prog) 24 5 i Try.underlying24 hi hz1 2 4 2 4 rfl rfl (by omega) (by omega)
  rw [← hb2] at hne
  have hne2 := hne
  rw [hb2] at hne
  clear hb2
  obtain ⟨a3, n3, m3, hv3, hb3, s3⟩ := h.cutLH (P := Try.prog) 24 5 i Try.underlying24 hi hz1 6 8 6 8 rfl rfl (by omega) (by omega)
  rw [← hb3] at hne
  have hne3 := hne
  rw [hb3] at hne
  clear hb3
  obtain ⟨a4, n4, m4, hv4, hb4, s4⟩ := h.cutLH (P := Try.prog) 24 5 i Try.underlying24 hi hz1 (8) (8 + (Hn : Int)) (8) (8 + Hn) (by omega) (by omega) (by omega) (by omega)
  rw [← hb4] at hne
  have hne4 := hne
  rw [hb4] at hne
  clear hb4
  obtain ⟨a5, n5, m5, hv5, hb5, s5⟩ := h.cutLH (P := Try.prog) 24 5 i Try.underlying24 hi hz1 (8 + (Hn : Int)) (8 + (Hn : Int) + (Pn : Int)) (8 + Hn) (8 + Hn + Pn) (by omega) (by omega) (by omega) (by omega)
  rw [← hb5] at hne
  have hne5 := hne
  rw [hb5] at hne
  clear hb5
  obtain ⟨a6, n6, m6, hv6, hb6, s6⟩ := h.cutLH (P := Try.prog) 24 5 i Try.underlying24 hi hz1 (8 + (Hn : Int) + (Pn : Int)) (8 + 2 * (Hn : Int) + (Pn : Int)) (8 + Hn + Pn) (8 + 2 * Hn + Pn) (by omega) (by omega) (by omega) (by omega)
  rw [← hb6] at hne
  have hne6 := hne
  rw [hb6] at hne
  clear hb6
  obtain ⟨a7, n7, m7, hv7, hb7, s7⟩ := h.cutLH (P := Try.prog) 24 5 i Try.underlying24 hi hz1 (8 + 2 * (Hn : Int) + (Pn : Int)) (8 + 2 * (Hn : Int) + 2 * (Pn : Int)) (8 + 2 * Hn + Pn) (8 + 2 * Hn + 2 * Pn) (by omega) (by omega) (by omega) (by omega)
  rw [← hb7] at hne
  have hne7 := hne
  rw [hb7] at hne
  clear hb7
  obtain ⟨a8, n8, m8, hv8, hb8, s8⟩ := h.cutH (P := Try.prog) 24 5 i Try.underlying24 hi hz1 (8 + 2 * (Hn : Int) + 2 * (Pn : Int)) (8 + 2 * Hn + 2 * Pn) (by omega) (by omega)
  rw [← hb8] at hne
  have hne8 := hne
  rw [hb8] at hne
  clear hb8
  obtain ⟨a9, n9, m9, hv9, hb9, s9⟩ := h.cutL (P := Try.prog) 24 5 i Try.underlying24 hi hz1 (8 + 2 * (Hn : Int) + 2 * (Pn : Int)) (8 + 2 * Hn + 2 * Pn) (by omega) (by omega)
  rw [← hb9] at hne
  have hne9 := hne
  rw [hb9] at hne
  clear hb9
  clear hi hz0 hz1 hz2
  have v0 : IntKind.u8.wrap (2 * (Hn : Int)) = 2 * (Hn : Int) := by simp [IntKind.wrap, IntKind.bits, IntKind.signed]; omega
  have v1 : IntKind.u8.wrap (2 * (Pn : Int)) = 2 * (Pn : Int) := by simp [IntKind.wrap, IntKind.bits, IntKind.signed]; omega
  have v2 : IntKind.u8.wrap (8 + (Hn : Int)) = 8 + (Hn : Int) := by simp [IntKind.wrap, IntKind.bits, IntKind.signed]; omega
  have v3 : IntKind.u8.wrap (8 + 2 * (Hn : Int)) = 8 + 2 * (Hn : Int) := by simp [IntKind.wrap, IntKind.bits, IntKind.signed]; omega
  have v4 : IntKind.u8.wrap (8 + (Hn : Int) + (Pn : Int)) = 8 + (Hn : Int) + (Pn : Int) := by simp [IntKind.wrap, IntKind.bits, IntKind.signed]; omega
  have v5 : IntKind.u8.wrap (8 + 2 * (Hn : Int) + (Pn : Int)) = 8 + 2 * (Hn : Int) + (Pn : Int) := by simp [IntKind.wrap, IntKind.bits, IntKind.signed]; omega
  have v6 : IntKind.u8.wrap (8 + 2 * (Hn : Int) + 2 * (Pn : Int)) = 8 + 2 * (Hn : Int) + 2 * (Pn : Int) := by simp [IntKind.wrap, IntKind.bits, IntKind.signed]; omega
  have v9 : IntKind.i64.wrap (8 + 2 * (Hn : Int) + 2 * (Pn : Int)) = 8 + 2 * (Hn : Int) + 2 * (Pn : Int) := w64 (by omega) (by omega)
  obtain ⟨y0, y1, y2, y3, y4, y5, y6, y7, y8, y9, y10, rfl⟩ := len11 hcs
  go_enter Try.func69, Try.ntmps69
  have r1 := h.bytes.bt0 1
  have r2 := h.bytes.bt1 1
  have v10 : IntKind.u8.wrap (0 * 256 + bt l 1) = bt l 1 := by simp [IntKind.wrap, IntKind.bits, IntKind.signed]; omega
  go_wp2_with (first
      | (go_at_call 82; refine (be16_calls _ _ _ (IsB.row0 (by assumption) (by assumption) _) (by simp <;> omega)).mono ?_; rintro e w' ⟨rfl, n, rfl⟩)
      | (go_at_call 84; refine (be32_calls _ _ _ (IsB.row0 (by assumption) (by assumption) _) (by simp <;> omega)).mono ?_; rintro e w' ⟨rfl, n, rfl⟩))
  go_region_held3 (fun w' => w'.cell? ⟨D, 4, none⟩ = some (.int .u8 (Hn : Int)) ∧ w'.cell? ⟨D, 5, none⟩ = some (.int .u8 (Pn : Int))) (refine ⟨?_, ?_⟩ <;> simp [go_sem, hd]) (fail)
  go_wp2_with (first
      | (go_at_call 82; refine (be16_calls _ _ _ (IsB.row0 (by assumption) (by assumption) _) (by simp <;> omega)).mono ?_; rintro e w' ⟨rfl, n, rfl⟩)
      | (go_at_call 84; refine (be32_calls _ _ _ (IsB.row0 (by assumption) (by assumption) _) (by simp <;> omega)).mono ?_; rintro e w' ⟨rfl, n, rfl⟩))
  go_region_held3 (fun w' => w'.cell? ⟨D, 4, none⟩ = some (.int .u8 (Hn : Int)) ∧ w'.cell? ⟨D, 5, none⟩ = some (.int .u8 (Pn : Int))) (refine ⟨?_, ?_⟩ <;> simp [go_sem, hd]) (fail)
  go_wp2_with (first
      | (go_at_call 82; refine (be16_calls _ _ _ (IsB.row0 (by assumption) (by assumption) _) (by simp <;> omega)).mono ?_; rintro e w' ⟨rfl, n, rfl⟩)
      | (go_at_call 84; refine (be32_calls _ _ _ (IsB.row0 (by assumption) (by assumption) _) (by simp <;> omega)).mono ?_; rintro e w' ⟨rfl, n, rfl⟩))
  go_region_held3 (fun w' => w'.cell? ⟨D, 4, none⟩ = some (.int .u8 (Hn : Int)) ∧ w'.cell? ⟨D, 5, none⟩ = some (.int .u8 (Pn : Int))) (refine ⟨?_, ?_⟩ <;> simp [go_sem, hd]) (fail)
  go_wp2_with (first
      | (go_at_call 82; refine (be16_calls _ _ _ (IsB.row0 (by assumption) (by assumption) _) (by simp <;> omega)).mono ?_; rintro e w' ⟨rfl, n, rfl⟩)
      | (go_at_call 84; refine (be32_calls _ _ _ (IsB.row0 (by assumption) (by assumption) _) (by simp <;> omega)).mono ?_; rintro e w' ⟨rfl, n, rfl⟩))
  go_region_held3 (fun w' => w'.cell? ⟨D, 4, none⟩ = some (.int .u8 (Hn : Int)) ∧ w'.cell? ⟨D, 5, none⟩ = some (.int .u8 (Pn : Int))) (refine ⟨?_, ?_⟩ <;> simp [go_sem, hd]) (fail)
  go_wp2_with (first
      | (go_at_call 82; refine (be16_calls _ _ _ (IsB.row0 (by assumption) (by assumption) _) (by simp <;> omega)).mono ?_; rintro e w' ⟨rfl, n, rfl⟩)
      | (go_at_call 84; refine (be32_calls _ _ _ (IsB.row0 (by assumption) (by assumption) _) (by simp <;> omega)).mono ?_; rintro e w' ⟨rfl, n, rfl⟩))
  go_ret
  exact ⟨rfl, rowW_rowW (w := w1.drewN 0), _, _, _, _, _, _, _, _, _, _, _, _, _, _, _, _, _, _, hv8.row0 hne8 _, hv9.row0 hne9 _, hv4.row0 hne4 _, hv5.row0 hne5 _, hv6.row0 hne6 _, hv7.row0 hne7 _, rowW_heap hd⟩

set_option maxRecDepth 100000 in
set_option maxHeartbeats 2000000 in
theorem arpRead_calls (v : Value) (l : List Int) (w : World) (h : IsB w v l) (Hn Pn : Nat) (hH : bt l 4 = (Hn : Int)) (hP : bt l 5 = (Pn : Int)) (h0 : bt l 0 = 0) (hs : 8 + 2 * Hn + 2 * Pn ≤ 255) (hl : 8 + 2 * Hn + 2 * Pn ≤ l.length) (hm : l.length ≤ 1000000) :
    Calls Try.prog 34 #[v] w fun e w' => ∃ f4 g4 j4 f5 g5 j5 f6 g6 j6 f7 g7 j7 f9 g9 j9, e = .returned (.tuple #[.agg #[.int .i64 (bt l 1), .int .i64 (bt l 2 * 256 + bt l 3), .int .i64 (bt l 6 * 256 + bt l 7), .slice f4 g4 j4, .slice f5 g5 j5, .slice f6 g6 j6, .slice f7 g7 j7], .slice f9 g9 j9, .bool true]) ∧
      IsB w' (.slice f4 g4 j4) ((l.take (8 + Hn)).drop (8)) ∧ IsB w' (.slice f5 g5 j5) ((l.take (8 + Hn + Pn)).drop (8 + Hn)) ∧ IsB w' (.slice f6 g6 j6) ((l.take (8 + 2 * Hn + Pn)).drop (8 + Hn + Pn)) ∧ IsB w' (.slice f7 g7 j7) ((l.take (8 + 2 * Hn + 2 * Pn)).drop (8 + 2 * Hn + Pn)) ∧ IsB w' (.slice f9 g9 j9) (l.drop (8 + 2 * Hn + 2 * Pn)) ∧ Gr w w' := by
  have H := Lib.hid h
  clear h
  go_enter Try.func34, Try.ntmps34
  go_wp2_with fail
  refine (copied_calls _ l _ ?_ (by omega)).mono ?_
  · exact H.out.gr (((Gr.refl w).alloc _).alloc _)
  rintro e w1 ⟨a0, n0, m0, rfl, hoA, hgA⟩
  go_wp2_with fail
  refine (nilFeedback_calls _).mono ?_
  rintro e w2 ⟨rfl, rfl⟩
  go_wp2_with fail
  have hR := HasRow.gr hgA (HasRow.gr (World.grownBy_alloc _ (.cells #[.slice none 0 0, .slice none 0 0, .int .u8 0, .int .u16 0, .int .u8 0, .int .u8 0, .int .u16 0, .slice none 0 0, .slice none 0 0, .slice none 0 0, .slice none 0 0] 132) none) (HasRow.new w [.int .i64 0, .int .i64 0, .int .i64 0, .slice none 0 0, .slice none 0 0, .slice none 0 0, .slice none 0 0] 52 7 rfl))
  have hD := heap_gr hgA (heap_alloc_new (w.alloc (.cells #[.int .i64 0, .int .i64 0, .int .i64 0, .slice none 0 0, .slice none 0 0, .slice none 0 0, .slice none 0 0] 52)) (.cells #[.slice none 0 0, .slice none 0 0, .int .u8 0, .int .u16 0, .int .u8 0, .int .u8 0, .int .u16 0, .slice none 0 0, .slice none 0 0, .slice none 0 0, .slice none 0 0] 132))
  have hS := hgA.size
  simp only [World.size_alloc] at hD hS
  have HR := Lib.hid hR
  have HD := Lib.hid hD
  clear hR hD
  refine (arpDecode_calls (w.heap.size + 1) _ rfl _ l w1 HD.out hoA.isB Hn Pn hH hP h0 hs hl (hoA.other (by simp))).mono ?_
  rintro e w2 ⟨rfl, hgB, a8, n8, m8, a9, n9, m9, a4, n4, m4, a5, n5, m5, a6, n6, m6, a7, n7, m7, hb8, hb9, hb4, hb5, hb6, hb7, hd2⟩
  have HR2 := Lib.hid (HasRow.grown HR.out hgB (by omega))
  have HG2 := Lib.hid hgB
  have HD2 := Lib.hid hd2
  clear hgB hd2
  have k1 := cell_of_heap (cs := [_, _, _, _, _, _, _, _, _, _, _]) HD2.out 1 _ rfl
  have k2 := cell_of_heap (cs := [_, _, _, _, _, _, _, _, _, _, _]) HD2.out 2 _ rfl
  have k3 := cell_of_heap (cs := [_, _, _, _, _, _, _, _, _, _, _]) HD2.out 3 _ rfl
  have k6 := cell_of_heap (cs := [_, _, _, _, _, _, _, _, _, _, _]) HD2.out 6 _ rfl
  have k7 := cell_of_heap (cs := [_, _, _, _, _, _, _, _, _, _, _]) HD2.out 7 _ rfl
  have k8 := cell_of_heap (cs := [_, _, _, _, _, _, _, _, _, _, _]) HD2.out 8 _ rfl
  have k9 := cell_of_heap (cs := [_, _, _, _, _, _, _, _, _, _, _]) HD2.out 9 _ rfl
  have k10 := cell_of_heap (cs := [_, _, _, _, _, _, _, _, _, _, _]) HD2.out 10 _ rfl
  go_wp2_with fail
  have hne : w.heap.size + 1 ≠ w.heap.size := by omega
  have p1 := hoA.bytes.bt0 1
  have q1 := hoA.bytes.bt1 1
  have p2 := hoA.bytes.bt0 2
  have q2 := hoA.bytes.bt1 2
  have p3 := hoA.bytes.bt0 3
  have q3 := hoA.bytes.bt1 3
  have p6 := hoA.bytes.bt0 6
  have q6 := hoA.bytes.bt1 6
  have p7 := hoA.bytes.bt0 7
  have q7 := hoA.bytes.bt1 7
  have u0 : IntKind.i64.wrap (bt l 1) = bt l 1 := w64 (by omega) (by omega)
  have u1 : IntKind.i64.wrap (bt l 2 * 256 + bt l 3) = bt l 2 * 256 + bt l 3 := w64 (by omega) (by omega)
  have u2 : IntKind.i64.wrap (bt l 6 * 256 + bt l 7) = bt l 6 * 256 + bt l 7 := w64 (by omega) (by omega)
  go_region_held3 (fun w' => w'.cell? ⟨w.heap.size + 1, 1, none⟩ = some (.slice a9 n9 m9) ∧ w'.cell? ⟨w.heap.size + 1, 2, none⟩ = some (.int .u8 (bt l 1)) ∧ w'.cell? ⟨w.heap.size + 1, 3, none⟩ = some (.int .u16 (bt l 2 * 256 + bt l 3)) ∧ w'.cell? ⟨w.heap.size + 1, 6, none⟩ = some (.int .u16 (bt l 6 * 256 + bt l 7)) ∧ w'.cell? ⟨w.heap.size + 1, 7, none⟩ = some (.slice a4 n4 m4) ∧ w'.cell? ⟨w.heap.size + 1, 8, none⟩ = some (.slice a5 n5 m5) ∧ w'.cell? ⟨w.heap.size + 1, 9, none⟩ = some (.slice a6 n6 m6) ∧ w'.cell? ⟨w.heap.size + 1, 10, none⟩ = some (.slice a7 n7 m7)) (first | exact And.imp (Gr.cell (by assumption)) (And.imp (Gr.cell (by assumption)) (And.imp (Gr.cell (by assumption)) (And.imp (Gr.cell (by assumption)) (And.imp (Gr.cell (by assumption)) (And.imp (Gr.cell (by assumption)) (And.imp (Gr.cell (by assumption)) (Gr.cell (by assumption)))))))) (by assumption) | exact And.imp (rowW_swap hne) (And.imp (rowW_swap hne) (And.imp (rowW_swap hne) (And.imp (rowW_swap hne) (And.imp (rowW_swap hne) (And.imp (rowW_swap hne) (And.imp (rowW_swap hne) (rowW_swap hne))))))) (by assumption) | go_keep) (first
    | (go_at_call_of 60 (Value.slice a4 n4 m4); refine (copied_calls _ ((l.take (8 + Hn)).drop (8)) _ ?_ ?_).mono ?_; (exact IsB.drew hb4); (simp only [List.length_take, List.length_drop]; omega); rintro e x4 ⟨f4, g4, j4, rfl, ho4, hg4⟩; obtain ⟨u4, rs4, hrs4, hR4, rfl⟩ := (HasRow.gr hg4 (by with_reducible first | exact HasRow.row (by assumption) rfl | exact HR2.out.drew)).w0; obtain ⟨r4x0, r4x1, r4x2, r4x3, r4x4, r4x5, r4x6, rfl⟩ := len7 hrs4)
    | (go_at_call_of 60 (Value.slice a5 n5 m5); refine (copied_calls _ ((l.take (8 + Hn + Pn)).drop (8 + Hn)) _ ?_ ?_).mono ?_; (exact IsB.gr (IsB.drew hb5) hg4); (simp only [List.length_take, List.length_drop]; omega); rintro e x5 ⟨f5, g5, j5, rfl, ho5, hg5⟩; obtain ⟨u5, rs5, hrs5, hR5, rfl⟩ := (HasRow.gr hg5 (by with_reducible first | exact HasRow.row (by assumption) rfl | exact HR2.out.drew)).w0; obtain ⟨r5x0, r5x1, r5x2, r5x3, r5x4, r5x5, r5x6, rfl⟩ := len7 hrs5)
    | (go_at_call_of 60 (Value.slice a6 n6 m6); refine (copied_calls _ ((l.take (8 + 2 * Hn + Pn)).drop (8 + Hn + Pn)) _ ?_ ?_).mono ?_; (exact IsB.gr (IsB.gr (IsB.drew hb6) hg4) hg5); (simp only [List.length_take, List.length_drop]; omega); rintro e x6 ⟨f6, g6, j6, rfl, ho6, hg6⟩; obtain ⟨u6, rs6, hrs6, hR6, rfl⟩ := (HasRow.gr hg6 (by with_reducible first | exact HasRow.row (by assumption) rfl | exact HR2.out.drew)).w0; obtain ⟨r6x0, r6x1, r6x2, r6x3, r6x4, r6x5, r6x6, rfl⟩ := len7 hrs6)
    | (go_at_call_of 60 (Value.slice a7 n7 m7); refine (copied_calls _ ((l.take (8 + 2 * Hn + 2 * Pn)).drop (8 + 2 * Hn + Pn)) _ ?_ ?_).mono ?_; (exact IsB.gr (IsB.gr (IsB.gr (IsB.drew hb7) hg4) hg5) hg6); (simp only [List.length_take, List.length_drop]; omega); rintro e x7 ⟨f7, g7, j7, rfl, ho7, hg7⟩; obtain ⟨u7, rs7, hrs7, hR7, rfl⟩ := (HasRow.gr hg7 (by with_reducible first | exact HasRow.row (by assumption) rfl | exact HR2.out.drew)).w0; obtain ⟨r7x0, r7x1, r7x2, r7x3, r7x4, r7x5, r7x6, rfl⟩ := len7 hrs7)
    | (go_at_call_of 60 (Value.slice a9 n9 m9); refine (copied_calls _ (l.drop (8 + 2 * Hn + 2 * Pn)) _ ?_ ?_).mono ?_; (exact IsB.gr (IsB.gr (IsB.gr (IsB.gr (IsB.drew hb9) hg4) hg5) hg6) hg7); (rw [List.length_drop]; omega); rintro e x9 ⟨f9, g9, j9, rfl, ho9, hg9⟩; obtain ⟨u9, rs9, hrs9, hR9, rfl⟩ := (HasRow.gr hg9 (by with_reducible first | exact HasRow.row (by assumption) rfl | exact HR2.out.drew)).w0; obtain ⟨r9x0, r9x1, r9x2, r9x3, r9x4, r9x5, r9x6, rfl⟩ := len7 hrs9))
  go_wp2
  have gAA : Gr w w2 := ((((Gr.refl w).alloc _).alloc _).trans hgA).step HG2.out (by omega)
  have hsA : w.heap.size < w2.drew.heap.size := by show w.heap.size < w2.heap.size; have := HG2.out.size; omega
  have t4 : Gr w _ := gAA.drew.trans hg4
  have y4 := hg4.size
  have t5 : Gr w _ := t4.trans hg5
  have y5 := hg5.size
  have t6 : Gr w _ := t5.trans hg6
  have y6 := hg6.size
  have t7 : Gr w _ := t6.trans hg7
  have y7 := hg7.size
  have t9 : Gr w _ := t7.trans hg9
  have y9 := hg9.size
  exact bodyPost_ret (v := .tuple #[.agg #[.int .i64 (bt l 1), .int .i64 (bt l 2 * 256 + bt l 3), .int .i64 (bt l 6 * 256 + bt l 7), .slice f4 g4 j4, .slice f5 g5 j5, .slice f6 g6 j6, .slice f7 g7 j7], .slice f9 g9 j9, .bool true]) (by simp [results, Try.results34, go_sem, hR9]) rfl ⟨_, _, _, _, _, _, _, _, _, _, _, _, _, _, _, rfl, IsB.reRow (((((ho4.isB).gr hg5).gr hg6).gr hg7).gr hg9) (ho4.other (by omega)), IsB.reRow ((((ho5.isB).gr hg6).gr hg7).gr hg9) (ho5.other (by omega)), IsB.reRow (((ho6.isB).gr hg7).gr hg9) (ho6.other (by omega)), IsB.reRow ((ho7.isB).gr hg9) (ho7.other (by omega)), IsB.reRow (ho9.isB) (ho9.other (by omega)), Gr.row t9 (Nat.le_refl _)⟩

set_option maxRecDepth 100000 in
set_option maxHeartbeats 1000000 in
theorem arpDecodeShort_calls (p : Value) (v : Value) (l : List Int) (w : World) (h : IsB w v l) (hl : l.length < 8) :
    Calls Try.prog 69 #[p, v, .iface 179 (.agg #[])] w fun e w' => (∃ a, e = .returned (.iface 195 (.pointer (some a)))) ∧ Gr w w' := by
  have hlen := fun ty => h.len (P := Try.prog) 24 ty 5 Try.underlying24
  have hmt := trunc_method
  go_enter Try.func69, Try.ntmps69
  go_wp2_with (first | (go_at_call 120; refine (trunc_calls _).mono ?_; rintro e w1 ⟨rfl, hg⟩) | (go_at_call 81; refine (errNew_calls _ _).mono ?_; rintro e w1 ⟨⟨a, rfl⟩, hg⟩))
  go_ret
  exact ⟨⟨_, rfl⟩, (by repeat (with_reducible first | exact Gr.refl _ | assumption | refine Gr.alloc ?_ _ | refine Gr.drew ?_ | refine Gr.drewN ?_ _ | refine Gr.trans ?_ (by assumption)))⟩

set_option maxRecDepth 100000 in
set_option maxHeartbeats 1000000 in
theorem arpReadShort_calls (v : Value) (l : List Int) (w : World) (h : IsB w v l) (hl : l.length < 8) :
    Calls Try.prog 34 #[v] w fun e w' => e = .returned (.tuple #[.agg #[.int .i64 0, .int .i64 0, .int .i64 0, .slice none 0 0, .slice none 0 0, .slice none 0 0, .slice none 0 0], .slice none 0 0, .bool false]) ∧ Gr w w' := by
  have H := Lib.hid h
  clear h
  go_enter Try.func34, Try.ntmps34
  go_wp2_with fail
  refine (copied_calls _ l _ ?_ (by omega)).mono ?_
  · exact H.out.gr (((Gr.refl w).alloc _).alloc _)
  rintro e w1 ⟨a0, n0, m0, rfl, hoA, hgA⟩
  go_wp2_with fail
  refine (nilFeedback_calls _).mono ?_
  rintro e w2 ⟨rfl, rfl⟩
  go_wp2_with fail
  have HR := Lib.hid (HasRow.gr hgA (HasRow.gr (World.grownBy_alloc _ (.cells #[.slice none 0 0, .slice none 0 0, .int .u8 0, .int .u16 0, .int .u8 0, .int .u8 0, .int .u16 0, .slice none 0 0, .slice none 0 0, .slice none 0 0, .slice none 0 0] 132) none) (HasRow.new w [.int .i64 0, .int .i64 0, .int .i64 0, .slice none 0 0, .slice none 0 0, .slice none 0 0, .slice none 0 0] 52 7 rfl)))
  refine (arpDecodeShort_calls _ _ l w1 hoA.isB hl).mono ?_
  rintro e w2 ⟨⟨a, rfl⟩, hgB⟩
  obtain ⟨w3, rs, hrs, hRs, rfl⟩ := (HasRow.gr hgB HR.out).w0
  obtain ⟨r0, r1, r2, r3, r4, r5, r6, rfl⟩ := len7 hrs
  have hG : Gr w _ := ((((Gr.refl w).alloc _).alloc _).trans hgA).trans hgB
  clear hgA hgB hoA
  go_wp2_with fail
  exact bodyPost_ret (v := .tuple #[.agg #[.int .i64 0, .int .i64 0, .int .i64 0, .slice none 0 0, .slice none 0 0, .slice none 0 0, .slice none 0 0], .slice none 0 0, .bool false]) (by simp [results, Try.results34, go_sem, hRs]) rfl ⟨rfl, Gr.row hG (Nat.le_refl _)⟩

end Go.Proofs.Ytbdbaapdiklnhaa
