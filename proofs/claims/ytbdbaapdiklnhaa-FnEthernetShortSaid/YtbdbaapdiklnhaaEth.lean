/-
  The header of a frame: reading.
-/
import Derived.Test.YtbdbaapdiklnhaaBase
import Derived.Deep.RegionHeld3
import Derived.Deep.RegionWith
namespace Go.Proofs.Ytbdbaapdiklnhaa
open Go.RowKit

set_option maxRecDepth 100000 in
set_option maxHeartbeats 1000000 in
theorem ethDecode_calls (D : Nat) (cs : List Value) (hcs : cs.length = 6) (v : Value) (l : List Int) (w : World) (hD : w.heap[D]? = some (.cells cs.toArray 128 (0, 0))) (h : IsB w v l) (hl : 14 ≤ l.length) (hty : 1536 ≤ bt l 12 * 256 + bt l 13) (hne : v.ownBlock ≠ some D) :
    Calls Try.prog 68 #[.pointer (some ⟨D, 0, none⟩), v, .iface 179 (.agg #[])] w fun e w' => e = .returned .nilIface ∧
      w.grownBy w' (some D) ∧ ∃ a4 n4 m4 a5 n5 m5 a2 n2 m2 a1 n1 m1, IsB w' (.slice a4 n4 m4) (l.take 14) ∧ IsB w' (.slice a5 n5 m5) (l.drop 14) ∧ IsB w' (.slice a2 n2 m2) ((l.take 12).drop 6) ∧ IsB w' (.slice a1 n1 m1) ((l.take 6).drop 0) ∧
        w'.heap[D]? = some (.cells #[.slice a4 n4 m4, .slice a5 n5 m5, .slice a2 n2 m2, .slice a1 n1 m1, .int .u16 (bt l 12 * 256 + bt l 13), .int .u16 0] 128 (0, 0)) := by
  obtain ⟨w0, rfl⟩ : ∃ w0, w = rowW w0 D cs 128 := ⟨w, (rowW_self hD).symm⟩
  have hd : Has w0 D := by unfold Has; rw [← rowW_size (cs := cs) (e := 128) (D := D)]; exact (Array.getElem?_eq_some_iff.1 hD).1
  clear hD
  replace h := h.unrow hne
  obtain ⟨w1, rfl⟩ : ∃ w1 : World, w0 = w1.drewN 0 := ⟨w0, rfl⟩
  have h : IsB w1 v l := h
  have hd : Has w1 D := hd
  have hlen := fun ty => h.len (P := Try.prog) 24 ty 5 Try.underlying24
  obtain ⟨i, hi, hz0, hz1, hz2⟩ := info_parts info_u8
  obtain ⟨b12, o12, i12, c12, z12⟩ := h.idx (P := Try.prog) 24 5 i Try.underlying24 hi hz1 .i64 12 12 rfl (by omega)
  have e12 : b12 ≠ D := by rintro rfl; exact hne z12
  clear z12
  have p12 := h.bytes.bt0 12
  have q12 := h.bytes.bt1 12
  obtain ⟨b13, o13, i13, c13, z13⟩ := h.idx (P := Try.prog) 24 5 i Try.underlying24 hi hz1 .i64 13 13 rfl (by omega)
  have e13 : b13 ≠ D := by rintro rfl; exact hne z13
  clear z13
  have p13 := h.bytes.bt0 13
  have q13 := h.bytes.bt1 13
  obtain ⟨a1, n1, m1, hv1, hb1, s1⟩ := h.cutLH (P := Try.prog) 24 5 i Try.underlying24 hi hz1 0 6 0 6 rfl rfl (by omega) (by omega)
  rw [← hb1] at hne
  have hne1 := hne
  rw [hb1] at hne
  clear hb1
  obtain ⟨a2, n2, m2, hv2, hb2, s2⟩ := h.cutLH (P := Try.prog) 24 5 i Try.underlying24 hi hz1 6 12 6 12 rfl rfl (by omega) (by omega)
  rw [← hb2] at hne
  have hne2 := hne
  rw [hb2] at hne
  clear hb2
  obtain ⟨a3, n3, m3, hv3, hb3, s3⟩ := h.cutLH (P := Try.prog) 24 5 i Try.underlying24 hi hz1 12 14 12 14 rfl rfl (by omega) (by omega)
  rw [← hb3] at hne
  have hne3 := hne
  rw [hb3] at hne
  clear hb3
  obtain ⟨a4, n4, m4, hv4, hb4, s4⟩ := h.cutH (P := Try.prog) 24 5 i Try.underlying24 hi hz1 14 14 rfl (by omega)
  rw [← hb4] at hne
  have hne4 := hne
  rw [hb4] at hne
  clear hb4
  obtain ⟨a5, n5, m5, hv5, hb5, s5⟩ := h.cutL (P := Try.prog) 24 5 i Try.underlying24 hi hz1 14 14 rfl (by omega)
  rw [← hb5] at hne
  have hne5 := hne
  rw [hb5] at hne
  clear hb5
  clear hi hz0 hz1 hz2
  obtain ⟨y0, y1, y2, y3, y4, y5, rfl⟩ := len6 hcs
  go_enter Try.func68, Try.ntmps68
  go_wp2_with (first
      | (go_at_call 82; refine (be16_calls _ _ _ (IsB.row0 (by assumption) (by assumption) _) (by simp; omega)).mono ?_; rintro e w' ⟨rfl, n, rfl⟩)
      | (go_at_call 84; refine (be32_calls _ _ _ (IsB.row0 (by assumption) (by assumption) _) (by simp; omega)).mono ?_; rintro e w' ⟨rfl, n, rfl⟩))
  go_region_held3 (fun _ => True) (trivial) (fail)
  go_wp2_with (first
      | (go_at_call 82; refine (be16_calls _ _ _ (IsB.row0 (by assumption) (by assumption) _) (by simp; omega)).mono ?_; rintro e w' ⟨rfl, n, rfl⟩)
      | (go_at_call 84; refine (be32_calls _ _ _ (IsB.row0 (by assumption) (by assumption) _) (by simp; omega)).mono ?_; rintro e w' ⟨rfl, n, rfl⟩))
  go_ret
  exact ⟨rfl, rowW_rowW (w := w1.drewN 0), _, _, _, _, _, _, _, _, _, _, _, _, hv4.row0 hne4 _, hv5.row0 hne5 _, hv2.row0 hne2 _, hv1.row0 hne1 _, rowW_heap hd⟩

set_option maxRecDepth 100000 in
set_option maxHeartbeats 2000000 in
theorem ethRead_calls (v : Value) (l : List Int) (w : World) (h : IsB w v l) (hl : 14 ≤ l.length) (hty : 1536 ≤ bt l 12 * 256 + bt l 13) (hm : l.length ≤ 1000000) :
    Calls Try.prog 27 #[v] w fun e w' => ∃ f2 g2 j2 f1 g1 j1 f5 g5 j5, e = .returned (.tuple #[.agg #[.slice f2 g2 j2, .slice f1 g1 j1, .int .i64 (bt l 12 * 256 + bt l 13), .int .i64 0], .slice f5 g5 j5, .bool true]) ∧
      IsB w' (.slice f2 g2 j2) ((l.take 12).drop 6) ∧ IsB w' (.slice f1 g1 j1) ((l.take 6).drop 0) ∧ IsB w' (.slice f5 g5 j5) (l.drop 14) ∧ Gr w w' := by
  have H := Lib.hid h
  clear h
  go_enter Try.func27, Try.ntmps27
  go_wp2_with fail
  refine (copied_calls _ l _ ?_ (by omega)).mono ?_
  · exact H.out.gr (((Gr.refl w).alloc _).alloc _)
  rintro e w1 ⟨a0, n0, m0, rfl, hoA, hgA⟩
  go_wp2_with fail
  refine (nilFeedback_calls _).mono ?_
  rintro e w2 ⟨rfl, rfl⟩
  go_wp2_with fail
  have hR := HasRow.gr hgA (HasRow.gr (World.grownBy_alloc _ (.cells #[.slice none 0 0, .slice none 0 0, .slice none 0 0, .slice none 0 0, .int .u16 0, .int .u16 0] 128) none) (HasRow.new w [.slice none 0 0, .slice none 0 0, .int .i64 0, .int .i64 0] 42 4 rfl))
  have hD := heap_gr hgA (heap_alloc_new (w.alloc (.cells #[.slice none 0 0, .slice none 0 0, .int .i64 0, .int .i64 0] 42)) (.cells #[.slice none 0 0, .slice none 0 0, .slice none 0 0, .slice none 0 0, .int .u16 0, .int .u16 0] 128))
  have hS := hgA.size
  simp only [World.size_alloc] at hD hS
  have HR := Lib.hid hR
  have HD := Lib.hid hD
  clear hR hD
  refine (ethDecode_calls (w.heap.size + 1) _ rfl _ l w1 HD.out hoA.isB hl hty (hoA.other (by simp))).mono ?_
  rintro e w2 ⟨rfl, hgB, a4, n4, m4, a5, n5, m5, a2, n2, m2, a1, n1, m1, hb4, hb5, hb2, hb1, hd2⟩
  have HR2 := Lib.hid (HasRow.grown HR.out hgB (by omega))
  have HG2 := Lib.hid hgB
  have HD2 := Lib.hid hd2
  clear hgB hd2
  have k1 := cell_of_heap (cs := [_, _, _, _, _, _]) HD2.out 1 _ rfl
  have k2 := cell_of_heap (cs := [_, _, _, _, _, _]) HD2.out 2 _ rfl
  have k3 := cell_of_heap (cs := [_, _, _, _, _, _]) HD2.out 3 _ rfl
  have k4 := cell_of_heap (cs := [_, _, _, _, _, _]) HD2.out 4 _ rfl
  have k5 := cell_of_heap (cs := [_, _, _, _, _, _]) HD2.out 5 _ rfl
  go_wp2_with fail
  have hne : w.heap.size + 1 ≠ w.heap.size := by omega
  have p12 := hoA.bytes.bt0 12
  have q12 := hoA.bytes.bt1 12
  have p13 := hoA.bytes.bt0 13
  have q13 := hoA.bytes.bt1 13
  have u0 : IntKind.i64.wrap (bt l 12 * 256 + bt l 13) = bt l 12 * 256 + bt l 13 := w64 (by omega) (by omega)
  go_region_held3 (fun w' => w'.cell? ⟨w.heap.size + 1, 1, none⟩ = some (.slice a5 n5 m5) ∧ w'.cell? ⟨w.heap.size + 1, 2, none⟩ = some (.slice a2 n2 m2) ∧ w'.cell? ⟨w.heap.size + 1, 3, none⟩ = some (.slice a1 n1 m1) ∧ w'.cell? ⟨w.heap.size + 1, 4, none⟩ = some (.int .u16 (bt l 12 * 256 + bt l 13)) ∧ w'.cell? ⟨w.heap.size + 1, 5, none⟩ = some (.int .u16 0)) (first | exact And.imp (Gr.cell (by assumption)) (And.imp (Gr.cell (by assumption)) (And.imp (Gr.cell (by assumption)) (And.imp (Gr.cell (by assumption)) (Gr.cell (by assumption))))) (by assumption) | exact And.imp (rowW_swap hne) (And.imp (rowW_swap hne) (And.imp (rowW_swap hne) (And.imp (rowW_swap hne) (rowW_swap hne)))) (by assumption) | go_keep) (first
    | (go_at_call_of 60 (Value.slice a2 n2 m2); refine (copied_calls _ ((l.take 12).drop 6) _ ?_ ?_).mono ?_; (exact IsB.drew hb2); (simp only [List.length_take, List.length_drop]; omega); rintro e x2 ⟨f2, g2, j2, rfl, ho2, hg2⟩; obtain ⟨u2, rs2, hrs2, hR2, rfl⟩ := (HasRow.gr hg2 (by with_reducible first | exact HasRow.row (by assumption) rfl | exact HR2.out.drew)).w0; obtain ⟨r2x0, r2x1, r2x2, r2x3, rfl⟩ := len4 hrs2)
    | (go_at_call_of 60 (Value.slice a1 n1 m1); refine (copied_calls _ ((l.take 6).drop 0) _ ?_ ?_).mono ?_; (exact IsB.gr (IsB.drew hb1) hg2); (simp only [List.length_take, List.length_drop]; omega); rintro e x1 ⟨f1, g1, j1, rfl, ho1, hg1⟩; obtain ⟨u1, rs1, hrs1, hR1, rfl⟩ := (HasRow.gr hg1 (by with_reducible first | exact HasRow.row (by assumption) rfl | exact HR2.out.drew)).w0; obtain ⟨r1x0, r1x1, r1x2, r1x3, rfl⟩ := len4 hrs1)
    | (go_at_call_of 60 (Value.slice a5 n5 m5); refine (copied_calls _ (l.drop 14) _ ?_ ?_).mono ?_; (exact IsB.gr (IsB.gr (IsB.drew hb5) hg2) hg1); (rw [List.length_drop]; omega); rintro e x5 ⟨f5, g5, j5, rfl, ho5, hg5⟩; obtain ⟨u5, rs5, hrs5, hR5, rfl⟩ := (HasRow.gr hg5 (by with_reducible first | exact HasRow.row (by assumption) rfl | exact HR2.out.drew)).w0; obtain ⟨r5x0, r5x1, r5x2, r5x3, rfl⟩ := len4 hrs5))
  go_wp2
  have gAA : Gr w w2 := ((((Gr.refl w).alloc _).alloc _).trans hgA).step HG2.out (by omega)
  have hsA : w.heap.size < w2.drew.heap.size := by show w.heap.size < w2.heap.size; have := HG2.out.size; omega
  have t2 : Gr w _ := gAA.drew.trans hg2
  have y2 := hg2.size
  have t1 : Gr w _ := t2.trans hg1
  have y1 := hg1.size
  have t5 : Gr w _ := t1.trans hg5
  have y5 := hg5.size
  exact bodyPost_ret (v := .tuple #[.agg #[.slice f2 g2 j2, .slice f1 g1 j1, .int .i64 (bt l 12 * 256 + bt l 13), .int .i64 0], .slice f5 g5 j5, .bool true]) (by simp [results, Try.results27, go_sem, hR5]) rfl ⟨_, _, _, _, _, _, _, _, _, rfl, IsB.reRow (((ho2.isB).gr hg1).gr hg5) (ho2.other (by omega)), IsB.reRow ((ho1.isB).gr hg5) (ho1.other (by omega)), IsB.reRow (ho5.isB) (ho5.other (by omega)), Gr.row t5 (Nat.le_refl _)⟩

set_option maxRecDepth 100000 in
set_option maxHeartbeats 1000000 in
theorem ethDecodeShort_calls (p : Value) (v : Value) (l : List Int) (w : World) (h : IsB w v l) (hl : l.length < 14) :
    Calls Try.prog 68 #[p, v, .iface 179 (.agg #[])] w fun e w' => (∃ a, e = .returned (.iface 195 (.pointer (some a)))) ∧ Gr w w' := by
  have hlen := fun ty => h.len (P := Try.prog) 24 ty 5 Try.underlying24
  go_enter Try.func68, Try.ntmps68
  go_wp2_with (first | (go_at_call 81; refine (errNew_calls _ _).mono ?_; rintro e w1 ⟨⟨a, rfl⟩, hg⟩))
  go_ret
  exact ⟨⟨_, rfl⟩, (by repeat (with_reducible first | exact Gr.refl _ | assumption | refine Gr.alloc ?_ _ | refine Gr.drew ?_ | refine Gr.drewN ?_ _ | refine Gr.trans ?_ (by assumption)))⟩

set_option maxRecDepth 100000 in
set_option maxHeartbeats 1000000 in
theorem ethReadShort_calls (v : Value) (l : List Int) (w : World) (h : IsB w v l) (hl : l.length < 14) :
    Calls Try.prog 27 #[v] w fun e w' => e = .returned (.tuple #[.agg #[.slice none 0 0, .slice none 0 0, .int .i64 0, .int .i64 0], .slice none 0 0, .bool false]) ∧ Gr w w' := by
  have H := Lib.hid h
  clear h
  go_enter Try.func27, Try.ntmps27
  go_wp2_with fail
  refine (copied_calls _ l _ ?_ (by omega)).mono ?_
  · exact H.out.gr (((Gr.refl w).alloc _).alloc _)
  rintro e w1 ⟨a0, n0, m0, rfl, hoA, hgA⟩
  go_wp2_with fail
  refine (nilFeedback_calls _).mono ?_
  rintro e w2 ⟨rfl, rfl⟩
  go_wp2_with fail
  have HR := Lib.hid (HasRow.gr hgA (HasRow.gr (World.grownBy_alloc _ (.cells #[.slice none 0 0, .slice none 0 0, .slice none 0 0, .slice none 0 0, .int .u16 0, .int .u16 0] 128) none) (HasRow.new w [.slice none 0 0, .slice none 0 0, .int .i64 0, .int .i64 0] 42 4 rfl)))
  refine (ethDecodeShort_calls _ _ l w1 hoA.isB hl).mono ?_
  rintro e w2 ⟨⟨a, rfl⟩, hgB⟩
  obtain ⟨w3, rs, hrs, hRs, rfl⟩ := (HasRow.gr hgB HR.out).w0
  obtain ⟨r0, r1, r2, r3, rfl⟩ := len4 hrs
  have hG : Gr w _ := ((((Gr.refl w).alloc _).alloc _).trans hgA).trans hgB
  clear hgA hgB hoA
  go_wp2_with fail
  exact bodyPost_ret (v := .tuple #[.agg #[.slice none 0 0, .slice none 0 0, .int .i64 0, .int .i64 0], .slice none 0 0, .bool false]) (by simp [results, Try.results27, go_sem, hRs]) rfl ⟨rfl, Gr.row hG (Nat.le_refl _)⟩

end Go.Proofs.Ytbdbaapdiklnhaa
