/-
  The header of a datagram: reading.
-/
import Derived.Test.YtbdbaapdiklnhaaLib2
import Derived.Test.YtbdbaapdiklnhaaTrunc
import Derived.Test.YtbdbaapdiklnhaaBase
import Derived.Deep.RegionHeld3
import Derived.Deep.RegionWith
namespace Go.Proofs.Ytbdbaapdiklnhaa
open Go.RowKit

set_option maxRecDepth 100000 in
set_option maxHeartbeats 1000000 in
theorem udpDecode_calls (D : Nat) (cs : List Value) (hcs : cs.length = 9) (hc8 : cs[8]? = some .nilIface) (v : Value) (l : List Int) (w : World) (hD : w.heap[D]? = some (.cells cs.toArray 141 (0, 0))) (h : IsB w v l) (hl : 8 ≤ l.length) (h8 : 8 ≤ bt l 4 * 256 + bt l 5) (hL : bt l 4 * 256 + bt l 5 ≤ l.length) (hne : v.ownBlock ≠ some D) :
    Calls Try.prog 71 #[.pointer (some ⟨D, 0, none⟩), v, .iface 179 (.agg #[])] w fun e w' => e = .returned .nilIface ∧
      w.grownBy w' (some D) ∧ ∃ a5 n5 m5 a6 n6 m6 a1 n1 m1 a2 n2 m2, IsB w' (.slice a5 n5 m5) (l.take 8) ∧ IsB w' (.slice a6 n6 m6) ((l.take ((bt l 4 * 256 + bt l 5).toNat)).drop 8) ∧ IsB w' (.slice a1 n1 m1) ((l.take 2).drop 0) ∧ IsB w' (.slice a2 n2 m2) ((l.take 4).drop 2) ∧
        w'.heap[D]? = some (.cells #[.slice a5 n5 m5, .slice a6 n6 m6, .int .u16 (bt l 0 * 256 + bt l 1), .int .u16 (bt l 2 * 256 + bt l 3), .int .u16 (bt l 4 * 256 + bt l 5), .int .u16 (bt l 6 * 256 + bt l 7), .slice a1 n1 m1, .slice a2 n2 m2, .nilIface] 141 (0, 0)) := by
  obtain ⟨w0, rfl⟩ : ∃ w0, w = rowW w0 D cs 141 := ⟨w, (rowW_self hD).symm⟩
  have hd : Has w0 D := by unfold Has; rw [← rowW_size (cs := cs) (e := 141) (D := D)]; exact (Array.getElem?_eq_some_iff.1 hD).1
  clear hD
  replace h := h.unrow hne
  obtain ⟨w1, rfl⟩ : ∃ w1 : World, w0 = w1.drewN 0 := ⟨w0, rfl⟩
  have h : IsB w1 v l := h
  have hd : Has w1 D := hd
  have hlen := fun ty => h.len (P := Try.prog) 24 ty 5 Try.underlying24
  obtain ⟨i, hi, hz0, hz1, hz2⟩ := info_parts info_u8
  have p4 := h.bytes.bt0 4
  have q4 := h.bytes.bt1 4
  have p5 := h.bytes.bt0 5
  have q5 := h.bytes.bt1 5
  obtain ⟨a1, n1, m1, hv1, hb1, s1⟩ := h.cutLH (P := Try.prog) 24 5 i Try.underlying24 hi hz1 0 2 0 2 rfl rfl (by omega) (by omega)
  rw [← hb1] at hne
  have hne1 := hne
  rw [hb1] at hne
  clear hb1
  obtain ⟨a2, n2, m2, hv2, hb2, s2⟩ := h.cutLH (P := Try.prog) 24 5 i Try.underlying24 hi hz1 2 4 2 4 rfl rfl (by omega) (by omega)
  rw [← hb2] at hne
  have hne2 := hne
  rw [hb2] at hne
  clear hb2
  obtain ⟨a3, n3, m3, hv3, hb3, s3⟩ := h.cutLH (P := Try.prog) 24 5 i Try.underlying24 hi hz1 4 6 4 6 rfl rfl (by omega) (by omega)
  rw [← hb3] at hne
  have hne3 := hne
  rw [hb3] at hne
  clear hb3
  obtain ⟨a4, n4, m4, hv4, hb4, s4⟩ := h.cutLH (P := Try.prog) 24 5 i Try.underlying24 hi hz1 6 8 6 8 rfl rfl (by omega) (by omega)
  rw [← hb4] at hne
  have hne4 := hne
  rw [hb4] at hne
  clear hb4
  obtain ⟨a5, n5, m5, hv5, hb5, s5⟩ := h.cutH (P := Try.prog) 24 5 i Try.underlying24 hi hz1 8 8 rfl (by omega)
  rw [← hb5] at hne
  have hne5 := hne
  rw [hb5] at hne
  clear hb5
  obtain ⟨a6, n6, m6, hv6, hb6, s6⟩ := h.cutLH (P := Try.prog) 24 5 i Try.underlying24 hi hz1 8 (bt l 4 * 256 + bt l 5) 8 ((bt l 4 * 256 + bt l 5).toNat) rfl (by omega) (by omega) (by omega)
  rw [← hb6] at hne
  have hne6 := hne
  rw [hb6] at hne
  clear hb6
  clear hi hz0 hz1 hz2
  have wr : IntKind.i64.wrap (bt l 4 * 256 + bt l 5) = bt l 4 * 256 + bt l 5 := w64 (by omega) (by omega)
  obtain ⟨y0, y1, y2, y3, y4, y5, y6, y7, y8, rfl⟩ := len9 hcs
  obtain rfl : y8 = .nilIface := by simpa using hc8
  clear hc8
  go_enter Try.func71, Try.ntmps71
  go_wp2_with (first
      | (go_at_call 82; refine (be16_calls _ _ _ (IsB.row0 (by assumption) (by assumption) _) (by simp; omega)).mono ?_; rintro e w' ⟨rfl, n, rfl⟩)
      | (go_at_call 84; refine (be32_calls _ _ _ (IsB.row0 (by assumption) (by assumption) _) (by simp; omega)).mono ?_; rintro e w' ⟨rfl, n, rfl⟩))
  go_ret
  exact ⟨rfl, rowW_rowW (w := w1.drewN 0), _, _, _, _, _, _, _, _, _, _, _, _, hv5.row0 hne5 _, hv6.row0 hne6 _, hv1.row0 hne1 _, hv2.row0 hne2 _, rowW_heap hd⟩

set_option maxRecDepth 100000 in
set_option maxHeartbeats 2000000 in
theorem udpRead_calls (v : Value) (l : List Int) (w : World) (h : IsB w v l) (hl : 8 ≤ l.length) (h8 : 8 ≤ bt l 4 * 256 + bt l 5) (hL : bt l 4 * 256 + bt l 5 ≤ l.length) (hm : l.length ≤ 1000000) :
    Calls Try.prog 40 #[v] w fun e w' => ∃ f6 g6 j6, e = .returned (.tuple #[.agg #[.int .i64 (bt l 0 * 256 + bt l 1), .int .i64 (bt l 2 * 256 + bt l 3), .int .i64 (bt l 4 * 256 + bt l 5), .int .i64 (bt l 6 * 256 + bt l 7)], .slice f6 g6 j6, .bool true]) ∧
      IsB w' (.slice f6 g6 j6) ((l.take ((bt l 4 * 256 + bt l 5).toNat)).drop 8) ∧ Gr w w' := by
  have H := Lib.hid h
  clear h
  go_enter Try.func40, Try.ntmps40
  go_wp2_with fail
  refine (copied_calls _ l _ ?_ (by omega)).mono ?_
  · exact H.out.gr (((Gr.refl w).alloc _).alloc _)
  rintro e w1 ⟨a0, n0, m0, rfl, hoA, hgA⟩
  go_wp2_with fail
  refine (nilFeedback_calls _).mono ?_
  rintro e w2 ⟨rfl, rfl⟩
  go_wp2_with fail
  have hR := HasRow.gr hgA (HasRow.gr (World.grownBy_alloc _ (.cells #[.slice none 0 0, .slice none 0 0, .int .u16 0, .int .u16 0, .int .u16 0, .int .u16 0, .slice none 0 0, .slice none 0 0, .nilIface] 141) none) (HasRow.new w [.int .i64 0, .int .i64 0, .int .i64 0, .int .i64 0] 61 4 rfl))
  have hD := heap_gr hgA (heap_alloc_new (w.alloc (.cells #[.int .i64 0, .int .i64 0, .int .i64 0, .int .i64 0] 61)) (.cells #[.slice none 0 0, .slice none 0 0, .int .u16 0, .int .u16 0, .int .u16 0, .int .u16 0, .slice none 0 0, .slice none 0 0, .nilIface] 141))
  have hS := hgA.size
  simp only [World.size_alloc] at hD hS
  have HR := Lib.hid hR
  have HD := Lib.hid hD
  clear hR hD
  refine (udpDecode_calls (w.heap.size + 1) _ rfl rfl _ l w1 HD.out hoA.isB hl h8 hL (hoA.other (by simp))).mono ?_
  rintro e w2 ⟨rfl, hgB, a5, n5, m5, a6, n6, m6, a1, n1, m1, a2, n2, m2, hb5, hb6, hb1, hb2, hd2⟩
  have HR2 := Lib.hid (HasRow.grown HR.out hgB (by omega))
  have HG2 := Lib.hid hgB
  have HD2 := Lib.hid hd2
  clear hgB hd2
  have k1 := cell_of_heap (cs := [_, _, _, _, _, _, _, _, _]) HD2.out 1 _ rfl
  have k2 := cell_of_heap (cs := [_, _, _, _, _, _, _, _, _]) HD2.out 2 _ rfl
  have k3 := cell_of_heap (cs := [_, _, _, _, _, _, _, _, _]) HD2.out 3 _ rfl
  have k4 := cell_of_heap (cs := [_, _, _, _, _, _, _, _, _]) HD2.out 4 _ rfl
  have k5 := cell_of_heap (cs := [_, _, _, _, _, _, _, _, _]) HD2.out 5 _ rfl
  go_wp2_with fail
  have hne : w.heap.size + 1 ≠ w.heap.size := by omega
  have p0 := hoA.bytes.bt0 0
  have q0 := hoA.bytes.bt1 0
  have p1 := hoA.bytes.bt0 1
  have q1 := hoA.bytes.bt1 1
  have p2 := hoA.bytes.bt0 2
  have q2 := hoA.bytes.bt1 2
  have p3 := hoA.bytes.bt0 3
  have q3 := hoA.bytes.bt1 3
  have p4 := hoA.bytes.bt0 4
  have q4 := hoA.bytes.bt1 4
  have p5 := hoA.bytes.bt0 5
  have q5 := hoA.bytes.bt1 5
  have p6 := hoA.bytes.bt0 6
  have q6 := hoA.bytes.bt1 6
  have p7 := hoA.bytes.bt0 7
  have q7 := hoA.bytes.bt1 7
  have u0 : IntKind.i64.wrap (bt l 0 * 256 + bt l 1) = bt l 0 * 256 + bt l 1 := w64 (by omega) (by omega)
  have u1 : IntKind.i64.wrap (bt l 2 * 256 + bt l 3) = bt l 2 * 256 + bt l 3 := w64 (by omega) (by omega)
  have u2 : IntKind.i64.wrap (bt l 4 * 256 + bt l 5) = bt l 4 * 256 + bt l 5 := w64 (by omega) (by omega)
  have u3 : IntKind.i64.wrap (bt l 6 * 256 + bt l 7) = bt l 6 * 256 + bt l 7 := w64 (by omega) (by omega)
  go_region_held3 (fun w' => w'.cell? ⟨w.heap.size + 1, 1, none⟩ = some (.slice a6 n6 m6) ∧ w'.cell? ⟨w.heap.size + 1, 2, none⟩ = some (.int .u16 (bt l 0 * 256 + bt l 1)) ∧ w'.cell? ⟨w.heap.size + 1, 3, none⟩ = some (.int .u16 (bt l 2 * 256 + bt l 3)) ∧ w'.cell? ⟨w.heap.size + 1, 4, none⟩ = some (.int .u16 (bt l 4 * 256 + bt l 5)) ∧ w'.cell? ⟨w.heap.size + 1, 5, none⟩ = some (.int .u16 (bt l 6 * 256 + bt l 7))) (first | exact And.imp (Gr.cell (by assumption)) (And.imp (Gr.cell (by assumption)) (And.imp (Gr.cell (by assumption)) (And.imp (Gr.cell (by assumption)) (Gr.cell (by assumption))))) (by assumption) | exact And.imp (rowW_swap hne) (And.imp (rowW_swap hne) (And.imp (rowW_swap hne) (And.imp (rowW_swap hne) (rowW_swap hne)))) (by assumption) | go_keep) (first
    | (go_at_call_of 60 (Value.slice a6 n6 m6); refine (copied_calls _ ((l.take ((bt l 4 * 256 + bt l 5).toNat)).drop 8) _ ?_ ?_).mono ?_; (exact IsB.drew hb6); (simp only [List.length_take, List.length_drop]; omega); rintro e x6 ⟨f6, g6, j6, rfl, ho6, hg6⟩; obtain ⟨u6, rs6, hrs6, hR6, rfl⟩ := (HasRow.gr hg6 (by with_reducible first | exact HasRow.row (by assumption) rfl | exact HR2.out.drew)).w0; obtain ⟨r6x0, r6x1, r6x2, r6x3, rfl⟩ := len4 hrs6))
  go_wp2
  have gAA : Gr w w2 := ((((Gr.refl w).alloc _).alloc _).trans hgA).step HG2.out (by omega)
  have hsA : w.heap.size < w2.drew.heap.size := by show w.heap.size < w2.heap.size; have := HG2.out.size; omega
  have t6 : Gr w _ := gAA.drew.trans hg6
  have y6 := hg6.size
  exact bodyPost_ret (v := .tuple #[.agg #[.int .i64 (bt l 0 * 256 + bt l 1), .int .i64 (bt l 2 * 256 + bt l 3), .int .i64 (bt l 4 * 256 + bt l 5), .int .i64 (bt l 6 * 256 + bt l 7)], .slice f6 g6 j6, .bool true]) (by simp [results, Try.results40, go_sem, hR6]) rfl ⟨_, _, _, rfl, IsB.reRow (ho6.isB) (ho6.other (by omega)), Gr.row t6 (Nat.le_refl _)⟩

set_option maxRecDepth 100000 in
set_option maxHeartbeats 1000000 in
theorem udpDecodeShort_calls (p : Value) (v : Value) (l : List Int) (w : World) (h : IsB w v l) (hl : l.length < 8) :
    Calls Try.prog 71 #[p, v, .iface 179 (.agg #[])] w fun e w' => (∃ a, e = .returned (.iface 195 (.pointer (some a)))) ∧ Gr w w' := by
  have hlen := fun ty => h.len (P := Try.prog) 24 ty 5 Try.underlying24
  have hmt := trunc_method
  go_enter Try.func71, Try.ntmps71
  go_wp2_with (first | (go_at_call 120; refine (trunc_calls _).mono ?_; rintro e w1 ⟨rfl, hg⟩) | (go_at_call 81; refine (errNew_calls _ _).mono ?_; rintro e w1 ⟨⟨a, rfl⟩, hg⟩))
  go_ret
  exact ⟨⟨_, rfl⟩, (by repeat (with_reducible first | exact Gr.refl _ | assumption | refine Gr.alloc ?_ _ | refine Gr.drew ?_ | refine Gr.drewN ?_ _ | refine Gr.trans ?_ (by assumption)))⟩

set_option maxRecDepth 100000 in
set_option maxHeartbeats 1000000 in
theorem udpReadShort_calls (v : Value) (l : List Int) (w : World) (h : IsB w v l) (hl : l.length < 8) :
    Calls Try.prog 40 #[v] w fun e w' => e = .returned (.tuple #[.agg #[.int .i64 0, .int .i64 0, .int .i64 0, .int .i64 0], .slice none 0 0, .bool false]) ∧ Gr w w' := by
  have H := Lib.hid h
  clear h
  go_enter Try.func40, Try.ntmps40
  go_wp2_with fail
  refine (copied_calls _ l _ ?_ (by omega)).mono ?_
  · exact H.out.gr (((Gr.refl w).alloc _).alloc _)
  rintro e w1 ⟨a0, n0, m0, rfl, hoA, hgA⟩
  go_wp2_with fail
  refine (nilFeedback_calls _).mono ?_
  rintro e w2 ⟨rfl, rfl⟩
  go_wp2_with fail
  have HR := Lib.hid (HasRow.gr hgA (HasRow.gr (World.grownBy_alloc _ (.cells #[.slice none 0 0, .slice none 0 0, .int .u16 0, .int .u16 0, .int .u16 0, .int .u16 0, .slice none 0 0, .slice none 0 0, .nilIface] 141) none) (HasRow.new w [.int .i64 0, .int .i64 0, .int .i64 0, .int .i64 0] 61 4 rfl)))
  refine (udpDecodeShort_calls _ _ l w1 hoA.isB hl).mono ?_
  rintro e w2 ⟨⟨a, rfl⟩, hgB⟩
  obtain ⟨w3, rs, hrs, hRs, rfl⟩ := (HasRow.gr hgB HR.out).w0
  obtain ⟨r0, r1, r2, r3, rfl⟩ := len4 hrs
  have hG : Gr w _ := ((((Gr.refl w).alloc _).alloc _).trans hgA).trans hgB
  clear hgA hgB hoA
  go_wp2_with fail
  exact bodyPost_ret (v := .tuple #[.agg #[.int .i64 0, .int .i64 0, .int .i64 0, .int .i64 0], .slice none 0 0, .bool false]) (by simp [results, Try.results40, go_sem, hRs]) rfl ⟨rfl, Gr.row hG (Nat.le_refl _)⟩

end Go.Proofs.Ytbdbaapdiklnhaa
