/-
  A control message: reading.
-/
import Derived.Test.YtbdbaapdiklnhaaLib3
import Derived.Test.YtbdbaapdiklnhaaLib2
import Derived.Test.YtbdbaapdiklnhaaTrunc
import Derived.Test.YtbdbaapdiklnhaaBase
import Derived.Deep.RegionHeld3
import Derived.Deep.RegionWith
namespace Go.Proofs.Ytbdbaapdiklnhaa
open Go.RowKit

theorem wrap_u8 (n : Int) : IntKind.u8.wrap n = n % 256 := by simp [IntKind.wrap, IntKind.bits, IntKind.signed]

theorem create_calls (x y : Int) (w : World) (hx : 0 ≤ x) (hx' : x ≤ 255) (hy : 0 ≤ y) (hy' : y ≤ 255) : Calls Try.prog 83 #[.int .u8 x, .int .u8 y] w fun e w' => e = .returned (.int .u16 (x * 256 + y)) ∧ Gr w w' := by
  go_enter Try.func83, Try.ntmps83
  go_wp2_with (first | (go_at_call 82; refine (be16_calls _ [x, y] _ (lit2_gr (Gr.refl _) (by simp) ⟨hx, hx'⟩ ⟨hy, hy'⟩) (by simp)).mono ?_; rintro e w9 ⟨rfl, n, rfl⟩))
  go_ret
  exact ⟨rfl, (by repeat (with_reducible first | exact Gr.refl _ | assumption | refine Gr.alloc ?_ _ | refine Gr.drew ?_ | refine Gr.drewN ?_ _ | refine Gr.trans ?_ (by assumption)))⟩
theorem itype_calls (x y : Int) (w : World) (hx : 0 ≤ x) (hx' : x ≤ 255) (hy : 0 ≤ y) (hy' : y ≤ 255) : Calls Try.prog 66 #[.int .u16 (x * 256 + y)] w fun e w' => e = .returned (.int .u8 x) ∧ w' = w := by
  go_enter Try.func66, Try.ntmps66
  go_wp2_with fail
  go_ret
  exact ⟨congrArg (fun z => Ending.returned (.int .u8 z)) (by omega), rfl⟩
theorem icode_calls (x y : Int) (w : World) (hy : 0 ≤ y) (hy' : y ≤ 255) : Calls Try.prog 67 #[.int .u16 (x * 256 + y)] w fun e w' => e = .returned (.int .u8 y) ∧ w' = w := by
  go_enter Try.func67, Try.ntmps67
  go_wp2_with fail
  go_ret
  exact ⟨congrArg (fun z => Ending.returned (.int .u8 z)) (by omega), rfl⟩

set_option maxRecDepth 100000 in
set_option maxHeartbeats 1000000 in
theorem icmpDecode_calls (D : Nat) (cs : List Value) (hcs : cs.length = 6) (v : Value) (l : List Int) (w : World) (hD : w.heap[D]? = some (.cells cs.toArray 123 (0, 0))) (h : IsB w v l) (hl : 8 ≤ l.length) (hne : v.ownBlock ≠ some D) :
    Calls Try.prog 65 #[.pointer (some ⟨D, 0, none⟩), v, .iface 179 (.agg #[])] w fun e w' => e = .returned .nilIface ∧
      w.grownBy w' (some D) ∧ ∃ a4 n4 m4 a5 n5 m5, IsB w' (.slice a4 n4 m4) (l.take 8) ∧ IsB w' (.slice a5 n5 m5) (l.drop 8) ∧
        w'.heap[D]? = some (.cells #[.slice a4 n4 m4, .slice a5 n5 m5, .int .u16 (bt l 0 * 256 + bt l 1), .int .u16 (bt l 2 * 256 + bt l 3), .int .u16 (bt l 4 * 256 + bt l 5), .int .u16 (bt l 6 * 256 + bt l 7)] 123 (0, 0)) := by
  obtain ⟨w0, rfl⟩ : ∃ w0, w = rowW w0 D cs 123 := ⟨w, (rowW_self hD).symm⟩
  have hd : Has w0 D := by unfold Has; rw [← rowW_size (cs := cs) (e := 123) (D := D)]; exact (Array.getElem?_eq_some_iff.1 hD).1
  clear hD
  replace h := h.unrow hne
  obtain ⟨w1, rfl⟩ : ∃ w1 : World, w0 = w1.drewN 0 := ⟨w0, rfl⟩
  have h : IsB w1 v l := h
  have hd : Has w1 D := hd
  have hlen := fun ty => h.len (P := Try.prog) 24 ty 5 Try.underlying24
  obtain ⟨i, hi, hz0, hz1, hz2⟩ := info_parts info_u8
  obtain ⟨b0, o0, i0, c0, z0⟩ := h.idx (P := Try.prog) 24 5 i Try.underlying24 hi hz1 .i64 0 0 rfl (by omega)
  have e0 : b0 ≠ D := by rintro rfl; exact hne z0
  clear z0
  have p0 := h.bytes.bt0 0
  have q0 := h.bytes.bt1 0
  obtain ⟨b1, o1, i1, c1, z1⟩ := h.idx (P := Try.prog) 24 5 i Try.underlying24 hi hz1 .i64 1 1 rfl (by omega)
  have e1 : b1 ≠ D := by rintro rfl; exact hne z1
  clear z1
  have p1 := h.bytes.bt0 1
  have q1 := h.bytes.bt1 1
  obtain ⟨a1, n1, m1, hv1, hb1, s1⟩ := h.cutLH (P := Try.prog) 24 5 i Try.underlying24 hi hz1 2 4 2 4 rfl rfl (by omega) (by omega)
  rw [← hb1] at hne
  have hne1 := hne
  rw [hb1] at hne
  clear hb1
  obtain ⟨a2, n2, m2, hv2, hb2, s2⟩ := h.cutLH (P := Try.prog) 24 5 i Try.underlying24 hi hz1 4 6 4 6 rfl rfl (by omega) (by omega)
  rw [← hb2] at hne
  have hne2 := hne
  rw [hb2] at hne
  clear hb2
  obtain ⟨a3, n3, m3, hv3, hb3, s3⟩ := h.cutLH (P := Try.prog) 24 5 i Try.underlying24 hi hz1 6 8 6 8 rfl rfl (by omega) (by omega)
  rw [← hb3] at hne
  have hne3 := hne
  rw [hb3] at hne
  clear hb3
  obtain ⟨a4, n4, m4, hv4, hb4, s4⟩ := h.cutH (P := Try.prog) 24 5 i Try.underlying24 hi hz1 8 8 rfl (by omega)
  rw [← hb4] at hne
  have hne4 := hne
  rw [hb4] at hne
  clear hb4
  obtain ⟨a5, n5, m5, hv5, hb5, s5⟩ := h.cutL (P := Try.prog) 24 5 i Try.underlying24 hi hz1 8 8 rfl (by omega)
  rw [← hb5] at hne
  have hne5 := hne
  rw [hb5] at hne
  clear hb5
  clear hi hz0 hz1 hz2
  obtain ⟨y0, y1, y2, y3, y4, y5, rfl⟩ := len6 hcs
  go_enter Try.func65, Try.ntmps65
  go_wp2_with fail
  have k0 := (rowW_cell_other (w := w1.drewN 0) (cs := [y0, y1, y2, y3, y4, y5]) (e := 123) e0).trans c0
  have k1 := (rowW_cell_other (w := w1.drewN 0) (cs := [y0, y1, y2, y3, y4, y5]) (e := 123) e1).trans c1
  go_region_held3 (fun w' => w'.cell? ⟨b0, o0, none⟩ = some (.int .u8 (bt l 0)) ∧ w'.cell? ⟨b1, o1, none⟩ = some (.int .u8 (bt l 1))) (first | exact And.imp (Gr.cell (by assumption)) (Gr.cell (by assumption)) (by assumption) | exact And.imp (rowW_swap e0) (rowW_swap e1) (by assumption) | go_keep) (first | (go_at_call 83; refine (create_calls _ _ _ p0 q0 p1 q1).mono ?_; rintro e wC' ⟨rfl, hgC⟩; obtain ⟨wC, hdC, rfl⟩ := hgC.rowOut hd; obtain ⟨wD, rfl⟩ : ∃ wD : World, wC = wD.drewN 0 := ⟨wC, rfl⟩; have hdD : Has wD D := hdC; clear hdC; replace hv1 := show IsB wD _ _ from ((IsB.row0 hv1 hne1 1).gr hgC).unrow hne1; replace hv2 := show IsB wD _ _ from ((IsB.row0 hv2 hne2 1).gr hgC).unrow hne2; replace hv3 := show IsB wD _ _ from ((IsB.row0 hv3 hne3 1).gr hgC).unrow hne3; replace hv4 := show IsB wD _ _ from ((IsB.row0 hv4 hne4 1).gr hgC).unrow hne4; replace hv5 := show IsB wD _ _ from ((IsB.row0 hv5 hne5 1).gr hgC).unrow hne5))
  go_wp2_with (first
      | (go_at_call 82; refine (be16_calls _ _ _ (IsB.row0 (by assumption) (by assumption) _) (by simp; omega)).mono ?_; rintro e w' ⟨rfl, n, rfl⟩)
      | (go_at_call 84; refine (be32_calls _ _ _ (IsB.row0 (by assumption) (by assumption) _) (by simp; omega)).mono ?_; rintro e w' ⟨rfl, n, rfl⟩))
  go_region_held3 (fun _ => True) (trivial) (fail)
  go_wp2_with (first
      | (go_at_call 82; refine (be16_calls _ _ _ (IsB.row0 (by assumption) (by assumption) _) (by simp; omega)).mono ?_; rintro e w' ⟨rfl, n, rfl⟩)
      | (go_at_call 84; refine (be32_calls _ _ _ (IsB.row0 (by assumption) (by assumption) _) (by simp; omega)).mono ?_; rintro e w' ⟨rfl, n, rfl⟩))
  go_ret
  exact ⟨rfl, grownBy_trans (grownBy_trans (rowW_rowW (w := w1.drewN 0) (n := 1)) (hgC.to _)) (rowW_rowW (w := wD.drewN 0)), _, _, _, _, _, _, hv4.row0 hne4 _, hv5.row0 hne5 _, rowW_heap hdD⟩

set_option maxRecDepth 100000 in
set_option maxHeartbeats 2000000 in
theorem icmpRead_calls (v : Value) (l : List Int) (w : World) (h : IsB w v l) (hl : 8 ≤ l.length) (hm : l.length ≤ 1000000) :
    Calls Try.prog 23 #[v] w fun e w' => ∃ f5 g5 j5, e = .returned (.tuple #[.agg #[.int .i64 (bt l 0), .int .i64 (bt l 1), .int .i64 (bt l 2 * 256 + bt l 3), .int .i64 (bt l 4 * 256 + bt l 5), .int .i64 (bt l 6 * 256 + bt l 7)], .slice f5 g5 j5, .bool true]) ∧
      IsB w' (.slice f5 g5 j5) (l.drop 8) ∧ Gr w w' := by
  have H := Lib.hid h
  clear h
  go_enter Try.func23, Try.ntmps23
  go_wp2_with fail
  refine (copied_calls _ l _ ?_ (by omega)).mono ?_
  · exact H.out.gr (((Gr.refl w).alloc _).alloc _)
  rintro e w1 ⟨a0, n0, m0, rfl, hoA, hgA⟩
  go_wp2_with fail
  refine (nilFeedback_calls _).mono ?_
  rintro e w2 ⟨rfl, rfl⟩
  go_wp2_with fail
  have hR := HasRow.gr hgA (HasRow.gr (World.grownBy_alloc _ (.cells #[.slice none 0 0, .slice none 0 0, .int .u16 0, .int .u16 0, .int .u16 0, .int .u16 0] 123) none) (HasRow.new w [.int .i64 0, .int .i64 0, .int .i64 0, .int .i64 0, .int .i64 0] 34 5 rfl))
  have hD := heap_gr hgA (heap_alloc_new (w.alloc (.cells #[.int .i64 0, .int .i64 0, .int .i64 0, .int .i64 0, .int .i64 0] 34)) (.cells #[.slice none 0 0, .slice none 0 0, .int .u16 0, .int .u16 0, .int .u16 0, .int .u16 0] 123))
  have hS := hgA.size
  simp only [World.size_alloc] at hD hS
  have HR := Lib.hid hR
  have HD := Lib.hid hD
  clear hR hD
  refine (icmpDecode_calls (w.heap.size + 1) _ rfl _ l w1 HD.out hoA.isB hl (hoA.other (by simp))).mono ?_
  rintro e w2 ⟨rfl, hgB, a4, n4, m4, a5, n5, m5, hb4, hb5, hd2⟩
  have HR2 := Lib.hid (HasRow.grown HR.out hgB (by omega))
  have HG2 := Lib.hid hgB
  have HD2 := Lib.hid hd2
  clear hgB hd2
  have k1 := cell_of_heap (cs := [_, _, _, _, _, _]) HD2.out 1 _ rfl
  have k2 := cell_of_heap (cs := [_, _, _, _, _, _]) HD2.out 2 _ rfl
  have k3 := cell_of_heap (cs := [_, _, _, _, _, _]) HD2.out 3 _ rfl
  have k4 := cell_of_heap (cs := [_, _, _, _, _, _]) HD2.out 4 _ rfl
  have k5 := cell_of_heap (cs := [_, _, _, _, _, _]) HD2.out 5 _ rfl
  go_wp2_with fail
  have hne : w.heap.size + 1 ≠ w.heap.size := by omega
  have p0 := hoA.bytes.bt0 0
  have q0 := hoA.bytes.bt1 0
  have p1 := hoA.bytes.bt0 1
  have q1 := hoA.bytes.bt1 1
  have p2 := hoA.bytes.bt0 2
  have q2 := hoA.bytes.bt1 2
  have p3 := hoA.bytes.bt0 3
  have q3 := hoA.bytes.bt1 3
  have p4 := hoA.bytes.bt0 4
  have q4 := hoA.bytes.bt1 4
  have p5 := hoA.bytes.bt0 5
  have q5 := hoA.bytes.bt1 5
  have p6 := hoA.bytes.bt0 6
  have q6 := hoA.bytes.bt1 6
  have p7 := hoA.bytes.bt0 7
  have q7 := hoA.bytes.bt1 7
  have u0 : IntKind.i64.wrap (bt l 0) = bt l 0 := w64 (by omega) (by omega)
  have u1 : IntKind.i64.wrap (bt l 1) = bt l 1 := w64 (by omega) (by omega)
  have u2 : IntKind.i64.wrap (bt l 2 * 256 + bt l 3) = bt l 2 * 256 + bt l 3 := w64 (by omega) (by omega)
  have u3 : IntKind.i64.wrap (bt l 4 * 256 + bt l 5) = bt l 4 * 256 + bt l 5 := w64 (by omega) (by omega)
  have u4 : IntKind.i64.wrap (bt l 6 * 256 + bt l 7) = bt l 6 * 256 + bt l 7 := w64 (by omega) (by omega)
  go_region_held3 (fun w' => w'.cell? ⟨w.heap.size + 1, 1, none⟩ = some (.slice a5 n5 m5) ∧ w'.cell? ⟨w.heap.size + 1, 2, none⟩ = some (.int .u16 (bt l 0 * 256 + bt l 1)) ∧ w'.cell? ⟨w.heap.size + 1, 3, none⟩ = some (.int .u16 (bt l 2 * 256 + bt l 3)) ∧ w'.cell? ⟨w.heap.size + 1, 4, none⟩ = some (.int .u16 (bt l 4 * 256 + bt l 5)) ∧ w'.cell? ⟨w.heap.size + 1, 5, none⟩ = some (.int .u16 (bt l 6 * 256 + bt l 7))) (first | exact And.imp (Gr.cell (by assumption)) (And.imp (Gr.cell (by assumption)) (And.imp (Gr.cell (by assumption)) (And.imp (Gr.cell (by assumption)) (Gr.cell (by assumption))))) (by assumption) | exact And.imp (rowW_swap hne) (And.imp (rowW_swap hne) (And.imp (rowW_swap hne) (And.imp (rowW_swap hne) (rowW_swap hne)))) (by assumption) | go_keep) (first
    | (go_at_call_of 60 (Value.slice a5 n5 m5); refine (copied_calls _ (l.drop 8) _ ?_ ?_).mono ?_; (exact IsB.drew hb5); (rw [List.length_drop]; omega); rintro e x5 ⟨f5, g5, j5, rfl, ho5, hg5⟩; obtain ⟨u5, rs5, hrs5, hR5, rfl⟩ := (HasRow.gr hg5 (by with_reducible first | exact HasRow.row (by assumption) rfl | exact HR2.out.drew)).w0; obtain ⟨r5x0, r5x1, r5x2, r5x3, r5x4, rfl⟩ := len5 hrs5)
    | (go_at_call 66; refine (itype_calls (bt l 0) (bt l 1) _ p0 q0 p1 q1).mono ?_; rintro e w' ⟨rfl, rfl⟩)
    | (go_at_call 67; refine (icode_calls (bt l 0) (bt l 1) _ p1 q1).mono ?_; rintro e w' ⟨rfl, rfl⟩))
  go_wp2
  have gAA : Gr w w2 := ((((Gr.refl w).alloc _).alloc _).trans hgA).step HG2.out (by omega)
  have hsA : w.heap.size < w2.drew.heap.size := by show w.heap.size < w2.heap.size; have := HG2.out.size; omega
  have t5 : Gr w _ := gAA.drew.trans hg5
  have y5 := hg5.size
  exact bodyPost_ret (v := .tuple #[.agg #[.int .i64 (bt l 0), .int .i64 (bt l 1), .int .i64 (bt l 2 * 256 + bt l 3), .int .i64 (bt l 4 * 256 + bt l 5), .int .i64 (bt l 6 * 256 + bt l 7)], .slice f5 g5 j5, .bool true]) (by simp [results, Try.results23, go_sem, hR5]) rfl ⟨_, _, _, rfl, IsB.reRow (ho5.isB) (ho5.other (by omega)), Gr.row t5 (Nat.le_refl _)⟩

end Go.Proofs.Ytbdbaapdiklnhaa
