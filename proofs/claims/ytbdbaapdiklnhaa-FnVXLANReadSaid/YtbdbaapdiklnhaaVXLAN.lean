/-
  A header of a virtual extensible network: reading.
-/
import Derived.Test.YtbdbaapdiklnhaaLib3
import Derived.Test.YtbdbaapdiklnhaaLib2
import Derived.Test.YtbdbaapdiklnhaaBase
import Derived.Laws.CopyOwn
import Derived.Deep.RegionLaw
import Derived.Deep.RegionHeld3
import Derived.Deep.RegionWith
namespace Go.Proofs.Ytbdbaapdiklnhaa
open Go.RowKit

theorem size_u8 : (Try.prog.info? 5).map (·.size) = some 1 := by kernel_rfl

set_option maxRecDepth 100000 in
set_option maxHeartbeats 1000000 in
theorem vxlanDecode_calls (D : Nat) (cs : List Value) (hcs : cs.length = 8) (v : Value) (l : List Int) (w : World) (hD : w.heap[D]? = some (.cells cs.toArray 145 (0, 0))) (h : IsB w v l) (hl : 8 ≤ l.length) (hne : v.ownBlock ≠ some D) :
    Calls Try.prog 72 #[.pointer (some ⟨D, 0, none⟩), v, .iface 179 (.agg #[])] w fun e w' => e = .returned .nilIface ∧
      w.grownBy w' (some D) ∧ ∃ a3 n3 m3 a4 n4 m4, IsB w' (.slice a3 n3 m3) (l.take 8) ∧ IsB w' (.slice a4 n4 m4) (l.drop 8) ∧
        w'.heap[D]? = some (.cells #[.slice a3 n3 m3, .slice a4 n4 m4, .bool (decide (bt l 0 / 8 % 2 * 8 > 0)), .int .u32 (bt [0, bt l 4, bt l 5, bt l 6] 0 * 16777216 + bt [0, bt l 4, bt l 5, bt l 6] 1 * 65536 + bt [0, bt l 4, bt l 5, bt l 6] 2 * 256 + bt [0, bt l 4, bt l 5, bt l 6] 3), .bool (decide (bt l 0 / 128 % 2 * 128 > 0)), .bool (decide (bt l 1 / 64 % 2 * 64 > 0)), .bool (decide (bt l 1 / 128 % 2 * 128 > 0)), .int .u16 (bt l 2 * 256 + bt l 3)] 145 (0, 0)) := by
  obtain ⟨w0, rfl⟩ : ∃ w0, w = rowW w0 D cs 145 := ⟨w, (rowW_self hD).symm⟩
  have hd : Has w0 D := by unfold Has; rw [← rowW_size (cs := cs) (e := 145) (D := D)]; exact (Array.getElem?_eq_some_iff.1 hD).1
  clear hD
  replace h := h.unrow hne
  obtain ⟨w1, rfl⟩ : ∃ w1 : World, w0 = w1.drewN 0 := ⟨w0, rfl⟩
  have h : IsB w1 v l := h
  have hd : Has w1 D := hd
  have hlen := fun ty => h.len (P := Try.prog) 24 ty 5 Try.underlying24
  obtain ⟨i, hi, hz0, hz1, hz2⟩ := info_parts info_u8
  obtain ⟨b0, o0, i0, c0, z0⟩ := h.idx (P := Try.prog) 24 5 i Try.underlying24 hi hz1 .i64 0 0 rfl (by omega)
  have e0 : b0 ≠ D := by rintro rfl; exact hne z0
  clear z0
  have p0 := h.bytes.bt0 0
  have q0 := h.bytes.bt1 0
  obtain ⟨b1, o1, i1, c1, z1⟩ := h.idx (P := Try.prog) 24 5 i Try.underlying24 hi hz1 .i64 1 1 rfl (by omega)
  have e1 : b1 ≠ D := by rintro rfl; exact hne z1
  clear z1
  have p1 := h.bytes.bt0 1
  have q1 := h.bytes.bt1 1
  obtain ⟨a1, n1, m1, hv1, hb1, s1⟩ := h.cutLH (P := Try.prog) 24 5 i Try.underlying24 hi hz1 4 7 4 7 rfl rfl (by omega) (by omega)
  rw [← hb1] at hne
  have hne1 := hne
  rw [hb1] at hne
  clear hb1
  obtain ⟨a2, n2, m2, hv2, hb2, s2⟩ := h.cutLH (P := Try.prog) 24 5 i Try.underlying24 hi hz1 2 4 2 4 rfl rfl (by omega) (by omega)
  rw [← hb2] at hne
  have hne2 := hne
  rw [hb2] at hne
  clear hb2
  obtain ⟨a3, n3, m3, hv3, hb3, s3⟩ := h.cutH (P := Try.prog) 24 5 i Try.underlying24 hi hz1 8 8 rfl (by omega)
  rw [← hb3] at hne
  have hne3 := hne
  rw [hb3] at hne
  clear hb3
  obtain ⟨a4, n4, m4, hv4, hb4, s4⟩ := h.cutL (P := Try.prog) 24 5 i Try.underlying24 hi hz1 8 8 rfl (by omega)
  rw [← hb4] at hne
  have hne4 := hne
  rw [hb4] at hne
  clear hb4
  clear hi hz0 hz1 hz2
  have v0 : bits .and .u8 (bt l 0) 8 = bt l 0 / 8 % 2 * 8 := by rw [band .u8 1 3 p0 (by rw [max_u8]; omega) (by decide) (by decide)]; omega
  have v1 : bits .and .u8 (bt l 0) 128 = bt l 0 / 128 % 2 * 128 := by rw [band .u8 1 7 p0 (by rw [max_u8]; omega) (by decide) (by decide)]; omega
  have v2 : bits .and .u8 (bt l 1) 64 = bt l 1 / 64 % 2 * 64 := by rw [band .u8 1 6 p1 (by rw [max_u8]; omega) (by decide) (by decide)]; omega
  have v3 : bits .and .u8 (bt l 1) 128 = bt l 1 / 128 % 2 * 128 := by rw [band .u8 1 7 p1 (by rw [max_u8]; omega) (by decide) (by decide)]; omega
  obtain ⟨y0, y1, y2, y3, y4, y5, y6, y7, rfl⟩ := len8 hcs
  go_enter Try.func72, Try.ntmps72
  go_wp2_with fail
  have x3 := bt_three (m := ((l.take 7).drop 4)) (by simp; omega)
  simp only [bt_drop, bt_take (show 4 + 0 < 7 by omega), bt_take (show 4 + 1 < 7 by omega), bt_take (show 4 + 2 < 7 by omega), Nat.add_zero, Nat.reduceAdd] at x3
  rw [x3] at hv1
  obtain rfl : n1 = 3 := hv1.count
  have hz := heap_alloc_new (rowW (w1.drewN 0) D [y0, y1, y2, y3, y4, y5, y6, y7] 145) (.cells #[.int .u8 0, .int .u8 0, .int .u8 0, .int .u8 0] 181)
  rw [rowW_size] at hz
  have hsr := IsB.src ((IsB.row0 (D := D) (cs := [y0, y1, y2, y3, y4, y5, y6, y7]) (e := 145) hv1 hne1 0).gr (((Gr.refl _).alloc (.cells #[.int .u8 0, .int .u8 0, .int .u8 0, .int .u8 0] 181)).drew)) (by simp)
  go_region_law (refine step_copy_splice rfl (.tmp 12) (.tmp 14) 24 24 rfl 5 Try.underlying24 size_u8 (some ⟨w1.heap.size, 1, none⟩) a1 3 3 3 m1 (by simp [Act.eval, Act.put]) (by simp [Act.eval, Act.put]) w1.heap.size 1 [.int .u8 0, .int .u8 0, .int .u8 0, .int .u8 0] 181 hz (bcells [bt l 4, bt l 5, bt l 6]) (by simp [bcells]) (fun _ => ⟨rfl, hsr⟩) (by simp [bcells]) (bcells_one _) (rowW (w1.drewN 0) D [y0, y1, y2, y3, y4, y5, y6, y7] 145).heap.size (rowW (w1.drewN 0) D [y0, y1, y2, y3, y4, y5, y6, y7] 145) ((((Gr.refl (rowW (w1.drewN 0) D [y0, y1, y2, y3, y4, y5, y6, y7] 145)).alloc (.cells #[.int .u8 0, .int .u8 0, .int .u8 0, .int .u8 0] 181)).drew).below) (by rw [rowW_size]; exact Nat.le_refl _) ?_; intro w4 hg4 hb4)
  have G4 := gr_of_below hb4
  clear hb4 hsr hz
  obtain ⟨wC, hdC, rfl⟩ := G4.rowOut (show Has (w1.drewN 0) D from hd)
  obtain ⟨wD, rfl⟩ : ∃ wD : World, wC = wD.drewN 0 := ⟨wC, rfl⟩
  have hdD : Has wD D := hdC
  clear hdC
  replace hv1 := show IsB wD _ _ from ((IsB.row0 hv1 hne1 0).gr G4).unrow hne1
  replace hv2 := show IsB wD _ _ from ((IsB.row0 hv2 hne2 0).gr G4).unrow hne2
  replace hv3 := show IsB wD _ _ from ((IsB.row0 hv3 hne3 0).gr G4).unrow hne3
  replace hv4 := show IsB wD _ _ from ((IsB.row0 hv4 hne4 0).gr G4).unrow hne4
  replace c0 := (rowW_cell_other (w := wD) (D := D) (cs := [y0, y1, y2, y3, y4, y5, y6, y7]) (e := 145) e0).symm.trans (G4.cell ((rowW_cell_other e0).trans c0))
  replace c1 := (rowW_cell_other (w := wD) (D := D) (cs := [y0, y1, y2, y3, y4, y5, y6, y7]) (e := 145) e1).symm.trans (G4.cell ((rowW_cell_other e1).trans c1))
  have hBD : w1.heap.size ≠ D := fun h => by have : D < w1.heap.size := hd; omega
  have hX : IsB wD (.slice (some ⟨w1.heap.size, 0, none⟩) 4 4) [0, bt l 4, bt l 5, bt l 6] := isB_row (l := [0, bt l 4, bt l 5, bt l 6]) (t := 181) (by have := hg4.out; rw [rowW_other hBD] at this; exact this) (by intro z hz; simp at hz; rcases hz with rfl | rfl | rfl | rfl <;> first | omega | exact ⟨h.bytes.bt0 _, h.bytes.bt1 _⟩) (by simp [maxLen])
  have hneX : (Value.slice (some ⟨w1.heap.size, 0, none⟩) 4 4).ownBlock ≠ some D := by simp [Value.ownBlock]; exact hBD
  clear hg4
  go_wp2_with (first
      | (go_at_call 82; refine (be16_calls _ _ _ (IsB.row0 (by assumption) (by assumption) _) (by simp <;> omega)).mono ?_; rintro e w' ⟨rfl, n, rfl⟩)
      | (go_at_call 84; refine (be32_calls _ _ _ (IsB.row0 (by assumption) (by assumption) _) (by simp <;> omega)).mono ?_; rintro e w' ⟨rfl, n, rfl⟩))
  go_ret
  exact ⟨rfl, grownBy_trans (G4.to _) (rowW_rowW (w := wD.drewN 0)), _, _, _, _, _, _, hv3.row0 hne3 _, hv4.row0 hne4 _, rowW_heap hdD⟩

set_option maxRecDepth 100000 in
set_option maxHeartbeats 2000000 in
theorem vxlanRead_calls (v : Value) (l : List Int) (w : World) (h : IsB w v l) (hl : 8 ≤ l.length) (hm : l.length ≤ 1000000) :
    Calls Try.prog 43 #[v] w fun e w' => ∃ f4 g4 j4, e = .returned (.tuple #[.agg #[.bool (decide (bt l 0 / 8 % 2 * 8 > 0)), .int .i64 (bt [0, bt l 4, bt l 5, bt l 6] 0 * 16777216 + bt [0, bt l 4, bt l 5, bt l 6] 1 * 65536 + bt [0, bt l 4, bt l 5, bt l 6] 2 * 256 + bt [0, bt l 4, bt l 5, bt l 6] 3), .bool (decide (bt l 0 / 128 % 2 * 128 > 0)), .bool (decide (bt l 1 / 64 % 2 * 64 > 0)), .bool (decide (bt l 1 / 128 % 2 * 128 > 0)), .int .i64 (bt l 2 * 256 + bt l 3)], .slice f4 g4 j4, .bool true]) ∧
      IsB w' (.slice f4 g4 j4) (l.drop 8) ∧ Gr w w' := by
  have H := Lib.hid h
  clear h
  go_enter Try.func43, Try.ntmps43
  go_wp2_with fail
  refine (copied_calls _ l _ ?_ (by omega)).mono ?_
  · exact H.out.gr (((Gr.refl w).alloc _).alloc _)
  rintro e w1 ⟨a0, n0, m0, rfl, hoA, hgA⟩
  go_wp2_with fail
  refine (nilFeedback_calls _).mono ?_
  rintro e w2 ⟨rfl, rfl⟩
  go_wp2_with fail
  have hR := HasRow.gr hgA (HasRow.gr (World.grownBy_alloc _ (.cells #[.slice none 0 0, .slice none 0 0, .bool false, .int .u32 0, .bool false, .bool false, .bool false, .int .u16 0] 145) none) (HasRow.new w [.bool false, .int .i64 0, .bool false, .bool false, .bool false, .int .i64 0] 70 6 rfl))
  have hD := heap_gr hgA (heap_alloc_new (w.alloc (.cells #[.bool false, .int .i64 0, .bool false, .bool false, .bool false, .int .i64 0] 70)) (.cells #[.slice none 0 0, .slice none 0 0, .bool false, .int .u32 0, .bool false, .bool false, .bool false, .int .u16 0] 145))
  have hS := hgA.size
  simp only [World.size_alloc] at hD hS
  have HR := Lib.hid hR
  have HD := Lib.hid hD
  clear hR hD
  refine (vxlanDecode_calls (w.heap.size + 1) _ rfl _ l w1 HD.out hoA.isB hl (hoA.other (by simp))).mono ?_
  rintro e w2 ⟨rfl, hgB, a3, n3, m3, a4, n4, m4, hb3, hb4, hd2⟩
  have HR2 := Lib.hid (HasRow.grown HR.out hgB (by omega))
  have HG2 := Lib.hid hgB
  have HD2 := Lib.hid hd2
  clear hgB hd2
  have k1 := cell_of_heap (cs := [_, _, _, _, _, _, _, _]) HD2.out 1 _ rfl
  have k2 := cell_of_heap (cs := [_, _, _, _, _, _, _, _]) HD2.out 2 _ rfl
  have k3 := cell_of_heap (cs := [_, _, _, _, _, _, _, _]) HD2.out 3 _ rfl
  have k4 := cell_of_heap (cs := [_, _, _, _, _, _, _, _]) HD2.out 4 _ rfl
  have k5 := cell_of_heap (cs := [_, _, _, _, _, _, _, _]) HD2.out 5 _ rfl
  have k6 := cell_of_heap (cs := [_, _, _, _, _, _, _, _]) HD2.out 6 _ rfl
  have k7 := cell_of_heap (cs := [_, _, _, _, _, _, _, _]) HD2.out 7 _ rfl
  go_wp2_with fail
  have hne : w.heap.size + 1 ≠ w.heap.size := by omega
  have p2 := hoA.bytes.bt0 2
  have q2 := hoA.bytes.bt1 2
  have p3 := hoA.bytes.bt0 3
  have q3 := hoA.bytes.bt1 3
  have p4 := hoA.bytes.bt0 4
  have q4 := hoA.bytes.bt1 4
  have p5 := hoA.bytes.bt0 5
  have q5 := hoA.bytes.bt1 5
  have p6 := hoA.bytes.bt0 6
  have q6 := hoA.bytes.bt1 6
  have ux : (bt [0, bt l 4, bt l 5, bt l 6] 0 * 16777216 + bt [0, bt l 4, bt l 5, bt l 6] 1 * 65536 + bt [0, bt l 4, bt l 5, bt l 6] 2 * 256 + bt [0, bt l 4, bt l 5, bt l 6] 3) = bt l 4 * 65536 + bt l 5 * 256 + bt l 6 := by show 0 * 16777216 + bt l 4 * 65536 + bt l 5 * 256 + bt l 6 = _; omega
  have u0 : IntKind.i64.wrap (bt [0, bt l 4, bt l 5, bt l 6] 0 * 16777216 + bt [0, bt l 4, bt l 5, bt l 6] 1 * 65536 + bt [0, bt l 4, bt l 5, bt l 6] 2 * 256 + bt [0, bt l 4, bt l 5, bt l 6] 3) = (bt [0, bt l 4, bt l 5, bt l 6] 0 * 16777216 + bt [0, bt l 4, bt l 5, bt l 6] 1 * 65536 + bt [0, bt l 4, bt l 5, bt l 6] 2 * 256 + bt [0, bt l 4, bt l 5, bt l 6] 3) := w64 (by omega) (by omega)
  have u1 : IntKind.i64.wrap (bt l 2 * 256 + bt l 3) = bt l 2 * 256 + bt l 3 := w64 (by omega) (by omega)
  clear ux
  go_region_held3 (fun w' => w'.cell? ⟨w.heap.size + 1, 1, none⟩ = some (.slice a4 n4 m4) ∧ w'.cell? ⟨w.heap.size + 1, 2, none⟩ = some (.bool (decide (bt l 0 / 8 % 2 * 8 > 0))) ∧ w'.cell? ⟨w.heap.size + 1, 3, none⟩ = some (.int .u32 (bt [0, bt l 4, bt l 5, bt l 6] 0 * 16777216 + bt [0, bt l 4, bt l 5, bt l 6] 1 * 65536 + bt [0, bt l 4, bt l 5, bt l 6] 2 * 256 + bt [0, bt l 4, bt l 5, bt l 6] 3)) ∧ w'.cell? ⟨w.heap.size + 1, 4, none⟩ = some (.bool (decide (bt l 0 / 128 % 2 * 128 > 0))) ∧ w'.cell? ⟨w.heap.size + 1, 5, none⟩ = some (.bool (decide (bt l 1 / 64 % 2 * 64 > 0))) ∧ w'.cell? ⟨w.heap.size + 1, 6, none⟩ = some (.bool (decide (bt l 1 / 128 % 2 * 128 > 0))) ∧ w'.cell? ⟨w.heap.size + 1, 7, none⟩ = some (.int .u16 (bt l 2 * 256 + bt l 3))) (first | exact And.imp (Gr.cell (by assumption)) (And.imp (Gr.cell (by assumption)) (And.imp (Gr.cell (by assumption)) (And.imp (Gr.cell (by assumption)) (And.imp (Gr.cell (by assumption)) (And.imp (Gr.cell (by assumption)) (Gr.cell (by assumption))))))) (by assumption) | exact And.imp (rowW_swap hne) (And.imp (rowW_swap hne) (And.imp (rowW_swap hne) (And.imp (rowW_swap hne) (And.imp (rowW_swap hne) (And.imp (rowW_swap hne) (rowW_swap hne)))))) (by assumption) | go_keep) (first
    | (go_at_call_of 60 (Value.slice a4 n4 m4); refine (copied_calls _ (l.drop 8) _ ?_ ?_).mono ?_; (exact IsB.drew hb4); (rw [List.length_drop]; omega); rintro e x4 ⟨f4, g4, j4, rfl, ho4, hg4⟩; obtain ⟨u4, rs4, hrs4, hR4, rfl⟩ := (HasRow.gr hg4 (by with_reducible first | exact HasRow.row (by assumption) rfl | exact HR2.out.drew)).w0; obtain ⟨r4x0, r4x1, r4x2, r4x3, r4x4, r4x5, rfl⟩ := len6 hrs4))
  go_wp2
  have gAA : Gr w w2 := ((((Gr.refl w).alloc _).alloc _).trans hgA).step HG2.out (by omega)
  have hsA : w.heap.size < w2.drew.heap.size := by show w.heap.size < w2.heap.size; have := HG2.out.size; omega
  have t4 : Gr w _ := gAA.drew.trans hg4
  have y4 := hg4.size
  exact bodyPost_ret (v := .tuple #[.agg #[.bool (decide (bt l 0 / 8 % 2 * 8 > 0)), .int .i64 (bt [0, bt l 4, bt l 5, bt l 6] 0 * 16777216 + bt [0, bt l 4, bt l 5, bt l 6] 1 * 65536 + bt [0, bt l 4, bt l 5, bt l 6] 2 * 256 + bt [0, bt l 4, bt l 5, bt l 6] 3), .bool (decide (bt l 0 / 128 % 2 * 128 > 0)), .bool (decide (bt l 1 / 64 % 2 * 64 > 0)), .bool (decide (bt l 1 / 128 % 2 * 128 > 0)), .int .i64 (bt l 2 * 256 + bt l 3)], .slice f4 g4 j4, .bool true]) (by simp [results, Try.results43, go_sem, hR4]) rfl ⟨_, _, _, rfl, IsB.reRow (ho4.isB) (ho4.other (by omega)), Gr.row t4 (Nat.le_refl _)⟩

end Go.Proofs.Ytbdbaapdiklnhaa
