/-
  The header of a segment without options: reading.
-/
import Derived.Test.YtdpffedmgmllbaaLib2
import Derived.Test.YtdpffedmgmllbaaLib3
import Derived.Test.YtdpffedmgmllbaaTrunc
import Derived.Test.YtdpffedmgmllbaaBase
import Derived.Deep.RegionHeld3
import Derived.Deep.RegionWith
namespace Go.Proofs.Ytdpffedmgmllbaa
open Go.RowKit

/-- a bit is set -/
def fb (x m : Int) : Bool := bits .and .u8 x m != 0
theorem nil_hB (k : IntKind) (w : World) : (Instr.sliceAt 25 (.slice none 0 0) none (some (.int k 0)) none).run Try.prog w = .ok (.slice none 0 0) w := by
  obtain ⟨i, hi, hz0, hz1, hz2⟩ := info_parts info_u8
  have hE : Try.prog.elem 25 = 5 := by simp [Program.elem, Try.underlying25]
  rw [run_sliceAt_slice w 25 _ _ _ _ (by rw [hE]; exact Try.underlying25), run_slice_h w 25 _ _ _ (by rw [hE]; exact Try.underlying25) k 0 (by omega) (by omega)]
  simp [sizeOf, typeInfo, hE, hi, hz1, Result.andThen, sliced]

set_option maxRecDepth 100000 in
set_option maxHeartbeats 1000000 in
theorem tcpDecode_calls (D : Nat) (cs : List Value) (hcs : cs.length = 36) (hc21 : cs[21]? = some (.slice none 0 0)) (hc22 : cs[22]? = some (.slice none 0 0)) (v : Value) (l : List Int) (w : World) (hD : w.heap[D]? = some (.cells cs.toArray 85 (0, 0))) (h : IsB w v l) (hl : 20 ≤ l.length) (h5 : bt l 12 / 16 = 5) (hne : v.ownBlock ≠ some D) :
    Calls Try.prog 43 #[.pointer (some ⟨D, 0, none⟩), v, .iface 156 (.agg #[])] w fun e w' => e = .returned .nilIface ∧
      w.grownBy w' (some D) ∧ ∃ z23 z24 z25 z26 z27 z28 z29 z30 z31 z32 z33 z34 z35 a8 n8 m8 a9 n9 m9 a1 n1 m1 a2 n2 m2, IsB w' (.slice a8 n8 m8) (l.take 20) ∧ IsB w' (.slice a9 n9 m9) (l.drop 20) ∧ IsB w' (.slice a1 n1 m1) ((l.take 2).drop 0) ∧ IsB w' (.slice a2 n2 m2) ((l.take 4).drop 2) ∧
        w'.heap[D]? = some (.cells #[.slice a8 n8 m8, .slice a9 n9 m9, .int .u16 (bt l 0 * 256 + bt l 1), .int .u16 (bt l 2 * 256 + bt l 3), .int .u32 (bt l 4 * 16777216 + bt l 5 * 65536 + bt l 6 * 256 + bt l 7), .int .u32 (bt l 8 * 16777216 + bt l 9 * 65536 + bt l 10 * 256 + bt l 11), .int .u8 5, .bool (fb (bt l 13) 1), .bool (fb (bt l 13) 2), .bool (fb (bt l 13) 4), .bool (fb (bt l 13) 8), .bool (fb (bt l 13) 16), .bool (fb (bt l 13) 32), .bool (fb (bt l 13) 64), .bool (fb (bt l 13) 128), .bool (fb (bt l 12) 1), .int .u16 (bt l 14 * 256 + bt l 15), .int .u16 (bt l 16 * 256 + bt l 17), .int .u16 (bt l 18 * 256 + bt l 19), .slice a1 n1 m1, .slice a2 n2 m2, .slice (some ⟨D, 23, none⟩) 0 4, .slice none 0 0, z23, z24, z25, z26, z27, z28, z29, z30, z31, z32, z33, z34, z35] 85 (0, 0)) := by
  obtain ⟨w0, rfl⟩ : ∃ w0, w = rowW w0 D cs 85 := ⟨w, (rowW_self hD).symm⟩
  have hd : Has w0 D := by unfold Has; rw [← rowW_size (cs := cs) (e := 85) (D := D)]; exact (Array.getElem?_eq_some_iff.1 hD).1
  clear hD
  replace h := h.unrow hne
  obtain ⟨w1, rfl⟩ : ∃ w1 : World, w0 = w1.drewN 0 := ⟨w0, rfl⟩
  have h : IsB w1 v l := h
  have hd : Has w1 D := hd
  have hlen := fun ty => h.len (P := Try.prog) 25 ty 5 Try.underlying25
  obtain ⟨i, hi, hz0, hz1, hz2⟩ := info_parts info_u8
  obtain ⟨b12, o12, i12, c12, z12⟩ := h.idx (P := Try.prog) 25 5 i Try.underlying25 hi hz1 .i64 12 12 rfl (by omega)
  have e12 : b12 ≠ D := by rintro rfl; exact hne z12
  clear z12
  have p12 := h.bytes.bt0 12
  have q12 := h.bytes.bt1 12
  obtain ⟨b13, o13, i13, c13, z13⟩ := h.idx (P := Try.prog) 25 5 i Try.underlying25 hi hz1 .i64 13 13 rfl (by omega)
  have e13 : b13 ≠ D := by rintro rfl; exact hne z13
  clear z13
  have p13 := h.bytes.bt0 13
  have q13 := h.bytes.bt1 13
  obtain ⟨a1, n1, m1, hv1, hb1, s1⟩ := h.cutLH (P := Try.prog) 25 5 i Try.underlying25 hi hz1 0 2 0 2 rfl rfl (by omega) (by omega)
  rw [← hb1] at hne
  have hne1 := hne
  rw [hb1] at hne
  clear hb1
  obtain ⟨a2, n2, m2, hv2, hb2, s2⟩ := h.cutLH (P := Try.prog) 25 5 i Try.underlying25 hi hz1 2 4 2 4 rfl rfl (by omega) (by omega)
  rw [← hb2] at hne
  have hne2 := hne
  rw [hb2] at hne
  clear hb2
  obtain ⟨a3, n3, m3, hv3, hb3, s3⟩ := h.cutLH (P := Try.prog) 25 5 i Try.underlying25 hi hz1 4 8 4 8 rfl rfl (by omega) (by omega)
  rw [← hb3] at hne
  have hne3 := hne
  rw [hb3] at hne
  clear hb3
  obtain ⟨a4, n4, m4, hv4, hb4, s4⟩ := h.cutLH (P := Try.prog) 25 5 i Try.underlying25 hi hz1 8 12 8 12 rfl rfl (by omega) (by omega)
  rw [← hb4] at hne
  have hne4 := hne
  rw [hb4] at hne
  clear hb4
  obtain ⟨a5, n5, m5, hv5, hb5, s5⟩ := h.cutLH (P := Try.prog) 25 5 i Try.underlying25 hi hz1 14 16 14 16 rfl rfl (by omega) (by omega)
  rw [← hb5] at hne
  have hne5 := hne
  rw [hb5] at hne
  clear hb5
  obtain ⟨a6, n6, m6, hv6, hb6, s6⟩ := h.cutLH (P := Try.prog) 25 5 i Try.underlying25 hi hz1 16 18 16 18 rfl rfl (by omega) (by omega)
  rw [← hb6] at hne
  have hne6 := hne
  rw [hb6] at hne
  clear hb6
  obtain ⟨a7, n7, m7, hv7, hb7, s7⟩ := h.cutLH (P := Try.prog) 25 5 i Try.underlying25 hi hz1 18 20 18 20 rfl rfl (by omega) (by omega)
  rw [← hb7] at hne
  have hne7 := hne
  rw [hb7] at hne
  clear hb7
  obtain ⟨a8, n8, m8, hv8, hb8, s8⟩ := h.cutH (P := Try.prog) 25 5 i Try.underlying25 hi hz1 20 20 rfl (by omega)
  rw [← hb8] at hne
  have hne8 := hne
  rw [hb8] at hne
  clear hb8
  obtain ⟨a9, n9, m9, hv9, hb9, s9⟩ := h.cutL (P := Try.prog) 25 5 i Try.underlying25 hi hz1 20 20 rfl (by omega)
  rw [← hb9] at hne
  have hne9 := hne
  rw [hb9] at hne
  clear hb9
  obtain ⟨a10, n10, m10, hv10, hb10, s10⟩ := h.cutLH (P := Try.prog) 25 5 i Try.underlying25 hi hz1 20 20 20 20 rfl rfl (by omega) (by omega)
  rw [← hb10] at hne
  have hne10 := hne
  rw [hb10] at hne
  clear hb10
  clear hi hz0 hz1 hz2
  have g0 : (bits .and .u8 (bt l 13) 1 != 0) = fb (bt l 13) 1 := rfl
  have g1 : (bits .and .u8 (bt l 13) 2 != 0) = fb (bt l 13) 2 := rfl
  have g2 : (bits .and .u8 (bt l 13) 4 != 0) = fb (bt l 13) 4 := rfl
  have g3 : (bits .and .u8 (bt l 13) 8 != 0) = fb (bt l 13) 8 := rfl
  have g4 : (bits .and .u8 (bt l 13) 16 != 0) = fb (bt l 13) 16 := rfl
  have g5 : (bits .and .u8 (bt l 13) 32 != 0) = fb (bt l 13) 32 := rfl
  have g6 : (bits .and .u8 (bt l 13) 64 != 0) = fb (bt l 13) 64 := rfl
  have g7 : (bits .and .u8 (bt l 13) 128 != 0) = fb (bt l 13) 128 := rfl
  have g8 : (bits .and .u8 (bt l 12) 1 != 0) = fb (bt l 12) 1 := rfl
  have sn := nil_hB
  have sq : ∀ w : World, (binOp .eql 75 (.slice none 0 0) (.slice none 0 0)).run Try.prog w = .ok (.bool true) w := fun w => by kernel_rfl
  obtain rfl : n10 = 0 := by have := hv10.count; simp at this; exact this
  obtain ⟨y0, y1, y2, y3, y4, y5, y6, y7, y8, y9, y10, y11, y12, y13, y14, y15, y16, y17, y18, y19, y20, y21, y22, y23, y24, y25, y26, y27, y28, y29, y30, y31, y32, y33, y34, y35, rfl⟩ := len36 hcs
  obtain rfl : y21 = .slice none 0 0 := by simpa using hc21
  obtain rfl : y22 = .slice none 0 0 := by simpa using hc22
  clear hc21 hc22
  go_enter Try.func43, Try.ntmps43
  go_wp2_with fail
  go_step3
  go_wp2_with (first
      | (go_at_call 68; refine (be16_calls _ _ _ (IsB.row0 (by assumption) (by assumption) _) (by simp; try omega)).mono ?_; rintro e w' ⟨rfl, n, rfl⟩)
      | (go_at_call 69; refine (be32_calls _ _ _ (IsB.row0 (by assumption) (by assumption) _) (by simp; try omega)).mono ?_; rintro e w' ⟨rfl, n, rfl⟩))
  go_step3
  go_wp2_with fail
  refine wp_loop_rounds 1 ?_
  rw [rounds_succ]
  go_wp2_with fail
  rw [Exit.noGoto_ret]
  go_ret
  exact ⟨rfl, rowW_rowW (w := w1.drewN 0), _, _, _, _, _, _, _, _, _, _, _, _, _, _, _, _, _, _, _, _, _, _, _, _, _, hv8.row0 hne8 _, hv9.row0 hne9 _, hv1.row0 hne1 _, hv2.row0 hne2 _, rowW_heap hd⟩

end Go.Proofs.Ytdpffedmgmllbaa
