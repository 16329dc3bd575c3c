/-
  A header of routing encapsulation: reading, part 0.
-/
import Derived.Test.YtbdbaapdiklnhaaLib3
import Derived.Test.YtbdbaapdiklnhaaLib2
import Derived.Test.YtbdbaapdiklnhaaTrunc
import Derived.Test.YtbdbaapdiklnhaaBase
import Derived.Deep.RegionHeld3
import Derived.Deep.RegionWith
namespace Go.Proofs.Ytbdbaapdiklnhaa
open Go.RowKit

set_option maxRecDepth 100000 in
set_option maxHeartbeats 1000000 in
theorem greDecode0000_calls (D : Nat) (cs : List Value) (hcs : cs = [.slice none 0 0, .slice none 0 0, .bool false, .bool false, .bool false, .bool false, .bool false, .bool false, .int .u8 0, .int .u8 0, .int .u8 0, .int .u16 0, .int .u16 0, .int .u16 0, .int .u32 0, .int .u32 0, .int .u32 0, .pointer none]) (v : Value) (l : List Int) (w : World) (hD : w.heap[D]? = some (.cells cs.toArray 149 (0, 0))) (h : IsB w v l) (hl : 4 ≤ l.length) (f0 : bits .and .u8 (bt l 0) 128 = 0) (f1 : bits .and .u8 (bt l 0) 64 = 0) (f2 : bits .and .u8 (bt l 0) 32 = 0) (f3 : bits .and .u8 (bt l 0) 16 = 0) (f4 : bits .and .u8 (bt l 0) 8 = 0) (f5 : bits .and .u8 (bt l 1) 128 = 0) (hne : v.ownBlock ≠ some D) :
    Calls Try.prog 74 #[.pointer (some ⟨D, 0, none⟩), v, .iface 179 (.agg #[])] w fun e w' => e = .returned .nilIface ∧
      w.grownBy w' (some D) ∧ ∃ a7 n7 m7 a8 n8 m8, IsB w' (.slice a7 n7 m7) (l.take 4) ∧ IsB w' (.slice a8 n8 m8) (l.drop 4) ∧
        w'.heap[D]? = some (.cells #[.slice a7 n7 m7, .slice a8 n8 m8, .bool false, .bool false, .bool false, .bool false, .bool false, .bool false, .int .u8 (bt l 0 % 8), .int .u8 (bt l 1 / 8), .int .u8 (bt l 1 % 8), .int .u16 (bt l 2 * 256 + bt l 3), .int .u16 0, .int .u16 0, .int .u32 0, .int .u32 0, .int .u32 0, .pointer none] 149 (0, 0)) := by
  obtain ⟨w0, rfl⟩ : ∃ w0, w = rowW w0 D cs 149 := ⟨w, (rowW_self hD).symm⟩
  have hd : Has w0 D := by unfold Has; rw [← rowW_size (cs := cs) (e := 149) (D := D)]; exact (Array.getElem?_eq_some_iff.1 hD).1
  clear hD
  replace h := h.unrow hne
  obtain ⟨w1, rfl⟩ : ∃ w1 : World, w0 = w1.drewN 0 := ⟨w0, rfl⟩
  have h : IsB w1 v l := h
  have hd : Has w1 D := hd
  have hlen := fun ty => h.len (P := Try.prog) 24 ty 5 Try.underlying24
  obtain ⟨i, hi, hz0, hz1, hz2⟩ := info_parts info_u8
  obtain ⟨b0, o0, i0, c0, z0⟩ := h.idx (P := Try.prog) 24 5 i Try.underlying24 hi hz1 .i64 0 0 rfl (by omega)
  have e0 : b0 ≠ D := by rintro rfl; exact hne z0
  clear z0
  have p0 := h.bytes.bt0 0
  have q0 := h.bytes.bt1 0
  obtain ⟨b1, o1, i1, c1, z1⟩ := h.idx (P := Try.prog) 24 5 i Try.underlying24 hi hz1 .i64 1 1 rfl (by omega)
  have e1 : b1 ≠ D := by rintro rfl; exact hne z1
  clear z1
  have p1 := h.bytes.bt0 1
  have q1 := h.bytes.bt1 1
  obtain ⟨a1, n1, m1, hv1, hb1, s1⟩ := h.cutLH (P := Try.prog) 24 5 i Try.underlying24 hi hz1 2 4 2 4 rfl rfl (by omega) (by omega)
  rw [← hb1] at hne
  have hne1 := hne
  rw [hb1] at hne
  clear hb1
  obtain ⟨a7, n7, m7, hv7, hb7, s7⟩ := h.cutH (P := Try.prog) 24 5 i Try.underlying24 hi hz1 4 4 rfl (by omega)
  rw [← hb7] at hne
  have hne7 := hne
  rw [hb7] at hne
  clear hb7
  obtain ⟨a8, n8, m8, hv8, hb8, s8⟩ := h.cutL (P := Try.prog) 24 5 i Try.underlying24 hi hz1 4 4 rfl (by omega)
  rw [← hb8] at hne
  have hne8 := hne
  rw [hb8] at hne
  clear hb8
  clear hi hz0 hz1 hz2
  have f6 : bits .and .u8 (bt l 0) 7 = bt l 0 % 8 := bmask .u8 3 (by omega) (by rw [max_u8]; omega) (by decide) (by decide)
  have f7 : bits .and .u8 (bt l 1) 7 = bt l 1 % 8 := bmask .u8 3 (by omega) (by rw [max_u8]; omega) (by decide) (by decide)
  subst hcs
  go_enter Try.func74, Try.ntmps74
  go_wp2_with (first
      | (go_at_call 82; refine (be16_calls _ _ _ (IsB.row0 (by assumption) (by assumption) _) (by simp <;> omega)).mono ?_; rintro e w' ⟨rfl, n, rfl⟩)
      | (go_at_call 84; refine (be32_calls _ _ _ (IsB.row0 (by assumption) (by assumption) _) (by simp <;> omega)).mono ?_; rintro e w' ⟨rfl, n, rfl⟩))
  go_region_held3 (fun _ => True) (trivial) (fail)
  go_wp2_with fail
  go_ret
  exact ⟨rfl, rowW_rowW (w := w1.drewN 0), _, _, _, _, _, _, hv7.row0 hne7 _, hv8.row0 hne8 _, rowW_heap hd⟩

set_option maxRecDepth 100000 in
set_option maxHeartbeats 1000000 in
theorem greDecode0001_calls (D : Nat) (cs : List Value) (hcs : cs = [.slice none 0 0, .slice none 0 0, .bool false, .bool false, .bool false, .bool false, .bool false, .bool false, .int .u8 0, .int .u8 0, .int .u8 0, .int .u16 0, .int .u16 0, .int .u16 0, .int .u32 0, .int .u32 0, .int .u32 0, .pointer none]) (v : Value) (l : List Int) (w : World) (hD : w.heap[D]? = some (.cells cs.toArray 149 (0, 0))) (h : IsB w v l) (hl : 8 ≤ l.length) (f0 : bits .and .u8 (bt l 0) 128 = 0) (f1 : bits .and .u8 (bt l 0) 64 = 0) (f2 : bits .and .u8 (bt l 0) 32 = 0) (f3 : bits .and .u8 (bt l 0) 16 = 0) (f4 : bits .and .u8 (bt l 0) 8 = 0) (f5 : bits .and .u8 (bt l 1) 128 = 128) (hne : v.ownBlock ≠ some D) :
    Calls Try.prog 74 #[.pointer (some ⟨D, 0, none⟩), v, .iface 179 (.agg #[])] w fun e w' => e = .returned .nilIface ∧
      w.grownBy w' (some D) ∧ ∃ a7 n7 m7 a8 n8 m8, IsB w' (.slice a7 n7 m7) (l.take 8) ∧ IsB w' (.slice a8 n8 m8) (l.drop 8) ∧
        w'.heap[D]? = some (.cells #[.slice a7 n7 m7, .slice a8 n8 m8, .bool false, .bool false, .bool false, .bool false, .bool false, .bool true, .int .u8 (bt l 0 % 8), .int .u8 (bt l 1 / 8), .int .u8 (bt l 1 % 8), .int .u16 (bt l 2 * 256 + bt l 3), .int .u16 0, .int .u16 0, .int .u32 0, .int .u32 0, .int .u32 (bt l 4 * 16777216 + bt l 5 * 65536 + bt l 6 * 256 + bt l 7), .pointer none] 149 (0, 0)) := by
  obtain ⟨w0, rfl⟩ : ∃ w0, w = rowW w0 D cs 149 := ⟨w, (rowW_self hD).symm⟩
  have hd : Has w0 D := by unfold Has; rw [← rowW_size (cs := cs) (e := 149) (D := D)]; exact (Array.getElem?_eq_some_iff.1 hD).1
  clear hD
  replace h := h.unrow hne
  obtain ⟨w1, rfl⟩ : ∃ w1 : World, w0 = w1.drewN 0 := ⟨w0, rfl⟩
  have h : IsB w1 v l := h
  have hd : Has w1 D := hd
  have hlen := fun ty => h.len (P := Try.prog) 24 ty 5 Try.underlying24
  obtain ⟨i, hi, hz0, hz1, hz2⟩ := info_parts info_u8
  obtain ⟨b0, o0, i0, c0, z0⟩ := h.idx (P := Try.prog) 24 5 i Try.underlying24 hi hz1 .i64 0 0 rfl (by omega)
  have e0 : b0 ≠ D := by rintro rfl; exact hne z0
  clear z0
  have p0 := h.bytes.bt0 0
  have q0 := h.bytes.bt1 0
  obtain ⟨b1, o1, i1, c1, z1⟩ := h.idx (P := Try.prog) 24 5 i Try.underlying24 hi hz1 .i64 1 1 rfl (by omega)
  have e1 : b1 ≠ D := by rintro rfl; exact hne z1
  clear z1
  have p1 := h.bytes.bt0 1
  have q1 := h.bytes.bt1 1
  obtain ⟨a1, n1, m1, hv1, hb1, s1⟩ := h.cutLH (P := Try.prog) 24 5 i Try.underlying24 hi hz1 2 4 2 4 rfl rfl (by omega) (by omega)
  rw [← hb1] at hne
  have hne1 := hne
  rw [hb1] at hne
  clear hb1
  obtain ⟨a6, n6, m6, hv6, hb6, s6⟩ := h.cutLH (P := Try.prog) 24 5 i Try.underlying24 hi hz1 4 8 4 8 rfl rfl (by omega) (by omega)
  rw [← hb6] at hne
  have hne6 := hne
  rw [hb6] at hne
  clear hb6
  obtain ⟨a7, n7, m7, hv7, hb7, s7⟩ := h.cutH (P := Try.prog) 24 5 i Try.underlying24 hi hz1 8 8 rfl (by omega)
  rw [← hb7] at hne
  have hne7 := hne
  rw [hb7] at hne
  clear hb7
  obtain ⟨a8, n8, m8, hv8, hb8, s8⟩ := h.cutL (P := Try.prog) 24 5 i Try.underlying24 hi hz1 8 8 rfl (by omega)
  rw [← hb8] at hne
  have hne8 := hne
  rw [hb8] at hne
  clear hb8
  clear hi hz0 hz1 hz2
  have f6 : bits .and .u8 (bt l 0) 7 = bt l 0 % 8 := bmask .u8 3 (by omega) (by rw [max_u8]; omega) (by decide) (by decide)
  have f7 : bits .and .u8 (bt l 1) 7 = bt l 1 % 8 := bmask .u8 3 (by omega) (by rw [max_u8]; omega) (by decide) (by decide)
  subst hcs
  go_enter Try.func74, Try.ntmps74
  go_wp2_with (first
      | (go_at_call 82; refine (be16_calls _ _ _ (IsB.row0 (by assumption) (by assumption) _) (by simp <;> omega)).mono ?_; rintro e w' ⟨rfl, n, rfl⟩)
      | (go_at_call 84; refine (be32_calls _ _ _ (IsB.row0 (by assumption) (by assumption) _) (by simp <;> omega)).mono ?_; rintro e w' ⟨rfl, n, rfl⟩))
  go_region_held3 (fun _ => True) (trivial) (fail)
  go_wp2_with fail
  go_ret
  exact ⟨rfl, rowW_rowW (w := w1.drewN 0), _, _, _, _, _, _, hv7.row0 hne7 _, hv8.row0 hne8 _, rowW_heap hd⟩

set_option maxRecDepth 100000 in
set_option maxHeartbeats 1000000 in
theorem greDecode0010_calls (D : Nat) (cs : List Value) (hcs : cs = [.slice none 0 0, .slice none 0 0, .bool false, .bool false, .bool false, .bool false, .bool false, .bool false, .int .u8 0, .int .u8 0, .int .u8 0, .int .u16 0, .int .u16 0, .int .u16 0, .int .u32 0, .int .u32 0, .int .u32 0, .pointer none]) (v : Value) (l : List Int) (w : World) (hD : w.heap[D]? = some (.cells cs.toArray 149 (0, 0))) (h : IsB w v l) (hl : 8 ≤ l.length) (f0 : bits .and .u8 (bt l 0) 128 = 0) (f1 : bits .and .u8 (bt l 0) 64 = 0) (f2 : bits .and .u8 (bt l 0) 32 = 0) (f3 : bits .and .u8 (bt l 0) 16 = 16) (f4 : bits .and .u8 (bt l 0) 8 = 0) (f5 : bits .and .u8 (bt l 1) 128 = 0) (hne : v.ownBlock ≠ some D) :
    Calls Try.prog 74 #[.pointer (some ⟨D, 0, none⟩), v, .iface 179 (.agg #[])] w fun e w' => e = .returned .nilIface ∧
      w.grownBy w' (some D) ∧ ∃ a7 n7 m7 a8 n8 m8, IsB w' (.slice a7 n7 m7) (l.take 8) ∧ IsB w' (.slice a8 n8 m8) (l.drop 8) ∧
        w'.heap[D]? = some (.cells #[.slice a7 n7 m7, .slice a8 n8 m8, .bool false, .bool false, .bool false, .bool true, .bool false, .bool false, .int .u8 (bt l 0 % 8), .int .u8 (bt l 1 / 8), .int .u8 (bt l 1 % 8), .int .u16 (bt l 2 * 256 + bt l 3), .int .u16 0, .int .u16 0, .int .u32 0, .int .u32 (bt l 4 * 16777216 + bt l 5 * 65536 + bt l 6 * 256 + bt l 7), .int .u32 0, .pointer none] 149 (0, 0)) := by
  obtain ⟨w0, rfl⟩ : ∃ w0, w = rowW w0 D cs 149 := ⟨w, (rowW_self hD).symm⟩
  have hd : Has w0 D := by unfold Has; rw [← rowW_size (cs := cs) (e := 149) (D := D)]; exact (Array.getElem?_eq_some_iff.1 hD).1
  clear hD
  replace h := h.unrow hne
  obtain ⟨w1, rfl⟩ : ∃ w1 : World, w0 = w1.drewN 0 := ⟨w0, rfl⟩
  have h : IsB w1 v l := h
  have hd : Has w1 D := hd
  have hlen := fun ty => h.len (P := Try.prog) 24 ty 5 Try.underlying24
  obtain ⟨i, hi, hz0, hz1, hz2⟩ := info_parts info_u8
  obtain ⟨b0, o0, i0, c0, z0⟩ := h.idx (P := Try.prog) 24 5 i Try.underlying24 hi hz1 .i64 0 0 rfl (by omega)
  have e0 : b0 ≠ D := by rintro rfl; exact hne z0
  clear z0
  have p0 := h.bytes.bt0 0
  have q0 := h.bytes.bt1 0
  obtain ⟨b1, o1, i1, c1, z1⟩ := h.idx (P := Try.prog) 24 5 i Try.underlying24 hi hz1 .i64 1 1 rfl (by omega)
  have e1 : b1 ≠ D := by rintro rfl; exact hne z1
  clear z1
  have p1 := h.bytes.bt0 1
  have q1 := h.bytes.bt1 1
  obtain ⟨a1, n1, m1, hv1, hb1, s1⟩ := h.cutLH (P := Try.prog) 24 5 i Try.underlying24 hi hz1 2 4 2 4 rfl rfl (by omega) (by omega)
  rw [← hb1] at hne
  have hne1 := hne
  rw [hb1] at hne
  clear hb1
  obtain ⟨a5, n5, m5, hv5, hb5, s5⟩ := h.cutLH (P := Try.prog) 24 5 i Try.underlying24 hi hz1 4 8 4 8 rfl rfl (by omega) (by omega)
  rw [← hb5] at hne
  have hne5 := hne
  rw [hb5] at hne
  clear hb5
  obtain ⟨a7, n7, m7, hv7, hb7, s7⟩ := h.cutH (P := Try.prog) 24 5 i Try.underlying24 hi hz1 8 8 rfl (by omega)
  rw [← hb7] at hne
  have hne7 := hne
  rw [hb7] at hne
  clear hb7
  obtain ⟨a8, n8, m8, hv8, hb8, s8⟩ := h.cutL (P := Try.prog) 24 5 i Try.underlying24 hi hz1 8 8 rfl (by omega)
  rw [← hb8] at hne
  have hne8 := hne
  rw [hb8] at hne
  clear hb8
  clear hi hz0 hz1 hz2
  have f6 : bits .and .u8 (bt l 0) 7 = bt l 0 % 8 := bmask .u8 3 (by omega) (by rw [max_u8]; omega) (by decide) (by decide)
  have f7 : bits .and .u8 (bt l 1) 7 = bt l 1 % 8 := bmask .u8 3 (by omega) (by rw [max_u8]; omega) (by decide) (by decide)
  subst hcs
  go_enter Try.func74, Try.ntmps74
  go_wp2_with (first
      | (go_at_call 82; refine (be16_calls _ _ _ (IsB.row0 (by assumption) (by assumption) _) (by simp <;> omega)).mono ?_; rintro e w' ⟨rfl, n, rfl⟩)
      | (go_at_call 84; refine (be32_calls _ _ _ (IsB.row0 (by assumption) (by assumption) _) (by simp <;> omega)).mono ?_; rintro e w' ⟨rfl, n, rfl⟩))
  go_region_held3 (fun _ => True) (trivial) (fail)
  go_wp2_with fail
  go_ret
  exact ⟨rfl, rowW_rowW (w := w1.drewN 0), _, _, _, _, _, _, hv7.row0 hne7 _, hv8.row0 hne8 _, rowW_heap hd⟩

set_option maxRecDepth 100000 in
set_option maxHeartbeats 1000000 in
theorem greDecode0011_calls (D : Nat) (cs : List Value) (hcs : cs = [.slice none 0 0, .slice none 0 0, .bool false, .bool false, .bool false, .bool false, .bool false, .bool false, .int .u8 0, .int .u8 0, .int .u8 0, .int .u16 0, .int .u16 0, .int .u16 0, .int .u32 0, .int .u32 0, .int .u32 0, .pointer none]) (v : Value) (l : List Int) (w : World) (hD : w.heap[D]? = some (.cells cs.toArray 149 (0, 0))) (h : IsB w v l) (hl : 12 ≤ l.length) (f0 : bits .and .u8 (bt l 0) 128 = 0) (f1 : bits .and .u8 (bt l 0) 64 = 0) (f2 : bits .and .u8 (bt l 0) 32 = 0) (f3 : bits .and .u8 (bt l 0) 16 = 16) (f4 : bits .and .u8 (bt l 0) 8 = 0) (f5 : bits .and .u8 (bt l 1) 128 = 128) (hne : v.ownBlock ≠ some D) :
    Calls Try.prog 74 #[.pointer (some ⟨D, 0, none⟩), v, .iface 179 (.agg #[])] w fun e w' => e = .returned .nilIface ∧
      w.grownBy w' (some D) ∧ ∃ a7 n7 m7 a8 n8 m8, IsB w' (.slice a7 n7 m7) (l.take 12) ∧ IsB w' (.slice a8 n8 m8) (l.drop 12) ∧
        w'.heap[D]? = some (.cells #[.slice a7 n7 m7, .slice a8 n8 m8, .bool false, .bool false, .bool false, .bool true, .bool false, .bool true, .int .u8 (bt l 0 % 8), .int .u8 (bt l 1 / 8), .int .u8 (bt l 1 % 8), .int .u16 (bt l 2 * 256 + bt l 3), .int .u16 0, .int .u16 0, .int .u32 0, .int .u32 (bt l 4 * 16777216 + bt l 5 * 65536 + bt l 6 * 256 + bt l 7), .int .u32 (bt l 8 * 16777216 + bt l 9 * 65536 + bt l 10 * 256 + bt l 11), .pointer none] 149 (0, 0)) := by
  obtain ⟨w0, rfl⟩ : ∃ w0, w = rowW w0 D cs 149 := ⟨w, (rowW_self hD).symm⟩
  have hd : Has w0 D := by unfold Has; rw [← rowW_size (cs := cs) (e := 149) (D := D)]; exact (Array.getElem?_eq_some_iff.1 hD).1
  clear hD
  replace h := h.unrow hne
  obtain ⟨w1, rfl⟩ : ∃ w1 : World, w0 = w1.drewN 0 := ⟨w0, rfl⟩
  have h : IsB w1 v l := h
  have hd : Has w1 D := hd
  have hlen := fun ty => h.len (P := Try.prog) 24 ty 5 Try.underlying24
  obtain ⟨i, hi, hz0, hz1, hz2⟩ := info_parts info_u8
  obtain ⟨b0, o0, i0, c0, z0⟩ := h.idx (P := Try.prog) 24 5 i Try.underlying24 hi hz1 .i64 0 0 rfl (by omega)
  have e0 : b0 ≠ D := by rintro rfl; exact hne z0
  clear z0
  have p0 := h.bytes.bt0 0
  have q0 := h.bytes.bt1 0
  obtain ⟨b1, o1, i1, c1, z1⟩ := h.idx (P := Try.prog) 24 5 i Try.underlying24 hi hz1 .i64 1 1 rfl (by omega)
  have e1 : b1 ≠ D := by rintro rfl; exact hne z1
  clear z1
  have p1 := h.bytes.bt0 1
  have q1 := h.bytes.bt1 1
  obtain ⟨a1, n1, m1, hv1, hb1, s1⟩ := h.cutLH (P := Try.prog) 24 5 i Try.underlying24 hi hz1 2 4 2 4 rfl rfl (by omega) (by omega)
  rw [← hb1] at hne
  have hne1 := hne
  rw [hb1] at hne
  clear hb1
  obtain ⟨a5, n5, m5, hv5, hb5, s5⟩ := h.cutLH (P := Try.prog) 24 5 i Try.underlying24 hi hz1 4 8 4 8 rfl rfl (by omega) (by omega)
  rw [← hb5] at hne
  have hne5 := hne
  rw [hb5] at hne
  clear hb5
  obtain ⟨a6, n6, m6, hv6, hb6, s6⟩ := h.cutLH (P := Try.prog) 24 5 i Try.underlying24 hi hz1 8 12 8 12 rfl rfl (by omega) (by omega)
  rw [← hb6] at hne
  have hne6 := hne
  rw [hb6] at hne
  clear hb6
  obtain ⟨a7, n7, m7, hv7, hb7, s7⟩ := h.cutH (P := Try.prog) 24 5 i Try.underlying24 hi hz1 12 12 rfl (by omega)
  rw [← hb7] at hne
  have hne7 := hne
  rw [hb7] at hne
  clear hb7
  obtain ⟨a8, n8, m8, hv8, hb8, s8⟩ := h.cutL (P := Try.prog) 24 5 i Try.underlying24 hi hz1 12 12 rfl (by omega)
  rw [← hb8] at hne
  have hne8 := hne
  rw [hb8] at hne
  clear hb8
  clear hi hz0 hz1 hz2
  have f6 : bits .and .u8 (bt l 0) 7 = bt l 0 % 8 := bmask .u8 3 (by omega) (by rw [max_u8]; omega) (by decide) (by decide)
  have f7 : bits .and .u8 (bt l 1) 7 = bt l 1 % 8 := bmask .u8 3 (by omega) (by rw [max_u8]; omega) (by decide) (by decide)
  subst hcs
  go_enter Try.func74, Try.ntmps74
  go_wp2_with (first
      | (go_at_call 82; refine (be16_calls _ _ _ (IsB.row0 (by assumption) (by assumption) _) (by simp <;> omega)).mono ?_; rintro e w' ⟨rfl, n, rfl⟩)
      | (go_at_call 84; refine (be32_calls _ _ _ (IsB.row0 (by assumption) (by assumption) _) (by simp <;> omega)).mono ?_; rintro e w' ⟨rfl, n, rfl⟩))
  go_region_held3 (fun _ => True) (trivial) (fail)
  go_wp2_with fail
  go_ret
  exact ⟨rfl, rowW_rowW (w := w1.drewN 0), _, _, _, _, _, _, hv7.row0 hne7 _, hv8.row0 hne8 _, rowW_heap hd⟩

end Go.Proofs.Ytbdbaapdiklnhaa
