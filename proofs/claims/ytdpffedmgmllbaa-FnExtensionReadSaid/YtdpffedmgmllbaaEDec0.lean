/-
  The parts of a header behind that of a packet: its base, and one option.
-/
import Derived.Test.YtdpffedmgmllbaaRecs
import Derived.Test.YtdpffedmgmllbaaLib2
import Derived.Test.YtdpffedmgmllbaaLib3
import Derived.Test.YtdpffedmgmllbaaTrunc
import Derived.Test.YtdpffedmgmllbaaBase
import Derived.Deep.RegionHeld3
namespace Go.Proofs.Ytdpffedmgmllbaa
open Go.RowKit

theorem cell_lt0 {w : World} {g o : Nat} {u : Value} (h : w.cell? ⟨g, o, none⟩ = some u) : g < w.heap.size := by
  rcases Nat.lt_or_ge g w.heap.size with h' | h'
  · exact h'
  · have hn : w.heap[g]? = none := Array.getElem?_eq_none h'
    simp [World.cell?, hn] at h

set_option linter.unusedVariables false in
set_option linter.unusedSimpArgs false in
set_option maxRecDepth 100000 in
set_option maxHeartbeats 4000000 in
theorem extBase_calls (v d : Value) (l : List Int) (AL : Nat) (w : World) (h : IsB w v l) (h2 : 2 ≤ l.length) (hA : bt l 1 * 8 + 8 = (AL : Int)) (hAl : AL ≤ l.length) (hl : l.length ≤ 1000000) :
    Calls Try.prog 76 #[v, d] w fun e w' => ∃ a1 n1 c1 a2 n2 c2, e = .returned (.tuple #[.agg #[.slice a1 n1 c1, .slice a2 n2 c2, .int .u8 (bt l 0), .int .u8 (bt l 1), .int .i64 AL], .nilIface]) ∧ IsB w' (.slice a1 n1 c1) (l.take AL) ∧ IsB w' (.slice a2 n2 c2) (l.drop AL) ∧ (Value.slice a2 n2 c2).ownBlock = v.ownBlock ∧ Gr w w' := by
  obtain ⟨i, hi, hz0, hz1, hz2⟩ := info_parts info_u8
  have hlen := fun ty => h.len (P := Try.prog) 25 ty 5 Try.underlying25
  obtain ⟨b0, o0, i0, c0, -⟩ := h.idx (P := Try.prog) 25 5 i Try.underlying25 hi hz1 .i64 0 0 rfl (by omega)
  obtain ⟨b1, o1, i1, c1, -⟩ := h.idx (P := Try.prog) 25 5 i Try.underlying25 hi hz1 .i64 1 1 rfl (by omega)
  obtain ⟨a1, n1, d1, hI1, -, s1⟩ := h.cutH (P := Try.prog) 25 5 i Try.underlying25 hi hz1 (AL : Int) AL rfl hAl
  obtain ⟨a2, n2, d2, hI2, hB2, s2⟩ := h.cutL (P := Try.prog) 25 5 i Try.underlying25 hi hz1 (AL : Int) AL rfl hAl
  have p0 := h.bytes.bt0 1
  have p1 := h.bytes.bt1 1
  obtain ⟨x0, hx0⟩ : ∃ x, x = bt l 0 := ⟨_, rfl⟩
  obtain ⟨x1, hx1⟩ : ∃ x, x = bt l 1 := ⟨_, rfl⟩
  rw [← hx0] at c0 ⊢
  rw [← hx1] at c1 p0 p1 hA ⊢
  have n0 : decide ((l.length : Int) < 2) = false := by simp; omega
  have v0 : IntKind.i64.wrap x1 = x1 := w64 (by omega) (by omega)
  have v1 : IntKind.i64.wrap (x1 * 8) = x1 * 8 := w64 (by omega) (by omega)
  have v2 : IntKind.i64.wrap (x1 * 8 + 8) = (AL : Int) := by rw [w64 (by omega) (by omega)]; omega
  have v4 : decide ((l.length : Int) < (AL : Int)) = false := by simp; omega
  have lt0 := cell_lt0 c0
  have lt1 := cell_lt0 c1
  have e0 : b0 ≠ w.heap.size := by omega
  have e1 : b1 ≠ w.heap.size := by omega
  have H1 := Lib.hid hI1
  have H2 := Lib.hid hI2
  have HB2 := Lib.hid hB2
  have HA := Lib.hid hA
  clear hi hz0 hz1 hz2 h hI1 hI2 hB2 hx0 hx1 hA
  go_enter Try.func76, Try.ntmps76
  go_wp2_with fail
  exact bodyPost_ret (v := .tuple #[.agg #[.slice a1 n1 d1, .slice a2 n2 d2, .int .u8 x0, .int .u8 x1, .int .i64 AL], .nilIface]) (by simp [results, Try.results76, go_sem]) rfl ⟨_, _, _, _, _, _, rfl, H1.out.gr ((Gr.refl w).alloc _), H2.out.gr ((Gr.refl w).alloc _), HB2.out, (Gr.refl w).alloc _⟩

set_option linter.unusedVariables false in
set_option linter.unusedSimpArgs false in
set_option maxRecDepth 100000 in
set_option maxHeartbeats 4000000 in
theorem tlv0_calls (v d : Value) (l : List Int) (w : World) (h : IsB w v l) (h2 : 2 ≤ l.length) (h0 : bt l 0 = 0) :
    Calls Try.prog 77 #[v, d] w fun e w' => e = .returned (.tuple #[.pointer (some ⟨w.heap.size, 0, none⟩), .nilIface]) ∧ w' = w.alloc (.cells #[.int .u8 0, .int .u8 0, .int .i64 1, .slice none 0 0, .int .u8 0, .int .u8 0] 175) := by
  obtain ⟨i, hi, hz0, hz1, hz2⟩ := info_parts info_u8
  have hlen := fun ty => h.len (P := Try.prog) 25 ty 5 Try.underlying25
  obtain ⟨b0, o0, i0, c0, -⟩ := h.idx (P := Try.prog) 25 5 i Try.underlying25 hi hz1 .i64 0 0 rfl (by omega)
  rw [h0] at c0
  have n0 : decide ((l.length : Int) < 2) = false := by simp; omega
  have lt0 := cell_lt0 c0
  have e0 : b0 ≠ w.heap.size := by omega
  clear hi hz0 hz1 hz2 h h0
  go_enter Try.func77, Try.ntmps77
  go_wp2_with fail
  exact bodyPost_ret (v := .tuple #[.pointer (some ⟨w.heap.size, 0, none⟩), .nilIface]) (by simp [results, Try.results77, go_sem]) rfl ⟨rfl, rfl⟩

set_option linter.unusedVariables false in
set_option linter.unusedSimpArgs false in
set_option maxRecDepth 100000 in
set_option maxHeartbeats 4000000 in
theorem tlvN_calls (v d : Value) (l : List Int) (kd : Int) (M : Nat) (w : World) (h : IsB w v l) (hk : bt l 0 = kd) (hk0 : kd ≠ 0) (hM : bt l 1 + 2 = (M : Int)) (hMl : M ≤ l.length) (hM2 : 2 ≤ M) (hl : l.length ≤ 1000000) :
    Calls Try.prog 77 #[v, d] w fun e w' => e = .returned (.tuple #[.pointer (some ⟨w.heap.size, 0, none⟩), .nilIface]) ∧ ∃ a n c, w' = w.alloc (.cells #[.int .u8 kd, .int .u8 (bt l 1), .int .i64 M, .slice a n c, .int .u8 0, .int .u8 0] 175) ∧ IsB w (.slice a n c) ((l.take M).drop 2) ∧ (Value.slice a n c).ownBlock = v.ownBlock := by
  obtain ⟨i, hi, hz0, hz1, hz2⟩ := info_parts info_u8
  have hlen := fun ty => h.len (P := Try.prog) 25 ty 5 Try.underlying25
  obtain ⟨b0, o0, i0, c0, -⟩ := h.idx (P := Try.prog) 25 5 i Try.underlying25 hi hz1 .i64 0 0 rfl (by omega)
  obtain ⟨b1, o1, i1, c1, -⟩ := h.idx (P := Try.prog) 25 5 i Try.underlying25 hi hz1 .i64 1 1 rfl (by omega)
  obtain ⟨ad, nd, md, hID, hbD, sd⟩ := h.cutLH (P := Try.prog) 25 5 i Try.underlying25 hi hz1 2 (M : Int) 2 M rfl rfl hM2 hMl
  have p0 := h.bytes.bt0 1
  have p1 := h.bytes.bt1 1
  rw [hk] at c0
  obtain ⟨x1, hx1⟩ : ∃ x, x = bt l 1 := ⟨_, rfl⟩
  rw [← hx1] at c1 p0 p1 hM ⊢
  have n0 : decide ((l.length : Int) < 2) = false := by simp; omega
  have z0 : (kd == 0) = false := by simp [hk0]
  have v0 : IntKind.i64.wrap x1 = x1 := w64 (by omega) (by omega)
  have v1 : IntKind.i64.wrap (x1 + 2) = (M : Int) := by rw [w64 (by omega) (by omega)]; omega
  have v4 : decide ((l.length : Int) < (M : Int)) = false := by simp; omega
  have lt0 := cell_lt0 c0
  have lt1 := cell_lt0 c1
  have e0 : b0 ≠ w.heap.size := by omega
  have e1 : b1 ≠ w.heap.size := by omega
  have HM := Lib.hid hM
  have HID := Lib.hid (And.intro hID hbD)
  clear hi hz0 hz1 hz2 h hk hM hx1 hID hbD
  go_enter Try.func77, Try.ntmps77
  go_wp2_with fail
  exact bodyPost_ret (v := .tuple #[.pointer (some ⟨w.heap.size, 0, none⟩), .nilIface]) (by simp [results, Try.results77, go_sem]) rfl ⟨rfl, ad, nd, md, rfl, HID.out⟩
end Go.Proofs.Ytdpffedmgmllbaa
