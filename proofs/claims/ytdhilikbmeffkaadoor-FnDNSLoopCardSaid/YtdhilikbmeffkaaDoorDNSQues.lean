/-
  A message with one question: reading.
-/
import Derived.Test.YtdhilikbmeffkaaDoorDNSName
import Derived.Test.YtdhilikbmeffkaaDoorLib2
import Derived.Test.YtdhilikbmeffkaaDoorLib3
import Derived.Test.YtdhilikbmeffkaaDoorRecsGD
import Derived.Deep.RegionHeld3
import Derived.Deep.RegionWith
import Derived.Deep.DeepCutAuto
namespace Go.Proofs.YtdhilikbmeffkaaDoor
open Go.RowKit

theorem nil_hQ (k : IntKind) (w : World) : (Instr.sliceAt 64 (.slice none 0 0) none (some (.int k 0)) none).run Tryd.prog w = .ok (.slice none 0 0) w := by
  obtain ⟨i, hi, he⟩ := Option.map_eq_some_iff.1 (show (Tryd.prog.info? 78).map (·.size) = some 3 by kernel_rfl)
  have hE : Tryd.prog.elem 64 = 78 := by simp [Program.elem, Tryd.underlying64]
  rw [run_sliceAt_slice w 64 _ _ _ _ (by rw [hE]; exact Tryd.underlying64), run_slice_h w 64 _ _ _ (by rw [hE]; exact Tryd.underlying64) k 0 (by omega) (by omega)]
  simp [sizeOf, typeInfo, hE, hi, he, Result.andThen, sliced]
theorem nil_hR (k : IntKind) (w : World) : (Instr.sliceAt 65 (.slice none 0 0) none (some (.int k 0)) none).run Tryd.prog w = .ok (.slice none 0 0) w := by
  obtain ⟨i, hi, he⟩ := Option.map_eq_some_iff.1 (show (Tryd.prog.info? 102).map (·.size) = some 29 by kernel_rfl)
  have hE : Tryd.prog.elem 65 = 102 := by simp [Program.elem, Tryd.underlying65]
  rw [run_sliceAt_slice w 65 _ _ _ _ (by rw [hE]; exact Tryd.underlying65), run_slice_h w 65 _ _ _ (by rw [hE]; exact Tryd.underlying65) k 0 (by omega) (by omega)]
  simp [sizeOf, typeInfo, hE, hi, he, Result.andThen, sliced]
theorem nil_hB8 (k : IntKind) (w : World) : (Instr.sliceAt 27 (.slice none 0 0) none (some (.int k 0)) none).run Tryd.prog w = .ok (.slice none 0 0) w := by
  obtain ⟨i, hi, hz0, hz1, hz2⟩ := info_parts info_u8
  have hE : Tryd.prog.elem 27 = 5 := by simp [Program.elem, Tryd.underlying27]
  rw [run_sliceAt_slice w 27 _ _ _ _ (by rw [hE]; exact Tryd.underlying27), run_slice_h w 27 _ _ _ (by rw [hE]; exact Tryd.underlying27) k 0 (by omega) (by omega)]
  simp [sizeOf, typeInfo, hE, hi, hz1, Result.andThen, sliced]

/-- a question whose name points at itself -/
theorem quesSelf_calls (av : Option Addr) (nv cv : Nat) (l : List Int) (D o Q : Nat) (a : Addr) (df : Value) (hl : 14 ≤ l.length) (hmx : l.length ≤ 1000000) (h12 : bt l 12 = 192) (h13 : bt l 13 = 12) (w : World) (h : IsB w (.slice av nv cv) l) (hb : w.cell? ⟨D, o, none⟩ = some (.slice none 0 0)) (hm : w.cell? ⟨6, 0, none⟩ = some (.iface 119 (.pointer (some a)))) :
    Calls Tryd.prog 36 #[.pointer (some ⟨Q, 0, none⟩), .slice av nv cv, .int .i64 12, df, .pointer (some ⟨D, o, none⟩)] w fun e w' => e = .returned (.tuple #[.int .i64 0, .iface 119 (.pointer (some a))]) ∧ Gr w w' := by
  go_enter Tryd.func36, Tryd.ntmps36
  go_wp2_with (go_at_call 41; refine (nameSelf_calls av nv cv l D o a hl hmx h12 h13 255 1 (by omega) (by omega) _ (h.gr (by (repeat (with_reducible first | exact Gr.refl _ | assumption | refine Gr.alloc ?_ _ | refine Gr.drew ?_ | refine Gr.drewN ?_ _ | refine Gr.trans ?_ (by assumption))); done)) (Gr.cell (by (repeat (with_reducible first | exact Gr.refl _ | assumption | refine Gr.alloc ?_ _ | refine Gr.drew ?_ | refine Gr.drewN ?_ _ | refine Gr.trans ?_ (by assumption))); done) hb) (Gr.cell (by (repeat (with_reducible first | exact Gr.refl _ | assumption | refine Gr.alloc ?_ _ | refine Gr.drew ?_ | refine Gr.drewN ?_ _ | refine Gr.trans ?_ (by assumption))); done) hm)).mono ?_; rintro e w9 ⟨rfl, hg9⟩)
  exact bodyPost_ret (v := .tuple #[.int .i64 0, .iface 119 (.pointer (some a))]) (by simp [results, Tryd.results36, go_sem]) rfl ⟨rfl, (by (repeat (with_reducible first | exact Gr.refl _ | assumption | refine Gr.alloc ?_ _ | refine Gr.drew ?_ | refine Gr.drewN ?_ _ | refine Gr.trans ?_ (by assumption))); done)⟩

set_option maxRecDepth 100000 in
set_option maxHeartbeats 1000000 in
/-- a question whose name is the root -/
theorem quesRoot_calls (av : Option Addr) (nv cv : Nat) (l : List Int) (D o Q : Nat) (df : Value) (hl : 17 ≤ l.length) (hmx : l.length ≤ 1000000) (h12 : bt l 12 = 0) (w : World) (h : IsB w (.slice av nv cv) l) (hb : w.cell? ⟨D, o, none⟩ = some (.slice none 0 0)) (hQ : w.heap[Q]? = some (.cells [.slice none 0 0, .int .u16 0, .int .u16 0].toArray 78 (0, 0))) (hne : (Value.slice av nv cv).ownBlock ≠ some Q) (hDQ : D ≠ Q) :
    Calls Tryd.prog 36 #[.pointer (some ⟨Q, 0, none⟩), .slice av nv cv, .int .i64 12, df, .pointer (some ⟨D, o, none⟩)] w fun e w' => e = .returned (.tuple #[.int .i64 17, .nilIface]) ∧ w.grownBy w' (some Q) ∧ w'.heap[Q]? = some (.cells [.slice none 0 0, .int .u16 (bt l 13 * 256 + bt l 14), .int .u16 (bt l 15 * 256 + bt l 16)].toArray 78 (0, 0)) := by
  obtain ⟨w0, rfl⟩ : ∃ w0, w = rowW w0 Q [.slice none 0 0, .int .u16 0, .int .u16 0] 78 := ⟨w, (rowW_self hQ).symm⟩
  have hd : Has w0 Q := by unfold Has; rw [← rowW_size (cs := [.slice none 0 0, .int .u16 0, .int .u16 0]) (e := 78) (D := Q)]; exact (Array.getElem?_eq_some_iff.1 hQ).1
  clear hQ
  have hR := h
  replace h := h.unrow hne
  rw [rowW_cell_other hDQ] at hb
  obtain ⟨w1, rfl⟩ : ∃ w1 : World, w0 = w1.drewN 0 := ⟨w0, rfl⟩
  have h : IsB w1 (.slice av nv cv) l := h
  have hd : Has w1 Q := hd
  obtain ⟨i, hi, hz0, hz1, hz2⟩ := info_parts info_u8
  obtain ⟨a1, n1, m1, hv1, hb1, s1⟩ := h.cutLH (P := Tryd.prog) 27 5 i Tryd.underlying27 hi hz1 13 15 13 15 rfl rfl (by omega) (by omega)
  have hne1 : (Value.slice a1 n1 m1).ownBlock ≠ some Q := by rw [hb1]; exact hne
  clear hb1
  obtain ⟨a2, n2, m2, hv2, hb2, s2⟩ := h.cutLH (P := Tryd.prog) 27 5 i Tryd.underlying27 hi hz1 15 17 15 17 rfl rfl (by omega) (by omega)
  have hne2 : (Value.slice a2 n2 m2).ownBlock ≠ some Q := by rw [hb2]; exact hne
  clear hb2
  have HH := Lib.hid hR
  have HB := Lib.hid (show (rowW (w1.drewN 0) Q [.slice none 0 0, .int .u16 0, .int .u16 0] 78).cell? ⟨D, o, none⟩ = some (.slice none 0 0) by rw [rowW_cell_other hDQ]; exact hb)
  clear h hR hb
  go_enter Tryd.func36, Tryd.ntmps36
  go_wp2_with (first
      | (go_at_call 41; refine (nameRoot_calls av nv cv l D o (by omega) hmx h12 _ HH.out HB.out).mono ?_; rintro e w9 ⟨rfl, rfl⟩)
      | (go_at_call 35; refine (be16_calls _ _ _ (IsB.row0 (by assumption) (by assumption) _) (by simp <;> omega)).mono ?_; rintro e w' ⟨rfl, n, rfl⟩))
  exact bodyPost_ret (v := .tuple #[.int .i64 17, .nilIface]) (by simp [results, Tryd.results36, go_sem]) rfl ⟨rfl, rowW_rowW (w := w1.drewN 0), rowW_heap hd⟩

end Go.Proofs.YtdhilikbmeffkaaDoor
