/-
  Names of a message: one that points at itself, and the root.
-/
import Derived.Test.YtdhilikbmeffkaaDoorBase
import Derived.Test.YtdhilikbmeffkaaDoorLib4
import Derived.BigQuiet
import Derived.Deep.RegionHeld3
namespace Go.Proofs.YtdhilikbmeffkaaDoor
open Go.RowKit

set_option linter.unusedSimpArgs false in
set_option linter.unusedVariables false in
set_option maxRecDepth 100000 in
set_option maxHeartbeats 4000000 in
theorem nameSelf_calls (av : Option Addr) (nv cv : Nat) (l : List Int) (D o : Nat) (a : Addr) (hl : 14 ≤ l.length) (hmx : l.length ≤ 1000000) (h12 : bt l 12 = 192) (h13 : bt l 13 = 12) : ∀ (k : Nat) (lv : Int), lv + (k : Int) = 256 → 0 ≤ lv → ∀ w : World, IsB w (.slice av nv cv) l → w.cell? ⟨D, o, none⟩ = some (.slice none 0 0) → w.cell? ⟨6, 0, none⟩ = some (.iface 119 (.pointer (some a))) →
    Calls Tryd.prog 41 #[.slice av nv cv, .int .i64 12, .pointer (some ⟨D, o, none⟩), .int .i64 lv] w fun e w' => e = .returned (.tuple #[.slice none 0 0, .int .i64 0, .iface 119 (.pointer (some a))]) ∧ Gr w w' := by
  intro k
  induction k with
  | zero =>
    intro lv hlv hlv0 w h hb hm
    have d0 : decide ((255 : Int) < lv) = true := decide_eq_true (by omega)
    clear h12 h13 hlv hlv0
    go_enter Tryd.func41, Tryd.ntmps41
    go_wp2_with fail
    go_step3
    go_wp2_with fail
    go_quiet (fail)
    go_wp2_with fail
    rw [Exit.noGoto_ret]
    exact bodyPost_ret (v := .tuple #[.slice none 0 0, .int .i64 0, .iface 119 (.pointer (some a))]) (by simp [results, Tryd.results41, go_sem]) rfl ⟨rfl, (by (repeat (with_reducible first | exact Gr.refl _ | assumption | refine Gr.alloc ?_ _ | refine Gr.drew ?_ | refine Gr.drewN ?_ _ | refine Gr.trans ?_ (by assumption))); done)⟩
  | succ k ih =>
    intro lv hlv hlv0 w h hb hm
    have IH := Lib.hid (ih (lv + 1) (by omega) (by omega))
    clear ih
    have hlen := fun ty => h.len (P := Tryd.prog) 27 ty 5 Tryd.underlying27
    obtain ⟨i, hi, hz0, hz1, hz2⟩ := info_parts info_u8
    obtain ⟨b12, o12, i12, c12, z12⟩ := h.idx (P := Tryd.prog) 27 5 i Tryd.underlying27 hi hz1 .i64 12 12 rfl (by omega)
    obtain ⟨a1, n1, m1, hv1, hb1, s1⟩ := h.cutLH (P := Tryd.prog) 27 5 i Tryd.underlying27 hi hz1 12 14 12 14 rfl rfl (by omega) (by omega)
    rw [h12] at c12
    clear z12 hb1
    have hq : ((l.take 14).drop 12).length = 2 := by rw [List.length_drop, List.length_take]; omega
    have hg0 : bt ((l.take 14).drop 12) 0 = 192 := by rw [← h12]; unfold bt; rw [List.getD_eq_getElem?_getD, List.getD_eq_getElem?_getD, List.getElem?_drop, List.getElem?_take_of_lt (by omega)]
    have hg1 : bt ((l.take 14).drop 12) 1 = 12 := by rw [← h13]; unfold bt; rw [List.getD_eq_getElem?_getD, List.getD_eq_getElem?_getD, List.getElem?_drop, List.getElem?_take_of_lt (by omega)]
    have HV1 := Lib.hid (And.intro hv1 (And.intro hq (And.intro hg0 hg1)))
    have d0 : decide ((255 : Int) < lv) = false := decide_eq_false (by omega)
    have d1 : decide ((l.length : Int) ≤ 12) = false := decide_eq_false (by omega)
    have d2 : decide ((l.length : Int) < 14) = false := decide_eq_false (by omega)
    have d3 : decide ((l.length : Int) < 12) = false := decide_eq_false (by omega)
    have x1 : bits .and .u8 192 192 = 192 := by decide
    have x2 : bits .and .u16 49164 16383 = 12 := by decide
    have x3 : wrap64 12 = 12 := by simp [wrap64]
    have ul : IntKind.i64.wrap (lv + 1) = lv + 1 := w64 (by omega) (by omega)
    have H := Lib.hid h
    clear hv1 hq hg0 hg1 h h12 h13 hlv hlv0
    go_enter Tryd.func41, Tryd.ntmps41
    go_wp2_with fail
    go_step3
    go_wp2_with fail
    go_step3
    go_wp2_with fail
    refine wp_loop_rounds 1 ?_
    rw [rounds_succ]
    go_wp2_with (first
      | (go_at_call 35; refine (be16_calls _ _ _ HV1.out.1 (by rw [HV1.out.2.1]; omega)).mono ?_; rintro e w9 ⟨rfl, n9, rfl⟩; rw [HV1.out.2.2.1, HV1.out.2.2.2])
      | (go_at_call 41; refine (IH.out _ (H.out.gr (by (repeat (with_reducible first | exact Gr.refl _ | assumption | refine Gr.alloc ?_ _ | refine Gr.drew ?_ | refine Gr.drewN ?_ _ | refine Gr.trans ?_ (by assumption))); done)) (Gr.cell (by (repeat (with_reducible first | exact Gr.refl _ | assumption | refine Gr.alloc ?_ _ | refine Gr.drew ?_ | refine Gr.drewN ?_ _ | refine Gr.trans ?_ (by assumption))); done) hb) (Gr.cell (by (repeat (with_reducible first | exact Gr.refl _ | assumption | refine Gr.alloc ?_ _ | refine Gr.drew ?_ | refine Gr.drewN ?_ _ | refine Gr.trans ?_ (by assumption))); done) hm)).mono ?_; rintro e w8 ⟨rfl, hg8⟩))
    rw [Exit.noGoto_ret]
    exact bodyPost_ret (v := .tuple #[.slice none 0 0, .int .i64 0, .iface 119 (.pointer (some a))]) (by simp [results, Tryd.results41, go_sem]) rfl ⟨rfl, (by (repeat (with_reducible first | exact Gr.refl _ | assumption | refine Gr.alloc ?_ _ | refine Gr.drew ?_ | refine Gr.drewN ?_ _ | refine Gr.trans ?_ (by assumption))); done)⟩
set_option linter.unusedSimpArgs false in
set_option maxRecDepth 100000 in
set_option maxHeartbeats 4000000 in
theorem nameRoot_calls (av : Option Addr) (nv cv : Nat) (l : List Int) (D o : Nat) (hl : 13 ≤ l.length) (hmx : l.length ≤ 1000000) (h12 : bt l 12 = 0) (w : World) (h : IsB w (.slice av nv cv) l) (hb : w.cell? ⟨D, o, none⟩ = some (.slice none 0 0)) :
    Calls Tryd.prog 41 #[.slice av nv cv, .int .i64 12, .pointer (some ⟨D, o, none⟩), .int .i64 1] w fun e w' => e = .returned (.tuple #[.slice none 0 0, .int .i64 13, .nilIface]) ∧ w' = w := by
  have hlen := fun ty => h.len (P := Tryd.prog) 27 ty 5 Tryd.underlying27
  obtain ⟨i, hi, hz0, hz1, hz2⟩ := info_parts info_u8
  obtain ⟨b12, o12, i12, c12, z12⟩ := h.idx (P := Tryd.prog) 27 5 i Tryd.underlying27 hi hz1 .i64 12 12 rfl (by omega)
  rw [h12] at c12
  have d1 : decide ((l.length : Int) ≤ 12) = false := decide_eq_false (by omega)
  clear z12 h12
  go_enter Tryd.func41, Tryd.ntmps41
  go_wp2_with fail
  go_step3
  go_wp2_with fail
  rw [Exit.noGoto_ret]
  exact bodyPost_ret (v := .tuple #[.slice none 0 0, .int .i64 13, .nilIface]) (by simp [results, Tryd.results41, go_sem]) rfl ⟨rfl, rfl⟩

end Go.Proofs.YtdhilikbmeffkaaDoor
