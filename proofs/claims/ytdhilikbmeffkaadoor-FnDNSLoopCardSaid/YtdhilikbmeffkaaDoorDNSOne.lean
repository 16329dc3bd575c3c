/-
  A message with one question: decoding.
-/
import Derived.Test.YtdhilikbmeffkaaDoorDNSQues
import Derived.Deep.DeepCutAuto
import Derived.Deep.RegionHeld3
import Derived.Deep.RegionWith
namespace Go.Proofs.YtdhilikbmeffkaaDoor
open Go.RowKit

set_option linter.unusedSimpArgs false in
set_option linter.unusedVariables false in
set_option maxRecDepth 100000 in
set_option maxHeartbeats 8000000 in
theorem decSelf_calls (D : Nat) (av : Option Addr) (nv cv : Nat) (l : List Int) (hl : 14 ≤ l.length) (w : World) (hD : w.heap[D]? = some (.cells [.slice none 0 0, .slice none 0 0, .int .u16 0, .bool false, .int .u8 0, .bool false, .bool false, .bool false, .bool false, .int .u8 0, .int .u8 0, .int .u16 0, .int .u16 0, .int .u16 0, .int .u16 0, .slice none 0 0, .slice none 0 0, .slice none 0 0, .slice none 0 0, .slice none 0 0].toArray 67 (0, 0))) (h : IsB w (.slice av nv cv) l) (hmx : l.length ≤ 1000000) (hQ : bt l 4 * 256 + bt l 5 = 1) (hA : bt l 6 * 256 + bt l 7 = 0) (hN : bt l 8 * 256 + bt l 9 = 0) (hR : bt l 10 * 256 + bt l 11 = 0) (hne : (Value.slice av nv cv).ownBlock ≠ some D) (a : Addr) (h12 : bt l 12 = 192) (h13 : bt l 13 = 12) (hm : w.cell? ⟨6, 0, none⟩ = some (.iface 119 (.pointer (some a)))) (h6D : 6 ≠ D) :
    Calls Tryd.prog 23 #[.pointer (some ⟨D, 0, none⟩), .slice av nv cv, .iface 104 (.agg #[])] w fun e w' => e = .returned (.iface 119 (.pointer (some a))) ∧ w.grownBy w' (some D) := by
  obtain ⟨w0, rfl⟩ : ∃ w0, w = rowW w0 D [.slice none 0 0, .slice none 0 0, .int .u16 0, .bool false, .int .u8 0, .bool false, .bool false, .bool false, .bool false, .int .u8 0, .int .u8 0, .int .u16 0, .int .u16 0, .int .u16 0, .int .u16 0, .slice none 0 0, .slice none 0 0, .slice none 0 0, .slice none 0 0, .slice none 0 0] 67 := ⟨w, (rowW_self hD).symm⟩
  have hd : Has w0 D := by unfold Has; rw [← rowW_size (cs := [.slice none 0 0, .slice none 0 0, .int .u16 0, .bool false, .int .u8 0, .bool false, .bool false, .bool false, .bool false, .int .u8 0, .int .u8 0, .int .u16 0, .int .u16 0, .int .u16 0, .int .u16 0, .slice none 0 0, .slice none 0 0, .slice none 0 0, .slice none 0 0, .slice none 0 0]) (e := 67) (D := D)]; exact (Array.getElem?_eq_some_iff.1 hD).1
  clear hD
  replace h := h.unrow hne
  obtain ⟨w1, rfl⟩ : ∃ w1 : World, w0 = w1.drewN 0 := ⟨w0, rfl⟩
  have h : IsB w1 (.slice av nv cv) l := h
  have hd : Has w1 D := hd
  have hlen := fun ty => h.len (P := Tryd.prog) 27 ty 5 Tryd.underlying27
  obtain ⟨i, hi, hz0, hz1, hz2⟩ := info_parts info_u8
  obtain ⟨b2, o2, i2, c2, z2⟩ := h.idx (P := Tryd.prog) 27 5 i Tryd.underlying27 hi hz1 .i64 2 2 rfl (by omega)
  have e2 : b2 ≠ D := by rintro rfl; exact hne z2
  clear z2
  have p2 := h.bytes.bt0 2
  have q2 := h.bytes.bt1 2
  obtain ⟨b3, o3, i3, c3, z3⟩ := h.idx (P := Tryd.prog) 27 5 i Tryd.underlying27 hi hz1 .i64 3 3 rfl (by omega)
  have e3 : b3 ≠ D := by rintro rfl; exact hne z3
  clear z3
  have p3 := h.bytes.bt0 3
  have q3 := h.bytes.bt1 3
  obtain ⟨a1, n1, m1, hv1, hb1, s1⟩ := h.cutH (P := Tryd.prog) 27 5 i Tryd.underlying27 hi hz1 2 2 rfl (by omega)
  rw [← hb1] at hne
  have hne1 := hne
  rw [hb1] at hne
  clear hb1
  obtain ⟨a2, n2, m2, hv2, hb2, s2⟩ := h.cutLH (P := Tryd.prog) 27 5 i Tryd.underlying27 hi hz1 4 6 4 6 rfl rfl (by omega) (by omega)
  rw [← hb2] at hne
  have hne2 := hne
  rw [hb2] at hne
  clear hb2
  obtain ⟨a3, n3, m3, hv3, hb3, s3⟩ := h.cutLH (P := Tryd.prog) 27 5 i Tryd.underlying27 hi hz1 6 8 6 8 rfl rfl (by omega) (by omega)
  rw [← hb3] at hne
  have hne3 := hne
  rw [hb3] at hne
  clear hb3
  obtain ⟨a4, n4, m4, hv4, hb4, s4⟩ := h.cutLH (P := Tryd.prog) 27 5 i Tryd.underlying27 hi hz1 8 10 8 10 rfl rfl (by omega) (by omega)
  rw [← hb4] at hne
  have hne4 := hne
  rw [hb4] at hne
  clear hb4
  obtain ⟨a5, n5, m5, hv5, hb5, s5⟩ := h.cutLH (P := Tryd.prog) 27 5 i Tryd.underlying27 hi hz1 10 12 10 12 rfl rfl (by omega) (by omega)
  rw [← hb5] at hne
  have hne5 := hne
  rw [hb5] at hne
  clear hb5
  obtain ⟨a6, n6, m6, h6, hb6, s6⟩ := h.cutH (P := Tryd.prog) 27 5 i Tryd.underlying27 hi hz1 (l.length : Int) l.length rfl (Nat.le_refl _)
  clear h6 hb6
  have v4 : decide ((l.length : Int) < 12) = false := decide_eq_false (by omega)
  have sn := nil_hB8
  have sq := nil_hQ
  have sr := nil_hR
  have x1 : IntKind.i64.wrap 1 = 1 := by decide
  have x0 : IntKind.i64.wrap 0 = 0 := by decide
  have HI := Lib.hid (fun (n : Nat) (cs : List Value) (o : Obj) => IsB.gr (h.row0 (cs := cs) (e := 67) hne n) ((Gr.refl _).alloc o))
  have HBU := Lib.hid (fun (n : Nat) (cs : List Value) (o : Obj) (hc : cs[19]? = some (.slice none 0 0)) => Gr.cell ((Gr.refl _).alloc o) ((rowW_cell (cs := cs) (e := 67) (show Has (w1.drewN n) D from hd) 19).trans hc))
  have HM := Lib.hid (fun (n : Nat) (cs : List Value) (o : Obj) => Gr.cell ((Gr.refl _).alloc o) ((rowW_cell_other (w := w1.drewN n) (cs := cs) (e := 67) h6D).trans (show (w1.drewN n).cell? ⟨6, 0, none⟩ = some (.iface 119 (.pointer (some a))) from (rowW_cell_other h6D).symm.trans hm)))
  clear hm
  go_enter Tryd.func23, Tryd.ntmps23
  go_wp2_with (first
      | (go_at_call 35; refine (be16_calls _ _ _ (IsB.row0 (by assumption) (by assumption) _) (by simp <;> omega)).mono ?_; rintro e w' ⟨rfl, n, rfl⟩))
  refine wp_loop_rounds 1 ?_
  rw [rounds_succ]
  go_wp2_with (first
      | (go_at_call 36; refine (quesSelf_calls av nv cv l D 19 _ a _ hl hmx h12 h13 _ (HI.out _ _ _) (HBU.out _ _ _ rfl) (HM.out _ _ _)).mono ?_; rintro e w9 ⟨rfl, hg9⟩))
  go_ret
  exact ⟨rfl, grownBy_trans (rowW_rowW (w := w1.drewN 0)) ((((Gr.refl _).alloc _).trans hg9).to _)⟩

theorem info_q : (Tryd.prog.info? 78).map (fun i => (i.zero, i.size, i.bytes)) = some (some (.agg #[.slice none 0 0, .int .u16 0, .int .u16 0]), 3, 32) := by kernel_rfl
/-- a question's cells: its type stands as the kind, its class as the length, its name as the data -/
def rcQ (p : Opt × Value) : List Value := [p.2, .int .u16 p.1.kind, .int .u16 p.1.len]
theorem rcQ_len (p : Opt × Value) : (rcQ p).length = 3 := rfl
theorem gr_rows {w x : World} {D : Nat} {cs : List Value} {e : TypeId} (hd : Has w D) (hg : Gr w x) : Gr (rowW w D cs e) (rowW x D cs e) := by
  refine ⟨hg.os, hg.tape, hg.output, by rw [rowW_size, rowW_size]; exact hg.size, fun k hk hr => ?_⟩
  rw [rowW_size] at hk
  by_cases e : k = D
  · subst e
    rw [rowW_heap hd, rowW_heap (show k < x.heap.size from Nat.lt_of_lt_of_le hd hg.size)]
  · rw [rowW_other e, rowW_other e]
    exact hg.block k hk hr
theorem row_step {w x : World} {D : Nat} {cs cs' : List Value} {e : TypeId} (hd : Has w D) (hg : Gr w x) : (rowW w D cs e).grownBy (rowW x D cs' e) (some D) :=
  grownBy_step ((gr_rows hd hg).to (some D)) (rowW_rowW (n := 0)) (fun _ _ => .inr rfl)
theorem boxQ {w : World} {b : Nat} (hb : b = w.heap.size) (p q r : Value) (t : TypeId) : ∀ i u, [p, q, r][i]? = some u → (w.alloc (.cells #[p, q, r] t)).cell? ⟨b, i, none⟩ = some u := by
  subst hb
  exact fun i u hu => cell_of_heap (cs := [p, q, r]) (heap_alloc_new w (.cells #[p, q, r] t)) i u hu

set_option linter.unusedSimpArgs false in
set_option linter.unusedVariables false in
set_option maxRecDepth 100000 in
set_option maxHeartbeats 8000000 in
theorem decRoot_calls (D : Nat) (av : Option Addr) (nv cv : Nat) (l : List Int) (hl : 17 ≤ l.length) (w : World) (hD : w.heap[D]? = some (.cells [.slice none 0 0, .slice none 0 0, .int .u16 0, .bool false, .int .u8 0, .bool false, .bool false, .bool false, .bool false, .int .u8 0, .int .u8 0, .int .u16 0, .int .u16 0, .int .u16 0, .int .u16 0, .slice none 0 0, .slice none 0 0, .slice none 0 0, .slice none 0 0, .slice none 0 0].toArray 67 (0, 0))) (h : IsB w (.slice av nv cv) l) (hmx : l.length ≤ 1000000) (hQ : bt l 4 * 256 + bt l 5 = 1) (hA : bt l 6 * 256 + bt l 7 = 0) (hN : bt l 8 * 256 + bt l 9 = 0) (hR : bt l 10 * 256 + bt l 11 = 0) (hne : (Value.slice av nv cv).ownBlock ≠ some D) (h12 : bt l 12 = 0) :
    Calls Tryd.prog 23 #[.pointer (some ⟨D, 0, none⟩), .slice av nv cv, .iface 104 (.agg #[])] w fun e w' => e = .returned .nilIface ∧ w.grownBy w' (some D) ∧ ∃ g4 c4 kd cl a6 n6 m6, w'.heap[D]? = some (.cells [.slice a6 n6 m6, .slice none 0 0, .int .u16 (bt l 0 * 256 + bt l 1), .bool (bits .and .u8 (bt l 2) 128 != 0), .int .u8 (bt l 2 / 8 % 16), .bool (bits .and .u8 (bt l 2) 4 != 0), .bool (bits .and .u8 (bt l 2) 2 != 0), .bool (bits .and .u8 (bt l 2) 1 != 0), .bool (bits .and .u8 (bt l 3) 128 != 0), .int .u8 (bt l 3 / 16 % 8), .int .u8 (bt l 3 % 16), .int .u16 1, .int .u16 0, .int .u16 0, .int .u16 0, .slice (some ⟨g4, 0, none⟩) 1 c4, .slice none 0 0, .slice none 0 0, .slice none 0 0, .slice none 0 0].toArray 67 (0, 0)) ∧ OwnG rcQ 3 w' w.heap.size 78 D (.slice (some ⟨g4, 0, none⟩) 1 c4) [(⟨kd, cl, []⟩, .slice none 0 0)] := by
  obtain ⟨w0, rfl⟩ : ∃ w0, w = rowW w0 D [.slice none 0 0, .slice none 0 0, .int .u16 0, .bool false, .int .u8 0, .bool false, .bool false, .bool false, .bool false, .int .u8 0, .int .u8 0, .int .u16 0, .int .u16 0, .int .u16 0, .int .u16 0, .slice none 0 0, .slice none 0 0, .slice none 0 0, .slice none 0 0, .slice none 0 0] 67 := ⟨w, (rowW_self hD).symm⟩
  have hd : Has w0 D := by unfold Has; rw [← rowW_size (cs := [.slice none 0 0, .slice none 0 0, .int .u16 0, .bool false, .int .u8 0, .bool false, .bool false, .bool false, .bool false, .int .u8 0, .int .u8 0, .int .u16 0, .int .u16 0, .int .u16 0, .int .u16 0, .slice none 0 0, .slice none 0 0, .slice none 0 0, .slice none 0 0, .slice none 0 0]) (e := 67) (D := D)]; exact (Array.getElem?_eq_some_iff.1 hD).1
  clear hD
  replace h := h.unrow hne
  obtain ⟨w1, rfl⟩ : ∃ w1 : World, w0 = w1.drewN 0 := ⟨w0, rfl⟩
  have h : IsB w1 (.slice av nv cv) l := h
  have hd : Has w1 D := hd
  have hlen := fun ty => h.len (P := Tryd.prog) 27 ty 5 Tryd.underlying27
  obtain ⟨i, hi, hz0, hz1, hz2⟩ := info_parts info_u8
  obtain ⟨b2, o2, i2, c2, z2⟩ := h.idx (P := Tryd.prog) 27 5 i Tryd.underlying27 hi hz1 .i64 2 2 rfl (by omega)
  have e2 : b2 ≠ D := by rintro rfl; exact hne z2
  clear z2
  have p2 := h.bytes.bt0 2
  have q2 := h.bytes.bt1 2
  obtain ⟨b3, o3, i3, c3, z3⟩ := h.idx (P := Tryd.prog) 27 5 i Tryd.underlying27 hi hz1 .i64 3 3 rfl (by omega)
  have e3 : b3 ≠ D := by rintro rfl; exact hne z3
  clear z3
  have p3 := h.bytes.bt0 3
  have q3 := h.bytes.bt1 3
  obtain ⟨a1, n1, m1, hv1, hb1, s1⟩ := h.cutH (P := Tryd.prog) 27 5 i Tryd.underlying27 hi hz1 2 2 rfl (by omega)
  rw [← hb1] at hne
  have hne1 := hne
  rw [hb1] at hne
  clear hb1
  obtain ⟨a2, n2, m2, hv2, hb2, s2⟩ := h.cutLH (P := Tryd.prog) 27 5 i Tryd.underlying27 hi hz1 4 6 4 6 rfl rfl (by omega) (by omega)
  rw [← hb2] at hne
  have hne2 := hne
  rw [hb2] at hne
  clear hb2
  obtain ⟨a3, n3, m3, hv3, hb3, s3⟩ := h.cutLH (P := Tryd.prog) 27 5 i Tryd.underlying27 hi hz1 6 8 6 8 rfl rfl (by omega) (by omega)
  rw [← hb3] at hne
  have hne3 := hne
  rw [hb3] at hne
  clear hb3
  obtain ⟨a4, n4, m4, hv4, hb4, s4⟩ := h.cutLH (P := Tryd.prog) 27 5 i Tryd.underlying27 hi hz1 8 10 8 10 rfl rfl (by omega) (by omega)
  rw [← hb4] at hne
  have hne4 := hne
  rw [hb4] at hne
  clear hb4
  obtain ⟨a5, n5, m5, hv5, hb5, s5⟩ := h.cutLH (P := Tryd.prog) 27 5 i Tryd.underlying27 hi hz1 10 12 10 12 rfl rfl (by omega) (by omega)
  rw [← hb5] at hne
  have hne5 := hne
  rw [hb5] at hne
  clear hb5
  obtain ⟨a6, n6, m6, h6, hb6, s6⟩ := h.cutH (P := Tryd.prog) 27 5 i Tryd.underlying27 hi hz1 (l.length : Int) l.length rfl (Nat.le_refl _)
  clear h6 hb6
  have v4 : decide ((l.length : Int) < 12) = false := decide_eq_false (by omega)
  have sn := nil_hB8
  have sq := nil_hQ
  have sr := nil_hR
  have x1 : IntKind.i64.wrap 1 = 1 := by decide
  have x0 : IntKind.i64.wrap 0 = 0 := by decide
  have HI := Lib.hid (fun (n : Nat) (cs : List Value) (o : Obj) => IsB.gr (h.row0 (cs := cs) (e := 67) hne n) ((Gr.refl _).alloc o))
  have HBU := Lib.hid (fun (n : Nat) (cs : List Value) (o : Obj) (hc : cs[19]? = some (.slice none 0 0)) => Gr.cell ((Gr.refl _).alloc o) ((rowW_cell (cs := cs) (e := 67) (show Has (w1.drewN n) D from hd) 19).trans hc))
  have HQ := Lib.hid (fun (n : Nat) (cs : List Value) => (show ((rowW (w1.drewN n) D cs 67).alloc (.cells #[.slice none 0 0, .int .u16 0, .int .u16 0] 78)).heap[w1.heap.size]? = some (.cells [.slice none 0 0, .int .u16 0, .int .u16 0].toArray 78 (0, 0)) by
    have e := heap_alloc_new (rowW (w1.drewN n) D cs 67) (.cells #[.slice none 0 0, .int .u16 0, .int .u16 0] 78)
    rw [rowW_size] at e
    exact e))
  have hnq : (Value.slice av nv cv).ownBlock ≠ some w1.heap.size := by
    rcases h.aside (Nat.le_refl _) with e | e
    · rw [e] at hl; simp at hl
    · exact e
  have hlt : D < w1.heap.size := hd
  have HND := Lib.hid (show D ≠ w1.heap.size by omega)
  have HNQ := Lib.hid hnq
  clear hnq
  go_enter Tryd.func23, Tryd.ntmps23
  go_wp2_with (first
      | (go_at_call 35; refine (be16_calls _ _ _ (IsB.row0 (by assumption) (by assumption) _) (by simp <;> omega)).mono ?_; rintro e w' ⟨rfl, n, rfl⟩))
  refine wp_loop_rounds 2 ?_
  rw [rounds_succ]
  go_wp2_with (first
      | (go_at_call 36; refine (quesRoot_calls av nv cv l D 19 _ _ hl hmx h12 _ (HI.out _ _ _) (HBU.out _ _ _ rfl) (HQ.out _ _) HNQ.out HND.out).mono ?_; rintro e w9 ⟨rfl, hg9, hq9⟩; obtain ⟨x9, gx9, dx9, rfl⟩ := Gr.unrow (show Has (w1.drewN _) D from hd) (Gr.step ((Gr.refl _).alloc _) hg9 (by rw [rowW_size]; exact Nat.le_refl _))))
  obtain ⟨kd, hkd⟩ : ∃ kd, kd = bt l 13 * 256 + bt l 14 := ⟨_, rfl⟩
  obtain ⟨cl, hcl⟩ : ∃ cl, cl = bt l 15 * 256 + bt l 16 := ⟨_, rfl⟩
  rw [← hkd, ← hcl] at hq9
  have HKD := Lib.hid (And.intro hkd hcl)
  have neQ : w1.heap.size ≠ D := fun e => HND.out e.symm
  have bY0 := cell_of_heap (cs := [.slice none 0 0, .int .u16 kd, .int .u16 cl]) hq9 0 _ rfl
  have bY1 := cell_of_heap (cs := [.slice none 0 0, .int .u16 kd, .int .u16 cl]) hq9 1 _ rfl
  have bY2 := cell_of_heap (cs := [.slice none 0 0, .int .u16 kd, .int .u16 cl]) hq9 2 _ rfl
  have HB0 := Lib.hid (And.intro bY0 (And.intro bY1 bY2))
  have CY := Lib.hid (rowW_cell (cs := [.slice a6 n6 m6, .slice none 0 0, .int .u16 (bt l 0 * 256 + bt l 1), .bool (bits .and .u8 (bt l 2) 128 != 0), .int .u8 (bt l 2 / 8 % 16), .bool (bits .and .u8 (bt l 2) 4 != 0), .bool (bits .and .u8 (bt l 2) 2 != 0), .bool (bits .and .u8 (bt l 2) 1 != 0), .bool (bits .and .u8 (bt l 3) 128 != 0), .int .u8 (bt l 3 / 16 % 8), .int .u8 (bt l 3 % 16), .int .u16 1, .int .u16 0, .int .u16 0, .int .u16 0, .slice none 0 0, .slice none 0 0, .slice none 0 0, .slice none 0 0, .slice none 0 0]) (e := 67) dx9 15)
  have sz9 : w1.heap.size ≤ x9.heap.size := gx9.size
  have GX9 := Lib.hid gx9
  clear hkd hcl hq9 hg9 bY0 bY1 bY2 gx9
  refine wp_region_held_drew (S := (fun w' => w'.cell? ⟨w1.heap.size, 0, none⟩ = some (.slice none 0 0) ∧ w'.cell? ⟨w1.heap.size, 1, none⟩ = some (.int .u16 kd) ∧ w'.cell? ⟨w1.heap.size, 2, none⟩ = some (.int .u16 cl))) (by kernel_rfl) ⟨HB0.out.1, HB0.out.2.1, HB0.out.2.2⟩ (fun hHeld => ?_)
  refine wpAnyH_take (i := 0) (v := .pointer (some ⟨D, 0, none⟩)) rfl (by kernel_rfl) (by kernel_rfl) (by kernel_rfl) (fun _ _ _ h => h) (Or.inl ⟨by rfl, fun w' hS => ?_⟩) (by assumption) ?_
  · obtain ⟨c0, c1, c2⟩ := hS
    clear hHeld
    go_simp
  try simp only [Act.put, List.getElem_toArray, List.getElem_cons_succ, List.getElem_cons_zero, List.setIfInBounds_toArray, List.set_cons_zero, List.set_cons_succ]
  refine wpAnyH_take (i := 1) (v := .pointer (some ⟨D, 0, none⟩)) rfl (by kernel_rfl) (by kernel_rfl) (by kernel_rfl) (fun _ _ _ h => h) (Or.inl ⟨by rfl, fun w' hS => ?_⟩) (by assumption) ?_
  · obtain ⟨c0, c1, c2⟩ := hS
    clear hHeld
    go_simp
  try simp only [Act.put, List.getElem_toArray, List.getElem_cons_succ, List.getElem_cons_zero, List.setIfInBounds_toArray, List.set_cons_zero, List.set_cons_succ]
  refine wpAnyH_take (i := 2) (v := .pointer (some ⟨D, 0, none⟩)) rfl (by kernel_rfl) (by kernel_rfl) (by kernel_rfl) (fun _ _ _ h => h) (Or.inl ⟨by rfl, fun w' hS => ?_⟩) (by assumption) ?_
  · obtain ⟨c0, c1, c2⟩ := hS
    clear hHeld
    go_simp
  try simp only [Act.put, List.getElem_toArray, List.getElem_cons_succ, List.getElem_cons_zero, List.setIfInBounds_toArray, List.set_cons_zero, List.set_cons_succ]
  refine wpAnyH_take (i := 3) (v := .pointer (some ⟨D, 15, none⟩)) rfl (by kernel_rfl) (by kernel_rfl) (by kernel_rfl) (fun _ _ _ h => h) (Or.inl ⟨by rfl, fun w' hS => ?_⟩) (by assumption) ?_
  · obtain ⟨c0, c1, c2⟩ := hS
    clear hHeld
    go_simp
  try simp only [Act.put, List.getElem_toArray, List.getElem_cons_succ, List.getElem_cons_zero, List.setIfInBounds_toArray, List.set_cons_zero, List.set_cons_succ]
  refine wpAnyH_take (i := 5) (v := .agg #[.slice none 0 0, .int .u16 kd, .int .u16 cl]) rfl (by kernel_rfl) (by kernel_rfl) (by kernel_rfl) (fun _ _ _ h => h) (Or.inl ⟨by rfl, fun w' hS => ?_⟩) (by assumption) ?_
  · obtain ⟨c0, c1, c2⟩ := hS
    clear hHeld
    go_simp
  try simp only [Act.put, List.getElem_toArray, List.getElem_cons_succ, List.getElem_cons_zero, List.setIfInBounds_toArray, List.set_cons_zero, List.set_cons_succ]
  refine wpAnyH_ready (rs := [4, 6]) (by kernel_rfl) (by simp) ((AllReadyH.cons rfl (fun K hK => ?_) (AllReadyH.cons rfl (fun K hK => ?_) AllReadyH.nil)))
  · refine step_loadc (by rfl) 64 (.tmp 186) (by rfl) D 15 (by first | rfl | simp) (.slice none 0 0) 78 Tryd.underlying64 (CY.out) ?_
    refine hK.out _ _ ⟨HB0.out.1, HB0.out.2.1, HB0.out.2.2⟩ (fun hHeld => ?_)
    clear hK K
    try simp only [Act.put, List.getElem_toArray, List.getElem_cons_succ, List.getElem_cons_zero, List.setIfInBounds_toArray, List.set_cons_zero, List.set_cons_succ]
    refine wpAnyH_ready (rs := [6]) (by kernel_rfl) (by simp) ((AllReadyH.cons rfl (fun K hK => ?_) AllReadyH.nil))
    go_simp
    refine hK.out _ _ ⟨Gr.cell (((Gr.refl _).drew).alloc _) HB0.out.1, Gr.cell (((Gr.refl _).drew).alloc _) HB0.out.2.1, Gr.cell (((Gr.refl _).drew).alloc _) HB0.out.2.2⟩ (fun hHeld => ?_)
    clear hK K
    try simp only [Act.put, List.getElem_toArray, List.getElem_cons_succ, List.getElem_cons_zero, List.setIfInBounds_toArray, List.set_cons_zero, List.set_cons_succ]
    refine wpAnyH_ready (rs := [7]) (by kernel_rfl) (by simp) ((AllReadyH.cons rfl (fun K hK => ?_) AllReadyH.nil))
    refine step_appG rfl (.tmp 187) (.tmp 189) 64 78 rfl Tryd.underlying64 _ 32 info_q rfl (by decide) rcQ_len (by omega) w1.heap.size D (.slice none 0 0) [] (by first | rfl | simp [Act.eval]) OwnG.nil x9.heap.size 1 ⟨kd, cl, []⟩ (.slice none 0 0) (by first | rfl | simp [Act.eval]) (boxQ (rowW_size (w := x9)).symm _ _ _ _) (by intro u hu; simp [rcQ] at hu; rcases hu with rfl | rfl | rfl <;> rfl) isB_nil (.inl rfl) (fun _ _ => .inl rfl) (by simp) (by show w1.heap.size ≤ (World.alloc _ _).heap.size; rw [World.size_alloc]; show w1.heap.size ≤ (rowW x9 D [.slice a6 n6 m6, .slice none 0 0, .int .u16 (bt l 0 * 256 + bt l 1), .bool (bits .and .u8 (bt l 2) 128 != 0), .int .u8 (bt l 2 / 8 % 16), .bool (bits .and .u8 (bt l 2) 4 != 0), .bool (bits .and .u8 (bt l 2) 2 != 0), .bool (bits .and .u8 (bt l 2) 1 != 0), .bool (bits .and .u8 (bt l 3) 128 != 0), .int .u8 (bt l 3 / 16 % 8), .int .u8 (bt l 3 % 16), .int .u16 1, .int .u16 0, .int .u16 0, .int .u16 0, .slice none 0 0, .slice none 0 0, .slice none 0 0, .slice none 0 0, .slice none 0 0] 67).heap.size + 1; rw [rowW_size]; omega) ?_
    intro v4 w4 ho4 hg4 hat4
    obtain ⟨g4, c4, rfl, hg41⟩ : ∃ g c, v4 = .slice (some ⟨g, 0, none⟩) 1 c ∧ w1.heap.size ≤ g := by
      rcases ho4.slice with ⟨-, h0⟩ | ⟨g, c, h1, h2, -⟩
      · simp at h0
      · exact ⟨g, c, by simpa using h1, h2⟩
    have k4a := World.grownBy.cell hg4 (a := ⟨w1.heap.size, 0, none⟩) (Gr.cell (((Gr.refl _).drew).alloc _) HB0.out.1) (fun e => by simp [Value.ownBlock] at e)
    have k4b := World.grownBy.cell hg4 (a := ⟨w1.heap.size, 1, none⟩) (Gr.cell (((Gr.refl _).drew).alloc _) HB0.out.2.1) (fun e => by simp [Value.ownBlock] at e)
    have k4c := World.grownBy.cell hg4 (a := ⟨w1.heap.size, 2, none⟩) (Gr.cell (((Gr.refl _).drew).alloc _) HB0.out.2.2) (fun e => by simp [Value.ownBlock] at e)
    have G4 : Gr (rowW x9 D [.slice a6 n6 m6, .slice none 0 0, .int .u16 (bt l 0 * 256 + bt l 1), .bool (bits .and .u8 (bt l 2) 128 != 0), .int .u8 (bt l 2 / 8 % 16), .bool (bits .and .u8 (bt l 2) 4 != 0), .bool (bits .and .u8 (bt l 2) 2 != 0), .bool (bits .and .u8 (bt l 2) 1 != 0), .bool (bits .and .u8 (bt l 3) 128 != 0), .int .u8 (bt l 3 / 16 % 8), .int .u8 (bt l 3 % 16), .int .u16 1, .int .u16 0, .int .u16 0, .int .u16 0, .slice none 0 0, .slice none 0 0, .slice none 0 0, .slice none 0 0, .slice none 0 0] 67) w4 := (((Gr.refl _).drew).alloc _).trans hg4
    obtain ⟨x4, gx4, dx4, rfl⟩ := Gr.unrow dx9 G4
    refine hK.out _ _ ⟨k4a, k4b, k4c⟩ (fun hHeld => ?_)
    clear hK K
    try simp only [Act.put, List.getElem_toArray, List.getElem_cons_succ, List.getElem_cons_zero, List.setIfInBounds_toArray, List.set_cons_zero, List.set_cons_succ]
    refine wpAnyH_take (i := 8) (v := .pointer (some ⟨D, 0, none⟩)) rfl (by kernel_rfl) (by kernel_rfl) (by kernel_rfl) (fun _ _ _ h => h) (Or.inl ⟨by rfl, fun w' hS => ?_⟩) (by assumption) ?_
    · obtain ⟨c0, c1, c2⟩ := hS
      clear hHeld
      go_simp
    try simp only [Act.put, List.getElem_toArray, List.getElem_cons_succ, List.getElem_cons_zero, List.setIfInBounds_toArray, List.set_cons_zero, List.set_cons_succ]
    refine wpAnyH_take (i := 9) (v := .pointer (some ⟨D, 15, none⟩)) rfl (by kernel_rfl) (by kernel_rfl) (by kernel_rfl) (fun _ _ _ h => h) (Or.inl ⟨by rfl, fun w' hS => ?_⟩) (by assumption) ?_
    · obtain ⟨c0, c1, c2⟩ := hS
      clear hHeld
      go_simp
    try simp only [Act.put, List.getElem_toArray, List.getElem_cons_succ, List.getElem_cons_zero, List.setIfInBounds_toArray, List.set_cons_zero, List.set_cons_succ]
    refine wpAnyH_ready (rs := [10]) (by kernel_rfl) (by simp) ((AllReadyH.cons rfl (fun K hK => ?_) AllReadyH.nil))
    go_simp
    refine hK.out _ _ ⟨rowW_swap neQ k4a, rowW_swap neQ k4b, rowW_swap neQ k4c⟩ (fun hHeld => ?_)
    clear hK K
    try simp only [Act.put, List.getElem_toArray, List.getElem_cons_succ, List.getElem_cons_zero, List.setIfInBounds_toArray, List.set_cons_zero, List.set_cons_succ]
    refine wpAnyH_done (by kernel_rfl) ?_ _
    clear hHeld
    go_wp2_with fail
    rw [rounds_succ]
    go_wp2_with fail
    refine wp_loop_rounds 1 ?_
    rw [rounds_succ]
    go_wp2_with fail
    refine wp_loop_rounds 1 ?_
    rw [rounds_succ]
    go_wp2_with fail
    refine wp_loop_rounds 1 ?_
    rw [rounds_succ]
    go_wp2_with fail
    go_quiet (fail)
    go_wp2_with fail
    go_quiet (fail)
    go_wp2_with fail
    go_quiet (fail)
    go_wp2_with fail
    go_quiet (fail)
    go_wp2_with fail
    go_ret
    exact ⟨rfl, grownBy_trans (grownBy_trans (rowW_rowW (w := w1.drewN 0) (cs' := [])) (row_step (w := w1.drewN _) hd (GX9.out.trans gx4))) (Gr.to (by (repeat (with_reducible first | exact Gr.refl _ | assumption | refine Gr.alloc ?_ _ | refine Gr.drew ?_ | refine Gr.drewN ?_ _ | refine Gr.trans ?_ (by assumption))); done) _), g4, c4, kd, cl, a6, n6, m6, rowW_heap dx4, by rw [rowW_size]; exact (ho4.reRow hd).gr (by (repeat (with_reducible first | exact Gr.refl _ | assumption | refine Gr.alloc ?_ _ | refine Gr.drew ?_ | refine Gr.drewN ?_ _ | refine Gr.trans ?_ (by assumption))); done)⟩
  · go_simp
    refine hK.out _ _ ⟨Gr.cell (((Gr.refl _).drew).alloc _) HB0.out.1, Gr.cell (((Gr.refl _).drew).alloc _) HB0.out.2.1, Gr.cell (((Gr.refl _).drew).alloc _) HB0.out.2.2⟩ (fun hHeld => ?_)
    clear hK K
    try simp only [Act.put, List.getElem_toArray, List.getElem_cons_succ, List.getElem_cons_zero, List.setIfInBounds_toArray, List.set_cons_zero, List.set_cons_succ]
    refine wpAnyH_ready (rs := [4]) (by kernel_rfl) (by simp) ((AllReadyH.cons rfl (fun K hK => ?_) AllReadyH.nil))
    refine step_loadc (by rfl) 64 (.tmp 186) (by rfl) D 15 (by first | rfl | simp) (.slice none 0 0) 78 Tryd.underlying64 (Gr.cell (((Gr.refl _).drew).alloc _) CY.out) ?_
    refine hK.out _ _ ⟨Gr.cell (((Gr.refl _).drew).alloc _) HB0.out.1, Gr.cell (((Gr.refl _).drew).alloc _) HB0.out.2.1, Gr.cell (((Gr.refl _).drew).alloc _) HB0.out.2.2⟩ (fun hHeld => ?_)
    clear hK K
    try simp only [Act.put, List.getElem_toArray, List.getElem_cons_succ, List.getElem_cons_zero, List.setIfInBounds_toArray, List.set_cons_zero, List.set_cons_succ]
    refine wpAnyH_ready (rs := [7]) (by kernel_rfl) (by simp) ((AllReadyH.cons rfl (fun K hK => ?_) AllReadyH.nil))
    refine step_appG rfl (.tmp 187) (.tmp 189) 64 78 rfl Tryd.underlying64 _ 32 info_q rfl (by decide) rcQ_len (by omega) w1.heap.size D (.slice none 0 0) [] (by first | rfl | simp [Act.eval]) OwnG.nil x9.heap.size 1 ⟨kd, cl, []⟩ (.slice none 0 0) (by first | rfl | simp [Act.eval]) (boxQ (rowW_size (w := x9)).symm _ _ _ _) (by intro u hu; simp [rcQ] at hu; rcases hu with rfl | rfl | rfl <;> rfl) isB_nil (.inl rfl) (fun _ _ => .inl rfl) (by simp) (by show w1.heap.size ≤ (World.alloc _ _).heap.size; rw [World.size_alloc]; show w1.heap.size ≤ (rowW x9 D [.slice a6 n6 m6, .slice none 0 0, .int .u16 (bt l 0 * 256 + bt l 1), .bool (bits .and .u8 (bt l 2) 128 != 0), .int .u8 (bt l 2 / 8 % 16), .bool (bits .and .u8 (bt l 2) 4 != 0), .bool (bits .and .u8 (bt l 2) 2 != 0), .bool (bits .and .u8 (bt l 2) 1 != 0), .bool (bits .and .u8 (bt l 3) 128 != 0), .int .u8 (bt l 3 / 16 % 8), .int .u8 (bt l 3 % 16), .int .u16 1, .int .u16 0, .int .u16 0, .int .u16 0, .slice none 0 0, .slice none 0 0, .slice none 0 0, .slice none 0 0, .slice none 0 0] 67).heap.size + 1; rw [rowW_size]; omega) ?_
    intro v4 w4 ho4 hg4 hat4
    obtain ⟨g4, c4, rfl, hg41⟩ : ∃ g c, v4 = .slice (some ⟨g, 0, none⟩) 1 c ∧ w1.heap.size ≤ g := by
      rcases ho4.slice with ⟨-, h0⟩ | ⟨g, c, h1, h2, -⟩
      · simp at h0
      · exact ⟨g, c, by simpa using h1, h2⟩
    have k4a := World.grownBy.cell hg4 (a := ⟨w1.heap.size, 0, none⟩) (Gr.cell (((Gr.refl _).drew).alloc _) HB0.out.1) (fun e => by simp [Value.ownBlock] at e)
    have k4b := World.grownBy.cell hg4 (a := ⟨w1.heap.size, 1, none⟩) (Gr.cell (((Gr.refl _).drew).alloc _) HB0.out.2.1) (fun e => by simp [Value.ownBlock] at e)
    have k4c := World.grownBy.cell hg4 (a := ⟨w1.heap.size, 2, none⟩) (Gr.cell (((Gr.refl _).drew).alloc _) HB0.out.2.2) (fun e => by simp [Value.ownBlock] at e)
    have G4 : Gr (rowW x9 D [.slice a6 n6 m6, .slice none 0 0, .int .u16 (bt l 0 * 256 + bt l 1), .bool (bits .and .u8 (bt l 2) 128 != 0), .int .u8 (bt l 2 / 8 % 16), .bool (bits .and .u8 (bt l 2) 4 != 0), .bool (bits .and .u8 (bt l 2) 2 != 0), .bool (bits .and .u8 (bt l 2) 1 != 0), .bool (bits .and .u8 (bt l 3) 128 != 0), .int .u8 (bt l 3 / 16 % 8), .int .u8 (bt l 3 % 16), .int .u16 1, .int .u16 0, .int .u16 0, .int .u16 0, .slice none 0 0, .slice none 0 0, .slice none 0 0, .slice none 0 0, .slice none 0 0] 67) w4 := (((Gr.refl _).drew).alloc _).trans hg4
    obtain ⟨x4, gx4, dx4, rfl⟩ := Gr.unrow dx9 G4
    refine hK.out _ _ ⟨k4a, k4b, k4c⟩ (fun hHeld => ?_)
    clear hK K
    try simp only [Act.put, List.getElem_toArray, List.getElem_cons_succ, List.getElem_cons_zero, List.setIfInBounds_toArray, List.set_cons_zero, List.set_cons_succ]
    refine wpAnyH_take (i := 8) (v := .pointer (some ⟨D, 0, none⟩)) rfl (by kernel_rfl) (by kernel_rfl) (by kernel_rfl) (fun _ _ _ h => h) (Or.inl ⟨by rfl, fun w' hS => ?_⟩) (by assumption) ?_
    · obtain ⟨c0, c1, c2⟩ := hS
      clear hHeld
      go_simp
    try simp only [Act.put, List.getElem_toArray, List.getElem_cons_succ, List.getElem_cons_zero, List.setIfInBounds_toArray, List.set_cons_zero, List.set_cons_succ]
    refine wpAnyH_take (i := 9) (v := .pointer (some ⟨D, 15, none⟩)) rfl (by kernel_rfl) (by kernel_rfl) (by kernel_rfl) (fun _ _ _ h => h) (Or.inl ⟨by rfl, fun w' hS => ?_⟩) (by assumption) ?_
    · obtain ⟨c0, c1, c2⟩ := hS
      clear hHeld
      go_simp
    try simp only [Act.put, List.getElem_toArray, List.getElem_cons_succ, List.getElem_cons_zero, List.setIfInBounds_toArray, List.set_cons_zero, List.set_cons_succ]
    refine wpAnyH_ready (rs := [10]) (by kernel_rfl) (by simp) ((AllReadyH.cons rfl (fun K hK => ?_) AllReadyH.nil))
    go_simp
    refine hK.out _ _ ⟨rowW_swap neQ k4a, rowW_swap neQ k4b, rowW_swap neQ k4c⟩ (fun hHeld => ?_)
    clear hK K
    try simp only [Act.put, List.getElem_toArray, List.getElem_cons_succ, List.getElem_cons_zero, List.setIfInBounds_toArray, List.set_cons_zero, List.set_cons_succ]
    refine wpAnyH_done (by kernel_rfl) ?_ _
    clear hHeld
    go_wp2_with fail
    rw [rounds_succ]
    go_wp2_with fail
    refine wp_loop_rounds 1 ?_
    rw [rounds_succ]
    go_wp2_with fail
    refine wp_loop_rounds 1 ?_
    rw [rounds_succ]
    go_wp2_with fail
    refine wp_loop_rounds 1 ?_
    rw [rounds_succ]
    go_wp2_with fail
    go_quiet (fail)
    go_wp2_with fail
    go_quiet (fail)
    go_wp2_with fail
    go_quiet (fail)
    go_wp2_with fail
    go_quiet (fail)
    go_wp2_with fail
    go_ret
    exact ⟨rfl, grownBy_trans (grownBy_trans (rowW_rowW (w := w1.drewN 0) (cs' := [])) (row_step (w := w1.drewN _) hd (GX9.out.trans gx4))) (Gr.to (by (repeat (with_reducible first | exact Gr.refl _ | assumption | refine Gr.alloc ?_ _ | refine Gr.drew ?_ | refine Gr.drewN ?_ _ | refine Gr.trans ?_ (by assumption))); done) _), g4, c4, kd, cl, a6, n6, m6, rowW_heap dx4, by rw [rowW_size]; exact (ho4.reRow hd).gr (by (repeat (with_reducible first | exact Gr.refl _ | assumption | refine Gr.alloc ?_ _ | refine Gr.drew ?_ | refine Gr.drewN ?_ _ | refine Gr.trans ?_ (by assumption))); done)⟩

end Go.Proofs.YtdhilikbmeffkaaDoor
