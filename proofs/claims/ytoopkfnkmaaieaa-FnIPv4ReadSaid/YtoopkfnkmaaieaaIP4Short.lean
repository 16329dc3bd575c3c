/-
  Fewer bytes than a header of the fourth version has.
-/
import Derived.Test.YtoopkfnkmaaieaaIP4
namespace Go.Proofs.Ytoopkfnkmaaieaa
open Go.RowKit

set_option maxRecDepth 100000 in
set_option maxHeartbeats 1000000 in
theorem ip4DecodeShort_calls (p : Value) (v : Value) (l : List Int) (w : World) (h : IsB w v l) (hl : l.length < 20) :
    Calls Try.prog 53 #[p, v, .iface 156 (.agg #[])] w fun e w' => (∃ a, e = .returned (.iface 174 (.pointer (some a)))) ∧ Gr w w' := by
  have hlen := fun ty => h.len (P := Try.prog) 25 ty 5 Try.underlying25
  have hmt := trunc_method
  go_enter Try.func53, Try.ntmps53
  go_wp2_with (first | (go_at_call 115; refine (trunc_calls _).mono ?_; rintro e w1 ⟨rfl, hg⟩) | (go_at_call 72; refine (errNew_calls _ _).mono ?_; rintro e w1 ⟨⟨a, rfl⟩, hg⟩))
  go_ret
  exact ⟨⟨_, rfl⟩, (by (repeat (with_reducible first | exact Gr.refl _ | assumption | refine Gr.alloc ?_ _ | refine Gr.drew ?_ | refine Gr.drewN ?_ _ | refine Gr.trans ?_ (by assumption))); done)⟩

set_option linter.unusedSimpArgs false in
set_option maxRecDepth 100000 in
set_option maxHeartbeats 4000000 in
theorem ip4DecodeCut_calls (D : Nat) (av : Option Addr) (nv cv : Nat) (l : List Int) (W M : Nat) (w : World) (hD : w.heap[D]? = some (.cells #[.slice none 0 0, .slice none 0 0, .int .u8 0, .int .u8 0, .int .u8 0, .int .u16 0, .int .u16 0, .int .u8 0, .int .u16 0, .int .u8 0, .int .u8 0, .int .u16 0, .slice none 0 0, .slice none 0 0, .slice none 0 0, .slice none 0 0] 108 (0, 0))) (h : IsB w (.slice av nv cv) l) (hl : 20 ≤ l.length) (hW : bt l 0 % 16 = (W : Int)) (hW5 : 5 ≤ W) (hL : bt l 2 * 256 + bt l 3 = (M : Int)) (hWM : 4 * W ≤ M) (hM : l.length < 4 * W) (hne : (Value.slice av nv cv).ownBlock ≠ some D) :
    Calls Try.prog 53 #[.pointer (some ⟨D, 0, none⟩), .slice av nv cv, .iface 156 (.agg #[])] w fun e w' => (∃ a, e = .returned (.iface 174 (.pointer (some a)))) ∧ w.grownBy w' (some D) := by
  obtain ⟨w0, rfl⟩ : ∃ w0, w = rowW w0 D [.slice none 0 0, .slice none 0 0, .int .u8 0, .int .u8 0, .int .u8 0, .int .u16 0, .int .u16 0, .int .u8 0, .int .u16 0, .int .u8 0, .int .u8 0, .int .u16 0, .slice none 0 0, .slice none 0 0, .slice none 0 0, .slice none 0 0] 108 := ⟨w, (rowW_self hD).symm⟩
  have hd : Has w0 D := by unfold Has; rw [← rowW_size (cs := [.slice none 0 0, .slice none 0 0, .int .u8 0, .int .u8 0, .int .u8 0, .int .u16 0, .int .u16 0, .int .u8 0, .int .u16 0, .int .u8 0, .int .u8 0, .int .u16 0, .slice none 0 0, .slice none 0 0, .slice none 0 0, .slice none 0 0]) (e := 108) (D := D)]; exact (Array.getElem?_eq_some_iff.1 hD).1
  clear hD
  replace h := h.unrow hne
  obtain ⟨w1, rfl⟩ : ∃ w1 : World, w0 = w1.drewN 0 := ⟨w0, rfl⟩
  have h : IsB w1 (.slice av nv cv) l := h
  have hd : Has w1 D := hd
  have hlen := fun ty => h.len (P := Try.prog) 25 ty 5 Try.underlying25
  have hmt := trunc_method
  obtain ⟨i, hi, hz0, hz1, hz2⟩ := info_parts info_u8
  obtain ⟨b0, o0, i0, c0, z0⟩ := h.idx (P := Try.prog) 25 5 i Try.underlying25 hi hz1 .i64 0 0 rfl (by omega)
  have e0 : b0 ≠ D := by rintro rfl; exact hne z0
  clear z0
  have p0 := h.bytes.bt0 0
  have q0 := h.bytes.bt1 0
  obtain ⟨b1, o1, i1, c1, z1⟩ := h.idx (P := Try.prog) 25 5 i Try.underlying25 hi hz1 .i64 1 1 rfl (by omega)
  have e1 : b1 ≠ D := by rintro rfl; exact hne z1
  clear z1
  have p1 := h.bytes.bt0 1
  have q1 := h.bytes.bt1 1
  obtain ⟨b8, o8, i8, c8, z8⟩ := h.idx (P := Try.prog) 25 5 i Try.underlying25 hi hz1 .i64 8 8 rfl (by omega)
  have e8 : b8 ≠ D := by rintro rfl; exact hne z8
  clear z8
  have p8 := h.bytes.bt0 8
  have q8 := h.bytes.bt1 8
  obtain ⟨b9, o9, i9, c9, z9⟩ := h.idx (P := Try.prog) 25 5 i Try.underlying25 hi hz1 .i64 9 9 rfl (by omega)
  have e9 : b9 ≠ D := by rintro rfl; exact hne z9
  clear z9
  have p9 := h.bytes.bt0 9
  have q9 := h.bytes.bt1 9
  have p2 := h.bytes.bt0 2
  have q2 := h.bytes.bt1 2
  have p3 := h.bytes.bt0 3
  have q3 := h.bytes.bt1 3
  have p4 := h.bytes.bt0 4
  have q4 := h.bytes.bt1 4
  have p5 := h.bytes.bt0 5
  have q5 := h.bytes.bt1 5
  have p6 := h.bytes.bt0 6
  have q6 := h.bytes.bt1 6
  have p7 := h.bytes.bt0 7
  have q7 := h.bytes.bt1 7
  have p10 := h.bytes.bt0 10
  have q10 := h.bytes.bt1 10
  have p11 := h.bytes.bt0 11
  have q11 := h.bytes.bt1 11
  have hW15 : W ≤ 15 := by omega
  obtain ⟨a1, n1, m1, hv1, hb1, s1⟩ := h.cutLH (P := Try.prog) 25 5 i Try.underlying25 hi hz1 2 4 2 4 rfl rfl (by omega) (by omega)
  rw [← hb1] at hne
  have hne1 := hne
  rw [hb1] at hne
  clear hb1
  obtain ⟨a2, n2, m2, hv2, hb2, s2⟩ := h.cutLH (P := Try.prog) 25 5 i Try.underlying25 hi hz1 4 6 4 6 rfl rfl (by omega) (by omega)
  rw [← hb2] at hne
  have hne2 := hne
  rw [hb2] at hne
  clear hb2
  obtain ⟨a3, n3, m3, hv3, hb3, s3⟩ := h.cutLH (P := Try.prog) 25 5 i Try.underlying25 hi hz1 6 8 6 8 rfl rfl (by omega) (by omega)
  rw [← hb3] at hne
  have hne3 := hne
  rw [hb3] at hne
  clear hb3
  obtain ⟨a4, n4, m4, hv4, hb4, s4⟩ := h.cutLH (P := Try.prog) 25 5 i Try.underlying25 hi hz1 10 12 10 12 rfl rfl (by omega) (by omega)
  rw [← hb4] at hne
  have hne4 := hne
  rw [hb4] at hne
  clear hb4
  obtain ⟨a5, n5, m5, hv5, hb5, s5⟩ := h.cutLH (P := Try.prog) 25 5 i Try.underlying25 hi hz1 12 16 12 16 rfl rfl (by omega) (by omega)
  rw [← hb5] at hne
  have hne5 := hne
  rw [hb5] at hne
  clear hb5
  obtain ⟨a6, n6, m6, hv6, hb6, s6⟩ := h.cutLH (P := Try.prog) 25 5 i Try.underlying25 hi hz1 16 20 16 20 rfl rfl (by omega) (by omega)
  rw [← hb6] at hne
  have hne6 := hne
  rw [hb6] at hne
  clear hb6
  have so := nil_h4
  have v0 : bits .and .u8 (bt l 0) 15 = (W : Int) := by rw [← hW]; exact bmask .u8 4 (by omega) (by rw [max_u8]; omega) (by decide) (by decide)
  have v1 : bits .and .u16 (bt l 6 * 256 + bt l 7) 8191 = (bt l 6 * 256 + bt l 7) % 8192 := bmask .u16 13 (by omega) (by rw [max_u16]; omega) (by decide) (by decide)
  have v2 : IntKind.u8.wrap ((W : Int) * 4) = 4 * (W : Int) := by rw [wrap_in .u8 _ (by have := min_le .u8; omega) (by rw [max_u8]; omega)]; omega
  have v3 : ((M : Int) == 0) = false := by simp; omega
  have v4 : decide ((M : Int) < 20) = false := by simp; omega
  have v5 : decide ((W : Int) < 5) = false := by simp; omega
  have v6 : decide ((M : Int) < 4 * (W : Int)) = false := by simp; omega
  have v7 : IntKind.i64.wrap (4 * (W : Int)) = 4 * (W : Int) := w64 (by omega) (by omega)
  have v7' : IntKind.i64.wrap ((W : Int) * 4) = 4 * (W : Int) := by rw [w64 (by omega) (by omega)]; omega
  have v8 : IntKind.i64.wrap (M : Int) = (M : Int) := w64 (by omega) (by omega)
  have v8' : IntKind.i64.wrap (W : Int) = (W : Int) := w64 (by omega) (by omega)
  have v9 : IntKind.i64.wrap ((l.length : Int) - (M : Int)) = (l.length : Int) - (M : Int) := w64 (by omega) (by omega)
  have v10 : decide ((0 : Int) < (l.length : Int) - (M : Int)) = false := by simp; omega
  have v11 : decide ((l.length : Int) - (M : Int) < 0) = true := by simp; omega
  have v12 : decide ((l.length : Int) < 4 * (W : Int)) = true := by simp; omega
  have hu : ∀ x : World, Gr (rowW (w1.drewN 0) D [.slice none 0 0, .slice none 0 0, .int .u8 0, .int .u8 0, .int .u8 0, .int .u16 0, .int .u16 0, .int .u8 0, .int .u16 0, .int .u8 0, .int .u8 0, .int .u16 0, .slice none 0 0, .slice none 0 0, .slice none 0 0, .slice none 0 0] 108) x → True := fun _ _ => trivial
  clear hu
  go_enter Try.func53, Try.ntmps53
  go_wp2_with (first
      | (go_at_call 73; refine (be16_calls _ _ _ (IsB.row0 (by assumption) (by assumption) _) (by simp; try omega)).mono ?_; rintro e w' ⟨rfl, n, rfl⟩)
      | (go_at_call 74; refine (be32_calls _ _ _ (IsB.row0 (by assumption) (by assumption) _) (by simp; try omega)).mono ?_; rintro e w' ⟨rfl, n, rfl⟩))
  go_region_held3 (fun w' => w'.cell? ⟨D, 3, none⟩ = some (.int .u8 (W : Int)) ∧ w'.cell? ⟨D, 5, none⟩ = some (.int .u16 (M : Int))) (first | exact ⟨rowW_cell (show Has (w1.drewN _) D from hd) 3, rowW_cell (show Has (w1.drewN _) D from hd) 5⟩ | go_keep) (fail)
  go_wp2_with (first
    | (go_at_call 115; refine (trunc_calls _).mono ?_; rintro e w4 ⟨rfl, hg4⟩; obtain ⟨x4, gx4, dx4, rfl⟩ := Gr.unrow (show Has (w1.drewN _) D from hd) hg4)
    | (go_at_call 72; refine (errNew_calls _ _).mono ?_; rintro e w5 ⟨⟨a, rfl⟩, hg5⟩; obtain ⟨x5, gx5, dx5, rfl⟩ := Gr.unrow dx4 hg5))
  go_ret
  exact ⟨⟨_, rfl⟩, row_step hd (((Gr.refl w1).drewN _).trans (gx4.trans gx5))⟩

/-- too few bytes -/
def TooFew (l : List Int) : Prop := l.length < 20 ∨ ∃ W M : Nat, 20 ≤ l.length ∧ bt l 0 % 16 = (W : Int) ∧ 5 ≤ W ∧ bt l 2 * 256 + bt l 3 = (M : Int) ∧ 4 * W ≤ M ∧ l.length < 4 * W
theorem ip4DecodeBad_calls (D : Nat) (av : Option Addr) (nv cv : Nat) (l : List Int) (w : World) (hD : w.heap[D]? = some (.cells #[.slice none 0 0, .slice none 0 0, .int .u8 0, .int .u8 0, .int .u8 0, .int .u16 0, .int .u16 0, .int .u8 0, .int .u16 0, .int .u8 0, .int .u8 0, .int .u16 0, .slice none 0 0, .slice none 0 0, .slice none 0 0, .slice none 0 0] 108 (0, 0))) (h : IsB w (.slice av nv cv) l) (hb : TooFew l) (hne : (Value.slice av nv cv).ownBlock ≠ some D) :
    Calls Try.prog 53 #[.pointer (some ⟨D, 0, none⟩), .slice av nv cv, .iface 156 (.agg #[])] w fun e w' => (∃ a, e = .returned (.iface 174 (.pointer (some a)))) ∧ w.grownBy w' (some D) := by
  rcases hb with hb | ⟨W, M, h1, h2, h3, h4, h5, h6⟩
  · refine (ip4DecodeShort_calls _ _ l w h hb).mono ?_
    rintro e w' ⟨h1, h2⟩
    exact ⟨h1, h2.to _⟩
  · exact ip4DecodeCut_calls D av nv cv l W M w hD h h1 h2 h3 h4 h5 h6 hne

set_option maxRecDepth 100000 in
set_option maxHeartbeats 4000000 in
theorem ip4ReadBad_calls (v : Value) (l : List Int) (w : World) (h : IsB w v l) (hb : TooFew l) (hm : l.length ≤ 1000000) :
    Calls Try.prog 27 #[v] w fun e w' => e = .returned (.tuple #[.agg #[.int .i64 0, .int .i64 0, .int .i64 0, .int .i64 0, .int .i64 0, .int .i64 0, .int .i64 0, .int .i64 0, .int .i64 0, .slice none 0 0, .slice none 0 0, .slice none 0 0], .slice none 0 0, .bool false]) ∧ Gr w w' := by
  have H := Lib.hid h
  have HB := Lib.hid hb
  clear h hb
  go_enter Try.func27, Try.ntmps27
  go_wp2_with fail
  refine (copied_calls _ l _ ?_ (by omega)).mono ?_
  · exact H.out.gr (((Gr.refl w).alloc _).alloc _)
  rintro e w1 ⟨a0, n0, m0, rfl, hoA, hgA⟩
  go_wp2_with fail
  refine (nilFeedback_calls _).mono ?_
  rintro e w2 ⟨rfl, rfl⟩
  go_wp2_with fail
  have hR := HasRow.gr hgA (HasRow.gr (World.grownBy_alloc _ (.cells #[.slice none 0 0, .slice none 0 0, .int .u8 0, .int .u8 0, .int .u8 0, .int .u16 0, .int .u16 0, .int .u8 0, .int .u16 0, .int .u8 0, .int .u8 0, .int .u16 0, .slice none 0 0, .slice none 0 0, .slice none 0 0, .slice none 0 0] 108) none) (HasRow.new w [.int .i64 0, .int .i64 0, .int .i64 0, .int .i64 0, .int .i64 0, .int .i64 0, .int .i64 0, .int .i64 0, .int .i64 0, .slice none 0 0, .slice none 0 0, .slice none 0 0] 39 12 rfl))
  have hD := heap_gr hgA (heap_alloc_new (w.alloc (.cells #[.int .i64 0, .int .i64 0, .int .i64 0, .int .i64 0, .int .i64 0, .int .i64 0, .int .i64 0, .int .i64 0, .int .i64 0, .slice none 0 0, .slice none 0 0, .slice none 0 0] 39)) (.cells #[.slice none 0 0, .slice none 0 0, .int .u8 0, .int .u8 0, .int .u8 0, .int .u16 0, .int .u16 0, .int .u8 0, .int .u16 0, .int .u8 0, .int .u8 0, .int .u16 0, .slice none 0 0, .slice none 0 0, .slice none 0 0, .slice none 0 0] 108))
  have hS := hgA.size
  simp only [World.size_alloc] at hD hS
  have HR := Lib.hid hR
  have HD := Lib.hid hD
  clear hR hD
  refine (ip4DecodeBad_calls (w.heap.size + 1) _ _ _ l w1 HD.out hoA.isB HB.out (hoA.other (by simp))).mono ?_
  rintro e w2 ⟨⟨a, rfl⟩, hgB⟩
  obtain ⟨w3, rs, hrs, hRs, rfl⟩ := (HasRow.grown HR.out hgB (by omega)).w0
  obtain ⟨r0, r1, r2, r3, r4, r5, r6, r7, r8, r9, r10, r11, rfl⟩ := len12 hrs
  have hG : Gr w _ := ((((Gr.refl w).alloc _).alloc _).trans hgA).step hgB (by omega)
  clear hgA hgB hoA
  go_wp2_with fail
  exact bodyPost_ret (v := .tuple #[.agg #[.int .i64 0, .int .i64 0, .int .i64 0, .int .i64 0, .int .i64 0, .int .i64 0, .int .i64 0, .int .i64 0, .int .i64 0, .slice none 0 0, .slice none 0 0, .slice none 0 0], .slice none 0 0, .bool false]) (by simp [results, Try.results27, go_sem, hRs]) rfl ⟨rfl, Gr.row hG (Nat.le_refl _)⟩

end Go.Proofs.Ytoopkfnkmaaieaa
