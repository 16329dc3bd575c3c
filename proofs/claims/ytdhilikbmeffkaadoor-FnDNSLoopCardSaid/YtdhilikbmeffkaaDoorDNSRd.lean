/-
  A message with one question, as data.
-/
import Derived.Test.YtdhilikbmeffkaaDoorDNSOne
import Derived.Test.YtdhilikbmeffkaaDoorTrunc
namespace Go.Proofs.YtdhilikbmeffkaaDoor
open Go.RowKit

theorem cell_ltD {w : World} {g o : Nat} {u : Value} (h : w.cell? ⟨g, o, none⟩ = some u) : g < w.heap.size := by
  rcases Nat.lt_or_ge g w.heap.size with h1 | h1
  · exact h1
  · have : w.heap[g]? = none := Array.getElem?_eq_none h1
    simp [World.cell?, this] at h

set_option linter.unusedVariables false in
set_option maxRecDepth 100000 in
set_option maxHeartbeats 4000000 in
theorem dnsReadSelf_calls (v : Value) (l : List Int) (a : Addr) (w : World) (h : IsB w v l) (hl : 14 ≤ l.length) (hmx : l.length ≤ 1000000) (hQ : bt l 4 * 256 + bt l 5 = 1) (hA : bt l 6 * 256 + bt l 7 = 0) (hN : bt l 8 * 256 + bt l 9 = 0) (hR : bt l 10 * 256 + bt l 11 = 0) (h12 : bt l 12 = 192) (h13 : bt l 13 = 12) (hm : w.cell? ⟨6, 0, none⟩ = some (.iface 119 (.pointer (some a)))) :
    Calls Tryd.prog 11 #[v] w fun e w' => e = .returned (.tuple #[.agg #[.int .i64 0, .bool false, .int .i64 0, .bool false, .bool false, .bool false, .bool false, .int .i64 0, .int .i64 0, .slice none 0 0, .slice none 0 0, .slice none 0 0, .slice none 0 0], .bool false]) ∧ Gr w w' := by
  have h6 := cell_ltD hm
  have HM := Lib.hid hm
  have HG := Lib.hid (And.intro h12 h13)
  clear hm h12 h13
  have H := Lib.hid h
  have HY := Lib.hid (And.intro hQ (And.intro hA (And.intro hN hR)))
  clear h hQ hA hN hR
  go_enter Tryd.func11, Tryd.ntmps11
  go_wp2_with fail
  refine (copied_calls _ l _ ?_ (by omega)).mono ?_
  · exact H.out.gr (((Gr.refl w).alloc _).alloc _)
  rintro e w1 ⟨a0, n0, m0, rfl, hoA, hgA⟩
  go_wp2_with fail
  refine (nilFeedback_calls _).mono ?_
  rintro e w2 ⟨rfl, rfl⟩
  go_wp2_with fail
  have hRow := HasRow.gr hgA (HasRow.gr (World.grownBy_alloc _ (.cells #[.slice none 0 0, .slice none 0 0, .int .u16 0, .bool false, .int .u8 0, .bool false, .bool false, .bool false, .bool false, .int .u8 0, .int .u8 0, .int .u16 0, .int .u16 0, .int .u16 0, .int .u16 0, .slice none 0 0, .slice none 0 0, .slice none 0 0, .slice none 0 0, .slice none 0 0] 67) none) (HasRow.new w [.int .i64 0, .bool false, .int .i64 0, .bool false, .bool false, .bool false, .bool false, .int .i64 0, .int .i64 0, .slice none 0 0, .slice none 0 0, .slice none 0 0, .slice none 0 0] 25 13 rfl))
  have hD := heap_gr hgA (heap_alloc_new (w.alloc (.cells #[.int .i64 0, .bool false, .int .i64 0, .bool false, .bool false, .bool false, .bool false, .int .i64 0, .int .i64 0, .slice none 0 0, .slice none 0 0, .slice none 0 0, .slice none 0 0] 25)) (.cells #[.slice none 0 0, .slice none 0 0, .int .u16 0, .bool false, .int .u8 0, .bool false, .bool false, .bool false, .bool false, .int .u8 0, .int .u8 0, .int .u16 0, .int .u16 0, .int .u16 0, .int .u16 0, .slice none 0 0, .slice none 0 0, .slice none 0 0, .slice none 0 0, .slice none 0 0] 67))
  have hS := hgA.size
  simp only [World.size_alloc] at hD hS
  have HR := Lib.hid hRow
  have HD := Lib.hid hD
  clear hRow hD
  refine (decSelf_calls (w.heap.size + 1) _ _ _ l hl w1 HD.out hoA.isB hmx HY.out.1 HY.out.2.1 HY.out.2.2.1 HY.out.2.2.2 (hoA.other (by simp)) a HG.out.1 HG.out.2 (Gr.cell ((((Gr.refl w).alloc _).alloc _).trans hgA) HM.out) (by omega)).mono ?_
  rintro e w2 ⟨rfl, hgB⟩
  obtain ⟨w3, rs, hrs, hRs, rfl⟩ := (HasRow.grown HR.out hgB (by omega)).w0
  obtain ⟨r0, r1, r2, r3, r4, r5, r6, r7, r8, r9, r10, r11, r12, rfl⟩ := len13 hrs
  have hG : Gr w _ := ((((Gr.refl w).alloc _).alloc _).trans hgA).step hgB (by omega)
  clear hgA hgB hoA
  go_wp2_with fail
  exact bodyPost_ret (v := .tuple #[.agg #[.int .i64 0, .bool false, .int .i64 0, .bool false, .bool false, .bool false, .bool false, .int .i64 0, .int .i64 0, .slice none 0 0, .slice none 0 0, .slice none 0 0, .slice none 0 0], .bool false]) (by simp [results, Tryd.results11, go_sem, hRs]) rfl ⟨rfl, Gr.row hG (Nat.le_refl _)⟩

theorem info_iq : (Tryd.prog.info? 34).map (fun i => (i.zero, i.size, i.bytes)) = some (some (.agg #[.string ⟨#[]⟩, .int .i64 0, .int .i64 0]), 3, 32) := by kernel_rfl
/-- a question's cells as data -/
def rcS (s : ByteArray) (p : Opt × Value) : List Value := [.string s, .int .i64 p.1.kind, .int .i64 p.1.len]
theorem rcS_len (s : ByteArray) (p : Opt × Value) : (rcS s p).length = 3 := rfl
theorem slice_one {rc : Opt × Value → List Value} {z : Nat} {w : World} {base : Nat} {e : TypeId} {D : Nat} {v : Value} {p : Opt × Value} (h : OwnG rc z w base e D v ([] ++ [p])) : ∃ g c, v = .slice (some ⟨g, 0, none⟩) 1 c := by
  rcases h.slice with ⟨-, h0⟩ | ⟨g, c, h1, h2, -⟩
  · simp at h0
  · exact ⟨g, c, by simpa using h1⟩
section
variable {w : World} {D : Nat} {cs : List Value} {e : TypeId}
@[go_sem] theorem rowW_alloc (hD : Has w D) (o : Obj) : (rowW w D cs e).alloc o = rowW (w.alloc o) D cs e := by
  have h : D < w.heap.size := hD
  simp only [rowW, World.alloc]
  congr 1
  apply Array.ext_getElem?
  intro i
  rw [Array.getElem?_push, Array.getElem?_setIfInBounds, Array.getElem?_setIfInBounds, Array.getElem?_push, Array.size_push, Array.size_setIfInBounds]
  by_cases h1 : i = w.heap.size
  · subst h1
    rw [if_pos rfl, if_neg (by omega), if_pos rfl]
  · rw [if_neg h1]
    by_cases h2 : D = i
    · subst h2
      rw [if_pos rfl, if_pos rfl, if_pos h, if_pos (by omega)]
    · rw [if_neg h2, if_neg h2, if_neg h1]
@[go_sem] theorem has_alloc (hD : Has w D) (o : Obj) : Has (w.alloc o) D = True := by
  have h : D < w.heap.size := hD
  refine eq_true ?_
  show D < (w.alloc o).heap.size
  rw [World.size_alloc]; omega
end
/-- no records -/
theorem recordsFrom0_calls (w : World) : Calls Tryd.prog 26 #[.slice none 0 0] w fun e w' => (∃ b, e = .returned (.slice (some ⟨b, 0, none⟩) 0 0)) ∧ Gr w w' := by
  go_enter Tryd.func26, Tryd.ntmps26
  go_wp2_with fail
  refine wp_loop_rounds 1 ?_
  rw [rounds_succ]
  go_wp2_with fail
  go_ret
  exact ⟨⟨_, rfl⟩, (by (repeat (with_reducible first | exact Gr.refl _ | assumption | refine Gr.alloc ?_ _ | refine Gr.drew ?_ | refine Gr.drewN ?_ _ | refine Gr.trans ?_ (by assumption))); done)⟩

set_option linter.unusedSimpArgs false in
set_option linter.unusedVariables false in
set_option maxRecDepth 100000 in
set_option maxHeartbeats 8000000 in
theorem dnsReadRoot_calls (v : Value) (l : List Int) (w : World) (h : IsB w v l) (hl : 17 ≤ l.length) (hmx : l.length ≤ 1000000) (hQ : bt l 4 * 256 + bt l 5 = 1) (hA : bt l 6 * 256 + bt l 7 = 0) (hN : bt l 8 * 256 + bt l 9 = 0) (hR : bt l 10 * 256 + bt l 11 = 0) (h12 : bt l 12 = 0) :
    Calls Tryd.prog 11 #[v] w fun e w' => (∃ z0 z1 z2 z3 z4 z5 z6 z7 z8 g5 c5 b1 b2 b3, e = .returned (.tuple #[.agg #[.int .i64 z0, .bool z1, .int .i64 z2, .bool z3, .bool z4, .bool z5, .bool z6, .int .i64 z7, .int .i64 z8, .slice (some ⟨g5, 0, none⟩) 1 c5, .slice (some ⟨b1, 0, none⟩) 0 0, .slice (some ⟨b2, 0, none⟩) 0 0, .slice (some ⟨b3, 0, none⟩) 0 0], .bool true])) ∧ Gr w w' := by
  have HG := Lib.hid h12
  clear h12
  have H := Lib.hid h
  have HY := Lib.hid (And.intro hQ (And.intro hA (And.intro hN hR)))
  clear h hQ hA hN hR
  go_enter Tryd.func11, Tryd.ntmps11
  go_wp2_with fail
  refine (copied_calls _ l _ ?_ (by omega)).mono ?_
  · exact H.out.gr (((Gr.refl w).alloc _).alloc _)
  rintro e w1 ⟨a0, n0, m0, rfl, hoA, hgA⟩
  go_wp2_with fail
  refine (nilFeedback_calls _).mono ?_
  rintro e w2 ⟨rfl, rfl⟩
  go_wp2_with fail
  have hRow := HasRow.gr hgA (HasRow.gr (World.grownBy_alloc _ (.cells #[.slice none 0 0, .slice none 0 0, .int .u16 0, .bool false, .int .u8 0, .bool false, .bool false, .bool false, .bool false, .int .u8 0, .int .u8 0, .int .u16 0, .int .u16 0, .int .u16 0, .int .u16 0, .slice none 0 0, .slice none 0 0, .slice none 0 0, .slice none 0 0, .slice none 0 0] 67) none) (HasRow.new w [.int .i64 0, .bool false, .int .i64 0, .bool false, .bool false, .bool false, .bool false, .int .i64 0, .int .i64 0, .slice none 0 0, .slice none 0 0, .slice none 0 0, .slice none 0 0] 25 13 rfl))
  have hD := heap_gr hgA (heap_alloc_new (w.alloc (.cells #[.int .i64 0, .bool false, .int .i64 0, .bool false, .bool false, .bool false, .bool false, .int .i64 0, .int .i64 0, .slice none 0 0, .slice none 0 0, .slice none 0 0, .slice none 0 0] 25)) (.cells #[.slice none 0 0, .slice none 0 0, .int .u16 0, .bool false, .int .u8 0, .bool false, .bool false, .bool false, .bool false, .int .u8 0, .int .u8 0, .int .u16 0, .int .u16 0, .int .u16 0, .int .u16 0, .slice none 0 0, .slice none 0 0, .slice none 0 0, .slice none 0 0, .slice none 0 0] 67))
  have hS := hgA.size
  simp only [World.size_alloc] at hD hS
  have HR := Lib.hid hRow
  have HD := Lib.hid hD
  clear hRow hD
  refine (decRoot_calls (w.heap.size + 1) _ _ _ l hl w1 HD.out hoA.isB hmx HY.out.1 HY.out.2.1 HY.out.2.2.1 HY.out.2.2.2 (hoA.other (by simp)) HG.out).mono ?_
  rintro e w2 ⟨rfl, hgB, g4, c4, kd, cl, a6, n6, m6, hd2, hq2⟩
  have HR2 := Lib.hid (HasRow.grown HR.out hgB (by omega))
  have HG2 := Lib.hid hgB
  have HD2 := Lib.hid hd2
  have hcl := hq2.1.cells (g := g4) rfl
  have hgl := (hq2.fresh g4 rfl).2
  have c0 : w2.cell? ⟨g4, 0, none⟩ = some (.slice none 0 0) := by simpa [Addr.add_lit] using hcl 0 _ rfl
  have c1 : w2.cell? ⟨g4, 1, none⟩ = some (.int .u16 kd) := by simpa [Addr.add_lit] using hcl 1 _ rfl
  have c2 : w2.cell? ⟨g4, 2, none⟩ = some (.int .u16 cl) := by simpa [Addr.add_lit] using hcl 2 _ rfl
  clear hgB hd2 hq2 hcl
  have k2 := cell_of_heap (cs := [_, _, _, _, _, _, _, _, _, _, _, _, _, _, _, _, _, _, _, _]) HD2.out 2 _ rfl
  have k3 := cell_of_heap (cs := [_, _, _, _, _, _, _, _, _, _, _, _, _, _, _, _, _, _, _, _]) HD2.out 3 _ rfl
  have k4 := cell_of_heap (cs := [_, _, _, _, _, _, _, _, _, _, _, _, _, _, _, _, _, _, _, _]) HD2.out 4 _ rfl
  have k5 := cell_of_heap (cs := [_, _, _, _, _, _, _, _, _, _, _, _, _, _, _, _, _, _, _, _]) HD2.out 5 _ rfl
  have k6 := cell_of_heap (cs := [_, _, _, _, _, _, _, _, _, _, _, _, _, _, _, _, _, _, _, _]) HD2.out 6 _ rfl
  have k7 := cell_of_heap (cs := [_, _, _, _, _, _, _, _, _, _, _, _, _, _, _, _, _, _, _, _]) HD2.out 7 _ rfl
  have k8 := cell_of_heap (cs := [_, _, _, _, _, _, _, _, _, _, _, _, _, _, _, _, _, _, _, _]) HD2.out 8 _ rfl
  have k9 := cell_of_heap (cs := [_, _, _, _, _, _, _, _, _, _, _, _, _, _, _, _, _, _, _, _]) HD2.out 9 _ rfl
  have k10 := cell_of_heap (cs := [_, _, _, _, _, _, _, _, _, _, _, _, _, _, _, _, _, _, _, _]) HD2.out 10 _ rfl
  have k15 := cell_of_heap (cs := [_, _, _, _, _, _, _, _, _, _, _, _, _, _, _, _, _, _, _, _]) HD2.out 15 _ rfl
  have k16 := cell_of_heap (cs := [_, _, _, _, _, _, _, _, _, _, _, _, _, _, _, _, _, _, _, _]) HD2.out 16 _ rfl
  have k17 := cell_of_heap (cs := [_, _, _, _, _, _, _, _, _, _, _, _, _, _, _, _, _, _, _, _]) HD2.out 17 _ rfl
  have k18 := cell_of_heap (cs := [_, _, _, _, _, _, _, _, _, _, _, _, _, _, _, _, _, _, _, _]) HD2.out 18 _ rfl
  have p0 := hoA.bytes.bt0 0
  have q0 := hoA.bytes.bt1 0
  have p1 := hoA.bytes.bt0 1
  have q1 := hoA.bytes.bt1 1
  have p2 := hoA.bytes.bt0 2
  have q2 := hoA.bytes.bt1 2
  have p3 := hoA.bytes.bt0 3
  have q3 := hoA.bytes.bt1 3
  have uw0 : IntKind.i64.wrap (bt l 0 * 256 + bt l 1) = bt l 0 * 256 + bt l 1 := w64 (by omega) (by omega)
  have uw1 : IntKind.i64.wrap (bt l 2 / 8 % 16) = bt l 2 / 8 % 16 := w64 (by omega) (by omega)
  have uw2 : IntKind.i64.wrap (bt l 3 / 16 % 8) = bt l 3 / 16 % 8 := w64 (by omega) (by omega)
  have uw3 : IntKind.i64.wrap (bt l 3 % 16) = bt l 3 % 16 := w64 (by omega) (by omega)
  clear p0 q0 p1 q1 p2 q2 p3 q3
  go_wp2_with fail
  go_region_held3 (fun w' => w'.cell? ⟨w.heap.size + 1, 2, none⟩ = some (.int .u16 (bt l 0 * 256 + bt l 1)) ∧ w'.cell? ⟨w.heap.size + 1, 3, none⟩ = some (.bool (bits .and .u8 (bt l 2) 128 != 0)) ∧ w'.cell? ⟨w.heap.size + 1, 4, none⟩ = some (.int .u8 (bt l 2 / 8 % 16)) ∧ w'.cell? ⟨w.heap.size + 1, 5, none⟩ = some (.bool (bits .and .u8 (bt l 2) 4 != 0)) ∧ w'.cell? ⟨w.heap.size + 1, 6, none⟩ = some (.bool (bits .and .u8 (bt l 2) 2 != 0)) ∧ w'.cell? ⟨w.heap.size + 1, 7, none⟩ = some (.bool (bits .and .u8 (bt l 2) 1 != 0)) ∧ w'.cell? ⟨w.heap.size + 1, 8, none⟩ = some (.bool (bits .and .u8 (bt l 3) 128 != 0)) ∧ w'.cell? ⟨w.heap.size + 1, 9, none⟩ = some (.int .u8 (bt l 3 / 16 % 8)) ∧ w'.cell? ⟨w.heap.size + 1, 10, none⟩ = some (.int .u8 (bt l 3 % 16))) (first | exact ⟨k2, k3, k4, k5, k6, k7, k8, k9, k10⟩ | exact And.imp (Gr.cell ((Gr.refl _).alloc _)) (And.imp (Gr.cell ((Gr.refl _).alloc _)) (And.imp (Gr.cell ((Gr.refl _).alloc _)) (And.imp (Gr.cell ((Gr.refl _).alloc _)) (And.imp (Gr.cell ((Gr.refl _).alloc _)) (And.imp (Gr.cell ((Gr.refl _).alloc _)) (And.imp (Gr.cell ((Gr.refl _).alloc _)) (And.imp (Gr.cell ((Gr.refl _).alloc _)) (Gr.cell ((Gr.refl _).alloc _))))))))) (by assumption) | go_keep) (fail)
  obtain ⟨Y, hY⟩ : ∃ Y : World, Y = (w2.alloc (.cells [.int .i64 (bt l 0 * 256 + bt l 1), .bool (bits .and .u8 (bt l 2) 128 != 0), .int .i64 (bt l 2 / 8 % 16), .bool (bits .and .u8 (bt l 2) 4 != 0), .bool (bits .and .u8 (bt l 2) 2 != 0), .bool (bits .and .u8 (bt l 2) 1 != 0), .bool (bits .and .u8 (bt l 3) 128 != 0), .int .i64 (bt l 3 / 16 % 8), .int .i64 (bt l 3 % 16), .slice none 0 0, .slice none 0 0, .slice none 0 0, .slice none 0 0].toArray 25)).drew := ⟨_, rfl⟩
  rw [← hY]
  have hO : Y.heap[w2.heap.size]? = some (.cells [.int .i64 (bt l 0 * 256 + bt l 1), .bool (bits .and .u8 (bt l 2) 128 != 0), .int .i64 (bt l 2 / 8 % 16), .bool (bits .and .u8 (bt l 2) 4 != 0), .bool (bits .and .u8 (bt l 2) 2 != 0), .bool (bits .and .u8 (bt l 2) 1 != 0), .bool (bits .and .u8 (bt l 3) 128 != 0), .int .i64 (bt l 3 / 16 % 8), .int .i64 (bt l 3 % 16), .slice none 0 0, .slice none 0 0, .slice none 0 0, .slice none 0 0].toArray 25 (0, 0)) := by rw [hY]; exact heap_gr ((Gr.refl _).drew) (heap_alloc_new w2 _)
  have gY : Gr w2 Y := by rw [hY]; exact ((Gr.refl w2).alloc _).drew
  clear hY
  obtain ⟨x0, hx0, rfl⟩ := one_row hO (Gr.refl Y)
  obtain ⟨O, hOe⟩ : ∃ O, O = w2.heap.size := ⟨_, rfl⟩
  rw [← hOe] at hx0 gY ⊢
  have szw := HG2.out.size
  have hneD : w.heap.size + 1 ≠ O := by omega
  have neG : g4 ≠ O := by omega
  have GY := Lib.hid gY
  have HOE := Lib.hid hOe
  have k15 := (rowW_cell_other hneD).symm.trans (gY.cell k15)
  have k16 := (rowW_cell_other hneD).symm.trans (gY.cell k16)
  have k17 := (rowW_cell_other hneD).symm.trans (gY.cell k17)
  have k18 := (rowW_cell_other hneD).symm.trans (gY.cell k18)
  have c0 := (rowW_cell_other neG).symm.trans (gY.cell c0)
  have c1 := (rowW_cell_other neG).symm.trans (gY.cell c1)
  have c2 := (rowW_cell_other neG).symm.trans (gY.cell c2)
  have hstr := fun w' => (isB_nil (w := w')).str (P := Tryd.prog) 27 5 Tryd.underlying27 Tryd.underlying5 9 Tryd.underlying9
  clear hO hOe gY k2 k3 k4 k5 k6 k7 k8 k9 k10 uw0 uw1 uw2 uw3
  go_wp2_with fail
  have HX0 := Lib.hid hx0
  have hq0 : x0.heap.size ≠ O := by have : O < x0.heap.size := hx0; omega
  refine wp_loop_rounds 2 ?_
  rw [rounds_succ]
  go_upto_region 8 with fail
  obtain ⟨x1, hx1e⟩ : ∃ x1, x1 = x0.alloc (.cells #[.slice none 0 0, .int .u16 kd, .int .u16 cl] 78) := ⟨_, rfl⟩
  rw [← hx1e]
  have gX : Gr x0 x1 := by rw [hx1e]; exact (Gr.refl _).alloc _
  have hx1 : Has x1 O := by rw [hx1e]; unfold Has; rw [World.size_alloc]; exact Nat.lt_succ_of_lt hx0
  obtain ⟨Q, hQe⟩ : ∃ Q, Q = x0.heap.size := ⟨_, rfl⟩
  have b0 := boxQ (w := x0) (b := Q) hQe (.slice none 0 0) (.int .u16 kd) (.int .u16 cl) 78
  rw [← hx1e] at b0
  rw [← hQe]
  have hlt : O < x0.heap.size := hx0
  have neQ : Q ≠ O := by omega
  have q0 := b0 0 _ rfl
  have q1 := b0 1 _ rfl
  have q2 := b0 2 _ rfl
  have k16 := gX.cell k16
  have k17 := gX.cell k17
  have k18 := gX.cell k18
  have GX := Lib.hid gX
  have hq1 : x1.heap.size ≠ O := by have : O < x1.heap.size := hx1; omega
  clear b0 gX c0 c1 c2 hQe k15 hx1e hx0 hq0
  go_wp2_with (at_builtin; refine wpList_appG rfl (.tmp 68) (.tmp 79) 22 34 rfl Tryd.underlying22 _ 32 info_iq rfl (by decide) (rcS_len (strOfNums [])) (by omega) 0 0 (.slice none 0 0) [] (by simp [Act.eval]) OwnG.nil x1.heap.size 1 ⟨wrap64 kd, wrap64 cl, []⟩ (.slice none 0 0) (by simp [Act.eval]) (fun i u hu => (rowW_cell_other hq1).trans (boxQ rfl _ _ _ _ i u hu)) (by intro u hu; simp [rcS] at hu; rcases hu with rfl | rfl | rfl <;> rfl) isB_nil (.inl rfl) (fun _ _ => .inl rfl) (by simp) (Nat.zero_le _) ?_; intro v4 w4 ho4 hg4 hat4; obtain ⟨g5, c5, rfl⟩ := slice_one ho4; obtain ⟨x2, hx2, rfl⟩ := one_row (rowW_heap (by unfold Has; rw [World.size_alloc]; exact Nat.lt_succ_of_lt hx1)) hg4)
  have G2 : Gr w2 (rowW x2 O [.int .i64 (bt l 0 * 256 + bt l 1), .bool (bits .and .u8 (bt l 2) 128 != 0), .int .i64 (bt l 2 / 8 % 16), .bool (bits .and .u8 (bt l 2) 4 != 0), .bool (bits .and .u8 (bt l 2) 2 != 0), .bool (bits .and .u8 (bt l 2) 1 != 0), .bool (bits .and .u8 (bt l 3) 128 != 0), .int .i64 (bt l 3 / 16 % 8), .int .i64 (bt l 3 % 16), .slice none 0 0, .slice none 0 0, .slice none 0 0, .slice none 0 0] 25) := ((GY.out.trans (gr_rows HX0.out GX.out)).trans (by rw [← rowW_alloc hx1]; exact (Gr.refl _).alloc _)).trans hg4
  have k16 := (rowW_cell_other hneD).symm.trans (Gr.cell hg4 ((rowW_cell_other hneD).trans (Gr.cell ((Gr.refl _).alloc _) k16)))
  have k17 := (rowW_cell_other hneD).symm.trans (Gr.cell hg4 ((rowW_cell_other hneD).trans (Gr.cell ((Gr.refl _).alloc _) k17)))
  have k18 := (rowW_cell_other hneD).symm.trans (Gr.cell hg4 ((rowW_cell_other hneD).trans (Gr.cell ((Gr.refl _).alloc _) k18)))
  have HG2' := Lib.hid G2
  have HR6 := Lib.hid (HasRow.gr G2 HR2.out)
  have szw2 := HG2.out.size
  clear G2 hg4 ho4 hat4 q0 q1 q2 hx1 hq1
  rw [rounds_succ]
  go_wp2_with fail
  go_region_held3 (fun w' => w'.cell? ⟨w.heap.size + 1, 16, none⟩ = some (.slice none 0 0) ∧ w'.cell? ⟨w.heap.size + 1, 17, none⟩ = some (.slice none 0 0) ∧ w'.cell? ⟨w.heap.size + 1, 18, none⟩ = some (.slice none 0 0)) (first | exact ⟨(rowW_cell_other hneD).trans k16, (rowW_cell_other hneD).trans k17, (rowW_cell_other hneD).trans k18⟩ | exact And.imp (Gr.cell (by assumption)) (And.imp (Gr.cell (by assumption)) (Gr.cell (by assumption))) (by assumption) | exact And.imp (rowW_swap hneD) (And.imp (rowW_swap hneD) (rowW_swap hneD)) (by assumption) | go_keep) (first
    | (go_at_call 26; refine (recordsFrom0_calls _).mono ?_; rintro e x9 ⟨⟨b9, rfl⟩, hg9⟩; obtain ⟨y9, hy9, rfl⟩ := one_row (rowW_heap (by assumption)) hg9))
  have GZ : Gr (rowW x2 O [.int .i64 (bt l 0 * 256 + bt l 1), .bool (bits .and .u8 (bt l 2) 128 != 0), .int .i64 (bt l 2 / 8 % 16), .bool (bits .and .u8 (bt l 2) 4 != 0), .bool (bits .and .u8 (bt l 2) 2 != 0), .bool (bits .and .u8 (bt l 2) 1 != 0), .bool (bits .and .u8 (bt l 3) 128 != 0), .int .i64 (bt l 3 / 16 % 8), .int .i64 (bt l 3 % 16), .slice (some ⟨g5, 0, none⟩) 1 c5, .slice none 0 0, .slice none 0 0, .slice none 0 0] 25) (rowW y9 O [.int .i64 (bt l 0 * 256 + bt l 1), .bool (bits .and .u8 (bt l 2) 128 != 0), .int .i64 (bt l 2 / 8 % 16), .bool (bits .and .u8 (bt l 2) 4 != 0), .bool (bits .and .u8 (bt l 2) 2 != 0), .bool (bits .and .u8 (bt l 2) 1 != 0), .bool (bits .and .u8 (bt l 3) 128 != 0), .int .i64 (bt l 3 / 16 % 8), .int .i64 (bt l 3 % 16), .slice (some ⟨g5, 0, none⟩) 1 c5, .slice none 0 0, .slice none 0 0, .slice none 0 0] 25) := ((Gr.refl _).drew).trans (show Gr (rowW x2.drew O [.int .i64 (bt l 0 * 256 + bt l 1), .bool (bits .and .u8 (bt l 2) 128 != 0), .int .i64 (bt l 2 / 8 % 16), .bool (bits .and .u8 (bt l 2) 4 != 0), .bool (bits .and .u8 (bt l 2) 2 != 0), .bool (bits .and .u8 (bt l 2) 1 != 0), .bool (bits .and .u8 (bt l 3) 128 != 0), .int .i64 (bt l 3 / 16 % 8), .int .i64 (bt l 3 % 16), .slice (some ⟨g5, 0, none⟩) 1 c5, .slice none 0 0, .slice none 0 0, .slice none 0 0] 25) _ from (by (repeat (with_reducible first | exact Gr.refl _ | assumption | refine Gr.alloc ?_ _ | refine Gr.drew ?_ | refine Gr.drewN ?_ _ | refine Gr.trans ?_ (by assumption))); done))
  have hRO : w.heap.size ≠ O := by have := HOE.out; omega
  have gAA : Gr w w2 := ((((Gr.refl w).alloc _).alloc _).trans hgA).step HG2.out (by omega)
  have gFF : Gr w (rowW y9 O [.int .i64 (bt l 0 * 256 + bt l 1), .bool (bits .and .u8 (bt l 2) 128 != 0), .int .i64 (bt l 2 / 8 % 16), .bool (bits .and .u8 (bt l 2) 4 != 0), .bool (bits .and .u8 (bt l 2) 2 != 0), .bool (bits .and .u8 (bt l 2) 1 != 0), .bool (bits .and .u8 (bt l 3) 128 != 0), .int .i64 (bt l 3 / 16 % 8), .int .i64 (bt l 3 % 16), .slice (some ⟨g5, 0, none⟩) 1 c5, .slice none 0 0, .slice none 0 0, .slice none 0 0] 25) := ((gAA.trans HG2'.out).row (cs' := [.int .i64 (bt l 0 * 256 + bt l 1), .bool (bits .and .u8 (bt l 2) 128 != 0), .int .i64 (bt l 2 / 8 % 16), .bool (bits .and .u8 (bt l 2) 4 != 0), .bool (bits .and .u8 (bt l 2) 2 != 0), .bool (bits .and .u8 (bt l 2) 1 != 0), .bool (bits .and .u8 (bt l 3) 128 != 0), .int .i64 (bt l 3 / 16 % 8), .int .i64 (bt l 3 % 16), .slice (some ⟨g5, 0, none⟩) 1 c5, .slice none 0 0, .slice none 0 0, .slice none 0 0]) (by have := HOE.out; omega)).trans GZ
  have GFF := Lib.hid (fun cs' => gFF.row (cs' := cs') (by have := HOE.out; omega))
  have hRy : HasRow y9 w.heap.size 25 13 := by
    obtain ⟨cs, h1, h2⟩ := HR6.out
    refine ⟨cs, h1, ?_⟩
    have hl := (Array.getElem?_eq_some_iff.1 h2).1
    rw [rowW_size] at hl
    rw [rowW_other hRO] at h2
    have e := GZ.block w.heap.size (by rw [rowW_size]; exact hl) (by simp)
    rw [rowW_other hRO, rowW_other hRO] at e
    rw [e]; exact h2
  obtain ⟨y8, rs, hrs, hR8, rfl⟩ := hRy.w0
  obtain ⟨r0, r1, r2, r3, r4, r5, r6, r7, r8, r9, r10, r11, r12, rfl⟩ := len13 hrs
  clear GZ gAA gFF hgA hoA
  go_wp2_with fail
  exact bodyPost_ret (v := .tuple #[.agg #[.int .i64 (bt l 0 * 256 + bt l 1), .bool (bits .and .u8 (bt l 2) 128 != 0), .int .i64 (bt l 2 / 8 % 16), .bool (bits .and .u8 (bt l 2) 4 != 0), .bool (bits .and .u8 (bt l 2) 2 != 0), .bool (bits .and .u8 (bt l 2) 1 != 0), .bool (bits .and .u8 (bt l 3) 128 != 0), .int .i64 (bt l 3 / 16 % 8), .int .i64 (bt l 3 % 16), .slice (some ⟨g5, 0, none⟩) 1 c5, .slice (some ⟨_, 0, none⟩) 0 0, .slice (some ⟨_, 0, none⟩) 0 0, .slice (some ⟨_, 0, none⟩) 0 0], .bool true]) (by simp [results, Tryd.results11, go_sem, hR8, hRO]; exact ⟨rfl, rfl, rfl⟩) rfl ⟨⟨_, _, _, _, _, _, _, _, _, _, _, _, _, _, rfl⟩, Gr.row2 (Ne.symm hRO) (GFF.out [.int .i64 (bt l 0 * 256 + bt l 1), .bool (bits .and .u8 (bt l 2) 128 != 0), .int .i64 (bt l 2 / 8 % 16), .bool (bits .and .u8 (bt l 2) 4 != 0), .bool (bits .and .u8 (bt l 2) 2 != 0), .bool (bits .and .u8 (bt l 2) 1 != 0), .bool (bits .and .u8 (bt l 3) 128 != 0), .int .i64 (bt l 3 / 16 % 8), .int .i64 (bt l 3 % 16), .slice none 0 0, .slice none 0 0, .slice none 0 0, .slice none 0 0]) (by have := HOE.out; omega) (Nat.le_refl _)⟩

end Go.Proofs.YtdhilikbmeffkaaDoor
