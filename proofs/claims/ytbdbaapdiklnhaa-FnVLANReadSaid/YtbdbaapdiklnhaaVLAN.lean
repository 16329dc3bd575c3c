/-
  The tag of a virtual network: the law's own functions, and reading.
-/
import Derived.Test.YtbdbaapdiklnhaaBase
import Derived.Deep.RegionHeld3
import Derived.RegionTactic
namespace Go.Proofs.Ytbdbaapdiklnhaa
open Go.RowKit

/-- all parts of a tag have their sizes -/
def isVLAN (p i t : Int) : Bool := upto p 7 && upto i 4095 && upto t 65535

set_option maxHeartbeats 400000 in
theorem isVLAN_calls (p i t : Int) (d : Bool) (w : World) :
    Calls Try.prog 15 #[.agg #[.int .i64 p, .bool d, .int .i64 i, .int .i64 t]] w fun e w' => e = .returned (.bool (isVLAN p i t)) ∧ Gr w w' := by
  cases h1 : upto p 7 with
  | false =>
    go_enter Try.func15, Try.ntmps15
    go_wp2_with (go_at_call 58; refine (upTo_calls _ _ _).mono ?_; rintro e w' ⟨rfl, rfl⟩)
    go_ret
    exact ⟨by simp [isVLAN, h1], (Gr.refl w).alloc _⟩
  | true =>
    cases h2 : upto i 4095 with
    | false =>
      go_enter Try.func15, Try.ntmps15
      go_wp2_with (go_at_call 58; refine (upTo_calls _ _ _).mono ?_; rintro e w' ⟨rfl, rfl⟩)
      go_ret
      exact ⟨by simp [isVLAN, h1, h2], (Gr.refl w).alloc _⟩
    | true =>
      go_enter Try.func15, Try.ntmps15
      go_wp2_with (go_at_call 58; refine (upTo_calls _ _ _).mono ?_; rintro e w' ⟨rfl, rfl⟩)
      go_ret
      exact ⟨by simp [isVLAN, h1, h2], (Gr.refl w).alloc _⟩

/-- a tag as bytes -/
def vlan (p i t : Int) (d : Bool) : List Int := sh (p * 8192 + bi d * 4096 + i) ++ sh t

set_option maxRecDepth 100000 in
set_option maxHeartbeats 1000000 in
theorem vlan_calls (p i t : Int) (d : Bool) (w : World) (hv : isVLAN p i t = true) :
    Calls Try.prog 19 #[.agg #[.int .i64 p, .bool d, .int .i64 i, .int .i64 t]] w (RetB w (vlan p i t d)) := by
  simp only [isVLAN, Bool.and_eq_true, upto_iff] at hv
  obtain ⟨⟨⟨p0, p1⟩, i0, i1⟩, t0, t1⟩ := hv
  have d01 := bi_le d
  have d0 := d01.1
  have d1 := d01.2
  clear d01
  have q1 : IntKind.i64.wrap (p * 8192) = p * 8192 := w64 (by omega) (by omega)
  have q2 : IntKind.i64.wrap (bi d * 4096) = bi d * 4096 := w64 (by omega) (by omega)
  have e1 : bits .or .i64 (p * 8192) (bi d * 4096) = p * 8192 + bi d * 4096 := bor .i64 13 (by omega) (by omega) (by omega) (by omega) (by rw [max_i64]; omega)
  have e2 : bits .or .i64 (p * 8192 + bi d * 4096) i = p * 8192 + bi d * 4096 + i := bor .i64 12 (by omega) (by omega) (by omega) (by omega) (by rw [max_i64]; omega)
  go_enter Try.func19, Try.ntmps19
  go_wp2_with fail
  go_region_held3 (fun w' => w'.cell? ⟨w.heap.size, 0, none⟩ = some (.int .i64 p) ∧ w'.cell? ⟨w.heap.size, 1, none⟩ = some (.bool d) ∧ w'.cell? ⟨w.heap.size, 2, none⟩ = some (.int .i64 i) ∧ w'.cell? ⟨w.heap.size, 3, none⟩ = some (.int .i64 t)) (first | exact And.imp (Gr.cell (by assumption)) (And.imp (Gr.cell (by assumption)) (And.imp (Gr.cell (by assumption)) (Gr.cell (by assumption)))) (by assumption) | go_keep) (first | (go_at_call 63; refine (bit_calls _ _).mono ?_; rintro e w' ⟨rfl, rfl⟩) | (go_at_call 62; refine (short_calls _ _).mono ?_; rintro e w1 ⟨_, _, _, rfl, ho1, hg1⟩) | (go_at_call 18; refine (joined_calls _ [sh (p * 8192 + bi d * 4096 + i), sh t] _ (isBs_lit _ _ [sh (p * 8192 + bi d * 4096 + i), sh t] _ ?_ _ rfl) ?_ ?_).mono ?_; (refine ⟨?_, ?_, trivial⟩ <;> solve_by_elim (maxDepth := 8) [Own.isB, IsB.gr]); (simp [sh]); (simp); rintro e w1 ⟨_, _, _, rfl, ho1, hg1⟩))
  go_wp2
  go_ret
  have e : vlan p i t d = [sh (p * 8192 + bi d * 4096 + i), sh t].flatten := by simp [vlan]
  rw [e]
  exact RetB.after (by repeat (with_reducible first | exact Gr.refl _ | refine Gr.alloc ?_ _ | refine Gr.drew ?_ | refine Gr.trans ?_ (by assumption))) ho1 hg1

set_option maxRecDepth 100000 in
set_option maxHeartbeats 1000000 in
theorem vlanDecode_calls (D : Nat) (cs : List Value) (hcs : cs.length = 6) (v : Value) (l : List Int) (w : World) (hD : w.heap[D]? = some (.cells cs.toArray 107 (0, 0))) (h : IsB w v l) (hl : 4 ≤ l.length) (hne : v.ownBlock ≠ some D) :
    Calls Try.prog 59 #[.pointer (some ⟨D, 0, none⟩), v, .iface 179 (.agg #[])] w fun e w' => e = .returned .nilIface ∧
      w.grownBy w' (some D) ∧ ∃ a1 n1 c1 a2 n2 c2, IsB w' (.slice a1 n1 c1) (l.take 4) ∧ IsB w' (.slice a2 n2 c2) (l.drop 4) ∧
        w'.heap[D]? = some (.cells #[.slice a1 n1 c1, .slice a2 n2 c2, .int .u8 (bt l 0 / 32), .bool (bt l 0 / 16 % 2 * 16 != 0), .int .u16 ((bt l 0 * 256 + bt l 1) % 4096), .int .u16 (bt l 2 * 256 + bt l 3)] 107 (0, 0)) := by
  obtain ⟨w0, rfl⟩ : ∃ w0, w = rowW w0 D cs 107 := ⟨w, (rowW_self hD).symm⟩
  have hd : Has w0 D := by unfold Has; rw [← rowW_size (cs := cs) (e := 107) (D := D)]; exact (Array.getElem?_eq_some_iff.1 hD).1
  replace h := h.unrow hne
  obtain ⟨i, hi, hz0, hz1, hz2⟩ := info_parts info_u8
  obtain ⟨b0, o0, i0, c0, n0⟩ := h.idx (P := Try.prog) 24 5 i Try.underlying24 hi hz1 .i64 0 0 rfl (by omega)
  have e0 : b0 ≠ D := by rintro rfl; exact hne n0
  obtain ⟨a1, n1, m1, hv1, hb1, s1⟩ := h.cutH (P := Try.prog) 24 5 i Try.underlying24 hi hz1 2 2 rfl (by omega)
  obtain ⟨a2, n2, m2, hv2, hb2, s2⟩ := h.cutLH (P := Try.prog) 24 5 i Try.underlying24 hi hz1 2 4 2 4 rfl rfl (by omega) (by omega)
  obtain ⟨a3, n3, m3, hv3, hb3, s3⟩ := h.cutH (P := Try.prog) 24 5 i Try.underlying24 hi hz1 4 4 rfl (by omega)
  obtain ⟨a4, n4, m4, hv4, hb4, s4⟩ := h.cutL (P := Try.prog) 24 5 i Try.underlying24 hi hz1 4 4 rfl (by omega)
  have g1 := fun ty => h.len (P := Try.prog) 24 ty 5 Try.underlying24
  have b00 := h.bytes.bt0 0
  have b01 := h.bytes.bt1 0
  have b10 := h.bytes.bt0 1
  have b11 := h.bytes.bt1 1
  have q1 : bits .and .u8 (bt l 0) 224 = bt l 0 / 32 * 32 := by rw [band .u8 3 5 b00 (by rw [max_u8]; omega) (by decide) (by decide)]; omega
  have q2 : bits .and .u8 (bt l 0) 16 = bt l 0 / 16 % 2 * 16 := by rw [band .u8 1 4 b00 (by rw [max_u8]; omega) (by decide) (by decide)]; omega
  have x1 : bt (l.take 2) 0 = bt l 0 := by simp [bt, List.getD]
  have x2 : bt (l.take 2) 1 = bt l 1 := by simp [bt, List.getD]
  have x3 : bt ((l.take 4).drop 2) 0 = bt l 2 := by simp [bt, List.getD]
  have x4 : bt ((l.take 4).drop 2) 1 = bt l 3 := by simp [bt, List.getD]
  have q3 : bits .and .u16 (bt l 0 * 256 + bt l 1) 4095 = (bt l 0 * 256 + bt l 1) % 4096 := bmask .u16 12 (by omega) (by rw [max_u16]; omega) (by decide) (by decide)
  have k1 : (l.take 2).length = 2 := by simp; omega
  have k2 : ((l.take 4).drop 2).length = 2 := by simp; omega
  have HK := Lib.hid (And.intro k1 k2)
  have HB := Lib.hid (And.intro hb1 (And.intro hb2 (And.intro hb3 hb4)))
  have HN := Lib.hid (And.intro hne n0)
  clear hb1 hb2 hb3 hb4 hne n0 hi hz0 hz1 hz2 hD k1 k2
  match cs, hcs with
  | [y0, y1, y2, y3, y4, y5], _ =>
    clear hcs
    go_enter Try.func59, Try.ntmps59
    go_wp2_with fail
    refine (be16_calls _ _ _ (hv1.rowW (by rw [HB.out.1]; exact HN.out.1)) (by rw [HK.out.1]; omega)).mono ?_
    rintro e w' ⟨rfl, n, rfl⟩
    go_wp2_with fail
    refine (be16_calls _ _ _ (hv2.rowD (by rw [HB.out.2.1]; exact HN.out.1) _) (by rw [HK.out.2]; omega)).mono ?_
    rintro e w' ⟨rfl, n2, rfl⟩
    go_wp2_with fail
    go_region_held3 (fun _ => True) (trivial) (fail)
    go_wp2
    go_ret
    exact ⟨rfl, rowW_rowW, _, _, _, _, _, _, (hv3.rowD (by rw [HB.out.2.2.1]; exact HN.out.1) _), (hv4.rowD (by rw [HB.out.2.2.2]; exact HN.out.1) _), rowW_heap hd⟩

set_option maxRecDepth 100000 in
set_option maxHeartbeats 1000000 in
theorem vlanRead_calls (v : Value) (l : List Int) (w : World) (h : IsB w v l) (hl : 4 ≤ l.length) (hm : l.length ≤ 1000000) :
    Calls Try.prog 17 #[v] w fun e w' => ∃ a n c, e = .returned (.tuple #[.agg #[.int .i64 (bt l 0 / 32), .bool (bt l 0 / 16 % 2 * 16 != 0), .int .i64 ((bt l 0 * 256 + bt l 1) % 4096), .int .i64 (bt l 2 * 256 + bt l 3)], .slice a n c, .bool true]) ∧
      IsB w' (.slice a n c) (l.drop 4) ∧ Gr w w' := by
  have H := Lib.hid h
  clear h
  go_enter Try.func17, Try.ntmps17
  go_wp2_with fail
  refine (copied_calls _ l _ ?_ (by omega)).mono ?_
  · exact H.out.gr (((Gr.refl w).alloc _).alloc _)
  rintro e w1 ⟨a1, n1, c1, rfl, ho1, hg1⟩
  go_wp2_with fail
  refine (nilFeedback_calls _).mono ?_
  rintro e w2 ⟨rfl, rfl⟩
  go_wp2_with fail
  have hR := HasRow.gr hg1 (HasRow.gr (World.grownBy_alloc _ (.cells #[.slice none 0 0, .slice none 0 0, .int .u8 0, .bool false, .int .u16 0, .int .u16 0] 107) none) (HasRow.new w [.int .i64 0, .bool false, .int .i64 0, .int .i64 0] 23 4 rfl))
  have hD := heap_gr hg1 (heap_alloc_new (w.alloc (.cells #[.int .i64 0, .bool false, .int .i64 0, .int .i64 0] 23)) (.cells #[.slice none 0 0, .slice none 0 0, .int .u8 0, .bool false, .int .u16 0, .int .u16 0] 107))
  have hS := hg1.size
  simp only [World.size_alloc] at hD hS
  have HR := Lib.hid hR
  have HD := Lib.hid hD
  clear hR hD
  refine (vlanDecode_calls (w.heap.size + 1) _ rfl _ l w1 HD.out ho1.isB hl (ho1.other (by simp))).mono ?_
  rintro e w2 ⟨rfl, hg2, a2, n2, c2, a3, n3, c3, hb2, hb3, hd2⟩
  have HR2 := Lib.hid (HasRow.grown HR.out hg2 (by omega))
  have HG2 := Lib.hid hg2
  have HD2 := Lib.hid hd2
  clear hg2 hd2
  have k1 := cell_of_heap (cs := [_, _, _, _, _, _]) HD2.out 1 _ rfl
  have k2 := cell_of_heap (cs := [_, _, _, _, _, _]) HD2.out 2 _ rfl
  have k3 := cell_of_heap (cs := [_, _, _, _, _, _]) HD2.out 3 _ rfl
  have k4 := cell_of_heap (cs := [_, _, _, _, _, _]) HD2.out 4 _ rfl
  have k5 := cell_of_heap (cs := [_, _, _, _, _, _]) HD2.out 5 _ rfl
  go_wp2_with fail
  have hne : w.heap.size + 1 ≠ w.heap.size := by omega
  have b00 := ho1.bytes.bt0 0
  have b01 := ho1.bytes.bt1 0
  have b10 := ho1.bytes.bt0 1
  have b11 := ho1.bytes.bt1 1
  have b20 := ho1.bytes.bt0 2
  have b21 := ho1.bytes.bt1 2
  have b30 := ho1.bytes.bt0 3
  have b31 := ho1.bytes.bt1 3
  have q1 : IntKind.i64.wrap (bt l 0 / 32) = bt l 0 / 32 := w64 (by omega) (by omega)
  have q2 : IntKind.i64.wrap ((bt l 0 * 256 + bt l 1) % 4096) = (bt l 0 * 256 + bt l 1) % 4096 := w64 (by omega) (by omega)
  have q3 : IntKind.i64.wrap (bt l 2 * 256 + bt l 3) = bt l 2 * 256 + bt l 3 := w64 (by omega) (by omega)
  go_region_held3 (fun w' => w'.cell? ⟨w.heap.size + 1, 1, none⟩ = some (.slice a3 n3 c3) ∧ w'.cell? ⟨w.heap.size + 1, 2, none⟩ = some (.int .u8 (bt l 0 / 32)) ∧ w'.cell? ⟨w.heap.size + 1, 3, none⟩ = some (.bool (bt l 0 / 16 % 2 * 16 != 0)) ∧ w'.cell? ⟨w.heap.size + 1, 4, none⟩ = some (.int .u16 ((bt l 0 * 256 + bt l 1) % 4096)) ∧ w'.cell? ⟨w.heap.size + 1, 5, none⟩ = some (.int .u16 (bt l 2 * 256 + bt l 3))) (first | exact And.imp (Gr.cell (by assumption)) (And.imp (Gr.cell (by assumption)) (And.imp (Gr.cell (by assumption)) (And.imp (Gr.cell (by assumption)) (Gr.cell (by assumption))))) (by assumption) | exact And.imp (rowW_swap hne) (And.imp (rowW_swap hne) (And.imp (rowW_swap hne) (And.imp (rowW_swap hne) (rowW_swap hne)))) (by assumption) | go_keep) (first | (go_at_call 60; refine (copied_calls _ (l.drop 4) _ ?_ ?_).mono ?_; (exact hb3); (rw [List.length_drop]; omega); rintro e w3 ⟨a4, n4, c4, rfl, ho3, hg3⟩; obtain ⟨w4, rs, hrs, hRs, rfl⟩ := (HasRow.gr hg3 HR2.out.drew).w0; obtain ⟨r0, r1, r2, r3, rfl⟩ := len4 hrs))
  go_wp2
  refine bodyPost_ret (v := .tuple #[.agg #[.int .i64 (bt l 0 / 32), .bool (bt l 0 / 16 % 2 * 16 != 0), .int .i64 ((bt l 0 * 256 + bt l 1) % 4096), .int .i64 (bt l 2 * 256 + bt l 3)], .slice a4 n4 c4, .bool true]) (by simp [results, Try.results17, go_sem, hRs]) rfl ⟨a4, n4, c4, rfl, ?_, ?_⟩
  · exact ho3.isB.reRow (ho3.other (show w.heap.size < w2.heap.size by have := HG2.out.size; omega))
  · have g1 : Gr w w2 := ((((Gr.refl w).alloc _).alloc _).trans hg1).step HG2.out (by omega)
    exact Gr.row (g1.drew.trans hg3) (Nat.le_refl _)

end Go.Proofs.Ytbdbaapdiklnhaa
