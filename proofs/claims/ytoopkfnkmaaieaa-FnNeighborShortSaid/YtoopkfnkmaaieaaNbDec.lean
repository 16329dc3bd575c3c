/-
  Messages of the discovery of neighbors: decoding.
-/
import Derived.Test.YtoopkfnkmaaieaaUnitsDec
namespace Go.Proofs.Ytoopkfnkmaaieaa
open Go.RowKit

theorem nil_un (k : IntKind) (w : World) : (Instr.sliceAt 134 (.slice none 0 0) none (some (.int k 0)) none).run Try.prog w = .ok (.slice none 0 0) w := by
  obtain ⟨i, hi, he⟩ := Option.map_eq_some_iff.1 info_un
  simp only [Prod.mk.injEq] at he
  have hE : Try.prog.elem 134 = 173 := by simp [Program.elem, Try.underlying134]
  rw [run_sliceAt_slice w 134 _ _ _ _ (by rw [hE]; exact Try.underlying134), run_slice_h w 134 _ _ _ (by rw [hE]; exact Try.underlying134) k 0 (by omega) (by omega)]
  simp [sizeOf, typeInfo, hE, hi, he.2.1, Result.andThen, sliced]
theorem gs_step {w x : World} {D : Nat} {cs cs' : List Value} {e : TypeId} (hd : Has w D) (hg : Gr w x) : (rowW w D cs e).grownBy (rowW x D cs' e) (some D) :=
  grownBy_step ((gr_rowsU hd hg).to (some D)) (rowW_rowW (n := 0)) (fun _ _ => .inr rfl)

set_option linter.unusedVariables false in
/-- a message of this kind that was read -/
def PostRS (w w' : World) (D : Nat) (av : Option Addr) (nv cv : Nat) (l : List Int) (os : List Opt) (e : Ending) : Prop := e = .returned .nilIface ∧ w.grownBy w' (some D) ∧ ∃  a n m rs, w'.heap[D]? = some (.cells #[.slice none 0 0, .slice none 0 0, .slice a n m] 136 (0, 0)) ∧ OwnG rcU 2 w' w.heap.size 173 D (.slice a n m) rs ∧ rs.map Prod.fst = os.map outU ∧ ∀ p ∈ rs, p.2.ownBlock = (Value.slice av nv cv).ownBlock

set_option linter.unusedSimpArgs false in
set_option linter.unusedVariables false in
set_option maxRecDepth 100000 in
set_option maxHeartbeats 4000000 in
theorem decRS_calls (D : Nat) (av : Option Addr) (nv cv : Nat) (l : List Int) (os : List Opt) (w : World) (hD : w.heap[D]? = some (.cells #[.slice none 0 0, .slice none 0 0, .slice none 0 0] 136 (0, 0))) (h : IsB w (.slice av nv cv) l) (hl : 4 ≤ l.length) (hO : l.drop 4 = unitsB os) (hok : ∀ x ∈ os, UOk x) (hn : os.length ≤ 20) (hne : (Value.slice av nv cv).ownBlock ≠ some D) :
    Calls Try.prog 64 #[.pointer (some ⟨D, 0, none⟩), .slice av nv cv, .iface 156 (.agg #[])] w fun e w' => PostRS w w' D av nv cv l os e := by
  obtain ⟨w0, rfl⟩ : ∃ w0, w = rowW w0 D [.slice none 0 0, .slice none 0 0, .slice none 0 0] 136 := ⟨w, (rowW_self hD).symm⟩
  have hd : Has w0 D := by unfold Has; rw [← rowW_size (cs := [.slice none 0 0, .slice none 0 0, .slice none 0 0]) (e := 136) (D := D)]; exact (Array.getElem?_eq_some_iff.1 hD).1
  clear hD
  replace h := h.unrow hne
  obtain ⟨w1, rfl⟩ : ∃ w1 : World, w0 = w1.drewN 0 := ⟨w0, rfl⟩
  have h : IsB w1 (.slice av nv cv) l := h
  have hd : Has w1 D := hd
  have hlen := fun ty => h.len (P := Try.prog) 25 ty 5 Try.underlying25
  obtain ⟨i, hi, hz0, hz1, hz2⟩ := info_parts info_u8
  obtain ⟨a13, n13, m13, hv13, hb13, s13⟩ := h.cutL (P := Try.prog) 25 5 i Try.underlying25 hi hz1 4 4 rfl (by omega)
  rw [← hb13] at hne
  have hne13 := hne
  rw [hb13] at hne
  have B13 := Lib.hid hb13
  clear hb13
  rw [hO] at hv13
  have H13 := Lib.hid hv13
  have N13 := Lib.hid hne13
  have HOK := Lib.hid hok
  have so := nil_un
  have v1 : decide ((l.length : Int) < 4) = false := by simp; omega
  have v2 : ¬ ((l.length : Int) < 4) := by omega
  clear hO hok hv13 hne13
  go_enter Try.func64, Try.ntmps64
  go_wp2_with (first
      | (go_at_call 73; refine (be16_calls _ _ _ (IsB.row0 (by assumption) (by assumption) _) (by simp; try omega)).mono ?_; rintro e w' ⟨rfl, n, rfl⟩)
      | (go_at_call 74; refine (be32_calls _ _ _ (IsB.row0 (by assumption) (by assumption) _) (by simp; try omega)).mono ?_; rintro e w' ⟨rfl, n, rfl⟩))
  go_region_held3 (fun _ => True) (trivial) (first
    | (go_at_call 82; refine (unitsDecode_calls D 2 [.slice none 0 0, .slice none 0 0, .slice none 0 0] 136 (by simp) _ _ _ os _ (show Has (w1.drewN _) D from hd) (H13.out.gr ((Gr.refl w1).drewN _)) HOK.out hn N13.out).mono ?_; rintro e w9 ⟨rfl, x9, a, n, m, rs, rfl, dx9, gx9, ow9, hrs9, hob9⟩))
  go_wp2_with fail
  go_ret
  unfold PostRS
  have gx := ((Gr.refl w1).drewN _).trans gx9
  exact ⟨rfl, gs_step hd gx, a, n, m, rs, rowW_heap dx9, by rw [rowW_size]; exact ow9, hrs9, fun p hp => (hob9 p hp).trans B13.out⟩

set_option linter.unusedVariables false in
/-- a message of this kind that was read -/
def PostRA (w w' : World) (D : Nat) (av : Option Addr) (nv cv : Nat) (l : List Int) (os : List Opt) (e : Ending) : Prop := e = .returned .nilIface ∧ w.grownBy w' (some D) ∧ ∃  a n m rs, w'.heap[D]? = some (.cells #[.slice av nv cv, .slice none 0 0, .int .u8 (bt l 0), .int .u8 (bt l 1), .int .u16 (bt l 2 * 256 + bt l 3), .int .u32 (bt l 4 * 16777216 + bt l 5 * 65536 + bt l 6 * 256 + bt l 7), .int .u32 (bt l 8 * 16777216 + bt l 9 * 65536 + bt l 10 * 256 + bt l 11), .slice a n m] 140 (0, 0)) ∧ OwnG rcU 2 w' w.heap.size 173 D (.slice a n m) rs ∧ rs.map Prod.fst = os.map outU ∧ ∀ p ∈ rs, p.2.ownBlock = (Value.slice av nv cv).ownBlock

set_option linter.unusedSimpArgs false in
set_option linter.unusedVariables false in
set_option maxRecDepth 100000 in
set_option maxHeartbeats 4000000 in
theorem decRA_calls (D : Nat) (av : Option Addr) (nv cv : Nat) (l : List Int) (os : List Opt) (w : World) (hD : w.heap[D]? = some (.cells #[.slice none 0 0, .slice none 0 0, .int .u8 0, .int .u8 0, .int .u16 0, .int .u32 0, .int .u32 0, .slice none 0 0] 140 (0, 0))) (h : IsB w (.slice av nv cv) l) (hl : 12 ≤ l.length) (hO : l.drop 12 = unitsB os) (hok : ∀ x ∈ os, UOk x) (hn : os.length ≤ 20) (hne : (Value.slice av nv cv).ownBlock ≠ some D) :
    Calls Try.prog 66 #[.pointer (some ⟨D, 0, none⟩), .slice av nv cv, .iface 156 (.agg #[])] w fun e w' => PostRA w w' D av nv cv l os e := by
  obtain ⟨w0, rfl⟩ : ∃ w0, w = rowW w0 D [.slice none 0 0, .slice none 0 0, .int .u8 0, .int .u8 0, .int .u16 0, .int .u32 0, .int .u32 0, .slice none 0 0] 140 := ⟨w, (rowW_self hD).symm⟩
  have hd : Has w0 D := by unfold Has; rw [← rowW_size (cs := [.slice none 0 0, .slice none 0 0, .int .u8 0, .int .u8 0, .int .u16 0, .int .u32 0, .int .u32 0, .slice none 0 0]) (e := 140) (D := D)]; exact (Array.getElem?_eq_some_iff.1 hD).1
  clear hD
  replace h := h.unrow hne
  obtain ⟨w1, rfl⟩ : ∃ w1 : World, w0 = w1.drewN 0 := ⟨w0, rfl⟩
  have h : IsB w1 (.slice av nv cv) l := h
  have hd : Has w1 D := hd
  have hlen := fun ty => h.len (P := Try.prog) 25 ty 5 Try.underlying25
  obtain ⟨i, hi, hz0, hz1, hz2⟩ := info_parts info_u8
  obtain ⟨b0, o0, i0, c0, z0⟩ := h.idx (P := Try.prog) 25 5 i Try.underlying25 hi hz1 .i64 0 0 rfl (by omega)
  have e0 : b0 ≠ D := by rintro rfl; exact hne z0
  clear z0
  have p0 := h.bytes.bt0 0
  have q0 := h.bytes.bt1 0
  obtain ⟨b1, o1, i1, c1, z1⟩ := h.idx (P := Try.prog) 25 5 i Try.underlying25 hi hz1 .i64 1 1 rfl (by omega)
  have e1 : b1 ≠ D := by rintro rfl; exact hne z1
  clear z1
  have p1 := h.bytes.bt0 1
  have q1 := h.bytes.bt1 1
  have p2 := h.bytes.bt0 2
  have q2 := h.bytes.bt1 2
  have p3 := h.bytes.bt0 3
  have q3 := h.bytes.bt1 3
  have p4 := h.bytes.bt0 4
  have q4 := h.bytes.bt1 4
  have p5 := h.bytes.bt0 5
  have q5 := h.bytes.bt1 5
  have p6 := h.bytes.bt0 6
  have q6 := h.bytes.bt1 6
  have p7 := h.bytes.bt0 7
  have q7 := h.bytes.bt1 7
  have p8 := h.bytes.bt0 8
  have q8 := h.bytes.bt1 8
  have p9 := h.bytes.bt0 9
  have q9 := h.bytes.bt1 9
  have p10 := h.bytes.bt0 10
  have q10 := h.bytes.bt1 10
  have p11 := h.bytes.bt0 11
  have q11 := h.bytes.bt1 11
  obtain ⟨a1, n1, m1, hv1, hb1, s1⟩ := h.cutLH (P := Try.prog) 25 5 i Try.underlying25 hi hz1 2 4 2 4 rfl rfl (by omega) (by omega)
  rw [← hb1] at hne
  have hne1 := hne
  rw [hb1] at hne
  clear hb1
  obtain ⟨a2, n2, m2, hv2, hb2, s2⟩ := h.cutLH (P := Try.prog) 25 5 i Try.underlying25 hi hz1 4 8 4 8 rfl rfl (by omega) (by omega)
  rw [← hb2] at hne
  have hne2 := hne
  rw [hb2] at hne
  clear hb2
  obtain ⟨a3, n3, m3, hv3, hb3, s3⟩ := h.cutLH (P := Try.prog) 25 5 i Try.underlying25 hi hz1 8 12 8 12 rfl rfl (by omega) (by omega)
  rw [← hb3] at hne
  have hne3 := hne
  rw [hb3] at hne
  clear hb3
  obtain ⟨a13, n13, m13, hv13, hb13, s13⟩ := h.cutL (P := Try.prog) 25 5 i Try.underlying25 hi hz1 12 12 rfl (by omega)
  rw [← hb13] at hne
  have hne13 := hne
  rw [hb13] at hne
  have B13 := Lib.hid hb13
  clear hb13
  rw [hO] at hv13
  have H13 := Lib.hid hv13
  have N13 := Lib.hid hne13
  have HOK := Lib.hid hok
  have so := nil_un
  have v1 : decide ((l.length : Int) < 12) = false := by simp; omega
  have v2 : ¬ ((l.length : Int) < 12) := by omega
  clear hO hok hv13 hne13
  go_enter Try.func66, Try.ntmps66
  go_wp2_with (first
      | (go_at_call 73; refine (be16_calls _ _ _ (IsB.row0 (by assumption) (by assumption) _) (by simp; try omega)).mono ?_; rintro e w' ⟨rfl, n, rfl⟩)
      | (go_at_call 74; refine (be32_calls _ _ _ (IsB.row0 (by assumption) (by assumption) _) (by simp; try omega)).mono ?_; rintro e w' ⟨rfl, n, rfl⟩))
  go_region_held3 (fun _ => True) (trivial) (first
    | (go_at_call 82; refine (unitsDecode_calls D 7 [.slice av nv cv, .slice none 0 0, .int .u8 (bt l 0), .int .u8 (bt l 1), .int .u16 (bt l 2 * 256 + bt l 3), .int .u32 (bt l 4 * 16777216 + bt l 5 * 65536 + bt l 6 * 256 + bt l 7), .int .u32 (bt l 8 * 16777216 + bt l 9 * 65536 + bt l 10 * 256 + bt l 11), .slice none 0 0] 140 (by simp) _ _ _ os _ (show Has (w1.drewN _) D from hd) (H13.out.gr ((Gr.refl w1).drewN _)) HOK.out hn N13.out).mono ?_; rintro e w9 ⟨rfl, x9, a, n, m, rs, rfl, dx9, gx9, ow9, hrs9, hob9⟩))
  go_wp2_with fail
  go_ret
  unfold PostRA
  have gx := ((Gr.refl w1).drewN _).trans gx9
  exact ⟨rfl, gs_step hd gx, a, n, m, rs, rowW_heap dx9, by rw [rowW_size]; exact ow9, hrs9, fun p hp => (hob9 p hp).trans B13.out⟩

set_option linter.unusedVariables false in
/-- a message of this kind that was read -/
def PostNS (w w' : World) (D : Nat) (av : Option Addr) (nv cv : Nat) (l : List Int) (os : List Opt) (e : Ending) : Prop := e = .returned .nilIface ∧ w.grownBy w' (some D) ∧ ∃ a5 n5 m5 a n m rs, IsB w' (.slice a5 n5 m5) ((l.take 20).drop 4) ∧ (Value.slice a5 n5 m5).ownBlock ≠ some D ∧ w'.heap[D]? = some (.cells #[.slice av nv cv, .slice none 0 0, .slice a5 n5 m5, .slice a n m] 143 (0, 0)) ∧ OwnG rcU 2 w' w.heap.size 173 D (.slice a n m) rs ∧ rs.map Prod.fst = os.map outU ∧ ∀ p ∈ rs, p.2.ownBlock = (Value.slice av nv cv).ownBlock

set_option linter.unusedSimpArgs false in
set_option linter.unusedVariables false in
set_option maxRecDepth 100000 in
set_option maxHeartbeats 4000000 in
theorem decNS_calls (D : Nat) (av : Option Addr) (nv cv : Nat) (l : List Int) (os : List Opt) (w : World) (hD : w.heap[D]? = some (.cells #[.slice none 0 0, .slice none 0 0, .slice none 0 0, .slice none 0 0] 143 (0, 0))) (h : IsB w (.slice av nv cv) l) (hl : 20 ≤ l.length) (hO : l.drop 20 = unitsB os) (hok : ∀ x ∈ os, UOk x) (hn : os.length ≤ 20) (hne : (Value.slice av nv cv).ownBlock ≠ some D) :
    Calls Try.prog 67 #[.pointer (some ⟨D, 0, none⟩), .slice av nv cv, .iface 156 (.agg #[])] w fun e w' => PostNS w w' D av nv cv l os e := by
  obtain ⟨w0, rfl⟩ : ∃ w0, w = rowW w0 D [.slice none 0 0, .slice none 0 0, .slice none 0 0, .slice none 0 0] 143 := ⟨w, (rowW_self hD).symm⟩
  have hd : Has w0 D := by unfold Has; rw [← rowW_size (cs := [.slice none 0 0, .slice none 0 0, .slice none 0 0, .slice none 0 0]) (e := 143) (D := D)]; exact (Array.getElem?_eq_some_iff.1 hD).1
  clear hD
  replace h := h.unrow hne
  obtain ⟨w1, rfl⟩ : ∃ w1 : World, w0 = w1.drewN 0 := ⟨w0, rfl⟩
  have h : IsB w1 (.slice av nv cv) l := h
  have hd : Has w1 D := hd
  have hlen := fun ty => h.len (P := Try.prog) 25 ty 5 Try.underlying25
  obtain ⟨i, hi, hz0, hz1, hz2⟩ := info_parts info_u8
  obtain ⟨a5, n5, m5, hv5, hb5, s5⟩ := h.cutLH (P := Try.prog) 25 5 i Try.underlying25 hi hz1 4 20 4 20 rfl rfl (by omega) (by omega)
  rw [← hb5] at hne
  have hne5 := hne
  rw [hb5] at hne
  clear hb5
  obtain ⟨a13, n13, m13, hv13, hb13, s13⟩ := h.cutL (P := Try.prog) 25 5 i Try.underlying25 hi hz1 20 20 rfl (by omega)
  rw [← hb13] at hne
  have hne13 := hne
  rw [hb13] at hne
  have B13 := Lib.hid hb13
  clear hb13
  rw [hO] at hv13
  have H5 := Lib.hid hv5
  have N5 := Lib.hid hne5
  have H13 := Lib.hid hv13
  have N13 := Lib.hid hne13
  have HOK := Lib.hid hok
  have so := nil_un
  have v1 : decide ((l.length : Int) < 20) = false := by simp; omega
  have v2 : ¬ ((l.length : Int) < 20) := by omega
  clear hO hok hv5 hne5 hv13 hne13
  go_enter Try.func67, Try.ntmps67
  go_wp2_with (first
      | (go_at_call 73; refine (be16_calls _ _ _ (IsB.row0 (by assumption) (by assumption) _) (by simp; try omega)).mono ?_; rintro e w' ⟨rfl, n, rfl⟩)
      | (go_at_call 74; refine (be32_calls _ _ _ (IsB.row0 (by assumption) (by assumption) _) (by simp; try omega)).mono ?_; rintro e w' ⟨rfl, n, rfl⟩))
  go_region_held3 (fun _ => True) (trivial) (first
    | (go_at_call 82; refine (unitsDecode_calls D 3 [.slice av nv cv, .slice none 0 0, .slice a5 n5 m5, .slice none 0 0] 143 (by simp) _ _ _ os _ (show Has (w1.drewN _) D from hd) (H13.out.gr ((Gr.refl w1).drewN _)) HOK.out hn N13.out).mono ?_; rintro e w9 ⟨rfl, x9, a, n, m, rs, rfl, dx9, gx9, ow9, hrs9, hob9⟩))
  go_wp2_with fail
  go_ret
  unfold PostNS
  have gx := ((Gr.refl w1).drewN _).trans gx9
  exact ⟨rfl, gs_step hd gx, _, _, _, a, n, m, rs, ((H5.out.gr gx).rowW N5.out), N5.out, rowW_heap dx9, by rw [rowW_size]; exact ow9, hrs9, fun p hp => (hob9 p hp).trans B13.out⟩

set_option linter.unusedVariables false in
/-- a message of this kind that was read -/
def PostNA (w w' : World) (D : Nat) (av : Option Addr) (nv cv : Nat) (l : List Int) (os : List Opt) (e : Ending) : Prop := e = .returned .nilIface ∧ w.grownBy w' (some D) ∧ ∃ a5 n5 m5 a n m rs, IsB w' (.slice a5 n5 m5) ((l.take 20).drop 4) ∧ (Value.slice a5 n5 m5).ownBlock ≠ some D ∧ w'.heap[D]? = some (.cells #[.slice av nv cv, .slice none 0 0, .int .u8 (bt l 0), .slice a5 n5 m5, .slice a n m] 146 (0, 0)) ∧ OwnG rcU 2 w' w.heap.size 173 D (.slice a n m) rs ∧ rs.map Prod.fst = os.map outU ∧ ∀ p ∈ rs, p.2.ownBlock = (Value.slice av nv cv).ownBlock

set_option linter.unusedSimpArgs false in
set_option linter.unusedVariables false in
set_option maxRecDepth 100000 in
set_option maxHeartbeats 4000000 in
theorem decNA_calls (D : Nat) (av : Option Addr) (nv cv : Nat) (l : List Int) (os : List Opt) (w : World) (hD : w.heap[D]? = some (.cells #[.slice none 0 0, .slice none 0 0, .int .u8 0, .slice none 0 0, .slice none 0 0] 146 (0, 0))) (h : IsB w (.slice av nv cv) l) (hl : 20 ≤ l.length) (hO : l.drop 20 = unitsB os) (hok : ∀ x ∈ os, UOk x) (hn : os.length ≤ 20) (hne : (Value.slice av nv cv).ownBlock ≠ some D) :
    Calls Try.prog 68 #[.pointer (some ⟨D, 0, none⟩), .slice av nv cv, .iface 156 (.agg #[])] w fun e w' => PostNA w w' D av nv cv l os e := by
  obtain ⟨w0, rfl⟩ : ∃ w0, w = rowW w0 D [.slice none 0 0, .slice none 0 0, .int .u8 0, .slice none 0 0, .slice none 0 0] 146 := ⟨w, (rowW_self hD).symm⟩
  have hd : Has w0 D := by unfold Has; rw [← rowW_size (cs := [.slice none 0 0, .slice none 0 0, .int .u8 0, .slice none 0 0, .slice none 0 0]) (e := 146) (D := D)]; exact (Array.getElem?_eq_some_iff.1 hD).1
  clear hD
  replace h := h.unrow hne
  obtain ⟨w1, rfl⟩ : ∃ w1 : World, w0 = w1.drewN 0 := ⟨w0, rfl⟩
  have h : IsB w1 (.slice av nv cv) l := h
  have hd : Has w1 D := hd
  have hlen := fun ty => h.len (P := Try.prog) 25 ty 5 Try.underlying25
  obtain ⟨i, hi, hz0, hz1, hz2⟩ := info_parts info_u8
  obtain ⟨b0, o0, i0, c0, z0⟩ := h.idx (P := Try.prog) 25 5 i Try.underlying25 hi hz1 .i64 0 0 rfl (by omega)
  have e0 : b0 ≠ D := by rintro rfl; exact hne z0
  clear z0
  have p0 := h.bytes.bt0 0
  have q0 := h.bytes.bt1 0
  obtain ⟨a5, n5, m5, hv5, hb5, s5⟩ := h.cutLH (P := Try.prog) 25 5 i Try.underlying25 hi hz1 4 20 4 20 rfl rfl (by omega) (by omega)
  rw [← hb5] at hne
  have hne5 := hne
  rw [hb5] at hne
  clear hb5
  obtain ⟨a13, n13, m13, hv13, hb13, s13⟩ := h.cutL (P := Try.prog) 25 5 i Try.underlying25 hi hz1 20 20 rfl (by omega)
  rw [← hb13] at hne
  have hne13 := hne
  rw [hb13] at hne
  have B13 := Lib.hid hb13
  clear hb13
  rw [hO] at hv13
  have H5 := Lib.hid hv5
  have N5 := Lib.hid hne5
  have H13 := Lib.hid hv13
  have N13 := Lib.hid hne13
  have HOK := Lib.hid hok
  have so := nil_un
  have v1 : decide ((l.length : Int) < 20) = false := by simp; omega
  have v2 : ¬ ((l.length : Int) < 20) := by omega
  clear hO hok hv5 hne5 hv13 hne13
  go_enter Try.func68, Try.ntmps68
  go_wp2_with (first
      | (go_at_call 73; refine (be16_calls _ _ _ (IsB.row0 (by assumption) (by assumption) _) (by simp; try omega)).mono ?_; rintro e w' ⟨rfl, n, rfl⟩)
      | (go_at_call 74; refine (be32_calls _ _ _ (IsB.row0 (by assumption) (by assumption) _) (by simp; try omega)).mono ?_; rintro e w' ⟨rfl, n, rfl⟩))
  go_region_held3 (fun _ => True) (trivial) (first
    | (go_at_call 82; refine (unitsDecode_calls D 4 [.slice av nv cv, .slice none 0 0, .int .u8 (bt l 0), .slice a5 n5 m5, .slice none 0 0] 146 (by simp) _ _ _ os _ (show Has (w1.drewN _) D from hd) (H13.out.gr ((Gr.refl w1).drewN _)) HOK.out hn N13.out).mono ?_; rintro e w9 ⟨rfl, x9, a, n, m, rs, rfl, dx9, gx9, ow9, hrs9, hob9⟩))
  go_wp2_with fail
  go_ret
  unfold PostNA
  have gx := ((Gr.refl w1).drewN _).trans gx9
  exact ⟨rfl, gs_step hd gx, _, _, _, a, n, m, rs, ((H5.out.gr gx).rowW N5.out), N5.out, rowW_heap dx9, by rw [rowW_size]; exact ow9, hrs9, fun p hp => (hob9 p hp).trans B13.out⟩

set_option linter.unusedVariables false in
/-- a message of this kind that was read -/
def PostRD (w w' : World) (D : Nat) (av : Option Addr) (nv cv : Nat) (l : List Int) (os : List Opt) (e : Ending) : Prop := e = .returned .nilIface ∧ w.grownBy w' (some D) ∧ ∃ a5 n5 m5 a6 n6 m6 a n m rs, IsB w' (.slice a5 n5 m5) ((l.take 20).drop 4) ∧ (Value.slice a5 n5 m5).ownBlock ≠ some D ∧ IsB w' (.slice a6 n6 m6) ((l.take 36).drop 20) ∧ (Value.slice a6 n6 m6).ownBlock ≠ some D ∧ w'.heap[D]? = some (.cells #[.slice av nv cv, .slice none 0 0, .slice a5 n5 m5, .slice a6 n6 m6, .slice a n m] 149 (0, 0)) ∧ OwnG rcU 2 w' w.heap.size 173 D (.slice a n m) rs ∧ rs.map Prod.fst = os.map outU ∧ ∀ p ∈ rs, p.2.ownBlock = (Value.slice av nv cv).ownBlock

set_option linter.unusedSimpArgs false in
set_option linter.unusedVariables false in
set_option maxRecDepth 100000 in
set_option maxHeartbeats 4000000 in
theorem decRD_calls (D : Nat) (av : Option Addr) (nv cv : Nat) (l : List Int) (os : List Opt) (w : World) (hD : w.heap[D]? = some (.cells #[.slice none 0 0, .slice none 0 0, .slice none 0 0, .slice none 0 0, .slice none 0 0] 149 (0, 0))) (h : IsB w (.slice av nv cv) l) (hl : 36 ≤ l.length) (hO : l.drop 36 = unitsB os) (hok : ∀ x ∈ os, UOk x) (hn : os.length ≤ 20) (hne : (Value.slice av nv cv).ownBlock ≠ some D) :
    Calls Try.prog 69 #[.pointer (some ⟨D, 0, none⟩), .slice av nv cv, .iface 156 (.agg #[])] w fun e w' => PostRD w w' D av nv cv l os e := by
  obtain ⟨w0, rfl⟩ : ∃ w0, w = rowW w0 D [.slice none 0 0, .slice none 0 0, .slice none 0 0, .slice none 0 0, .slice none 0 0] 149 := ⟨w, (rowW_self hD).symm⟩
  have hd : Has w0 D := by unfold Has; rw [← rowW_size (cs := [.slice none 0 0, .slice none 0 0, .slice none 0 0, .slice none 0 0, .slice none 0 0]) (e := 149) (D := D)]; exact (Array.getElem?_eq_some_iff.1 hD).1
  clear hD
  replace h := h.unrow hne
  obtain ⟨w1, rfl⟩ : ∃ w1 : World, w0 = w1.drewN 0 := ⟨w0, rfl⟩
  have h : IsB w1 (.slice av nv cv) l := h
  have hd : Has w1 D := hd
  have hlen := fun ty => h.len (P := Try.prog) 25 ty 5 Try.underlying25
  obtain ⟨i, hi, hz0, hz1, hz2⟩ := info_parts info_u8
  obtain ⟨a5, n5, m5, hv5, hb5, s5⟩ := h.cutLH (P := Try.prog) 25 5 i Try.underlying25 hi hz1 4 20 4 20 rfl rfl (by omega) (by omega)
  rw [← hb5] at hne
  have hne5 := hne
  rw [hb5] at hne
  clear hb5
  obtain ⟨a6, n6, m6, hv6, hb6, s6⟩ := h.cutLH (P := Try.prog) 25 5 i Try.underlying25 hi hz1 20 36 20 36 rfl rfl (by omega) (by omega)
  rw [← hb6] at hne
  have hne6 := hne
  rw [hb6] at hne
  clear hb6
  obtain ⟨a13, n13, m13, hv13, hb13, s13⟩ := h.cutL (P := Try.prog) 25 5 i Try.underlying25 hi hz1 36 36 rfl (by omega)
  rw [← hb13] at hne
  have hne13 := hne
  rw [hb13] at hne
  have B13 := Lib.hid hb13
  clear hb13
  rw [hO] at hv13
  have H5 := Lib.hid hv5
  have N5 := Lib.hid hne5
  have H6 := Lib.hid hv6
  have N6 := Lib.hid hne6
  have H13 := Lib.hid hv13
  have N13 := Lib.hid hne13
  have HOK := Lib.hid hok
  have so := nil_un
  have v1 : decide ((l.length : Int) < 36) = false := by simp; omega
  have v2 : ¬ ((l.length : Int) < 36) := by omega
  clear hO hok hv5 hne5 hv6 hne6 hv13 hne13
  go_enter Try.func69, Try.ntmps69
  go_wp2_with (first
      | (go_at_call 73; refine (be16_calls _ _ _ (IsB.row0 (by assumption) (by assumption) _) (by simp; try omega)).mono ?_; rintro e w' ⟨rfl, n, rfl⟩)
      | (go_at_call 74; refine (be32_calls _ _ _ (IsB.row0 (by assumption) (by assumption) _) (by simp; try omega)).mono ?_; rintro e w' ⟨rfl, n, rfl⟩))
  go_region_held3 (fun _ => True) (trivial) (first
    | (go_at_call 82; refine (unitsDecode_calls D 4 [.slice av nv cv, .slice none 0 0, .slice a5 n5 m5, .slice a6 n6 m6, .slice none 0 0] 149 (by simp) _ _ _ os _ (show Has (w1.drewN _) D from hd) (H13.out.gr ((Gr.refl w1).drewN _)) HOK.out hn N13.out).mono ?_; rintro e w9 ⟨rfl, x9, a, n, m, rs, rfl, dx9, gx9, ow9, hrs9, hob9⟩))
  go_wp2_with fail
  go_ret
  unfold PostRD
  have gx := ((Gr.refl w1).drewN _).trans gx9
  exact ⟨rfl, gs_step hd gx, _, _, _, _, _, _, a, n, m, rs, ((H5.out.gr gx).rowW N5.out), N5.out, ((H6.out.gr gx).rowW N6.out), N6.out, rowW_heap dx9, by rw [rowW_size]; exact ow9, hrs9, fun p hp => (hob9 p hp).trans B13.out⟩

end Go.Proofs.Ytoopkfnkmaaieaa
