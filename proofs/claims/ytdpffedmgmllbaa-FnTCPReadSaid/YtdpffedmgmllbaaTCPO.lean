/-
  The header of a segment with its options: reading.
-/
import Derived.Test.YtdpffedmgmllbaaTL
import Derived.Test.YtdpffedmgmllbaaTCP
import Derived.Deep.DeepCutAuto
namespace Go.Proofs.Ytdpffedmgmllbaa
open Go.RowKit

/-- an option whose bytes lie in the block B -/
def InB (w : World) (B : Option Nat) (p : Opt × Value) : Prop := IsB w p.2 p.1.data ∧ (p.2.ownBlock = B ∨ p.1.data = [])
theorem InB.rows {w x : World} {D : Nat} {cs : List Value} {e : TypeId} {B : Option Nat} {p : Opt × Value} (hg : Gr w x) (h : InB w B p) (hB : B ≠ some D) : InB (rowW x D cs e) B p :=
  ⟨(h.1.gr hg).keptE (rowW_grown (some D) rfl) (h.2.elim (fun h1 => .inr (by rw [h1]; exact hB)) .inl), h.2⟩
theorem TL.row {x : World} {C C' : List Value} {D base : Nat} {v : Value} {rs : List (Opt × Value)} {t : TypeId} (h : TL x C D base v rs) : TL (rowW x D C' t) C D base v rs := by
  refine ⟨h.1, h.2.imp id ?_⟩
  rintro ⟨g, cap, cur, h1, h2, h3, h4, h5⟩
  exact ⟨g, cap, cur, h1, h2, h3, (rowW_other h2).trans h4, h5⟩
/-- what is read of the options ahead of a round -/
def TcpRel (wb : World) (D : Nat) (B : Option Nat) (os : List Opt) (c : Value → List Value → List Value) (dv : Value) (wr : World) : Prop :=
  ∃ k rs x v zs a n m, k ≤ os.length ∧ dv = .slice a n m ∧ IsB wb dv ((optsB os).drop (optsRaw (os.take k)).length) ∧ dv.ownBlock = B ∧ zs.length = 12 ∧ wr = rowW x D (c v zs) 85 ∧ Has x D ∧ Gr wb x ∧
    TL x (c v zs) D wb.heap.size v rs ∧ rs.map Prod.fst = os.take k ∧ ∀ p ∈ rs, InB wb B p
/-- a header that was read -/
def TcpPost (w w' : World) (D : Nat) (B : Option Nat) (l : List Int) (W : Nat) (os : List Opt) (e : Ending) : Prop := e = .returned .nilIface ∧ w.grownBy w' (some D) ∧ ∃ a8 n8 m8 a9 n9 m9 a1 n1 m1 a2 n2 m2 vo pd z23 z24 z25 z26 z27 z28 z29 z30 z31 z32 z33 z34 y35 rs,
      IsB w' (.slice a9 n9 m9) (l.drop (4 * W)) ∧ w'.heap[D]? = some (.cells [.slice a8 n8 m8, .slice a9 n9 m9, .int .u16 (bt l 0 * 256 + bt l 1), .int .u16 (bt l 2 * 256 + bt l 3), .int .u32 (bt l 4 * 16777216 + bt l 5 * 65536 + bt l 6 * 256 + bt l 7), .int .u32 (bt l 8 * 16777216 + bt l 9 * 65536 + bt l 10 * 256 + bt l 11), .int .u8 (W : Int), .bool (fb (bt l 13) 1), .bool (fb (bt l 13) 2), .bool (fb (bt l 13) 4), .bool (fb (bt l 13) 8), .bool (fb (bt l 13) 16), .bool (fb (bt l 13) 32), .bool (fb (bt l 13) 64), .bool (fb (bt l 13) 128), .bool (fb (bt l 12) 1), .int .u16 (bt l 14 * 256 + bt l 15), .int .u16 (bt l 16 * 256 + bt l 17), .int .u16 (bt l 18 * 256 + bt l 19), .slice a1 n1 m1, .slice a2 n2 m2, vo, pd, z23, z24, z25, z26, z27, z28, z29, z30, z31, z32, z33, z34, y35].toArray 85 (0, 0)) ∧ TL w' [.slice a8 n8 m8, .slice a9 n9 m9, .int .u16 (bt l 0 * 256 + bt l 1), .int .u16 (bt l 2 * 256 + bt l 3), .int .u32 (bt l 4 * 16777216 + bt l 5 * 65536 + bt l 6 * 256 + bt l 7), .int .u32 (bt l 8 * 16777216 + bt l 9 * 65536 + bt l 10 * 256 + bt l 11), .int .u8 (W : Int), .bool (fb (bt l 13) 1), .bool (fb (bt l 13) 2), .bool (fb (bt l 13) 4), .bool (fb (bt l 13) 8), .bool (fb (bt l 13) 16), .bool (fb (bt l 13) 32), .bool (fb (bt l 13) 64), .bool (fb (bt l 13) 128), .bool (fb (bt l 12) 1), .int .u16 (bt l 14 * 256 + bt l 15), .int .u16 (bt l 16 * 256 + bt l 17), .int .u16 (bt l 18 * 256 + bt l 19), .slice a1 n1 m1, .slice a2 n2 m2, vo, pd, z23, z24, z25, z26, z27, z28, z29, z30, z31, z32, z33, z34, y35] D w.heap.size vo rs ∧ rs.map Prod.fst = os ++ padO os ∧ ∀ p ∈ rs, InB w' B p

set_option linter.unusedVariables false in
set_option linter.unusedSimpArgs false in
set_option maxRecDepth 100000 in
set_option maxHeartbeats 8000000 in
theorem tcpDecodeO_calls (D : Nat) (cs : List Value) (hcs : cs.length = 36) (hc21 : cs[21]? = some (.slice none 0 0)) (hc22 : cs[22]? = some (.slice none 0 0)) (av : Option Addr) (nv cv : Nat) (l : List Int) (W : Nat) (os : List Opt) (w : World) (hD : w.heap[D]? = some (.cells cs.toArray 85 (0, 0))) (h : IsB w (.slice av nv cv) l) (hl : 20 ≤ l.length) (hW : bt l 12 / 16 = (W : Int)) (hW5 : 5 ≤ W) (hWl : 4 * W ≤ l.length) (hmx : l.length ≤ 1000000)
    (hO : (l.take (4 * W)).drop 20 = optsB os) (hok : ∀ x ∈ os, OkOpt x) (hraw : (optsRaw os).length ≤ 40) (hne : (Value.slice av nv cv).ownBlock ≠ some D) :
    Calls Try.prog 43 #[.pointer (some ⟨D, 0, none⟩), .slice av nv cv, .iface 156 (.agg #[])] w fun e w' => TcpPost w w' D (Value.slice av nv cv).ownBlock l W os e := by
  obtain ⟨w0, rfl⟩ : ∃ w0, w = rowW w0 D cs 85 := ⟨w, (rowW_self hD).symm⟩
  have hd : Has w0 D := by unfold Has; rw [← rowW_size (cs := cs) (e := 85) (D := D)]; exact (Array.getElem?_eq_some_iff.1 hD).1
  clear hD
  replace h := h.unrow hne
  obtain ⟨w1, rfl⟩ : ∃ w1 : World, w0 = w1.drewN 0 := ⟨w0, rfl⟩
  have h : IsB w1 (.slice av nv cv) l := h
  have hd : Has w1 D := hd
  have hlen := fun ty => h.len (P := Try.prog) 25 ty 5 Try.underlying25
  obtain ⟨i, hi, hz0, hz1, hz2⟩ := info_parts info_u8
  obtain ⟨b12, o12, i12, c12, z12⟩ := h.idx (P := Try.prog) 25 5 i Try.underlying25 hi hz1 .i64 12 12 rfl (by omega)
  have e12 : b12 ≠ D := by rintro rfl; exact hne z12
  clear z12
  have p12 := h.bytes.bt0 12
  have q12 := h.bytes.bt1 12
  obtain ⟨b13, o13, i13, c13, z13⟩ := h.idx (P := Try.prog) 25 5 i Try.underlying25 hi hz1 .i64 13 13 rfl (by omega)
  have e13 : b13 ≠ D := by rintro rfl; exact hne z13
  clear z13
  have p13 := h.bytes.bt0 13
  have q13 := h.bytes.bt1 13
  have p0 := h.bytes.bt0 0
  have q0 := h.bytes.bt1 0
  have p1 := h.bytes.bt0 1
  have q1 := h.bytes.bt1 1
  have p2 := h.bytes.bt0 2
  have q2 := h.bytes.bt1 2
  have p3 := h.bytes.bt0 3
  have q3 := h.bytes.bt1 3
  obtain ⟨a1, n1, m1, hv1, hb1, s1⟩ := h.cutLH (P := Try.prog) 25 5 i Try.underlying25 hi hz1 0 2 0 2 rfl rfl (by omega) (by omega)
  rw [← hb1] at hne
  have hne1 := hne
  rw [hb1] at hne
  clear hb1
  obtain ⟨a2, n2, m2, hv2, hb2, s2⟩ := h.cutLH (P := Try.prog) 25 5 i Try.underlying25 hi hz1 2 4 2 4 rfl rfl (by omega) (by omega)
  rw [← hb2] at hne
  have hne2 := hne
  rw [hb2] at hne
  clear hb2
  obtain ⟨a3, n3, m3, hv3, hb3, s3⟩ := h.cutLH (P := Try.prog) 25 5 i Try.underlying25 hi hz1 4 8 4 8 rfl rfl (by omega) (by omega)
  rw [← hb3] at hne
  have hne3 := hne
  rw [hb3] at hne
  clear hb3
  obtain ⟨a4, n4, m4, hv4, hb4, s4⟩ := h.cutLH (P := Try.prog) 25 5 i Try.underlying25 hi hz1 8 12 8 12 rfl rfl (by omega) (by omega)
  rw [← hb4] at hne
  have hne4 := hne
  rw [hb4] at hne
  clear hb4
  obtain ⟨a5, n5, m5, hv5, hb5, s5⟩ := h.cutLH (P := Try.prog) 25 5 i Try.underlying25 hi hz1 14 16 14 16 rfl rfl (by omega) (by omega)
  rw [← hb5] at hne
  have hne5 := hne
  rw [hb5] at hne
  clear hb5
  obtain ⟨a6, n6, m6, hv6, hb6, s6⟩ := h.cutLH (P := Try.prog) 25 5 i Try.underlying25 hi hz1 16 18 16 18 rfl rfl (by omega) (by omega)
  rw [← hb6] at hne
  have hne6 := hne
  rw [hb6] at hne
  clear hb6
  obtain ⟨a7, n7, m7, hv7, hb7, s7⟩ := h.cutLH (P := Try.prog) 25 5 i Try.underlying25 hi hz1 18 20 18 20 rfl rfl (by omega) (by omega)
  rw [← hb7] at hne
  have hne7 := hne
  rw [hb7] at hne
  clear hb7
  obtain ⟨a8, n8, m8, h8, hb8, s8⟩ := h.cutH (P := Try.prog) 25 5 i Try.underlying25 hi hz1 (4 * (W : Int)) (4 * W) (by omega) hWl
  obtain ⟨a9, n9, m9, h9, hb9, s9⟩ := h.cutL (P := Try.prog) 25 5 i Try.underlying25 hi hz1 (4 * (W : Int)) (4 * W) (by omega) hWl
  obtain ⟨a10, n10, m10, h10, hb10, s10⟩ := h.cutLH (P := Try.prog) 25 5 i Try.underlying25 hi hz1 20 (4 * (W : Int)) 20 (4 * W) rfl (by omega) (by omega) hWl
  rw [hO] at h10
  have hW15 : W ≤ 15 := by omega
  have g0 : (bits .and .u8 (bt l 13) 1 != 0) = fb (bt l 13) 1 := rfl
  have g1 : (bits .and .u8 (bt l 13) 2 != 0) = fb (bt l 13) 2 := rfl
  have g2 : (bits .and .u8 (bt l 13) 4 != 0) = fb (bt l 13) 4 := rfl
  have g3 : (bits .and .u8 (bt l 13) 8 != 0) = fb (bt l 13) 8 := rfl
  have g4 : (bits .and .u8 (bt l 13) 16 != 0) = fb (bt l 13) 16 := rfl
  have g5 : (bits .and .u8 (bt l 13) 32 != 0) = fb (bt l 13) 32 := rfl
  have g6 : (bits .and .u8 (bt l 13) 64 != 0) = fb (bt l 13) 64 := rfl
  have g7 : (bits .and .u8 (bt l 13) 128 != 0) = fb (bt l 13) 128 := rfl
  have g8 : (bits .and .u8 (bt l 12) 1 != 0) = fb (bt l 12) 1 := rfl
  have sn := nil_hB
  have sq : ∀ w : World, (binOp .eql 75 (.slice none 0 0) (.slice none 0 0)).run Try.prog w = .ok (.bool true) w := fun w => by kernel_rfl
  have v2 : IntKind.i64.wrap ((W : Int) * 4) = 4 * (W : Int) := by rw [w64 (by omega) (by omega)]; omega
  have v4 : decide ((l.length : Int) < 20) = false := by simp; omega
  have v5 : decide ((W : Int) < 5) = false := by simp; omega
  have v6 : decide ((l.length : Int) < 4 * (W : Int)) = false := by simp; omega
  have v7 : IntKind.i64.wrap (W : Int) = (W : Int) := w64 (by omega) (by omega)
  obtain ⟨y0, y1, y2, y3, y4, y5, y6, y7, y8, y9, y10, y11, y12, y13, y14, y15, y16, y17, y18, y19, y20, y21, y22, y23, y24, y25, y26, y27, y28, y29, y30, y31, y32, y33, y34, y35, rfl⟩ := len36 hcs
  obtain rfl : y21 = .slice none 0 0 := by simpa using hc21
  obtain rfl : y22 = .slice none 0 0 := by simpa using hc22
  clear hc21 hc22
  obtain ⟨B, hB⟩ : ∃ B, B = (Value.slice av nv cv).ownBlock := ⟨_, rfl⟩
  rw [← hB] at hb8 hb9 hb10 hne ⊢
  have HB := Lib.hid hB
  have H9 := Lib.hid (And.intro h9 hb9)
  have H10 := Lib.hid (And.intro h10 hb10)
  have HOK := Lib.hid hok
  have HLEN := Lib.hid (show os.length ≤ 40 from raw_len hraw)
  have HW1 := Lib.hid hne
  clear h8 h9 h10 hb8 hb9 hb10 hok hO
  go_enter Try.func43, Try.ntmps43
  go_wp2_with fail
  go_step3
  go_wp2_with (first
      | (go_at_call 68; refine (be16_calls _ _ _ (IsB.row0 (by assumption) (by assumption) _) (by simp; try omega)).mono ?_; rintro e w' ⟨rfl, n, rfl⟩)
      | (go_at_call 69; refine (be32_calls _ _ _ (IsB.row0 (by assumption) (by assumption) _) (by simp; try omega)).mono ?_; rintro e w' ⟨rfl, n, rfl⟩))
  go_step3
  go_wp2_with fail
  clear i12 c12 i13 c13 s1 s2 s3 s4 s5 s6 s7 s8 s9 s10 e12 e13 v2 v4 v5 v6 v7 p12 q12 p13 q13 p0 q0 p1 q1 p2 q2 p3 q3 g0 g1 g2 g3 g4 g5 g6 g7 g8 hlen sn sq
  have YE : (fun (o : Value) (zs : List Value) => ([.slice a8 n8 m8, .slice a9 n9 m9, .int .u16 (bt l 0 * 256 + bt l 1), .int .u16 (bt l 2 * 256 + bt l 3), .int .u32 (bt l 4 * 16777216 + bt l 5 * 65536 + bt l 6 * 256 + bt l 7), .int .u32 (bt l 8 * 16777216 + bt l 9 * 65536 + bt l 10 * 256 + bt l 11), .int .u8 (W : Int), .bool (fb (bt l 13) 1), .bool (fb (bt l 13) 2), .bool (fb (bt l 13) 4), .bool (fb (bt l 13) 8), .bool (fb (bt l 13) 16), .bool (fb (bt l 13) 32), .bool (fb (bt l 13) 64), .bool (fb (bt l 13) 128), .bool (fb (bt l 12) 1), .int .u16 (bt l 14 * 256 + bt l 15), .int .u16 (bt l 16 * 256 + bt l 17), .int .u16 (bt l 18 * 256 + bt l 19), .slice a1 n1 m1, .slice a2 n2 m2, o, .slice none 0 0] : List Value) ++ (zs ++ [y35])) (.slice (some ⟨D, 23, none⟩) 0 4) [y23, y24, y25, y26, y27, y28, y29, y30, y31, y32, y33, y34] = [.slice a8 n8 m8, .slice a9 n9 m9, .int .u16 (bt l 0 * 256 + bt l 1), .int .u16 (bt l 2 * 256 + bt l 3), .int .u32 (bt l 4 * 16777216 + bt l 5 * 65536 + bt l 6 * 256 + bt l 7), .int .u32 (bt l 8 * 16777216 + bt l 9 * 65536 + bt l 10 * 256 + bt l 11), .int .u8 (W : Int), .bool (fb (bt l 13) 1), .bool (fb (bt l 13) 2), .bool (fb (bt l 13) 4), .bool (fb (bt l 13) 8), .bool (fb (bt l 13) 16), .bool (fb (bt l 13) 32), .bool (fb (bt l 13) 64), .bool (fb (bt l 13) 128), .bool (fb (bt l 12) 1), .int .u16 (bt l 14 * 256 + bt l 15), .int .u16 (bt l 16 * 256 + bt l 17), .int .u16 (bt l 18 * 256 + bt l 19), .slice a1 n1 m1, .slice a2 n2 m2, .slice (some ⟨D, 23, none⟩) 0 4, .slice none 0 0, y23, y24, y25, y26, y27, y28, y29, y30, y31, y32, y33, y34, y35] := rfl
  clear YE
  go_loopw [1] (TcpRel w1 D B os (fun (o : Value) (zs : List Value) => ([.slice a8 n8 m8, .slice a9 n9 m9, .int .u16 (bt l 0 * 256 + bt l 1), .int .u16 (bt l 2 * 256 + bt l 3), .int .u32 (bt l 4 * 16777216 + bt l 5 * 65536 + bt l 6 * 256 + bt l 7), .int .u32 (bt l 8 * 16777216 + bt l 9 * 65536 + bt l 10 * 256 + bt l 11), .int .u8 (W : Int), .bool (fb (bt l 13) 1), .bool (fb (bt l 13) 2), .bool (fb (bt l 13) 4), .bool (fb (bt l 13) 8), .bool (fb (bt l 13) 16), .bool (fb (bt l 13) 32), .bool (fb (bt l 13) 64), .bool (fb (bt l 13) 128), .bool (fb (bt l 12) 1), .int .u16 (bt l 14 * 256 + bt l 15), .int .u16 (bt l 16 * 256 + bt l 17), .int .u16 (bt l 18 * 256 + bt l 19), .slice a1 n1 m1, .slice a2 n2 m2, o, .slice none 0 0] : List Value) ++ (zs ++ [y35]))) (fun dv _ => match dv with | .slice _ n _ => n | _ => 0)
  case atStart => exact ⟨0, [], w1.drewN _, .slice (some ⟨D, 23, none⟩) 0 4, [y23, y24, y25, y26, y27, y28, y29, y30, y31, y32, y33, y34], a10, n10, m10, Nat.zero_le _, rfl, by simpa [optsRaw] using H10.out.1, H10.out.2, rfl, rfl, hd, (Gr.refl w1).drewN _, ⟨rfl, .inl ⟨rfl, by simp, seg_nil (by simp)⟩⟩, by simp, fun p hp => by simp at hp⟩
  case round =>
    obtain ⟨k, rs, x, v, zs, a, n, m, hk, rfl, hI, hBD, hzs, rfl, hX, hG, hTL, hrs, hIn⟩ := hrel
    obtain ⟨z23, z24, z25, z26, z27, z28, z29, z30, z31, z32, z33, z34, rfl⟩ := len12 hzs
    have ce : (fun (o : Value) (zs : List Value) => ([.slice a8 n8 m8, .slice a9 n9 m9, .int .u16 (bt l 0 * 256 + bt l 1), .int .u16 (bt l 2 * 256 + bt l 3), .int .u32 (bt l 4 * 16777216 + bt l 5 * 65536 + bt l 6 * 256 + bt l 7), .int .u32 (bt l 8 * 16777216 + bt l 9 * 65536 + bt l 10 * 256 + bt l 11), .int .u8 (W : Int), .bool (fb (bt l 13) 1), .bool (fb (bt l 13) 2), .bool (fb (bt l 13) 4), .bool (fb (bt l 13) 8), .bool (fb (bt l 13) 16), .bool (fb (bt l 13) 32), .bool (fb (bt l 13) 64), .bool (fb (bt l 13) 128), .bool (fb (bt l 12) 1), .int .u16 (bt l 14 * 256 + bt l 15), .int .u16 (bt l 16 * 256 + bt l 17), .int .u16 (bt l 18 * 256 + bt l 19), .slice a1 n1 m1, .slice a2 n2 m2, o, .slice none 0 0] : List Value) ++ (zs ++ [y35])) v [z23, z24, z25, z26, z27, z28, z29, z30, z31, z32, z33, z34] = [.slice a8 n8 m8, .slice a9 n9 m9, .int .u16 (bt l 0 * 256 + bt l 1), .int .u16 (bt l 2 * 256 + bt l 3), .int .u32 (bt l 4 * 16777216 + bt l 5 * 65536 + bt l 6 * 256 + bt l 7), .int .u32 (bt l 8 * 16777216 + bt l 9 * 65536 + bt l 10 * 256 + bt l 11), .int .u8 (W : Int), .bool (fb (bt l 13) 1), .bool (fb (bt l 13) 2), .bool (fb (bt l 13) 4), .bool (fb (bt l 13) 8), .bool (fb (bt l 13) 16), .bool (fb (bt l 13) 32), .bool (fb (bt l 13) 64), .bool (fb (bt l 13) 128), .bool (fb (bt l 12) 1), .int .u16 (bt l 14 * 256 + bt l 15), .int .u16 (bt l 16 * 256 + bt l 17), .int .u16 (bt l 18 * 256 + bt l 19), .slice a1 n1 m1, .slice a2 n2 m2, v, .slice none 0 0, z23, z24, z25, z26, z27, z28, z29, z30, z31, z32, z33, z34, y35] := rfl
    simp only [ce] at hTL ⊢
    clear ce hzs
    obtain ⟨R, hR⟩ : ∃ R, R = (optsB os).drop (optsRaw (os.take k)).length := ⟨_, rfl⟩
    rw [← hR] at hI
    rw [rest_eq] at hR
    have hcn : n = R.length := hI.count
    have hneA : (Value.slice a n m).ownBlock ≠ some D := by rw [hBD]; exact HW1.out
    have hrl : rs.length ≤ 200 := by
      have e := congrArg List.length hrs
      rw [List.length_map, List.length_take] at e
      have := HLEN.out
      omega
    have HK := Lib.hid hk
    have HRS := Lib.hid hrs
    have HG := Lib.hid hG
    have HTL := Lib.hid hTL
    have HNEA := Lib.hid (And.intro hneA hBD)
    have HIN := Lib.hid hIn
    clear hrs hTL hIn
    by_cases hlt : k < os.length
    · rw [rest_cons hlt] at hR
      have hmem : os.getD k Opt.zero ∈ os := by rw [List.getD_eq_getElem?_getD, List.getElem?_eq_getElem hlt]; exact List.getElem_mem hlt
      obtain ⟨xo, hxo⟩ : ∃ xo, xo = os.getD k Opt.zero := ⟨_, rfl⟩
      have hrl2 := hraw
      rw [raw_split os k, rest_cons hlt, List.length_append, List.length_append] at hrl2
      rw [← hxo] at hR hmem hrl2
      have HXO := Lib.hid hxo
      clear hxo
      have hok := HOK.out xo hmem
      obtain ⟨kd, ln, d⟩ := xo
      obtain ⟨hok1, hok2, hok3⟩ := hok
      simp only at hok1 hok2 hok3
      obtain ⟨R', hR'⟩ : ∃ R', R' = optsRaw (os.drop (k + 1)) ++ fillB os := ⟨_, rfl⟩
      rw [List.append_assoc, ← hR'] at hR
      have HR' := Lib.hid hR'
      have HLT := Lib.hid hlt
      clear hR' hlt hmem
      by_cases k1 : kd = 1
      · have hd0 : ln = 1 ∧ d = [] := by
          rcases hok1 with h | h
          · exact h.2
          · exact absurd k1 h.1
        obtain ⟨rfl, rfl⟩ := hd0
        subst k1
        have hRe : R = 1 :: R' := by rw [hR]; simp [optB]
        have b0 : bt R 0 = 1 := by rw [hRe]; rfl
        have hRl : n = R'.length + 1 := by rw [hcn, hRe]; simp
        obtain ⟨bi, oi, ii, ciw, zi⟩ := hI.idx (P := Try.prog) 25 5 i Try.underlying25 hi hz1 .i64 0 0 rfl (by omega)
        obtain ⟨a', n', m', hI', hbI', si⟩ := hI.cutL (P := Try.prog) 25 5 i Try.underlying25 hi hz1 1 1 rfl (by omega)
        have ei : bi ≠ D := by rintro rfl; exact hneA zi
        rw [b0] at ciw
        rw [hRe] at hI'
        have ci := hG.cell ciw
        have n0 : decide ((0 : Int) < (n : Int)) = true := decide_eq_true (by omega)
        have hn1 : 0 < n := by omega
        have HI' := Lib.hid (show IsB w1 (.slice a' n' m') R' from hI')
        have HNE' := Lib.hid (show (Value.slice a' n' m').ownBlock = B by rw [hbI']; exact hBD)
        have HRL := Lib.hid (show R'.length < n by omega)
        have w1u : IntKind.i64.wrap 1 = 1 := by decide
        clear hI hI' hbI' hR hRe hcn b0 hneA zi hok1 hok2 hok3 hRl hrl2 hG
        go_wp2_with fail
        refine wp_region_held_drew (S := (fun w' => w'.cell? ⟨bi, oi, none⟩ = some (.int .u8 1))) (by kernel_rfl) ((rowW_cell_other ei).trans ci) (fun hHeld => ?_)
        refine wpAnyH_take (i := 0) (v := .pointer (some ⟨D, 0, none⟩)) rfl (by kernel_rfl) (by kernel_rfl) (by kernel_rfl) (fun _ _ _ h => h) (Or.inl ⟨by rfl, fun w' hS => ?_⟩) (by assumption) ?_
        · have c0 := hS
          clear hHeld
          go_simp
        try simp only [Act.put, List.getElem_toArray, List.getElem_cons_succ, List.getElem_cons_zero, List.setIfInBounds_toArray, List.set_cons_zero, List.set_cons_succ]
        refine wpAnyH_take (i := 1) (v := .pointer (some ⟨D, 0, none⟩)) rfl (by kernel_rfl) (by kernel_rfl) (by kernel_rfl) (fun _ _ _ h => h) (Or.inl ⟨by rfl, fun w' hS => ?_⟩) (by assumption) ?_
        · have c0 := hS
          clear hHeld
          go_simp
        try simp only [Act.put, List.getElem_toArray, List.getElem_cons_succ, List.getElem_cons_zero, List.setIfInBounds_toArray, List.set_cons_zero, List.set_cons_succ]
        refine wpAnyH_take (i := 2) (v := .pointer (some ⟨D, 0, none⟩)) rfl (by kernel_rfl) (by kernel_rfl) (by kernel_rfl) (fun _ _ _ h => h) (Or.inl ⟨by rfl, fun w' hS => ?_⟩) (by assumption) ?_
        · have c0 := hS
          clear hHeld
          go_simp
        try simp only [Act.put, List.getElem_toArray, List.getElem_cons_succ, List.getElem_cons_zero, List.setIfInBounds_toArray, List.set_cons_zero, List.set_cons_succ]
        refine wpAnyH_take (i := 3) (v := .pointer (some ⟨D, 21, none⟩)) rfl (by kernel_rfl) (by kernel_rfl) (by kernel_rfl) (fun _ _ _ h => h) (Or.inl ⟨by rfl, fun w' hS => ?_⟩) (by assumption) ?_
        · have c0 := hS
          clear hHeld
          go_simp
        try simp only [Act.put, List.getElem_toArray, List.getElem_cons_succ, List.getElem_cons_zero, List.setIfInBounds_toArray, List.set_cons_zero, List.set_cons_succ]
        refine wpAnyH_take (i := 5) (v := .slice a n m) rfl (by kernel_rfl) (by kernel_rfl) (by kernel_rfl) (fun _ _ _ h => h) (Or.inl ⟨by rfl, fun w' hS => ?_⟩) (by assumption) ?_
        · have c0 := hS
          clear hHeld
          go_simp
        try simp only [Act.put, List.getElem_toArray, List.getElem_cons_succ, List.getElem_cons_zero, List.setIfInBounds_toArray, List.set_cons_zero, List.set_cons_succ]
        refine wpAnyH_take (i := 6) (v := .pointer (some ⟨bi, oi, none⟩)) rfl (by kernel_rfl) (by kernel_rfl) (by kernel_rfl) (fun _ _ _ h => h) (Or.inl ⟨by rfl, fun w' hS => ?_⟩) (by assumption) ?_
        · have c0 := hS
          clear hHeld
          go_simp
        try simp only [Act.put, List.getElem_toArray, List.getElem_cons_succ, List.getElem_cons_zero, List.setIfInBounds_toArray, List.set_cons_zero, List.set_cons_succ]
        refine wpAnyH_take (i := 7) (v := .int .u8 1) rfl (by kernel_rfl) (by kernel_rfl) (by kernel_rfl) (fun _ _ _ h => h) (Or.inl ⟨by rfl, fun w' hS => ?_⟩) (by assumption) ?_
        · have c0 := hS
          clear hHeld
          go_simp
        try simp only [Act.put, List.getElem_toArray, List.getElem_cons_succ, List.getElem_cons_zero, List.setIfInBounds_toArray, List.set_cons_zero, List.set_cons_succ]
        refine wpAnyH_take (i := 8) (v := .agg #[.int .u8 1, .int .u8 0, .slice none 0 0]) rfl (by kernel_rfl) (by kernel_rfl) (by kernel_rfl) (fun _ _ _ h => h) (Or.inl ⟨by rfl, fun w' hS => ?_⟩) (by assumption) ?_
        · have c0 := hS
          clear hHeld
          go_simp
        try simp only [Act.put, List.getElem_toArray, List.getElem_cons_succ, List.getElem_cons_zero, List.setIfInBounds_toArray, List.set_cons_zero, List.set_cons_succ]
        refine wpAnyH_ready (rs := [4, 9]) (by kernel_rfl) (by simp) ((AllReadyH.cons rfl (fun K hK => ?_) (AllReadyH.cons rfl (fun K hK => ?_) AllReadyH.nil)))
        · refine step_loadc (by rfl) 75 (.tmp 225) (by rfl) D 21 (by first | rfl | simp) v 78 Try.underlying75 (rowW_cell (cs := [.slice a8 n8 m8, .slice a9 n9 m9, .int .u16 (bt l 0 * 256 + bt l 1), .int .u16 (bt l 2 * 256 + bt l 3), .int .u32 (bt l 4 * 16777216 + bt l 5 * 65536 + bt l 6 * 256 + bt l 7), .int .u32 (bt l 8 * 16777216 + bt l 9 * 65536 + bt l 10 * 256 + bt l 11), .int .u8 (W : Int), .bool (fb (bt l 13) 1), .bool (fb (bt l 13) 2), .bool (fb (bt l 13) 4), .bool (fb (bt l 13) 8), .bool (fb (bt l 13) 16), .bool (fb (bt l 13) 32), .bool (fb (bt l 13) 64), .bool (fb (bt l 13) 128), .bool (fb (bt l 12) 1), .int .u16 (bt l 14 * 256 + bt l 15), .int .u16 (bt l 16 * 256 + bt l 17), .int .u16 (bt l 18 * 256 + bt l 19), .slice a1 n1 m1, .slice a2 n2 m2, v, .slice none 0 0, z23, z24, z25, z26, z27, z28, z29, z30, z31, z32, z33, z34, y35]) hX 21) ?_
          refine hK.out _ _ ((rowW_cell_other ei).trans ci) (fun hHeld => ?_)
          clear hK K
          try simp only [Act.put, List.getElem_toArray, List.getElem_cons_succ, List.getElem_cons_zero, List.setIfInBounds_toArray, List.set_cons_zero, List.set_cons_succ]
          refine wpAnyH_ready (rs := [9]) (by kernel_rfl) (by simp) ((AllReadyH.cons rfl (fun K hK => ?_) AllReadyH.nil))
          go_simp
          refine hK.out _ _ (Gr.cell (((Gr.refl _).drew).alloc _) ((rowW_cell_other (cs := [.slice a8 n8 m8, .slice a9 n9 m9, .int .u16 (bt l 0 * 256 + bt l 1), .int .u16 (bt l 2 * 256 + bt l 3), .int .u32 (bt l 4 * 16777216 + bt l 5 * 65536 + bt l 6 * 256 + bt l 7), .int .u32 (bt l 8 * 16777216 + bt l 9 * 65536 + bt l 10 * 256 + bt l 11), .int .u8 (W : Int), .bool (fb (bt l 13) 1), .bool (fb (bt l 13) 2), .bool (fb (bt l 13) 4), .bool (fb (bt l 13) 8), .bool (fb (bt l 13) 16), .bool (fb (bt l 13) 32), .bool (fb (bt l 13) 64), .bool (fb (bt l 13) 128), .bool (fb (bt l 12) 1), .int .u16 (bt l 14 * 256 + bt l 15), .int .u16 (bt l 16 * 256 + bt l 17), .int .u16 (bt l 18 * 256 + bt l 19), .slice a1 n1 m1, .slice a2 n2 m2, v, .slice none 0 0, z23, z24, z25, z26, z27, z28, z29, z30, z31, z32, z33, z34, y35]) (e := 85) ei).trans ci)) (fun hHeld => ?_)
          clear hK K
          try simp only [Act.put, List.getElem_toArray, List.getElem_cons_succ, List.getElem_cons_zero, List.setIfInBounds_toArray, List.set_cons_zero, List.set_cons_succ]
          refine wpAnyH_ready (rs := [10]) (by kernel_rfl) (by simp) ((AllReadyH.cons rfl (fun K hK => ?_) AllReadyH.nil))
          refine step_appT (x := x) (U := x.drew.alloc (.cells #[.int .u8 1, .int .u8 0, .slice none 0 0] 78)) (wb := w1) (D := D) (C := [.slice a8 n8 m8, .slice a9 n9 m9, .int .u16 (bt l 0 * 256 + bt l 1), .int .u16 (bt l 2 * 256 + bt l 3), .int .u32 (bt l 4 * 16777216 + bt l 5 * 65536 + bt l 6 * 256 + bt l 7), .int .u32 (bt l 8 * 16777216 + bt l 9 * 65536 + bt l 10 * 256 + bt l 11), .int .u8 (W : Int), .bool (fb (bt l 13) 1), .bool (fb (bt l 13) 2), .bool (fb (bt l 13) 4), .bool (fb (bt l 13) 8), .bool (fb (bt l 13) 16), .bool (fb (bt l 13) 32), .bool (fb (bt l 13) 64), .bool (fb (bt l 13) 128), .bool (fb (bt l 12) 1), .int .u16 (bt l 14 * 256 + bt l 15), .int .u16 (bt l 16 * 256 + bt l 17), .int .u16 (bt l 18 * 256 + bt l 19), .slice a1 n1 m1, .slice a2 n2 m2, v, .slice none 0 0, z23, z24, z25, z26, z27, z28, z29, z30, z31, z32, z33, z34, y35]) (t := 85) (base := w1.heap.size) rfl (.tmp 226) (.tmp 231) rfl (rowW_allocT (show Has x.drew D from hX) _) (by first | rfl | simp [Act.eval]) HTL.out (((Gr.refl _).drew).alloc _) HG.out rfl hX hrl x.heap.size 1 (⟨1, 0, []⟩, .slice none 0 0) (by first | rfl | simp [Act.eval]) (box3 (rowW_size (w := x)).symm _ _ _ _).1 (box3 (rowW_size (w := x)).symm _ _ _ _).2.1 (box3 (rowW_size (w := x)).symm _ _ _ _).2.2 rfl ?_
          intro v4 x4 C4 g4 q4 hof4 dx4 gx4 hTP
          obtain ⟨f4, cp4, hv4, hq4⟩ := id hTP.2
          subst hv4
          obtain ⟨nr, hnr⟩ : ∃ nr, nr = rs.length := ⟨_, rfl⟩
          have HNR := Lib.hid (And.intro hnr hq4)
          rw [← hnr] at hTP ⊢
          clear hnr hq4
          obtain ⟨zs4, hz4, rfl⟩ := hof4.lit rfl
          obtain ⟨u23, u24, u25, u26, u27, u28, u29, u30, u31, u32, u33, u34, rfl⟩ := len12 hz4
          have ce4 : ([.slice a8 n8 m8, .slice a9 n9 m9, .int .u16 (bt l 0 * 256 + bt l 1), .int .u16 (bt l 2 * 256 + bt l 3), .int .u32 (bt l 4 * 16777216 + bt l 5 * 65536 + bt l 6 * 256 + bt l 7), .int .u32 (bt l 8 * 16777216 + bt l 9 * 65536 + bt l 10 * 256 + bt l 11), .int .u8 (W : Int), .bool (fb (bt l 13) 1), .bool (fb (bt l 13) 2), .bool (fb (bt l 13) 4), .bool (fb (bt l 13) 8), .bool (fb (bt l 13) 16), .bool (fb (bt l 13) 32), .bool (fb (bt l 13) 64), .bool (fb (bt l 13) 128), .bool (fb (bt l 12) 1), .int .u16 (bt l 14 * 256 + bt l 15), .int .u16 (bt l 16 * 256 + bt l 17), .int .u16 (bt l 18 * 256 + bt l 19), .slice a1 n1 m1, .slice a2 n2 m2, v, .slice none 0 0, z23, z24, z25, z26, z27, z28, z29, z30, z31, z32, z33, z34, y35] : List Value).take 23 ++ ([u23, u24, u25, u26, u27, u28, u29, u30, u31, u32, u33, u34] ++ ([.slice a8 n8 m8, .slice a9 n9 m9, .int .u16 (bt l 0 * 256 + bt l 1), .int .u16 (bt l 2 * 256 + bt l 3), .int .u32 (bt l 4 * 16777216 + bt l 5 * 65536 + bt l 6 * 256 + bt l 7), .int .u32 (bt l 8 * 16777216 + bt l 9 * 65536 + bt l 10 * 256 + bt l 11), .int .u8 (W : Int), .bool (fb (bt l 13) 1), .bool (fb (bt l 13) 2), .bool (fb (bt l 13) 4), .bool (fb (bt l 13) 8), .bool (fb (bt l 13) 16), .bool (fb (bt l 13) 32), .bool (fb (bt l 13) 64), .bool (fb (bt l 13) 128), .bool (fb (bt l 12) 1), .int .u16 (bt l 14 * 256 + bt l 15), .int .u16 (bt l 16 * 256 + bt l 17), .int .u16 (bt l 18 * 256 + bt l 19), .slice a1 n1 m1, .slice a2 n2 m2, v, .slice none 0 0, z23, z24, z25, z26, z27, z28, z29, z30, z31, z32, z33, z34, y35] : List Value).drop 35) = [.slice a8 n8 m8, .slice a9 n9 m9, .int .u16 (bt l 0 * 256 + bt l 1), .int .u16 (bt l 2 * 256 + bt l 3), .int .u32 (bt l 4 * 16777216 + bt l 5 * 65536 + bt l 6 * 256 + bt l 7), .int .u32 (bt l 8 * 16777216 + bt l 9 * 65536 + bt l 10 * 256 + bt l 11), .int .u8 (W : Int), .bool (fb (bt l 13) 1), .bool (fb (bt l 13) 2), .bool (fb (bt l 13) 4), .bool (fb (bt l 13) 8), .bool (fb (bt l 13) 16), .bool (fb (bt l 13) 32), .bool (fb (bt l 13) 64), .bool (fb (bt l 13) 128), .bool (fb (bt l 12) 1), .int .u16 (bt l 14 * 256 + bt l 15), .int .u16 (bt l 16 * 256 + bt l 17), .int .u16 (bt l 18 * 256 + bt l 19), .slice a1 n1 m1, .slice a2 n2 m2, v, .slice none 0 0, u23, u24, u25, u26, u27, u28, u29, u30, u31, u32, u33, u34, y35] := rfl
          rw [ce4] at hTP ⊢
          clear ce4 hof4
          refine hK.out _ _ ((rowW_cell_other ei).trans (gx4.cell ciw)) (fun hHeld => ?_)
          clear hK K
          try simp only [Act.put, List.getElem_toArray, List.getElem_cons_succ, List.getElem_cons_zero, List.setIfInBounds_toArray, List.set_cons_zero, List.set_cons_succ]
          refine wpAnyH_take (i := 11) (v := .pointer (some ⟨D, 0, none⟩)) rfl (by kernel_rfl) (by kernel_rfl) (by kernel_rfl) (fun _ _ _ h => h) (Or.inl ⟨by rfl, fun w' hS => ?_⟩) (by assumption) ?_
          · have c0 := hS
            clear hHeld
            go_simp
          try simp only [Act.put, List.getElem_toArray, List.getElem_cons_succ, List.getElem_cons_zero, List.setIfInBounds_toArray, List.set_cons_zero, List.set_cons_succ]
          refine wpAnyH_take (i := 12) (v := .pointer (some ⟨D, 21, none⟩)) rfl (by kernel_rfl) (by kernel_rfl) (by kernel_rfl) (fun _ _ _ h => h) (Or.inl ⟨by rfl, fun w' hS => ?_⟩) (by assumption) ?_
          · have c0 := hS
            clear hHeld
            go_simp
          try simp only [Act.put, List.getElem_toArray, List.getElem_cons_succ, List.getElem_cons_zero, List.setIfInBounds_toArray, List.set_cons_zero, List.set_cons_succ]
          refine wpAnyH_ready (rs := [13]) (by kernel_rfl) (by simp) ((AllReadyH.cons rfl (fun K hK => ?_) AllReadyH.nil))
          go_simp
          refine hK.out _ _ ((rowW_cell_other ei).trans (gx4.cell ciw)) (fun hHeld => ?_)
          clear hK K
          try simp only [Act.put, List.getElem_toArray, List.getElem_cons_succ, List.getElem_cons_zero, List.setIfInBounds_toArray, List.set_cons_zero, List.set_cons_succ]
          refine wpAnyH_done (by kernel_rfl) ?_ _
          clear hHeld
          have TP4 := (hTP.swap (C' := [.slice a8 n8 m8, .slice a9 n9 m9, .int .u16 (bt l 0 * 256 + bt l 1), .int .u16 (bt l 2 * 256 + bt l 3), .int .u32 (bt l 4 * 16777216 + bt l 5 * 65536 + bt l 6 * 256 + bt l 7), .int .u32 (bt l 8 * 16777216 + bt l 9 * 65536 + bt l 10 * 256 + bt l 11), .int .u8 (W : Int), .bool (fb (bt l 13) 1), .bool (fb (bt l 13) 2), .bool (fb (bt l 13) 4), .bool (fb (bt l 13) 8), .bool (fb (bt l 13) 16), .bool (fb (bt l 13) 32), .bool (fb (bt l 13) 64), .bool (fb (bt l 13) 128), .bool (fb (bt l 12) 1), .int .u16 (bt l 14 * 256 + bt l 15), .int .u16 (bt l 16 * 256 + bt l 17), .int .u16 (bt l 18 * 256 + bt l 19), .slice a1 n1 m1, .slice a2 n2 m2, .slice (some ⟨g4, f4, none⟩) (nr + 1) cp4, .slice none 0 0, u23, u24, u25, u26, u27, u28, u29, u30, u31, u32, u33, u34, y35]) rfl rfl).gr ((Gr.refl x4).drew)
          have dx4d : Has x4.drew D := dx4
          have gx4d : Gr w1 x4.drew := gx4.drew
          clear hTP
          obtain ⟨j4, k40, k41, k42, f41, f42⟩ := TP4.last (t := 85) dx4d .i64
          obtain ⟨x5, C5, hs5, of5, dx5, gx5, TP5⟩ := TP4.set (t := 85) (⟨1, 1, []⟩, .slice none 0 0) 1 (.int .u8 1) rfl (by omega) gx4d rfl dx4d
          obtain ⟨zs5, hz5, rfl⟩ := of5.lit rfl
          obtain ⟨r23, r24, r25, r26, r27, r28, r29, r30, r31, r32, r33, r34, rfl⟩ := len12 hz5
          have ce5 : ([.slice a8 n8 m8, .slice a9 n9 m9, .int .u16 (bt l 0 * 256 + bt l 1), .int .u16 (bt l 2 * 256 + bt l 3), .int .u32 (bt l 4 * 16777216 + bt l 5 * 65536 + bt l 6 * 256 + bt l 7), .int .u32 (bt l 8 * 16777216 + bt l 9 * 65536 + bt l 10 * 256 + bt l 11), .int .u8 (W : Int), .bool (fb (bt l 13) 1), .bool (fb (bt l 13) 2), .bool (fb (bt l 13) 4), .bool (fb (bt l 13) 8), .bool (fb (bt l 13) 16), .bool (fb (bt l 13) 32), .bool (fb (bt l 13) 64), .bool (fb (bt l 13) 128), .bool (fb (bt l 12) 1), .int .u16 (bt l 14 * 256 + bt l 15), .int .u16 (bt l 16 * 256 + bt l 17), .int .u16 (bt l 18 * 256 + bt l 19), .slice a1 n1 m1, .slice a2 n2 m2, .slice (some ⟨g4, f4, none⟩) (nr + 1) cp4, .slice none 0 0, u23, u24, u25, u26, u27, u28, u29, u30, u31, u32, u33, u34, y35] : List Value).take 23 ++ ([r23, r24, r25, r26, r27, r28, r29, r30, r31, r32, r33, r34] ++ ([.slice a8 n8 m8, .slice a9 n9 m9, .int .u16 (bt l 0 * 256 + bt l 1), .int .u16 (bt l 2 * 256 + bt l 3), .int .u32 (bt l 4 * 16777216 + bt l 5 * 65536 + bt l 6 * 256 + bt l 7), .int .u32 (bt l 8 * 16777216 + bt l 9 * 65536 + bt l 10 * 256 + bt l 11), .int .u8 (W : Int), .bool (fb (bt l 13) 1), .bool (fb (bt l 13) 2), .bool (fb (bt l 13) 4), .bool (fb (bt l 13) 8), .bool (fb (bt l 13) 16), .bool (fb (bt l 13) 32), .bool (fb (bt l 13) 64), .bool (fb (bt l 13) 128), .bool (fb (bt l 12) 1), .int .u16 (bt l 14 * 256 + bt l 15), .int .u16 (bt l 16 * 256 + bt l 17), .int .u16 (bt l 18 * 256 + bt l 19), .slice a1 n1 m1, .slice a2 n2 m2, .slice (some ⟨g4, f4, none⟩) (nr + 1) cp4, .slice none 0 0, u23, u24, u25, u26, u27, u28, u29, u30, u31, u32, u33, u34, y35] : List Value).drop 35) = [.slice a8 n8 m8, .slice a9 n9 m9, .int .u16 (bt l 0 * 256 + bt l 1), .int .u16 (bt l 2 * 256 + bt l 3), .int .u32 (bt l 4 * 16777216 + bt l 5 * 65536 + bt l 6 * 256 + bt l 7), .int .u32 (bt l 8 * 16777216 + bt l 9 * 65536 + bt l 10 * 256 + bt l 11), .int .u8 (W : Int), .bool (fb (bt l 13) 1), .bool (fb (bt l 13) 2), .bool (fb (bt l 13) 4), .bool (fb (bt l 13) 8), .bool (fb (bt l 13) 16), .bool (fb (bt l 13) 32), .bool (fb (bt l 13) 64), .bool (fb (bt l 13) 128), .bool (fb (bt l 12) 1), .int .u16 (bt l 14 * 256 + bt l 15), .int .u16 (bt l 16 * 256 + bt l 17), .int .u16 (bt l 18 * 256 + bt l 19), .slice a1 n1 m1, .slice a2 n2 m2, .slice (some ⟨g4, f4, none⟩) (nr + 1) cp4, .slice none 0 0, r23, r24, r25, r26, r27, r28, r29, r30, r31, r32, r33, r34, y35] := rfl
          rw [ce5] at hs5 TP5
          clear ce5 of5
          obtain ⟨j5, k50, k51, k52, f51, f52⟩ := TP5.last (t := 85) dx5 .i64
          have hnr := HNR.out.1
          rw [← hnr] at j4 j5
          have hrl' : nr ≤ 200 := by rw [hnr]; exact hrl
          have hsb : IntKind.i64.wrap (((nr + 1 : Nat) : Int) - 1) = (nr : Int) := by rw [w64 (by omega) (by omega)]; omega
          have hsc : IntKind.i64.wrap (nr : Int) = (nr : Int) := w64 (by omega) (by omega)
          have hsd : IntKind.i64.wrap ((nr : Int) + 1 - 1) = (nr : Int) := by rw [w64 (by omega) (by omega)]; omega
          have k21 := rowW_cell (cs := [.slice a8 n8 m8, .slice a9 n9 m9, .int .u16 (bt l 0 * 256 + bt l 1), .int .u16 (bt l 2 * 256 + bt l 3), .int .u32 (bt l 4 * 16777216 + bt l 5 * 65536 + bt l 6 * 256 + bt l 7), .int .u32 (bt l 8 * 16777216 + bt l 9 * 65536 + bt l 10 * 256 + bt l 11), .int .u8 (W : Int), .bool (fb (bt l 13) 1), .bool (fb (bt l 13) 2), .bool (fb (bt l 13) 4), .bool (fb (bt l 13) 8), .bool (fb (bt l 13) 16), .bool (fb (bt l 13) 32), .bool (fb (bt l 13) 64), .bool (fb (bt l 13) 128), .bool (fb (bt l 12) 1), .int .u16 (bt l 14 * 256 + bt l 15), .int .u16 (bt l 16 * 256 + bt l 17), .int .u16 (bt l 18 * 256 + bt l 19), .slice a1 n1 m1, .slice a2 n2 m2, .slice (some ⟨g4, f4, none⟩) (nr + 1) cp4, .slice none 0 0, u23, u24, u25, u26, u27, u28, u29, u30, u31, u32, u33, u34, y35]) (e := 85) dx4 21
          have HT5 := Lib.hid (And.intro TP5 gx5)
          have HT4 := Lib.hid TP4
          clear TP4 TP5 hnr gx5 j5
          go_wp2_with fail
          go_region_held3 (fun w' => w'.cell? ⟨D, 21, none⟩ = some (.slice (some ⟨g4, f4, none⟩) (nr + 1) cp4)) (first | exact k21 | go_keep) (fail)
          go_wp2_with fail
          go_roundw
          case rel =>
            exact ⟨k + 1, rs ++ [((⟨1, 1, []⟩ : Opt), (.slice none 0 0 : Value))], x5, .slice (some ⟨g4, f4, none⟩) (nr + 1) cp4, [r23, r24, r25, r26, r27, r28, r29, r30, r31, r32, r33, r34], a', n', m', HLT.out, rfl, by rw [rest_eq, ← HR'.out]; exact HI'.out, HNE'.out, rfl, rfl, dx5, HT5.out.2, HT5.out.1.1, by rw [List.map_append, HRS.out, opt_take HLT.out, ← HXO.out]; rfl, fun p hp => (List.mem_append.1 hp).elim (HIN.out p) (fun h1 => by rw [List.mem_singleton.1 h1]; exact ⟨isB_nil, .inr rfl⟩)⟩
          case measure => have := HI'.out.count; have := HRL.out; show n' < n; omega
        · go_simp
          refine hK.out _ _ (Gr.cell (((Gr.refl _).drew).alloc _) ((rowW_cell_other (cs := [.slice a8 n8 m8, .slice a9 n9 m9, .int .u16 (bt l 0 * 256 + bt l 1), .int .u16 (bt l 2 * 256 + bt l 3), .int .u32 (bt l 4 * 16777216 + bt l 5 * 65536 + bt l 6 * 256 + bt l 7), .int .u32 (bt l 8 * 16777216 + bt l 9 * 65536 + bt l 10 * 256 + bt l 11), .int .u8 (W : Int), .bool (fb (bt l 13) 1), .bool (fb (bt l 13) 2), .bool (fb (bt l 13) 4), .bool (fb (bt l 13) 8), .bool (fb (bt l 13) 16), .bool (fb (bt l 13) 32), .bool (fb (bt l 13) 64), .bool (fb (bt l 13) 128), .bool (fb (bt l 12) 1), .int .u16 (bt l 14 * 256 + bt l 15), .int .u16 (bt l 16 * 256 + bt l 17), .int .u16 (bt l 18 * 256 + bt l 19), .slice a1 n1 m1, .slice a2 n2 m2, v, .slice none 0 0, z23, z24, z25, z26, z27, z28, z29, z30, z31, z32, z33, z34, y35]) (e := 85) ei).trans ci)) (fun hHeld => ?_)
          clear hK K
          try simp only [Act.put, List.getElem_toArray, List.getElem_cons_succ, List.getElem_cons_zero, List.setIfInBounds_toArray, List.set_cons_zero, List.set_cons_succ]
          refine wpAnyH_ready (rs := [4]) (by kernel_rfl) (by simp) ((AllReadyH.cons rfl (fun K hK => ?_) AllReadyH.nil))
          refine step_loadc (by rfl) 75 (.tmp 225) (by rfl) D 21 (by first | rfl | simp) v 78 Try.underlying75 (Gr.cell (((Gr.refl _).drew).alloc _) (rowW_cell (cs := [.slice a8 n8 m8, .slice a9 n9 m9, .int .u16 (bt l 0 * 256 + bt l 1), .int .u16 (bt l 2 * 256 + bt l 3), .int .u32 (bt l 4 * 16777216 + bt l 5 * 65536 + bt l 6 * 256 + bt l 7), .int .u32 (bt l 8 * 16777216 + bt l 9 * 65536 + bt l 10 * 256 + bt l 11), .int .u8 (W : Int), .bool (fb (bt l 13) 1), .bool (fb (bt l 13) 2), .bool (fb (bt l 13) 4), .bool (fb (bt l 13) 8), .bool (fb (bt l 13) 16), .bool (fb (bt l 13) 32), .bool (fb (bt l 13) 64), .bool (fb (bt l 13) 128), .bool (fb (bt l 12) 1), .int .u16 (bt l 14 * 256 + bt l 15), .int .u16 (bt l 16 * 256 + bt l 17), .int .u16 (bt l 18 * 256 + bt l 19), .slice a1 n1 m1, .slice a2 n2 m2, v, .slice none 0 0, z23, z24, z25, z26, z27, z28, z29, z30, z31, z32, z33, z34, y35]) (e := 85) hX 21)) ?_
          refine hK.out _ _ (Gr.cell (((Gr.refl _).drew).alloc _) ((rowW_cell_other (cs := [.slice a8 n8 m8, .slice a9 n9 m9, .int .u16 (bt l 0 * 256 + bt l 1), .int .u16 (bt l 2 * 256 + bt l 3), .int .u32 (bt l 4 * 16777216 + bt l 5 * 65536 + bt l 6 * 256 + bt l 7), .int .u32 (bt l 8 * 16777216 + bt l 9 * 65536 + bt l 10 * 256 + bt l 11), .int .u8 (W : Int), .bool (fb (bt l 13) 1), .bool (fb (bt l 13) 2), .bool (fb (bt l 13) 4), .bool (fb (bt l 13) 8), .bool (fb (bt l 13) 16), .bool (fb (bt l 13) 32), .bool (fb (bt l 13) 64), .bool (fb (bt l 13) 128), .bool (fb (bt l 12) 1), .int .u16 (bt l 14 * 256 + bt l 15), .int .u16 (bt l 16 * 256 + bt l 17), .int .u16 (bt l 18 * 256 + bt l 19), .slice a1 n1 m1, .slice a2 n2 m2, v, .slice none 0 0, z23, z24, z25, z26, z27, z28, z29, z30, z31, z32, z33, z34, y35]) (e := 85) ei).trans ci)) (fun hHeld => ?_)
          clear hK K
          try simp only [Act.put, List.getElem_toArray, List.getElem_cons_succ, List.getElem_cons_zero, List.setIfInBounds_toArray, List.set_cons_zero, List.set_cons_succ]
          refine wpAnyH_ready (rs := [10]) (by kernel_rfl) (by simp) ((AllReadyH.cons rfl (fun K hK => ?_) AllReadyH.nil))
          refine step_appT (x := x) (U := x.drew.alloc (.cells #[.int .u8 1, .int .u8 0, .slice none 0 0] 78)) (wb := w1) (D := D) (C := [.slice a8 n8 m8, .slice a9 n9 m9, .int .u16 (bt l 0 * 256 + bt l 1), .int .u16 (bt l 2 * 256 + bt l 3), .int .u32 (bt l 4 * 16777216 + bt l 5 * 65536 + bt l 6 * 256 + bt l 7), .int .u32 (bt l 8 * 16777216 + bt l 9 * 65536 + bt l 10 * 256 + bt l 11), .int .u8 (W : Int), .bool (fb (bt l 13) 1), .bool (fb (bt l 13) 2), .bool (fb (bt l 13) 4), .bool (fb (bt l 13) 8), .bool (fb (bt l 13) 16), .bool (fb (bt l 13) 32), .bool (fb (bt l 13) 64), .bool (fb (bt l 13) 128), .bool (fb (bt l 12) 1), .int .u16 (bt l 14 * 256 + bt l 15), .int .u16 (bt l 16 * 256 + bt l 17), .int .u16 (bt l 18 * 256 + bt l 19), .slice a1 n1 m1, .slice a2 n2 m2, v, .slice none 0 0, z23, z24, z25, z26, z27, z28, z29, z30, z31, z32, z33, z34, y35]) (t := 85) (base := w1.heap.size) rfl (.tmp 226) (.tmp 231) rfl (rowW_allocT (show Has x.drew D from hX) _) (by first | rfl | simp [Act.eval]) HTL.out (((Gr.refl _).drew).alloc _) HG.out rfl hX hrl x.heap.size 1 (⟨1, 0, []⟩, .slice none 0 0) (by first | rfl | simp [Act.eval]) (box3 (rowW_size (w := x)).symm _ _ _ _).1 (box3 (rowW_size (w := x)).symm _ _ _ _).2.1 (box3 (rowW_size (w := x)).symm _ _ _ _).2.2 rfl ?_
          intro v4 x4 C4 g4 q4 hof4 dx4 gx4 hTP
          obtain ⟨f4, cp4, hv4, hq4⟩ := id hTP.2
          subst hv4
          obtain ⟨nr, hnr⟩ : ∃ nr, nr = rs.length := ⟨_, rfl⟩
          have HNR := Lib.hid (And.intro hnr hq4)
          rw [← hnr] at hTP ⊢
          clear hnr hq4
          obtain ⟨zs4, hz4, rfl⟩ := hof4.lit rfl
          obtain ⟨u23, u24, u25, u26, u27, u28, u29, u30, u31, u32, u33, u34, rfl⟩ := len12 hz4
          have ce4 : ([.slice a8 n8 m8, .slice a9 n9 m9, .int .u16 (bt l 0 * 256 + bt l 1), .int .u16 (bt l 2 * 256 + bt l 3), .int .u32 (bt l 4 * 16777216 + bt l 5 * 65536 + bt l 6 * 256 + bt l 7), .int .u32 (bt l 8 * 16777216 + bt l 9 * 65536 + bt l 10 * 256 + bt l 11), .int .u8 (W : Int), .bool (fb (bt l 13) 1), .bool (fb (bt l 13) 2), .bool (fb (bt l 13) 4), .bool (fb (bt l 13) 8), .bool (fb (bt l 13) 16), .bool (fb (bt l 13) 32), .bool (fb (bt l 13) 64), .bool (fb (bt l 13) 128), .bool (fb (bt l 12) 1), .int .u16 (bt l 14 * 256 + bt l 15), .int .u16 (bt l 16 * 256 + bt l 17), .int .u16 (bt l 18 * 256 + bt l 19), .slice a1 n1 m1, .slice a2 n2 m2, v, .slice none 0 0, z23, z24, z25, z26, z27, z28, z29, z30, z31, z32, z33, z34, y35] : List Value).take 23 ++ ([u23, u24, u25, u26, u27, u28, u29, u30, u31, u32, u33, u34] ++ ([.slice a8 n8 m8, .slice a9 n9 m9, .int .u16 (bt l 0 * 256 + bt l 1), .int .u16 (bt l 2 * 256 + bt l 3), .int .u32 (bt l 4 * 16777216 + bt l 5 * 65536 + bt l 6 * 256 + bt l 7), .int .u32 (bt l 8 * 16777216 + bt l 9 * 65536 + bt l 10 * 256 + bt l 11), .int .u8 (W : Int), .bool (fb (bt l 13) 1), .bool (fb (bt l 13) 2), .bool (fb (bt l 13) 4), .bool (fb (bt l 13) 8), .bool (fb (bt l 13) 16), .bool (fb (bt l 13) 32), .bool (fb (bt l 13) 64), .bool (fb (bt l 13) 128), .bool (fb (bt l 12) 1), .int .u16 (bt l 14 * 256 + bt l 15), .int .u16 (bt l 16 * 256 + bt l 17), .int .u16 (bt l 18 * 256 + bt l 19), .slice a1 n1 m1, .slice a2 n2 m2, v, .slice none 0 0, z23, z24, z25, z26, z27, z28, z29, z30, z31, z32, z33, z34, y35] : List Value).drop 35) = [.slice a8 n8 m8, .slice a9 n9 m9, .int .u16 (bt l 0 * 256 + bt l 1), .int .u16 (bt l 2 * 256 + bt l 3), .int .u32 (bt l 4 * 16777216 + bt l 5 * 65536 + bt l 6 * 256 + bt l 7), .int .u32 (bt l 8 * 16777216 + bt l 9 * 65536 + bt l 10 * 256 + bt l 11), .int .u8 (W : Int), .bool (fb (bt l 13) 1), .bool (fb (bt l 13) 2), .bool (fb (bt l 13) 4), .bool (fb (bt l 13) 8), .bool (fb (bt l 13) 16), .bool (fb (bt l 13) 32), .bool (fb (bt l 13) 64), .bool (fb (bt l 13) 128), .bool (fb (bt l 12) 1), .int .u16 (bt l 14 * 256 + bt l 15), .int .u16 (bt l 16 * 256 + bt l 17), .int .u16 (bt l 18 * 256 + bt l 19), .slice a1 n1 m1, .slice a2 n2 m2, v, .slice none 0 0, u23, u24, u25, u26, u27, u28, u29, u30, u31, u32, u33, u34, y35] := rfl
          rw [ce4] at hTP ⊢
          clear ce4 hof4
          refine hK.out _ _ ((rowW_cell_other ei).trans (gx4.cell ciw)) (fun hHeld => ?_)
          clear hK K
          try simp only [Act.put, List.getElem_toArray, List.getElem_cons_succ, List.getElem_cons_zero, List.setIfInBounds_toArray, List.set_cons_zero, List.set_cons_succ]
          refine wpAnyH_take (i := 11) (v := .pointer (some ⟨D, 0, none⟩)) rfl (by kernel_rfl) (by kernel_rfl) (by kernel_rfl) (fun _ _ _ h => h) (Or.inl ⟨by rfl, fun w' hS => ?_⟩) (by assumption) ?_
          · have c0 := hS
            clear hHeld
            go_simp
          try simp only [Act.put, List.getElem_toArray, List.getElem_cons_succ, List.getElem_cons_zero, List.setIfInBounds_toArray, List.set_cons_zero, List.set_cons_succ]
          refine wpAnyH_take (i := 12) (v := .pointer (some ⟨D, 21, none⟩)) rfl (by kernel_rfl) (by kernel_rfl) (by kernel_rfl) (fun _ _ _ h => h) (Or.inl ⟨by rfl, fun w' hS => ?_⟩) (by assumption) ?_
          · have c0 := hS
            clear hHeld
            go_simp
          try simp only [Act.put, List.getElem_toArray, List.getElem_cons_succ, List.getElem_cons_zero, List.setIfInBounds_toArray, List.set_cons_zero, List.set_cons_succ]
          refine wpAnyH_ready (rs := [13]) (by kernel_rfl) (by simp) ((AllReadyH.cons rfl (fun K hK => ?_) AllReadyH.nil))
          go_simp
          refine hK.out _ _ ((rowW_cell_other ei).trans (gx4.cell ciw)) (fun hHeld => ?_)
          clear hK K
          try simp only [Act.put, List.getElem_toArray, List.getElem_cons_succ, List.getElem_cons_zero, List.setIfInBounds_toArray, List.set_cons_zero, List.set_cons_succ]
          refine wpAnyH_done (by kernel_rfl) ?_ _
          clear hHeld
          have TP4 := (hTP.swap (C' := [.slice a8 n8 m8, .slice a9 n9 m9, .int .u16 (bt l 0 * 256 + bt l 1), .int .u16 (bt l 2 * 256 + bt l 3), .int .u32 (bt l 4 * 16777216 + bt l 5 * 65536 + bt l 6 * 256 + bt l 7), .int .u32 (bt l 8 * 16777216 + bt l 9 * 65536 + bt l 10 * 256 + bt l 11), .int .u8 (W : Int), .bool (fb (bt l 13) 1), .bool (fb (bt l 13) 2), .bool (fb (bt l 13) 4), .bool (fb (bt l 13) 8), .bool (fb (bt l 13) 16), .bool (fb (bt l 13) 32), .bool (fb (bt l 13) 64), .bool (fb (bt l 13) 128), .bool (fb (bt l 12) 1), .int .u16 (bt l 14 * 256 + bt l 15), .int .u16 (bt l 16 * 256 + bt l 17), .int .u16 (bt l 18 * 256 + bt l 19), .slice a1 n1 m1, .slice a2 n2 m2, .slice (some ⟨g4, f4, none⟩) (nr + 1) cp4, .slice none 0 0, u23, u24, u25, u26, u27, u28, u29, u30, u31, u32, u33, u34, y35]) rfl rfl).gr ((Gr.refl x4).drew)
          have dx4d : Has x4.drew D := dx4
          have gx4d : Gr w1 x4.drew := gx4.drew
          clear hTP
          obtain ⟨j4, k40, k41, k42, f41, f42⟩ := TP4.last (t := 85) dx4d .i64
          obtain ⟨x5, C5, hs5, of5, dx5, gx5, TP5⟩ := TP4.set (t := 85) (⟨1, 1, []⟩, .slice none 0 0) 1 (.int .u8 1) rfl (by omega) gx4d rfl dx4d
          obtain ⟨zs5, hz5, rfl⟩ := of5.lit rfl
          obtain ⟨r23, r24, r25, r26, r27, r28, r29, r30, r31, r32, r33, r34, rfl⟩ := len12 hz5
          have ce5 : ([.slice a8 n8 m8, .slice a9 n9 m9, .int .u16 (bt l 0 * 256 + bt l 1), .int .u16 (bt l 2 * 256 + bt l 3), .int .u32 (bt l 4 * 16777216 + bt l 5 * 65536 + bt l 6 * 256 + bt l 7), .int .u32 (bt l 8 * 16777216 + bt l 9 * 65536 + bt l 10 * 256 + bt l 11), .int .u8 (W : Int), .bool (fb (bt l 13) 1), .bool (fb (bt l 13) 2), .bool (fb (bt l 13) 4), .bool (fb (bt l 13) 8), .bool (fb (bt l 13) 16), .bool (fb (bt l 13) 32), .bool (fb (bt l 13) 64), .bool (fb (bt l 13) 128), .bool (fb (bt l 12) 1), .int .u16 (bt l 14 * 256 + bt l 15), .int .u16 (bt l 16 * 256 + bt l 17), .int .u16 (bt l 18 * 256 + bt l 19), .slice a1 n1 m1, .slice a2 n2 m2, .slice (some ⟨g4, f4, none⟩) (nr + 1) cp4, .slice none 0 0, u23, u24, u25, u26, u27, u28, u29, u30, u31, u32, u33, u34, y35] : List Value).take 23 ++ ([r23, r24, r25, r26, r27, r28, r29, r30, r31, r32, r33, r34] ++ ([.slice a8 n8 m8, .slice a9 n9 m9, .int .u16 (bt l 0 * 256 + bt l 1), .int .u16 (bt l 2 * 256 + bt l 3), .int .u32 (bt l 4 * 16777216 + bt l 5 * 65536 + bt l 6 * 256 + bt l 7), .int .u32 (bt l 8 * 16777216 + bt l 9 * 65536 + bt l 10 * 256 + bt l 11), .int .u8 (W : Int), .bool (fb (bt l 13) 1), .bool (fb (bt l 13) 2), .bool (fb (bt l 13) 4), .bool (fb (bt l 13) 8), .bool (fb (bt l 13) 16), .bool (fb (bt l 13) 32), .bool (fb (bt l 13) 64), .bool (fb (bt l 13) 128), .bool (fb (bt l 12) 1), .int .u16 (bt l 14 * 256 + bt l 15), .int .u16 (bt l 16 * 256 + bt l 17), .int .u16 (bt l 18 * 256 + bt l 19), .slice a1 n1 m1, .slice a2 n2 m2, .slice (some ⟨g4, f4, none⟩) (nr + 1) cp4, .slice none 0 0, u23, u24, u25, u26, u27, u28, u29, u30, u31, u32, u33, u34, y35] : List Value).drop 35) = [.slice a8 n8 m8, .slice a9 n9 m9, .int .u16 (bt l 0 * 256 + bt l 1), .int .u16 (bt l 2 * 256 + bt l 3), .int .u32 (bt l 4 * 16777216 + bt l 5 * 65536 + bt l 6 * 256 + bt l 7), .int .u32 (bt l 8 * 16777216 + bt l 9 * 65536 + bt l 10 * 256 + bt l 11), .int .u8 (W : Int), .bool (fb (bt l 13) 1), .bool (fb (bt l 13) 2), .bool (fb (bt l 13) 4), .bool (fb (bt l 13) 8), .bool (fb (bt l 13) 16), .bool (fb (bt l 13) 32), .bool (fb (bt l 13) 64), .bool (fb (bt l 13) 128), .bool (fb (bt l 12) 1), .int .u16 (bt l 14 * 256 + bt l 15), .int .u16 (bt l 16 * 256 + bt l 17), .int .u16 (bt l 18 * 256 + bt l 19), .slice a1 n1 m1, .slice a2 n2 m2, .slice (some ⟨g4, f4, none⟩) (nr + 1) cp4, .slice none 0 0, r23, r24, r25, r26, r27, r28, r29, r30, r31, r32, r33, r34, y35] := rfl
          rw [ce5] at hs5 TP5
          clear ce5 of5
          obtain ⟨j5, k50, k51, k52, f51, f52⟩ := TP5.last (t := 85) dx5 .i64
          have hnr := HNR.out.1
          rw [← hnr] at j4 j5
          have hrl' : nr ≤ 200 := by rw [hnr]; exact hrl
          have hsb : IntKind.i64.wrap (((nr + 1 : Nat) : Int) - 1) = (nr : Int) := by rw [w64 (by omega) (by omega)]; omega
          have hsc : IntKind.i64.wrap (nr : Int) = (nr : Int) := w64 (by omega) (by omega)
          have hsd : IntKind.i64.wrap ((nr : Int) + 1 - 1) = (nr : Int) := by rw [w64 (by omega) (by omega)]; omega
          have k21 := rowW_cell (cs := [.slice a8 n8 m8, .slice a9 n9 m9, .int .u16 (bt l 0 * 256 + bt l 1), .int .u16 (bt l 2 * 256 + bt l 3), .int .u32 (bt l 4 * 16777216 + bt l 5 * 65536 + bt l 6 * 256 + bt l 7), .int .u32 (bt l 8 * 16777216 + bt l 9 * 65536 + bt l 10 * 256 + bt l 11), .int .u8 (W : Int), .bool (fb (bt l 13) 1), .bool (fb (bt l 13) 2), .bool (fb (bt l 13) 4), .bool (fb (bt l 13) 8), .bool (fb (bt l 13) 16), .bool (fb (bt l 13) 32), .bool (fb (bt l 13) 64), .bool (fb (bt l 13) 128), .bool (fb (bt l 12) 1), .int .u16 (bt l 14 * 256 + bt l 15), .int .u16 (bt l 16 * 256 + bt l 17), .int .u16 (bt l 18 * 256 + bt l 19), .slice a1 n1 m1, .slice a2 n2 m2, .slice (some ⟨g4, f4, none⟩) (nr + 1) cp4, .slice none 0 0, u23, u24, u25, u26, u27, u28, u29, u30, u31, u32, u33, u34, y35]) (e := 85) dx4 21
          have HT5 := Lib.hid (And.intro TP5 gx5)
          have HT4 := Lib.hid TP4
          clear TP4 TP5 hnr gx5 j5
          go_wp2_with fail
          go_region_held3 (fun w' => w'.cell? ⟨D, 21, none⟩ = some (.slice (some ⟨g4, f4, none⟩) (nr + 1) cp4)) (first | exact k21 | go_keep) (fail)
          go_wp2_with fail
          go_roundw
          case rel =>
            exact ⟨k + 1, rs ++ [((⟨1, 1, []⟩ : Opt), (.slice none 0 0 : Value))], x5, .slice (some ⟨g4, f4, none⟩) (nr + 1) cp4, [r23, r24, r25, r26, r27, r28, r29, r30, r31, r32, r33, r34], a', n', m', HLT.out, rfl, by rw [rest_eq, ← HR'.out]; exact HI'.out, HNE'.out, rfl, rfl, dx5, HT5.out.2, HT5.out.1.1, by rw [List.map_append, HRS.out, opt_take HLT.out, ← HXO.out]; rfl, fun p hp => (List.mem_append.1 hp).elim (HIN.out p) (fun h1 => by rw [List.mem_singleton.1 h1]; exact ⟨isB_nil, .inr rfl⟩)⟩
          case measure => have := HI'.out.count; have := HRL.out; show n' < n; omega
      · have k2 : ln = d.length + 2 := by
          rcases hok1 with h | h
          · exact absurd h.1 k1
          · exact h.2
        have ho : optB ⟨kd, ln, d⟩ = [kd, ln] ++ d := by
          have e1 : kd % 256 = kd := by omega
          have e2 : ln % 256 = ln := by simp only [optB, if_neg k1, List.length_append, List.length_cons, List.length_nil] at hrl2; omega
          simp [optB, k1, e1, e2]
        rw [ho] at hR hrl2
        simp only [List.length_append, List.length_cons, List.length_nil] at hrl2
        obtain ⟨N, hN⟩ : ∃ N, N = d.length + 2 := ⟨_, rfl⟩
        obtain rfl : ln = (N : Int) := by omega
        have hRe : R = kd :: (N : Int) :: (d ++ R') := by rw [hR]; simp
        have b0 : bt R 0 = kd := by rw [hRe]; rfl
        have b1 : bt R 1 = (N : Int) := by rw [hRe]; rfl
        have hRl : n = N + R'.length := by rw [hcn, hRe]; simp; omega
        obtain ⟨bi, oi, ii, ciw, zi⟩ := hI.idx (P := Try.prog) 25 5 i Try.underlying25 hi hz1 .i64 0 0 rfl (by omega)
        obtain ⟨bj, oj, ij, cjw, zj⟩ := hI.idx (P := Try.prog) 25 5 i Try.underlying25 hi hz1 .i64 1 1 rfl (by omega)
        obtain ⟨a', n', m', hI', hbI', si⟩ := hI.cutL (P := Try.prog) 25 5 i Try.underlying25 hi hz1 (N : Int) N rfl (by omega)
        obtain ⟨ad, nd, md, hID, hbD, sd⟩ := hI.cutLH (P := Try.prog) 25 5 i Try.underlying25 hi hz1 2 (N : Int) 2 N rfl rfl (by omega) (by omega)
        have ei : bi ≠ D := by rintro rfl; exact hneA zi
        have ej : bj ≠ D := by rintro rfl; exact hneA zj
        rw [b0] at ciw
        rw [b1] at cjw
        have e3 : R.drop N = R' := by rw [hR, hN, List.append_assoc]; simp
        have e4 : (R.take N).drop 2 = d := by rw [hR, hN, List.append_assoc]; simp
        rw [e3] at hI'
        rw [e4] at hID
        have ci := hG.cell ciw
        have n0 : decide ((0 : Int) < (n : Int)) = true := decide_eq_true (by omega)
        have hn1 : 0 < n := by omega
        have t1 : (kd == 0) = false := by simp; omega
        have t2 : (kd == 1) = false := by simp; omega
        have t3 : decide ((n : Int) < 2) = false := by simp; omega
        have t4 : decide ((n : Int) < (N : Int)) = false := by simp; omega
        have t5 : decide ((N : Int) < 2) = false := by simp; omega
        have t6 : IntKind.i64.wrap (N : Int) = (N : Int) := w64 (by omega) (by omega)
        have HI' := Lib.hid (show IsB w1 (.slice a' n' m') R' from hI')
        have HNE' := Lib.hid (show (Value.slice a' n' m').ownBlock = B by rw [hbI']; exact hBD)
        have HID := Lib.hid (show IsB w1 (.slice ad nd md) d from hID)
        have HNED := Lib.hid (show (Value.slice ad nd md).ownBlock = B by rw [hbD]; exact hBD)
        have HRL := Lib.hid (show R'.length < n by omega)
        have hn4 : N ≤ n := by omega
        have hn5 : 2 ≤ N := by omega
        have HKD := Lib.hid (And.intro hok1 hok2)
        clear hI hI' hID hbI' hbD hR hRe hcn b0 b1 e3 e4 ho hneA zi zj hok1 hok2 hok3 hRl hrl2 hG k2 hN
        go_wp2_with fail
        refine wp_region_held_drew (S := (fun w' => w'.cell? ⟨bi, oi, none⟩ = some (.int .u8 kd))) (by kernel_rfl) ((rowW_cell_other ei).trans ci) (fun hHeld => ?_)
        refine wpAnyH_take (i := 0) (v := .pointer (some ⟨D, 0, none⟩)) rfl (by kernel_rfl) (by kernel_rfl) (by kernel_rfl) (fun _ _ _ h => h) (Or.inl ⟨by rfl, fun w' hS => ?_⟩) (by assumption) ?_
        · have c0 := hS
          clear hHeld
          go_simp
        try simp only [Act.put, List.getElem_toArray, List.getElem_cons_succ, List.getElem_cons_zero, List.setIfInBounds_toArray, List.set_cons_zero, List.set_cons_succ]
        refine wpAnyH_take (i := 1) (v := .pointer (some ⟨D, 0, none⟩)) rfl (by kernel_rfl) (by kernel_rfl) (by kernel_rfl) (fun _ _ _ h => h) (Or.inl ⟨by rfl, fun w' hS => ?_⟩) (by assumption) ?_
        · have c0 := hS
          clear hHeld
          go_simp
        try simp only [Act.put, List.getElem_toArray, List.getElem_cons_succ, List.getElem_cons_zero, List.setIfInBounds_toArray, List.set_cons_zero, List.set_cons_succ]
        refine wpAnyH_take (i := 2) (v := .pointer (some ⟨D, 0, none⟩)) rfl (by kernel_rfl) (by kernel_rfl) (by kernel_rfl) (fun _ _ _ h => h) (Or.inl ⟨by rfl, fun w' hS => ?_⟩) (by assumption) ?_
        · have c0 := hS
          clear hHeld
          go_simp
        try simp only [Act.put, List.getElem_toArray, List.getElem_cons_succ, List.getElem_cons_zero, List.setIfInBounds_toArray, List.set_cons_zero, List.set_cons_succ]
        refine wpAnyH_take (i := 3) (v := .pointer (some ⟨D, 21, none⟩)) rfl (by kernel_rfl) (by kernel_rfl) (by kernel_rfl) (fun _ _ _ h => h) (Or.inl ⟨by rfl, fun w' hS => ?_⟩) (by assumption) ?_
        · have c0 := hS
          clear hHeld
          go_simp
        try simp only [Act.put, List.getElem_toArray, List.getElem_cons_succ, List.getElem_cons_zero, List.setIfInBounds_toArray, List.set_cons_zero, List.set_cons_succ]
        refine wpAnyH_take (i := 5) (v := .slice a n m) rfl (by kernel_rfl) (by kernel_rfl) (by kernel_rfl) (fun _ _ _ h => h) (Or.inl ⟨by rfl, fun w' hS => ?_⟩) (by assumption) ?_
        · have c0 := hS
          clear hHeld
          go_simp
        try simp only [Act.put, List.getElem_toArray, List.getElem_cons_succ, List.getElem_cons_zero, List.setIfInBounds_toArray, List.set_cons_zero, List.set_cons_succ]
        refine wpAnyH_take (i := 6) (v := .pointer (some ⟨bi, oi, none⟩)) rfl (by kernel_rfl) (by kernel_rfl) (by kernel_rfl) (fun _ _ _ h => h) (Or.inl ⟨by rfl, fun w' hS => ?_⟩) (by assumption) ?_
        · have c0 := hS
          clear hHeld
          go_simp
        try simp only [Act.put, List.getElem_toArray, List.getElem_cons_succ, List.getElem_cons_zero, List.setIfInBounds_toArray, List.set_cons_zero, List.set_cons_succ]
        refine wpAnyH_take (i := 7) (v := .int .u8 kd) rfl (by kernel_rfl) (by kernel_rfl) (by kernel_rfl) (fun _ _ _ h => h) (Or.inl ⟨by rfl, fun w' hS => ?_⟩) (by assumption) ?_
        · have c0 := hS
          clear hHeld
          go_simp
        try simp only [Act.put, List.getElem_toArray, List.getElem_cons_succ, List.getElem_cons_zero, List.setIfInBounds_toArray, List.set_cons_zero, List.set_cons_succ]
        refine wpAnyH_take (i := 8) (v := .agg #[.int .u8 kd, .int .u8 0, .slice none 0 0]) rfl (by kernel_rfl) (by kernel_rfl) (by kernel_rfl) (fun _ _ _ h => h) (Or.inl ⟨by rfl, fun w' hS => ?_⟩) (by assumption) ?_
        · have c0 := hS
          clear hHeld
          go_simp
        try simp only [Act.put, List.getElem_toArray, List.getElem_cons_succ, List.getElem_cons_zero, List.setIfInBounds_toArray, List.set_cons_zero, List.set_cons_succ]
        refine wpAnyH_ready (rs := [4, 9]) (by kernel_rfl) (by simp) ((AllReadyH.cons rfl (fun K hK => ?_) (AllReadyH.cons rfl (fun K hK => ?_) AllReadyH.nil)))
        · refine step_loadc (by rfl) 75 (.tmp 225) (by rfl) D 21 (by first | rfl | simp) v 78 Try.underlying75 (rowW_cell (cs := [.slice a8 n8 m8, .slice a9 n9 m9, .int .u16 (bt l 0 * 256 + bt l 1), .int .u16 (bt l 2 * 256 + bt l 3), .int .u32 (bt l 4 * 16777216 + bt l 5 * 65536 + bt l 6 * 256 + bt l 7), .int .u32 (bt l 8 * 16777216 + bt l 9 * 65536 + bt l 10 * 256 + bt l 11), .int .u8 (W : Int), .bool (fb (bt l 13) 1), .bool (fb (bt l 13) 2), .bool (fb (bt l 13) 4), .bool (fb (bt l 13) 8), .bool (fb (bt l 13) 16), .bool (fb (bt l 13) 32), .bool (fb (bt l 13) 64), .bool (fb (bt l 13) 128), .bool (fb (bt l 12) 1), .int .u16 (bt l 14 * 256 + bt l 15), .int .u16 (bt l 16 * 256 + bt l 17), .int .u16 (bt l 18 * 256 + bt l 19), .slice a1 n1 m1, .slice a2 n2 m2, v, .slice none 0 0, z23, z24, z25, z26, z27, z28, z29, z30, z31, z32, z33, z34, y35]) hX 21) ?_
          refine hK.out _ _ ((rowW_cell_other ei).trans ci) (fun hHeld => ?_)
          clear hK K
          try simp only [Act.put, List.getElem_toArray, List.getElem_cons_succ, List.getElem_cons_zero, List.setIfInBounds_toArray, List.set_cons_zero, List.set_cons_succ]
          refine wpAnyH_ready (rs := [9]) (by kernel_rfl) (by simp) ((AllReadyH.cons rfl (fun K hK => ?_) AllReadyH.nil))
          go_simp
          refine hK.out _ _ (Gr.cell (((Gr.refl _).drew).alloc _) ((rowW_cell_other (cs := [.slice a8 n8 m8, .slice a9 n9 m9, .int .u16 (bt l 0 * 256 + bt l 1), .int .u16 (bt l 2 * 256 + bt l 3), .int .u32 (bt l 4 * 16777216 + bt l 5 * 65536 + bt l 6 * 256 + bt l 7), .int .u32 (bt l 8 * 16777216 + bt l 9 * 65536 + bt l 10 * 256 + bt l 11), .int .u8 (W : Int), .bool (fb (bt l 13) 1), .bool (fb (bt l 13) 2), .bool (fb (bt l 13) 4), .bool (fb (bt l 13) 8), .bool (fb (bt l 13) 16), .bool (fb (bt l 13) 32), .bool (fb (bt l 13) 64), .bool (fb (bt l 13) 128), .bool (fb (bt l 12) 1), .int .u16 (bt l 14 * 256 + bt l 15), .int .u16 (bt l 16 * 256 + bt l 17), .int .u16 (bt l 18 * 256 + bt l 19), .slice a1 n1 m1, .slice a2 n2 m2, v, .slice none 0 0, z23, z24, z25, z26, z27, z28, z29, z30, z31, z32, z33, z34, y35]) (e := 85) ei).trans ci)) (fun hHeld => ?_)
          clear hK K
          try simp only [Act.put, List.getElem_toArray, List.getElem_cons_succ, List.getElem_cons_zero, List.setIfInBounds_toArray, List.set_cons_zero, List.set_cons_succ]
          refine wpAnyH_ready (rs := [10]) (by kernel_rfl) (by simp) ((AllReadyH.cons rfl (fun K hK => ?_) AllReadyH.nil))
          refine step_appT (x := x) (U := x.drew.alloc (.cells #[.int .u8 kd, .int .u8 0, .slice none 0 0] 78)) (wb := w1) (D := D) (C := [.slice a8 n8 m8, .slice a9 n9 m9, .int .u16 (bt l 0 * 256 + bt l 1), .int .u16 (bt l 2 * 256 + bt l 3), .int .u32 (bt l 4 * 16777216 + bt l 5 * 65536 + bt l 6 * 256 + bt l 7), .int .u32 (bt l 8 * 16777216 + bt l 9 * 65536 + bt l 10 * 256 + bt l 11), .int .u8 (W : Int), .bool (fb (bt l 13) 1), .bool (fb (bt l 13) 2), .bool (fb (bt l 13) 4), .bool (fb (bt l 13) 8), .bool (fb (bt l 13) 16), .bool (fb (bt l 13) 32), .bool (fb (bt l 13) 64), .bool (fb (bt l 13) 128), .bool (fb (bt l 12) 1), .int .u16 (bt l 14 * 256 + bt l 15), .int .u16 (bt l 16 * 256 + bt l 17), .int .u16 (bt l 18 * 256 + bt l 19), .slice a1 n1 m1, .slice a2 n2 m2, v, .slice none 0 0, z23, z24, z25, z26, z27, z28, z29, z30, z31, z32, z33, z34, y35]) (t := 85) (base := w1.heap.size) rfl (.tmp 226) (.tmp 231) rfl (rowW_allocT (show Has x.drew D from hX) _) (by first | rfl | simp [Act.eval]) HTL.out (((Gr.refl _).drew).alloc _) HG.out rfl hX hrl x.heap.size 1 (⟨kd, 0, []⟩, .slice none 0 0) (by first | rfl | simp [Act.eval]) (box3 (rowW_size (w := x)).symm _ _ _ _).1 (box3 (rowW_size (w := x)).symm _ _ _ _).2.1 (box3 (rowW_size (w := x)).symm _ _ _ _).2.2 rfl ?_
          intro v4 x4 C4 g4 q4 hof4 dx4 gx4 hTP
          obtain ⟨f4, cp4, hv4, hq4⟩ := id hTP.2
          subst hv4
          obtain ⟨nr, hnr⟩ : ∃ nr, nr = rs.length := ⟨_, rfl⟩
          have HNR := Lib.hid (And.intro hnr hq4)
          rw [← hnr] at hTP ⊢
          clear hnr hq4
          obtain ⟨zs4, hz4, rfl⟩ := hof4.lit rfl
          obtain ⟨u23, u24, u25, u26, u27, u28, u29, u30, u31, u32, u33, u34, rfl⟩ := len12 hz4
          have ce4 : ([.slice a8 n8 m8, .slice a9 n9 m9, .int .u16 (bt l 0 * 256 + bt l 1), .int .u16 (bt l 2 * 256 + bt l 3), .int .u32 (bt l 4 * 16777216 + bt l 5 * 65536 + bt l 6 * 256 + bt l 7), .int .u32 (bt l 8 * 16777216 + bt l 9 * 65536 + bt l 10 * 256 + bt l 11), .int .u8 (W : Int), .bool (fb (bt l 13) 1), .bool (fb (bt l 13) 2), .bool (fb (bt l 13) 4), .bool (fb (bt l 13) 8), .bool (fb (bt l 13) 16), .bool (fb (bt l 13) 32), .bool (fb (bt l 13) 64), .bool (fb (bt l 13) 128), .bool (fb (bt l 12) 1), .int .u16 (bt l 14 * 256 + bt l 15), .int .u16 (bt l 16 * 256 + bt l 17), .int .u16 (bt l 18 * 256 + bt l 19), .slice a1 n1 m1, .slice a2 n2 m2, v, .slice none 0 0, z23, z24, z25, z26, z27, z28, z29, z30, z31, z32, z33, z34, y35] : List Value).take 23 ++ ([u23, u24, u25, u26, u27, u28, u29, u30, u31, u32, u33, u34] ++ ([.slice a8 n8 m8, .slice a9 n9 m9, .int .u16 (bt l 0 * 256 + bt l 1), .int .u16 (bt l 2 * 256 + bt l 3), .int .u32 (bt l 4 * 16777216 + bt l 5 * 65536 + bt l 6 * 256 + bt l 7), .int .u32 (bt l 8 * 16777216 + bt l 9 * 65536 + bt l 10 * 256 + bt l 11), .int .u8 (W : Int), .bool (fb (bt l 13) 1), .bool (fb (bt l 13) 2), .bool (fb (bt l 13) 4), .bool (fb (bt l 13) 8), .bool (fb (bt l 13) 16), .bool (fb (bt l 13) 32), .bool (fb (bt l 13) 64), .bool (fb (bt l 13) 128), .bool (fb (bt l 12) 1), .int .u16 (bt l 14 * 256 + bt l 15), .int .u16 (bt l 16 * 256 + bt l 17), .int .u16 (bt l 18 * 256 + bt l 19), .slice a1 n1 m1, .slice a2 n2 m2, v, .slice none 0 0, z23, z24, z25, z26, z27, z28, z29, z30, z31, z32, z33, z34, y35] : List Value).drop 35) = [.slice a8 n8 m8, .slice a9 n9 m9, .int .u16 (bt l 0 * 256 + bt l 1), .int .u16 (bt l 2 * 256 + bt l 3), .int .u32 (bt l 4 * 16777216 + bt l 5 * 65536 + bt l 6 * 256 + bt l 7), .int .u32 (bt l 8 * 16777216 + bt l 9 * 65536 + bt l 10 * 256 + bt l 11), .int .u8 (W : Int), .bool (fb (bt l 13) 1), .bool (fb (bt l 13) 2), .bool (fb (bt l 13) 4), .bool (fb (bt l 13) 8), .bool (fb (bt l 13) 16), .bool (fb (bt l 13) 32), .bool (fb (bt l 13) 64), .bool (fb (bt l 13) 128), .bool (fb (bt l 12) 1), .int .u16 (bt l 14 * 256 + bt l 15), .int .u16 (bt l 16 * 256 + bt l 17), .int .u16 (bt l 18 * 256 + bt l 19), .slice a1 n1 m1, .slice a2 n2 m2, v, .slice none 0 0, u23, u24, u25, u26, u27, u28, u29, u30, u31, u32, u33, u34, y35] := rfl
          rw [ce4] at hTP ⊢
          clear ce4 hof4
          refine hK.out _ _ ((rowW_cell_other ei).trans (gx4.cell ciw)) (fun hHeld => ?_)
          clear hK K
          try simp only [Act.put, List.getElem_toArray, List.getElem_cons_succ, List.getElem_cons_zero, List.setIfInBounds_toArray, List.set_cons_zero, List.set_cons_succ]
          refine wpAnyH_take (i := 11) (v := .pointer (some ⟨D, 0, none⟩)) rfl (by kernel_rfl) (by kernel_rfl) (by kernel_rfl) (fun _ _ _ h => h) (Or.inl ⟨by rfl, fun w' hS => ?_⟩) (by assumption) ?_
          · have c0 := hS
            clear hHeld
            go_simp
          try simp only [Act.put, List.getElem_toArray, List.getElem_cons_succ, List.getElem_cons_zero, List.setIfInBounds_toArray, List.set_cons_zero, List.set_cons_succ]
          refine wpAnyH_take (i := 12) (v := .pointer (some ⟨D, 21, none⟩)) rfl (by kernel_rfl) (by kernel_rfl) (by kernel_rfl) (fun _ _ _ h => h) (Or.inl ⟨by rfl, fun w' hS => ?_⟩) (by assumption) ?_
          · have c0 := hS
            clear hHeld
            go_simp
          try simp only [Act.put, List.getElem_toArray, List.getElem_cons_succ, List.getElem_cons_zero, List.setIfInBounds_toArray, List.set_cons_zero, List.set_cons_succ]
          refine wpAnyH_ready (rs := [13]) (by kernel_rfl) (by simp) ((AllReadyH.cons rfl (fun K hK => ?_) AllReadyH.nil))
          go_simp
          refine hK.out _ _ ((rowW_cell_other ei).trans (gx4.cell ciw)) (fun hHeld => ?_)
          clear hK K
          try simp only [Act.put, List.getElem_toArray, List.getElem_cons_succ, List.getElem_cons_zero, List.setIfInBounds_toArray, List.set_cons_zero, List.set_cons_succ]
          refine wpAnyH_done (by kernel_rfl) ?_ _
          clear hHeld
          have TP4 := (hTP.swap (C' := [.slice a8 n8 m8, .slice a9 n9 m9, .int .u16 (bt l 0 * 256 + bt l 1), .int .u16 (bt l 2 * 256 + bt l 3), .int .u32 (bt l 4 * 16777216 + bt l 5 * 65536 + bt l 6 * 256 + bt l 7), .int .u32 (bt l 8 * 16777216 + bt l 9 * 65536 + bt l 10 * 256 + bt l 11), .int .u8 (W : Int), .bool (fb (bt l 13) 1), .bool (fb (bt l 13) 2), .bool (fb (bt l 13) 4), .bool (fb (bt l 13) 8), .bool (fb (bt l 13) 16), .bool (fb (bt l 13) 32), .bool (fb (bt l 13) 64), .bool (fb (bt l 13) 128), .bool (fb (bt l 12) 1), .int .u16 (bt l 14 * 256 + bt l 15), .int .u16 (bt l 16 * 256 + bt l 17), .int .u16 (bt l 18 * 256 + bt l 19), .slice a1 n1 m1, .slice a2 n2 m2, .slice (some ⟨g4, f4, none⟩) (nr + 1) cp4, .slice none 0 0, u23, u24, u25, u26, u27, u28, u29, u30, u31, u32, u33, u34, y35]) rfl rfl).gr ((Gr.refl x4).drew)
          have dx4d : Has x4.drew D := dx4
          have gx4d : Gr w1 x4.drew := gx4.drew
          clear hTP
          obtain ⟨j4, k40, k41, k42, f41, f42⟩ := TP4.last (t := 85) dx4d .i64
          have hnr := HNR.out.1
          rw [← hnr] at j4
          have hrl' : nr ≤ 200 := by rw [hnr]; exact hrl
          have hsb : IntKind.i64.wrap (((nr + 1 : Nat) : Int) - 1) = (nr : Int) := by rw [w64 (by omega) (by omega)]; omega
          have hsc : IntKind.i64.wrap (nr : Int) = (nr : Int) := w64 (by omega) (by omega)
          have hsd : IntKind.i64.wrap ((nr : Int) + 1 - 1) = (nr : Int) := by rw [w64 (by omega) (by omega)]; omega
          have k21 := rowW_cell (cs := [.slice a8 n8 m8, .slice a9 n9 m9, .int .u16 (bt l 0 * 256 + bt l 1), .int .u16 (bt l 2 * 256 + bt l 3), .int .u32 (bt l 4 * 16777216 + bt l 5 * 65536 + bt l 6 * 256 + bt l 7), .int .u32 (bt l 8 * 16777216 + bt l 9 * 65536 + bt l 10 * 256 + bt l 11), .int .u8 (W : Int), .bool (fb (bt l 13) 1), .bool (fb (bt l 13) 2), .bool (fb (bt l 13) 4), .bool (fb (bt l 13) 8), .bool (fb (bt l 13) 16), .bool (fb (bt l 13) 32), .bool (fb (bt l 13) 64), .bool (fb (bt l 13) 128), .bool (fb (bt l 12) 1), .int .u16 (bt l 14 * 256 + bt l 15), .int .u16 (bt l 16 * 256 + bt l 17), .int .u16 (bt l 18 * 256 + bt l 19), .slice a1 n1 m1, .slice a2 n2 m2, .slice (some ⟨g4, f4, none⟩) (nr + 1) cp4, .slice none 0 0, u23, u24, u25, u26, u27, u28, u29, u30, u31, u32, u33, u34, y35]) (e := 85) dx4 21
          have cj4 := (rowW_cell_other (cs := [.slice a8 n8 m8, .slice a9 n9 m9, .int .u16 (bt l 0 * 256 + bt l 1), .int .u16 (bt l 2 * 256 + bt l 3), .int .u32 (bt l 4 * 16777216 + bt l 5 * 65536 + bt l 6 * 256 + bt l 7), .int .u32 (bt l 8 * 16777216 + bt l 9 * 65536 + bt l 10 * 256 + bt l 11), .int .u8 (W : Int), .bool (fb (bt l 13) 1), .bool (fb (bt l 13) 2), .bool (fb (bt l 13) 4), .bool (fb (bt l 13) 8), .bool (fb (bt l 13) 16), .bool (fb (bt l 13) 32), .bool (fb (bt l 13) 64), .bool (fb (bt l 13) 128), .bool (fb (bt l 12) 1), .int .u16 (bt l 14 * 256 + bt l 15), .int .u16 (bt l 16 * 256 + bt l 17), .int .u16 (bt l 18 * 256 + bt l 19), .slice a1 n1 m1, .slice a2 n2 m2, .slice (some ⟨g4, f4, none⟩) (nr + 1) cp4, .slice none 0 0, u23, u24, u25, u26, u27, u28, u29, u30, u31, u32, u33, u34, y35]) (e := 85) ej).trans (gx4d.cell cjw)
          have HT4 := Lib.hid (And.intro TP4 gx4d)
          clear TP4 hnr
          go_wp2_with fail
          go_region_held3 (fun w' => w'.cell? ⟨D, 21, none⟩ = some (.slice (some ⟨g4, f4, none⟩) (nr + 1) cp4)) (first | exact k21 | go_keep) (fail)
          go_wp2_with fail
          have TP4 := HT4.out.1
          have gx4e := HT4.out.2
          obtain ⟨x5, C5, hs5, of5, dx5, gx5, TP5⟩ := TP4.set (t := 85) ((⟨kd, (N : Int), []⟩ : Opt), (.slice none 0 0 : Value)) 1 (.int .u8 (N : Int)) rfl (by omega) gx4e rfl dx4d
          obtain ⟨zs5, hz5, rfl⟩ := of5.lit rfl
          obtain ⟨r23, r24, r25, r26, r27, r28, r29, r30, r31, r32, r33, r34, rfl⟩ := len12 hz5
          have ce5 : ([.slice a8 n8 m8, .slice a9 n9 m9, .int .u16 (bt l 0 * 256 + bt l 1), .int .u16 (bt l 2 * 256 + bt l 3), .int .u32 (bt l 4 * 16777216 + bt l 5 * 65536 + bt l 6 * 256 + bt l 7), .int .u32 (bt l 8 * 16777216 + bt l 9 * 65536 + bt l 10 * 256 + bt l 11), .int .u8 (W : Int), .bool (fb (bt l 13) 1), .bool (fb (bt l 13) 2), .bool (fb (bt l 13) 4), .bool (fb (bt l 13) 8), .bool (fb (bt l 13) 16), .bool (fb (bt l 13) 32), .bool (fb (bt l 13) 64), .bool (fb (bt l 13) 128), .bool (fb (bt l 12) 1), .int .u16 (bt l 14 * 256 + bt l 15), .int .u16 (bt l 16 * 256 + bt l 17), .int .u16 (bt l 18 * 256 + bt l 19), .slice a1 n1 m1, .slice a2 n2 m2, .slice (some ⟨g4, f4, none⟩) (nr + 1) cp4, .slice none 0 0, u23, u24, u25, u26, u27, u28, u29, u30, u31, u32, u33, u34, y35] : List Value).take 23 ++ ([r23, r24, r25, r26, r27, r28, r29, r30, r31, r32, r33, r34] ++ ([.slice a8 n8 m8, .slice a9 n9 m9, .int .u16 (bt l 0 * 256 + bt l 1), .int .u16 (bt l 2 * 256 + bt l 3), .int .u32 (bt l 4 * 16777216 + bt l 5 * 65536 + bt l 6 * 256 + bt l 7), .int .u32 (bt l 8 * 16777216 + bt l 9 * 65536 + bt l 10 * 256 + bt l 11), .int .u8 (W : Int), .bool (fb (bt l 13) 1), .bool (fb (bt l 13) 2), .bool (fb (bt l 13) 4), .bool (fb (bt l 13) 8), .bool (fb (bt l 13) 16), .bool (fb (bt l 13) 32), .bool (fb (bt l 13) 64), .bool (fb (bt l 13) 128), .bool (fb (bt l 12) 1), .int .u16 (bt l 14 * 256 + bt l 15), .int .u16 (bt l 16 * 256 + bt l 17), .int .u16 (bt l 18 * 256 + bt l 19), .slice a1 n1 m1, .slice a2 n2 m2, .slice (some ⟨g4, f4, none⟩) (nr + 1) cp4, .slice none 0 0, u23, u24, u25, u26, u27, u28, u29, u30, u31, u32, u33, u34, y35] : List Value).drop 35) = [.slice a8 n8 m8, .slice a9 n9 m9, .int .u16 (bt l 0 * 256 + bt l 1), .int .u16 (bt l 2 * 256 + bt l 3), .int .u32 (bt l 4 * 16777216 + bt l 5 * 65536 + bt l 6 * 256 + bt l 7), .int .u32 (bt l 8 * 16777216 + bt l 9 * 65536 + bt l 10 * 256 + bt l 11), .int .u8 (W : Int), .bool (fb (bt l 13) 1), .bool (fb (bt l 13) 2), .bool (fb (bt l 13) 4), .bool (fb (bt l 13) 8), .bool (fb (bt l 13) 16), .bool (fb (bt l 13) 32), .bool (fb (bt l 13) 64), .bool (fb (bt l 13) 128), .bool (fb (bt l 12) 1), .int .u16 (bt l 14 * 256 + bt l 15), .int .u16 (bt l 16 * 256 + bt l 17), .int .u16 (bt l 18 * 256 + bt l 19), .slice a1 n1 m1, .slice a2 n2 m2, .slice (some ⟨g4, f4, none⟩) (nr + 1) cp4, .slice none 0 0, r23, r24, r25, r26, r27, r28, r29, r30, r31, r32, r33, r34, y35] := rfl
          rw [ce5] at hs5 TP5
          clear ce5 of5
          obtain ⟨x6, C6, hs6, of6, dx6, gx6, TP6⟩ := TP5.set (t := 85) ((⟨kd, (N : Int), d⟩ : Opt), (.slice ad nd md : Value)) 2 (.slice ad nd md) rfl (by omega) gx5 rfl dx5
          obtain ⟨zs6, hz6, rfl⟩ := of6.lit rfl
          obtain ⟨s23, s24, s25, s26, s27, s28, s29, s30, s31, s32, s33, s34, rfl⟩ := len12 hz6
          have ce6 : ([.slice a8 n8 m8, .slice a9 n9 m9, .int .u16 (bt l 0 * 256 + bt l 1), .int .u16 (bt l 2 * 256 + bt l 3), .int .u32 (bt l 4 * 16777216 + bt l 5 * 65536 + bt l 6 * 256 + bt l 7), .int .u32 (bt l 8 * 16777216 + bt l 9 * 65536 + bt l 10 * 256 + bt l 11), .int .u8 (W : Int), .bool (fb (bt l 13) 1), .bool (fb (bt l 13) 2), .bool (fb (bt l 13) 4), .bool (fb (bt l 13) 8), .bool (fb (bt l 13) 16), .bool (fb (bt l 13) 32), .bool (fb (bt l 13) 64), .bool (fb (bt l 13) 128), .bool (fb (bt l 12) 1), .int .u16 (bt l 14 * 256 + bt l 15), .int .u16 (bt l 16 * 256 + bt l 17), .int .u16 (bt l 18 * 256 + bt l 19), .slice a1 n1 m1, .slice a2 n2 m2, .slice (some ⟨g4, f4, none⟩) (nr + 1) cp4, .slice none 0 0, r23, r24, r25, r26, r27, r28, r29, r30, r31, r32, r33, r34, y35] : List Value).take 23 ++ ([s23, s24, s25, s26, s27, s28, s29, s30, s31, s32, s33, s34] ++ ([.slice a8 n8 m8, .slice a9 n9 m9, .int .u16 (bt l 0 * 256 + bt l 1), .int .u16 (bt l 2 * 256 + bt l 3), .int .u32 (bt l 4 * 16777216 + bt l 5 * 65536 + bt l 6 * 256 + bt l 7), .int .u32 (bt l 8 * 16777216 + bt l 9 * 65536 + bt l 10 * 256 + bt l 11), .int .u8 (W : Int), .bool (fb (bt l 13) 1), .bool (fb (bt l 13) 2), .bool (fb (bt l 13) 4), .bool (fb (bt l 13) 8), .bool (fb (bt l 13) 16), .bool (fb (bt l 13) 32), .bool (fb (bt l 13) 64), .bool (fb (bt l 13) 128), .bool (fb (bt l 12) 1), .int .u16 (bt l 14 * 256 + bt l 15), .int .u16 (bt l 16 * 256 + bt l 17), .int .u16 (bt l 18 * 256 + bt l 19), .slice a1 n1 m1, .slice a2 n2 m2, .slice (some ⟨g4, f4, none⟩) (nr + 1) cp4, .slice none 0 0, r23, r24, r25, r26, r27, r28, r29, r30, r31, r32, r33, r34, y35] : List Value).drop 35) = [.slice a8 n8 m8, .slice a9 n9 m9, .int .u16 (bt l 0 * 256 + bt l 1), .int .u16 (bt l 2 * 256 + bt l 3), .int .u32 (bt l 4 * 16777216 + bt l 5 * 65536 + bt l 6 * 256 + bt l 7), .int .u32 (bt l 8 * 16777216 + bt l 9 * 65536 + bt l 10 * 256 + bt l 11), .int .u8 (W : Int), .bool (fb (bt l 13) 1), .bool (fb (bt l 13) 2), .bool (fb (bt l 13) 4), .bool (fb (bt l 13) 8), .bool (fb (bt l 13) 16), .bool (fb (bt l 13) 32), .bool (fb (bt l 13) 64), .bool (fb (bt l 13) 128), .bool (fb (bt l 12) 1), .int .u16 (bt l 14 * 256 + bt l 15), .int .u16 (bt l 16 * 256 + bt l 17), .int .u16 (bt l 18 * 256 + bt l 19), .slice a1 n1 m1, .slice a2 n2 m2, .slice (some ⟨g4, f4, none⟩) (nr + 1) cp4, .slice none 0 0, s23, s24, s25, s26, s27, s28, s29, s30, s31, s32, s33, s34, y35] := rfl
          rw [ce6] at hs6 TP6
          clear ce6 of6
          rw [hs5, hs6]
          have HT6 := Lib.hid (And.intro TP6 gx6)
          go_roundw
          case rel =>
            exact ⟨k + 1, rs ++ [((⟨kd, (N : Int), d⟩ : Opt), (.slice ad nd md : Value))], x6, .slice (some ⟨g4, f4, none⟩) (nr + 1) cp4, [s23, s24, s25, s26, s27, s28, s29, s30, s31, s32, s33, s34], a', n', m', HLT.out, rfl, by rw [rest_eq, ← HR'.out]; exact HI'.out, HNE'.out, rfl, rfl, dx6, HT6.out.2, HT6.out.1.1, by rw [List.map_append, HRS.out, opt_take HLT.out, ← HXO.out]; rfl, fun p hp => (List.mem_append.1 hp).elim (HIN.out p) (fun h1 => by rw [List.mem_singleton.1 h1]; exact ⟨HID.out, .inl HNED.out⟩)⟩
          case measure => have := HI'.out.count; have := HRL.out; show n' < n; omega
        · go_simp
          refine hK.out _ _ (Gr.cell (((Gr.refl _).drew).alloc _) ((rowW_cell_other (cs := [.slice a8 n8 m8, .slice a9 n9 m9, .int .u16 (bt l 0 * 256 + bt l 1), .int .u16 (bt l 2 * 256 + bt l 3), .int .u32 (bt l 4 * 16777216 + bt l 5 * 65536 + bt l 6 * 256 + bt l 7), .int .u32 (bt l 8 * 16777216 + bt l 9 * 65536 + bt l 10 * 256 + bt l 11), .int .u8 (W : Int), .bool (fb (bt l 13) 1), .bool (fb (bt l 13) 2), .bool (fb (bt l 13) 4), .bool (fb (bt l 13) 8), .bool (fb (bt l 13) 16), .bool (fb (bt l 13) 32), .bool (fb (bt l 13) 64), .bool (fb (bt l 13) 128), .bool (fb (bt l 12) 1), .int .u16 (bt l 14 * 256 + bt l 15), .int .u16 (bt l 16 * 256 + bt l 17), .int .u16 (bt l 18 * 256 + bt l 19), .slice a1 n1 m1, .slice a2 n2 m2, v, .slice none 0 0, z23, z24, z25, z26, z27, z28, z29, z30, z31, z32, z33, z34, y35]) (e := 85) ei).trans ci)) (fun hHeld => ?_)
          clear hK K
          try simp only [Act.put, List.getElem_toArray, List.getElem_cons_succ, List.getElem_cons_zero, List.setIfInBounds_toArray, List.set_cons_zero, List.set_cons_succ]
          refine wpAnyH_ready (rs := [4]) (by kernel_rfl) (by simp) ((AllReadyH.cons rfl (fun K hK => ?_) AllReadyH.nil))
          refine step_loadc (by rfl) 75 (.tmp 225) (by rfl) D 21 (by first | rfl | simp) v 78 Try.underlying75 (Gr.cell (((Gr.refl _).drew).alloc _) (rowW_cell (cs := [.slice a8 n8 m8, .slice a9 n9 m9, .int .u16 (bt l 0 * 256 + bt l 1), .int .u16 (bt l 2 * 256 + bt l 3), .int .u32 (bt l 4 * 16777216 + bt l 5 * 65536 + bt l 6 * 256 + bt l 7), .int .u32 (bt l 8 * 16777216 + bt l 9 * 65536 + bt l 10 * 256 + bt l 11), .int .u8 (W : Int), .bool (fb (bt l 13) 1), .bool (fb (bt l 13) 2), .bool (fb (bt l 13) 4), .bool (fb (bt l 13) 8), .bool (fb (bt l 13) 16), .bool (fb (bt l 13) 32), .bool (fb (bt l 13) 64), .bool (fb (bt l 13) 128), .bool (fb (bt l 12) 1), .int .u16 (bt l 14 * 256 + bt l 15), .int .u16 (bt l 16 * 256 + bt l 17), .int .u16 (bt l 18 * 256 + bt l 19), .slice a1 n1 m1, .slice a2 n2 m2, v, .slice none 0 0, z23, z24, z25, z26, z27, z28, z29, z30, z31, z32, z33, z34, y35]) (e := 85) hX 21)) ?_
          refine hK.out _ _ (Gr.cell (((Gr.refl _).drew).alloc _) ((rowW_cell_other (cs := [.slice a8 n8 m8, .slice a9 n9 m9, .int .u16 (bt l 0 * 256 + bt l 1), .int .u16 (bt l 2 * 256 + bt l 3), .int .u32 (bt l 4 * 16777216 + bt l 5 * 65536 + bt l 6 * 256 + bt l 7), .int .u32 (bt l 8 * 16777216 + bt l 9 * 65536 + bt l 10 * 256 + bt l 11), .int .u8 (W : Int), .bool (fb (bt l 13) 1), .bool (fb (bt l 13) 2), .bool (fb (bt l 13) 4), .bool (fb (bt l 13) 8), .bool (fb (bt l 13) 16), .bool (fb (bt l 13) 32), .bool (fb (bt l 13) 64), .bool (fb (bt l 13) 128), .bool (fb (bt l 12) 1), .int .u16 (bt l 14 * 256 + bt l 15), .int .u16 (bt l 16 * 256 + bt l 17), .int .u16 (bt l 18 * 256 + bt l 19), .slice a1 n1 m1, .slice a2 n2 m2, v, .slice none 0 0, z23, z24, z25, z26, z27, z28, z29, z30, z31, z32, z33, z34, y35]) (e := 85) ei).trans ci)) (fun hHeld => ?_)
          clear hK K
          try simp only [Act.put, List.getElem_toArray, List.getElem_cons_succ, List.getElem_cons_zero, List.setIfInBounds_toArray, List.set_cons_zero, List.set_cons_succ]
          refine wpAnyH_ready (rs := [10]) (by kernel_rfl) (by simp) ((AllReadyH.cons rfl (fun K hK => ?_) AllReadyH.nil))
          refine step_appT (x := x) (U := x.drew.alloc (.cells #[.int .u8 kd, .int .u8 0, .slice none 0 0] 78)) (wb := w1) (D := D) (C := [.slice a8 n8 m8, .slice a9 n9 m9, .int .u16 (bt l 0 * 256 + bt l 1), .int .u16 (bt l 2 * 256 + bt l 3), .int .u32 (bt l 4 * 16777216 + bt l 5 * 65536 + bt l 6 * 256 + bt l 7), .int .u32 (bt l 8 * 16777216 + bt l 9 * 65536 + bt l 10 * 256 + bt l 11), .int .u8 (W : Int), .bool (fb (bt l 13) 1), .bool (fb (bt l 13) 2), .bool (fb (bt l 13) 4), .bool (fb (bt l 13) 8), .bool (fb (bt l 13) 16), .bool (fb (bt l 13) 32), .bool (fb (bt l 13) 64), .bool (fb (bt l 13) 128), .bool (fb (bt l 12) 1), .int .u16 (bt l 14 * 256 + bt l 15), .int .u16 (bt l 16 * 256 + bt l 17), .int .u16 (bt l 18 * 256 + bt l 19), .slice a1 n1 m1, .slice a2 n2 m2, v, .slice none 0 0, z23, z24, z25, z26, z27, z28, z29, z30, z31, z32, z33, z34, y35]) (t := 85) (base := w1.heap.size) rfl (.tmp 226) (.tmp 231) rfl (rowW_allocT (show Has x.drew D from hX) _) (by first | rfl | simp [Act.eval]) HTL.out (((Gr.refl _).drew).alloc _) HG.out rfl hX hrl x.heap.size 1 (⟨kd, 0, []⟩, .slice none 0 0) (by first | rfl | simp [Act.eval]) (box3 (rowW_size (w := x)).symm _ _ _ _).1 (box3 (rowW_size (w := x)).symm _ _ _ _).2.1 (box3 (rowW_size (w := x)).symm _ _ _ _).2.2 rfl ?_
          intro v4 x4 C4 g4 q4 hof4 dx4 gx4 hTP
          obtain ⟨f4, cp4, hv4, hq4⟩ := id hTP.2
          subst hv4
          obtain ⟨nr, hnr⟩ : ∃ nr, nr = rs.length := ⟨_, rfl⟩
          have HNR := Lib.hid (And.intro hnr hq4)
          rw [← hnr] at hTP ⊢
          clear hnr hq4
          obtain ⟨zs4, hz4, rfl⟩ := hof4.lit rfl
          obtain ⟨u23, u24, u25, u26, u27, u28, u29, u30, u31, u32, u33, u34, rfl⟩ := len12 hz4
          have ce4 : ([.slice a8 n8 m8, .slice a9 n9 m9, .int .u16 (bt l 0 * 256 + bt l 1), .int .u16 (bt l 2 * 256 + bt l 3), .int .u32 (bt l 4 * 16777216 + bt l 5 * 65536 + bt l 6 * 256 + bt l 7), .int .u32 (bt l 8 * 16777216 + bt l 9 * 65536 + bt l 10 * 256 + bt l 11), .int .u8 (W : Int), .bool (fb (bt l 13) 1), .bool (fb (bt l 13) 2), .bool (fb (bt l 13) 4), .bool (fb (bt l 13) 8), .bool (fb (bt l 13) 16), .bool (fb (bt l 13) 32), .bool (fb (bt l 13) 64), .bool (fb (bt l 13) 128), .bool (fb (bt l 12) 1), .int .u16 (bt l 14 * 256 + bt l 15), .int .u16 (bt l 16 * 256 + bt l 17), .int .u16 (bt l 18 * 256 + bt l 19), .slice a1 n1 m1, .slice a2 n2 m2, v, .slice none 0 0, z23, z24, z25, z26, z27, z28, z29, z30, z31, z32, z33, z34, y35] : List Value).take 23 ++ ([u23, u24, u25, u26, u27, u28, u29, u30, u31, u32, u33, u34] ++ ([.slice a8 n8 m8, .slice a9 n9 m9, .int .u16 (bt l 0 * 256 + bt l 1), .int .u16 (bt l 2 * 256 + bt l 3), .int .u32 (bt l 4 * 16777216 + bt l 5 * 65536 + bt l 6 * 256 + bt l 7), .int .u32 (bt l 8 * 16777216 + bt l 9 * 65536 + bt l 10 * 256 + bt l 11), .int .u8 (W : Int), .bool (fb (bt l 13) 1), .bool (fb (bt l 13) 2), .bool (fb (bt l 13) 4), .bool (fb (bt l 13) 8), .bool (fb (bt l 13) 16), .bool (fb (bt l 13) 32), .bool (fb (bt l 13) 64), .bool (fb (bt l 13) 128), .bool (fb (bt l 12) 1), .int .u16 (bt l 14 * 256 + bt l 15), .int .u16 (bt l 16 * 256 + bt l 17), .int .u16 (bt l 18 * 256 + bt l 19), .slice a1 n1 m1, .slice a2 n2 m2, v, .slice none 0 0, z23, z24, z25, z26, z27, z28, z29, z30, z31, z32, z33, z34, y35] : List Value).drop 35) = [.slice a8 n8 m8, .slice a9 n9 m9, .int .u16 (bt l 0 * 256 + bt l 1), .int .u16 (bt l 2 * 256 + bt l 3), .int .u32 (bt l 4 * 16777216 + bt l 5 * 65536 + bt l 6 * 256 + bt l 7), .int .u32 (bt l 8 * 16777216 + bt l 9 * 65536 + bt l 10 * 256 + bt l 11), .int .u8 (W : Int), .bool (fb (bt l 13) 1), .bool (fb (bt l 13) 2), .bool (fb (bt l 13) 4), .bool (fb (bt l 13) 8), .bool (fb (bt l 13) 16), .bool (fb (bt l 13) 32), .bool (fb (bt l 13) 64), .bool (fb (bt l 13) 128), .bool (fb (bt l 12) 1), .int .u16 (bt l 14 * 256 + bt l 15), .int .u16 (bt l 16 * 256 + bt l 17), .int .u16 (bt l 18 * 256 + bt l 19), .slice a1 n1 m1, .slice a2 n2 m2, v, .slice none 0 0, u23, u24, u25, u26, u27, u28, u29, u30, u31, u32, u33, u34, y35] := rfl
          rw [ce4] at hTP ⊢
          clear ce4 hof4
          refine hK.out _ _ ((rowW_cell_other ei).trans (gx4.cell ciw)) (fun hHeld => ?_)
          clear hK K
          try simp only [Act.put, List.getElem_toArray, List.getElem_cons_succ, List.getElem_cons_zero, List.setIfInBounds_toArray, List.set_cons_zero, List.set_cons_succ]
          refine wpAnyH_take (i := 11) (v := .pointer (some ⟨D, 0, none⟩)) rfl (by kernel_rfl) (by kernel_rfl) (by kernel_rfl) (fun _ _ _ h => h) (Or.inl ⟨by rfl, fun w' hS => ?_⟩) (by assumption) ?_
          · have c0 := hS
            clear hHeld
            go_simp
          try simp only [Act.put, List.getElem_toArray, List.getElem_cons_succ, List.getElem_cons_zero, List.setIfInBounds_toArray, List.set_cons_zero, List.set_cons_succ]
          refine wpAnyH_take (i := 12) (v := .pointer (some ⟨D, 21, none⟩)) rfl (by kernel_rfl) (by kernel_rfl) (by kernel_rfl) (fun _ _ _ h => h) (Or.inl ⟨by rfl, fun w' hS => ?_⟩) (by assumption) ?_
          · have c0 := hS
            clear hHeld
            go_simp
          try simp only [Act.put, List.getElem_toArray, List.getElem_cons_succ, List.getElem_cons_zero, List.setIfInBounds_toArray, List.set_cons_zero, List.set_cons_succ]
          refine wpAnyH_ready (rs := [13]) (by kernel_rfl) (by simp) ((AllReadyH.cons rfl (fun K hK => ?_) AllReadyH.nil))
          go_simp
          refine hK.out _ _ ((rowW_cell_other ei).trans (gx4.cell ciw)) (fun hHeld => ?_)
          clear hK K
          try simp only [Act.put, List.getElem_toArray, List.getElem_cons_succ, List.getElem_cons_zero, List.setIfInBounds_toArray, List.set_cons_zero, List.set_cons_succ]
          refine wpAnyH_done (by kernel_rfl) ?_ _
          clear hHeld
          have TP4 := (hTP.swap (C' := [.slice a8 n8 m8, .slice a9 n9 m9, .int .u16 (bt l 0 * 256 + bt l 1), .int .u16 (bt l 2 * 256 + bt l 3), .int .u32 (bt l 4 * 16777216 + bt l 5 * 65536 + bt l 6 * 256 + bt l 7), .int .u32 (bt l 8 * 16777216 + bt l 9 * 65536 + bt l 10 * 256 + bt l 11), .int .u8 (W : Int), .bool (fb (bt l 13) 1), .bool (fb (bt l 13) 2), .bool (fb (bt l 13) 4), .bool (fb (bt l 13) 8), .bool (fb (bt l 13) 16), .bool (fb (bt l 13) 32), .bool (fb (bt l 13) 64), .bool (fb (bt l 13) 128), .bool (fb (bt l 12) 1), .int .u16 (bt l 14 * 256 + bt l 15), .int .u16 (bt l 16 * 256 + bt l 17), .int .u16 (bt l 18 * 256 + bt l 19), .slice a1 n1 m1, .slice a2 n2 m2, .slice (some ⟨g4, f4, none⟩) (nr + 1) cp4, .slice none 0 0, u23, u24, u25, u26, u27, u28, u29, u30, u31, u32, u33, u34, y35]) rfl rfl).gr ((Gr.refl x4).drew)
          have dx4d : Has x4.drew D := dx4
          have gx4d : Gr w1 x4.drew := gx4.drew
          clear hTP
          obtain ⟨j4, k40, k41, k42, f41, f42⟩ := TP4.last (t := 85) dx4d .i64
          have hnr := HNR.out.1
          rw [← hnr] at j4
          have hrl' : nr ≤ 200 := by rw [hnr]; exact hrl
          have hsb : IntKind.i64.wrap (((nr + 1 : Nat) : Int) - 1) = (nr : Int) := by rw [w64 (by omega) (by omega)]; omega
          have hsc : IntKind.i64.wrap (nr : Int) = (nr : Int) := w64 (by omega) (by omega)
          have hsd : IntKind.i64.wrap ((nr : Int) + 1 - 1) = (nr : Int) := by rw [w64 (by omega) (by omega)]; omega
          have k21 := rowW_cell (cs := [.slice a8 n8 m8, .slice a9 n9 m9, .int .u16 (bt l 0 * 256 + bt l 1), .int .u16 (bt l 2 * 256 + bt l 3), .int .u32 (bt l 4 * 16777216 + bt l 5 * 65536 + bt l 6 * 256 + bt l 7), .int .u32 (bt l 8 * 16777216 + bt l 9 * 65536 + bt l 10 * 256 + bt l 11), .int .u8 (W : Int), .bool (fb (bt l 13) 1), .bool (fb (bt l 13) 2), .bool (fb (bt l 13) 4), .bool (fb (bt l 13) 8), .bool (fb (bt l 13) 16), .bool (fb (bt l 13) 32), .bool (fb (bt l 13) 64), .bool (fb (bt l 13) 128), .bool (fb (bt l 12) 1), .int .u16 (bt l 14 * 256 + bt l 15), .int .u16 (bt l 16 * 256 + bt l 17), .int .u16 (bt l 18 * 256 + bt l 19), .slice a1 n1 m1, .slice a2 n2 m2, .slice (some ⟨g4, f4, none⟩) (nr + 1) cp4, .slice none 0 0, u23, u24, u25, u26, u27, u28, u29, u30, u31, u32, u33, u34, y35]) (e := 85) dx4 21
          have cj4 := (rowW_cell_other (cs := [.slice a8 n8 m8, .slice a9 n9 m9, .int .u16 (bt l 0 * 256 + bt l 1), .int .u16 (bt l 2 * 256 + bt l 3), .int .u32 (bt l 4 * 16777216 + bt l 5 * 65536 + bt l 6 * 256 + bt l 7), .int .u32 (bt l 8 * 16777216 + bt l 9 * 65536 + bt l 10 * 256 + bt l 11), .int .u8 (W : Int), .bool (fb (bt l 13) 1), .bool (fb (bt l 13) 2), .bool (fb (bt l 13) 4), .bool (fb (bt l 13) 8), .bool (fb (bt l 13) 16), .bool (fb (bt l 13) 32), .bool (fb (bt l 13) 64), .bool (fb (bt l 13) 128), .bool (fb (bt l 12) 1), .int .u16 (bt l 14 * 256 + bt l 15), .int .u16 (bt l 16 * 256 + bt l 17), .int .u16 (bt l 18 * 256 + bt l 19), .slice a1 n1 m1, .slice a2 n2 m2, .slice (some ⟨g4, f4, none⟩) (nr + 1) cp4, .slice none 0 0, u23, u24, u25, u26, u27, u28, u29, u30, u31, u32, u33, u34, y35]) (e := 85) ej).trans (gx4d.cell cjw)
          have HT4 := Lib.hid (And.intro TP4 gx4d)
          clear TP4 hnr
          go_wp2_with fail
          go_region_held3 (fun w' => w'.cell? ⟨D, 21, none⟩ = some (.slice (some ⟨g4, f4, none⟩) (nr + 1) cp4)) (first | exact k21 | go_keep) (fail)
          go_wp2_with fail
          have TP4 := HT4.out.1
          have gx4e := HT4.out.2
          obtain ⟨x5, C5, hs5, of5, dx5, gx5, TP5⟩ := TP4.set (t := 85) ((⟨kd, (N : Int), []⟩ : Opt), (.slice none 0 0 : Value)) 1 (.int .u8 (N : Int)) rfl (by omega) gx4e rfl dx4d
          obtain ⟨zs5, hz5, rfl⟩ := of5.lit rfl
          obtain ⟨r23, r24, r25, r26, r27, r28, r29, r30, r31, r32, r33, r34, rfl⟩ := len12 hz5
          have ce5 : ([.slice a8 n8 m8, .slice a9 n9 m9, .int .u16 (bt l 0 * 256 + bt l 1), .int .u16 (bt l 2 * 256 + bt l 3), .int .u32 (bt l 4 * 16777216 + bt l 5 * 65536 + bt l 6 * 256 + bt l 7), .int .u32 (bt l 8 * 16777216 + bt l 9 * 65536 + bt l 10 * 256 + bt l 11), .int .u8 (W : Int), .bool (fb (bt l 13) 1), .bool (fb (bt l 13) 2), .bool (fb (bt l 13) 4), .bool (fb (bt l 13) 8), .bool (fb (bt l 13) 16), .bool (fb (bt l 13) 32), .bool (fb (bt l 13) 64), .bool (fb (bt l 13) 128), .bool (fb (bt l 12) 1), .int .u16 (bt l 14 * 256 + bt l 15), .int .u16 (bt l 16 * 256 + bt l 17), .int .u16 (bt l 18 * 256 + bt l 19), .slice a1 n1 m1, .slice a2 n2 m2, .slice (some ⟨g4, f4, none⟩) (nr + 1) cp4, .slice none 0 0, u23, u24, u25, u26, u27, u28, u29, u30, u31, u32, u33, u34, y35] : List Value).take 23 ++ ([r23, r24, r25, r26, r27, r28, r29, r30, r31, r32, r33, r34] ++ ([.slice a8 n8 m8, .slice a9 n9 m9, .int .u16 (bt l 0 * 256 + bt l 1), .int .u16 (bt l 2 * 256 + bt l 3), .int .u32 (bt l 4 * 16777216 + bt l 5 * 65536 + bt l 6 * 256 + bt l 7), .int .u32 (bt l 8 * 16777216 + bt l 9 * 65536 + bt l 10 * 256 + bt l 11), .int .u8 (W : Int), .bool (fb (bt l 13) 1), .bool (fb (bt l 13) 2), .bool (fb (bt l 13) 4), .bool (fb (bt l 13) 8), .bool (fb (bt l 13) 16), .bool (fb (bt l 13) 32), .bool (fb (bt l 13) 64), .bool (fb (bt l 13) 128), .bool (fb (bt l 12) 1), .int .u16 (bt l 14 * 256 + bt l 15), .int .u16 (bt l 16 * 256 + bt l 17), .int .u16 (bt l 18 * 256 + bt l 19), .slice a1 n1 m1, .slice a2 n2 m2, .slice (some ⟨g4, f4, none⟩) (nr + 1) cp4, .slice none 0 0, u23, u24, u25, u26, u27, u28, u29, u30, u31, u32, u33, u34, y35] : List Value).drop 35) = [.slice a8 n8 m8, .slice a9 n9 m9, .int .u16 (bt l 0 * 256 + bt l 1), .int .u16 (bt l 2 * 256 + bt l 3), .int .u32 (bt l 4 * 16777216 + bt l 5 * 65536 + bt l 6 * 256 + bt l 7), .int .u32 (bt l 8 * 16777216 + bt l 9 * 65536 + bt l 10 * 256 + bt l 11), .int .u8 (W : Int), .bool (fb (bt l 13) 1), .bool (fb (bt l 13) 2), .bool (fb (bt l 13) 4), .bool (fb (bt l 13) 8), .bool (fb (bt l 13) 16), .bool (fb (bt l 13) 32), .bool (fb (bt l 13) 64), .bool (fb (bt l 13) 128), .bool (fb (bt l 12) 1), .int .u16 (bt l 14 * 256 + bt l 15), .int .u16 (bt l 16 * 256 + bt l 17), .int .u16 (bt l 18 * 256 + bt l 19), .slice a1 n1 m1, .slice a2 n2 m2, .slice (some ⟨g4, f4, none⟩) (nr + 1) cp4, .slice none 0 0, r23, r24, r25, r26, r27, r28, r29, r30, r31, r32, r33, r34, y35] := rfl
          rw [ce5] at hs5 TP5
          clear ce5 of5
          obtain ⟨x6, C6, hs6, of6, dx6, gx6, TP6⟩ := TP5.set (t := 85) ((⟨kd, (N : Int), d⟩ : Opt), (.slice ad nd md : Value)) 2 (.slice ad nd md) rfl (by omega) gx5 rfl dx5
          obtain ⟨zs6, hz6, rfl⟩ := of6.lit rfl
          obtain ⟨s23, s24, s25, s26, s27, s28, s29, s30, s31, s32, s33, s34, rfl⟩ := len12 hz6
          have ce6 : ([.slice a8 n8 m8, .slice a9 n9 m9, .int .u16 (bt l 0 * 256 + bt l 1), .int .u16 (bt l 2 * 256 + bt l 3), .int .u32 (bt l 4 * 16777216 + bt l 5 * 65536 + bt l 6 * 256 + bt l 7), .int .u32 (bt l 8 * 16777216 + bt l 9 * 65536 + bt l 10 * 256 + bt l 11), .int .u8 (W : Int), .bool (fb (bt l 13) 1), .bool (fb (bt l 13) 2), .bool (fb (bt l 13) 4), .bool (fb (bt l 13) 8), .bool (fb (bt l 13) 16), .bool (fb (bt l 13) 32), .bool (fb (bt l 13) 64), .bool (fb (bt l 13) 128), .bool (fb (bt l 12) 1), .int .u16 (bt l 14 * 256 + bt l 15), .int .u16 (bt l 16 * 256 + bt l 17), .int .u16 (bt l 18 * 256 + bt l 19), .slice a1 n1 m1, .slice a2 n2 m2, .slice (some ⟨g4, f4, none⟩) (nr + 1) cp4, .slice none 0 0, r23, r24, r25, r26, r27, r28, r29, r30, r31, r32, r33, r34, y35] : List Value).take 23 ++ ([s23, s24, s25, s26, s27, s28, s29, s30, s31, s32, s33, s34] ++ ([.slice a8 n8 m8, .slice a9 n9 m9, .int .u16 (bt l 0 * 256 + bt l 1), .int .u16 (bt l 2 * 256 + bt l 3), .int .u32 (bt l 4 * 16777216 + bt l 5 * 65536 + bt l 6 * 256 + bt l 7), .int .u32 (bt l 8 * 16777216 + bt l 9 * 65536 + bt l 10 * 256 + bt l 11), .int .u8 (W : Int), .bool (fb (bt l 13) 1), .bool (fb (bt l 13) 2), .bool (fb (bt l 13) 4), .bool (fb (bt l 13) 8), .bool (fb (bt l 13) 16), .bool (fb (bt l 13) 32), .bool (fb (bt l 13) 64), .bool (fb (bt l 13) 128), .bool (fb (bt l 12) 1), .int .u16 (bt l 14 * 256 + bt l 15), .int .u16 (bt l 16 * 256 + bt l 17), .int .u16 (bt l 18 * 256 + bt l 19), .slice a1 n1 m1, .slice a2 n2 m2, .slice (some ⟨g4, f4, none⟩) (nr + 1) cp4, .slice none 0 0, r23, r24, r25, r26, r27, r28, r29, r30, r31, r32, r33, r34, y35] : List Value).drop 35) = [.slice a8 n8 m8, .slice a9 n9 m9, .int .u16 (bt l 0 * 256 + bt l 1), .int .u16 (bt l 2 * 256 + bt l 3), .int .u32 (bt l 4 * 16777216 + bt l 5 * 65536 + bt l 6 * 256 + bt l 7), .int .u32 (bt l 8 * 16777216 + bt l 9 * 65536 + bt l 10 * 256 + bt l 11), .int .u8 (W : Int), .bool (fb (bt l 13) 1), .bool (fb (bt l 13) 2), .bool (fb (bt l 13) 4), .bool (fb (bt l 13) 8), .bool (fb (bt l 13) 16), .bool (fb (bt l 13) 32), .bool (fb (bt l 13) 64), .bool (fb (bt l 13) 128), .bool (fb (bt l 12) 1), .int .u16 (bt l 14 * 256 + bt l 15), .int .u16 (bt l 16 * 256 + bt l 17), .int .u16 (bt l 18 * 256 + bt l 19), .slice a1 n1 m1, .slice a2 n2 m2, .slice (some ⟨g4, f4, none⟩) (nr + 1) cp4, .slice none 0 0, s23, s24, s25, s26, s27, s28, s29, s30, s31, s32, s33, s34, y35] := rfl
          rw [ce6] at hs6 TP6
          clear ce6 of6
          rw [hs5, hs6]
          have HT6 := Lib.hid (And.intro TP6 gx6)
          go_roundw
          case rel =>
            exact ⟨k + 1, rs ++ [((⟨kd, (N : Int), d⟩ : Opt), (.slice ad nd md : Value))], x6, .slice (some ⟨g4, f4, none⟩) (nr + 1) cp4, [s23, s24, s25, s26, s27, s28, s29, s30, s31, s32, s33, s34], a', n', m', HLT.out, rfl, by rw [rest_eq, ← HR'.out]; exact HI'.out, HNE'.out, rfl, rfl, dx6, HT6.out.2, HT6.out.1.1, by rw [List.map_append, HRS.out, opt_take HLT.out, ← HXO.out]; rfl, fun p hp => (List.mem_append.1 hp).elim (HIN.out p) (fun h1 => by rw [List.mem_singleton.1 h1]; exact ⟨HID.out, .inl HNED.out⟩)⟩
          case measure => have := HI'.out.count; have := HRL.out; show n' < n; omega
    · obtain rfl : k = os.length := by have := HK.out; omega
      rw [List.drop_length] at hR
      have hR : R = fillB os := by rw [hR]; simp [optsRaw]
      have HS := HRS.out
      rw [List.take_length] at HS
      by_cases hp : (optsRaw os).length % 4 = 0
      · have hn0 : n = 0 := by rw [hcn, hR]; simp [fillB, hp]
        subst hn0
        have HS := Lib.hid HS
        have HP := Lib.hid hp
        clear hI hR hcn hlt hp hneA hBD hrl
        go_wp2_with fail
        rw [Exit.noGoto_ret]
        go_ret
        unfold TcpPost
        exact ⟨rfl, row_step hd HG.out, _, _, _, _, _, _, _, _, _, _, _, _, v, .slice none 0 0, _, _, _, _, _, _, _, _, _, _, _, _, _, rs, isB_rows hd HG.out H9.out.1 (by rw [H9.out.2]; exact HW1.out), rowW_heap hX, by rw [rowW_size]; exact HTL.out.row, by rw [HS.out]; simp [padO, HP.out], fun p hp => (HIN.out p hp).rows HG.out HW1.out⟩
      · have hp0 : 0 < (optsRaw os).length := by have := Nat.pos_of_ne_zero (fun e : (optsRaw os).length = 0 => hp (by rw [e])); omega
        have hRl : 0 < n := by rw [hcn, hR]; simp [fillB]; omega
        have b0 : bt R 0 = 0 := by rw [hR]; unfold fillB bt; rw [List.getD_eq_getElem?_getD, List.getElem?_replicate]; split <;> rfl
        obtain ⟨bi, oi, ii, ciw, zi⟩ := hI.idx (P := Try.prog) 25 5 i Try.underlying25 hi hz1 .i64 0 0 rfl (by omega)
        obtain ⟨a', n', m', hI', hbI', si⟩ := hI.cutL (P := Try.prog) 25 5 i Try.underlying25 hi hz1 1 1 rfl (by omega)
        have ei : bi ≠ D := by rintro rfl; exact hneA zi
        rw [b0] at ciw
        have ci := hG.cell ciw
        have n0 : decide ((0 : Int) < (n : Int)) = true := decide_eq_true (by omega)
        have hn1 : 0 < n := hRl
        have HP := Lib.hid hp
        have HS := Lib.hid HS
        have w1u : IntKind.i64.wrap 1 = 1 := by decide
        clear hI hI' hbI' hR hcn b0 hneA zi hlt hp hp0 hRl hG
        go_wp2_with fail
        refine wp_region_held_drew (S := (fun w' => w'.cell? ⟨bi, oi, none⟩ = some (.int .u8 0))) (by kernel_rfl) ((rowW_cell_other ei).trans ci) (fun hHeld => ?_)
        refine wpAnyH_take (i := 0) (v := .pointer (some ⟨D, 0, none⟩)) rfl (by kernel_rfl) (by kernel_rfl) (by kernel_rfl) (fun _ _ _ h => h) (Or.inl ⟨by rfl, fun w' hS => ?_⟩) (by assumption) ?_
        · have c0 := hS
          clear hHeld
          go_simp
        try simp only [Act.put, List.getElem_toArray, List.getElem_cons_succ, List.getElem_cons_zero, List.setIfInBounds_toArray, List.set_cons_zero, List.set_cons_succ]
        refine wpAnyH_take (i := 1) (v := .pointer (some ⟨D, 0, none⟩)) rfl (by kernel_rfl) (by kernel_rfl) (by kernel_rfl) (fun _ _ _ h => h) (Or.inl ⟨by rfl, fun w' hS => ?_⟩) (by assumption) ?_
        · have c0 := hS
          clear hHeld
          go_simp
        try simp only [Act.put, List.getElem_toArray, List.getElem_cons_succ, List.getElem_cons_zero, List.setIfInBounds_toArray, List.set_cons_zero, List.set_cons_succ]
        refine wpAnyH_take (i := 2) (v := .pointer (some ⟨D, 0, none⟩)) rfl (by kernel_rfl) (by kernel_rfl) (by kernel_rfl) (fun _ _ _ h => h) (Or.inl ⟨by rfl, fun w' hS => ?_⟩) (by assumption) ?_
        · have c0 := hS
          clear hHeld
          go_simp
        try simp only [Act.put, List.getElem_toArray, List.getElem_cons_succ, List.getElem_cons_zero, List.setIfInBounds_toArray, List.set_cons_zero, List.set_cons_succ]
        refine wpAnyH_take (i := 3) (v := .pointer (some ⟨D, 21, none⟩)) rfl (by kernel_rfl) (by kernel_rfl) (by kernel_rfl) (fun _ _ _ h => h) (Or.inl ⟨by rfl, fun w' hS => ?_⟩) (by assumption) ?_
        · have c0 := hS
          clear hHeld
          go_simp
        try simp only [Act.put, List.getElem_toArray, List.getElem_cons_succ, List.getElem_cons_zero, List.setIfInBounds_toArray, List.set_cons_zero, List.set_cons_succ]
        refine wpAnyH_take (i := 5) (v := .slice a n m) rfl (by kernel_rfl) (by kernel_rfl) (by kernel_rfl) (fun _ _ _ h => h) (Or.inl ⟨by rfl, fun w' hS => ?_⟩) (by assumption) ?_
        · have c0 := hS
          clear hHeld
          go_simp
        try simp only [Act.put, List.getElem_toArray, List.getElem_cons_succ, List.getElem_cons_zero, List.setIfInBounds_toArray, List.set_cons_zero, List.set_cons_succ]
        refine wpAnyH_take (i := 6) (v := .pointer (some ⟨bi, oi, none⟩)) rfl (by kernel_rfl) (by kernel_rfl) (by kernel_rfl) (fun _ _ _ h => h) (Or.inl ⟨by rfl, fun w' hS => ?_⟩) (by assumption) ?_
        · have c0 := hS
          clear hHeld
          go_simp
        try simp only [Act.put, List.getElem_toArray, List.getElem_cons_succ, List.getElem_cons_zero, List.setIfInBounds_toArray, List.set_cons_zero, List.set_cons_succ]
        refine wpAnyH_take (i := 7) (v := .int .u8 0) rfl (by kernel_rfl) (by kernel_rfl) (by kernel_rfl) (fun _ _ _ h => h) (Or.inl ⟨by rfl, fun w' hS => ?_⟩) (by assumption) ?_
        · have c0 := hS
          clear hHeld
          go_simp
        try simp only [Act.put, List.getElem_toArray, List.getElem_cons_succ, List.getElem_cons_zero, List.setIfInBounds_toArray, List.set_cons_zero, List.set_cons_succ]
        refine wpAnyH_take (i := 8) (v := .agg #[.int .u8 0, .int .u8 0, .slice none 0 0]) rfl (by kernel_rfl) (by kernel_rfl) (by kernel_rfl) (fun _ _ _ h => h) (Or.inl ⟨by rfl, fun w' hS => ?_⟩) (by assumption) ?_
        · have c0 := hS
          clear hHeld
          go_simp
        try simp only [Act.put, List.getElem_toArray, List.getElem_cons_succ, List.getElem_cons_zero, List.setIfInBounds_toArray, List.set_cons_zero, List.set_cons_succ]
        refine wpAnyH_ready (rs := [4, 9]) (by kernel_rfl) (by simp) ((AllReadyH.cons rfl (fun K hK => ?_) (AllReadyH.cons rfl (fun K hK => ?_) AllReadyH.nil)))
        · refine step_loadc (by rfl) 75 (.tmp 225) (by rfl) D 21 (by first | rfl | simp) v 78 Try.underlying75 (rowW_cell (cs := [.slice a8 n8 m8, .slice a9 n9 m9, .int .u16 (bt l 0 * 256 + bt l 1), .int .u16 (bt l 2 * 256 + bt l 3), .int .u32 (bt l 4 * 16777216 + bt l 5 * 65536 + bt l 6 * 256 + bt l 7), .int .u32 (bt l 8 * 16777216 + bt l 9 * 65536 + bt l 10 * 256 + bt l 11), .int .u8 (W : Int), .bool (fb (bt l 13) 1), .bool (fb (bt l 13) 2), .bool (fb (bt l 13) 4), .bool (fb (bt l 13) 8), .bool (fb (bt l 13) 16), .bool (fb (bt l 13) 32), .bool (fb (bt l 13) 64), .bool (fb (bt l 13) 128), .bool (fb (bt l 12) 1), .int .u16 (bt l 14 * 256 + bt l 15), .int .u16 (bt l 16 * 256 + bt l 17), .int .u16 (bt l 18 * 256 + bt l 19), .slice a1 n1 m1, .slice a2 n2 m2, v, .slice none 0 0, z23, z24, z25, z26, z27, z28, z29, z30, z31, z32, z33, z34, y35]) hX 21) ?_
          refine hK.out _ _ ((rowW_cell_other ei).trans ci) (fun hHeld => ?_)
          clear hK K
          try simp only [Act.put, List.getElem_toArray, List.getElem_cons_succ, List.getElem_cons_zero, List.setIfInBounds_toArray, List.set_cons_zero, List.set_cons_succ]
          refine wpAnyH_ready (rs := [9]) (by kernel_rfl) (by simp) ((AllReadyH.cons rfl (fun K hK => ?_) AllReadyH.nil))
          go_simp
          refine hK.out _ _ (Gr.cell (((Gr.refl _).drew).alloc _) ((rowW_cell_other (cs := [.slice a8 n8 m8, .slice a9 n9 m9, .int .u16 (bt l 0 * 256 + bt l 1), .int .u16 (bt l 2 * 256 + bt l 3), .int .u32 (bt l 4 * 16777216 + bt l 5 * 65536 + bt l 6 * 256 + bt l 7), .int .u32 (bt l 8 * 16777216 + bt l 9 * 65536 + bt l 10 * 256 + bt l 11), .int .u8 (W : Int), .bool (fb (bt l 13) 1), .bool (fb (bt l 13) 2), .bool (fb (bt l 13) 4), .bool (fb (bt l 13) 8), .bool (fb (bt l 13) 16), .bool (fb (bt l 13) 32), .bool (fb (bt l 13) 64), .bool (fb (bt l 13) 128), .bool (fb (bt l 12) 1), .int .u16 (bt l 14 * 256 + bt l 15), .int .u16 (bt l 16 * 256 + bt l 17), .int .u16 (bt l 18 * 256 + bt l 19), .slice a1 n1 m1, .slice a2 n2 m2, v, .slice none 0 0, z23, z24, z25, z26, z27, z28, z29, z30, z31, z32, z33, z34, y35]) (e := 85) ei).trans ci)) (fun hHeld => ?_)
          clear hK K
          try simp only [Act.put, List.getElem_toArray, List.getElem_cons_succ, List.getElem_cons_zero, List.setIfInBounds_toArray, List.set_cons_zero, List.set_cons_succ]
          refine wpAnyH_ready (rs := [10]) (by kernel_rfl) (by simp) ((AllReadyH.cons rfl (fun K hK => ?_) AllReadyH.nil))
          refine step_appT (x := x) (U := x.drew.alloc (.cells #[.int .u8 0, .int .u8 0, .slice none 0 0] 78)) (wb := w1) (D := D) (C := [.slice a8 n8 m8, .slice a9 n9 m9, .int .u16 (bt l 0 * 256 + bt l 1), .int .u16 (bt l 2 * 256 + bt l 3), .int .u32 (bt l 4 * 16777216 + bt l 5 * 65536 + bt l 6 * 256 + bt l 7), .int .u32 (bt l 8 * 16777216 + bt l 9 * 65536 + bt l 10 * 256 + bt l 11), .int .u8 (W : Int), .bool (fb (bt l 13) 1), .bool (fb (bt l 13) 2), .bool (fb (bt l 13) 4), .bool (fb (bt l 13) 8), .bool (fb (bt l 13) 16), .bool (fb (bt l 13) 32), .bool (fb (bt l 13) 64), .bool (fb (bt l 13) 128), .bool (fb (bt l 12) 1), .int .u16 (bt l 14 * 256 + bt l 15), .int .u16 (bt l 16 * 256 + bt l 17), .int .u16 (bt l 18 * 256 + bt l 19), .slice a1 n1 m1, .slice a2 n2 m2, v, .slice none 0 0, z23, z24, z25, z26, z27, z28, z29, z30, z31, z32, z33, z34, y35]) (t := 85) (base := w1.heap.size) rfl (.tmp 226) (.tmp 231) rfl (rowW_allocT (show Has x.drew D from hX) _) (by first | rfl | simp [Act.eval]) HTL.out (((Gr.refl _).drew).alloc _) HG.out rfl hX hrl x.heap.size 1 (⟨0, 0, []⟩, .slice none 0 0) (by first | rfl | simp [Act.eval]) (box3 (rowW_size (w := x)).symm _ _ _ _).1 (box3 (rowW_size (w := x)).symm _ _ _ _).2.1 (box3 (rowW_size (w := x)).symm _ _ _ _).2.2 rfl ?_
          intro v4 x4 C4 g4 q4 hof4 dx4 gx4 hTP
          obtain ⟨f4, cp4, hv4, hq4⟩ := id hTP.2
          subst hv4
          obtain ⟨nr, hnr⟩ : ∃ nr, nr = rs.length := ⟨_, rfl⟩
          have HNR := Lib.hid (And.intro hnr hq4)
          rw [← hnr] at hTP ⊢
          clear hnr hq4
          obtain ⟨zs4, hz4, rfl⟩ := hof4.lit rfl
          obtain ⟨u23, u24, u25, u26, u27, u28, u29, u30, u31, u32, u33, u34, rfl⟩ := len12 hz4
          have ce4 : ([.slice a8 n8 m8, .slice a9 n9 m9, .int .u16 (bt l 0 * 256 + bt l 1), .int .u16 (bt l 2 * 256 + bt l 3), .int .u32 (bt l 4 * 16777216 + bt l 5 * 65536 + bt l 6 * 256 + bt l 7), .int .u32 (bt l 8 * 16777216 + bt l 9 * 65536 + bt l 10 * 256 + bt l 11), .int .u8 (W : Int), .bool (fb (bt l 13) 1), .bool (fb (bt l 13) 2), .bool (fb (bt l 13) 4), .bool (fb (bt l 13) 8), .bool (fb (bt l 13) 16), .bool (fb (bt l 13) 32), .bool (fb (bt l 13) 64), .bool (fb (bt l 13) 128), .bool (fb (bt l 12) 1), .int .u16 (bt l 14 * 256 + bt l 15), .int .u16 (bt l 16 * 256 + bt l 17), .int .u16 (bt l 18 * 256 + bt l 19), .slice a1 n1 m1, .slice a2 n2 m2, v, .slice none 0 0, z23, z24, z25, z26, z27, z28, z29, z30, z31, z32, z33, z34, y35] : List Value).take 23 ++ ([u23, u24, u25, u26, u27, u28, u29, u30, u31, u32, u33, u34] ++ ([.slice a8 n8 m8, .slice a9 n9 m9, .int .u16 (bt l 0 * 256 + bt l 1), .int .u16 (bt l 2 * 256 + bt l 3), .int .u32 (bt l 4 * 16777216 + bt l 5 * 65536 + bt l 6 * 256 + bt l 7), .int .u32 (bt l 8 * 16777216 + bt l 9 * 65536 + bt l 10 * 256 + bt l 11), .int .u8 (W : Int), .bool (fb (bt l 13) 1), .bool (fb (bt l 13) 2), .bool (fb (bt l 13) 4), .bool (fb (bt l 13) 8), .bool (fb (bt l 13) 16), .bool (fb (bt l 13) 32), .bool (fb (bt l 13) 64), .bool (fb (bt l 13) 128), .bool (fb (bt l 12) 1), .int .u16 (bt l 14 * 256 + bt l 15), .int .u16 (bt l 16 * 256 + bt l 17), .int .u16 (bt l 18 * 256 + bt l 19), .slice a1 n1 m1, .slice a2 n2 m2, v, .slice none 0 0, z23, z24, z25, z26, z27, z28, z29, z30, z31, z32, z33, z34, y35] : List Value).drop 35) = [.slice a8 n8 m8, .slice a9 n9 m9, .int .u16 (bt l 0 * 256 + bt l 1), .int .u16 (bt l 2 * 256 + bt l 3), .int .u32 (bt l 4 * 16777216 + bt l 5 * 65536 + bt l 6 * 256 + bt l 7), .int .u32 (bt l 8 * 16777216 + bt l 9 * 65536 + bt l 10 * 256 + bt l 11), .int .u8 (W : Int), .bool (fb (bt l 13) 1), .bool (fb (bt l 13) 2), .bool (fb (bt l 13) 4), .bool (fb (bt l 13) 8), .bool (fb (bt l 13) 16), .bool (fb (bt l 13) 32), .bool (fb (bt l 13) 64), .bool (fb (bt l 13) 128), .bool (fb (bt l 12) 1), .int .u16 (bt l 14 * 256 + bt l 15), .int .u16 (bt l 16 * 256 + bt l 17), .int .u16 (bt l 18 * 256 + bt l 19), .slice a1 n1 m1, .slice a2 n2 m2, v, .slice none 0 0, u23, u24, u25, u26, u27, u28, u29, u30, u31, u32, u33, u34, y35] := rfl
          rw [ce4] at hTP ⊢
          clear ce4 hof4
          refine hK.out _ _ ((rowW_cell_other ei).trans (gx4.cell ciw)) (fun hHeld => ?_)
          clear hK K
          try simp only [Act.put, List.getElem_toArray, List.getElem_cons_succ, List.getElem_cons_zero, List.setIfInBounds_toArray, List.set_cons_zero, List.set_cons_succ]
          refine wpAnyH_take (i := 11) (v := .pointer (some ⟨D, 0, none⟩)) rfl (by kernel_rfl) (by kernel_rfl) (by kernel_rfl) (fun _ _ _ h => h) (Or.inl ⟨by rfl, fun w' hS => ?_⟩) (by assumption) ?_
          · have c0 := hS
            clear hHeld
            go_simp
          try simp only [Act.put, List.getElem_toArray, List.getElem_cons_succ, List.getElem_cons_zero, List.setIfInBounds_toArray, List.set_cons_zero, List.set_cons_succ]
          refine wpAnyH_take (i := 12) (v := .pointer (some ⟨D, 21, none⟩)) rfl (by kernel_rfl) (by kernel_rfl) (by kernel_rfl) (fun _ _ _ h => h) (Or.inl ⟨by rfl, fun w' hS => ?_⟩) (by assumption) ?_
          · have c0 := hS
            clear hHeld
            go_simp
          try simp only [Act.put, List.getElem_toArray, List.getElem_cons_succ, List.getElem_cons_zero, List.setIfInBounds_toArray, List.set_cons_zero, List.set_cons_succ]
          refine wpAnyH_ready (rs := [13]) (by kernel_rfl) (by simp) ((AllReadyH.cons rfl (fun K hK => ?_) AllReadyH.nil))
          go_simp
          refine hK.out _ _ ((rowW_cell_other ei).trans (gx4.cell ciw)) (fun hHeld => ?_)
          clear hK K
          try simp only [Act.put, List.getElem_toArray, List.getElem_cons_succ, List.getElem_cons_zero, List.setIfInBounds_toArray, List.set_cons_zero, List.set_cons_succ]
          refine wpAnyH_done (by kernel_rfl) ?_ _
          clear hHeld
          have TP4 := (hTP.swap (C' := [.slice a8 n8 m8, .slice a9 n9 m9, .int .u16 (bt l 0 * 256 + bt l 1), .int .u16 (bt l 2 * 256 + bt l 3), .int .u32 (bt l 4 * 16777216 + bt l 5 * 65536 + bt l 6 * 256 + bt l 7), .int .u32 (bt l 8 * 16777216 + bt l 9 * 65536 + bt l 10 * 256 + bt l 11), .int .u8 (W : Int), .bool (fb (bt l 13) 1), .bool (fb (bt l 13) 2), .bool (fb (bt l 13) 4), .bool (fb (bt l 13) 8), .bool (fb (bt l 13) 16), .bool (fb (bt l 13) 32), .bool (fb (bt l 13) 64), .bool (fb (bt l 13) 128), .bool (fb (bt l 12) 1), .int .u16 (bt l 14 * 256 + bt l 15), .int .u16 (bt l 16 * 256 + bt l 17), .int .u16 (bt l 18 * 256 + bt l 19), .slice a1 n1 m1, .slice a2 n2 m2, .slice (some ⟨g4, f4, none⟩) (nr + 1) cp4, .slice none 0 0, u23, u24, u25, u26, u27, u28, u29, u30, u31, u32, u33, u34, y35]) rfl rfl).gr ((Gr.refl x4).drew)
          have dx4d : Has x4.drew D := dx4
          have gx4d : Gr w1 x4.drew := gx4.drew
          clear hTP
          obtain ⟨j4, k40, k41, k42, f41, f42⟩ := TP4.last (t := 85) dx4d .i64
          obtain ⟨x5, C5, hs5, of5, dx5, gx5, TP5⟩ := TP4.set (t := 85) (⟨0, 1, []⟩, .slice none 0 0) 1 (.int .u8 1) rfl (by omega) gx4d rfl dx4d
          obtain ⟨zs5, hz5, rfl⟩ := of5.lit rfl
          obtain ⟨r23, r24, r25, r26, r27, r28, r29, r30, r31, r32, r33, r34, rfl⟩ := len12 hz5
          have ce5 : ([.slice a8 n8 m8, .slice a9 n9 m9, .int .u16 (bt l 0 * 256 + bt l 1), .int .u16 (bt l 2 * 256 + bt l 3), .int .u32 (bt l 4 * 16777216 + bt l 5 * 65536 + bt l 6 * 256 + bt l 7), .int .u32 (bt l 8 * 16777216 + bt l 9 * 65536 + bt l 10 * 256 + bt l 11), .int .u8 (W : Int), .bool (fb (bt l 13) 1), .bool (fb (bt l 13) 2), .bool (fb (bt l 13) 4), .bool (fb (bt l 13) 8), .bool (fb (bt l 13) 16), .bool (fb (bt l 13) 32), .bool (fb (bt l 13) 64), .bool (fb (bt l 13) 128), .bool (fb (bt l 12) 1), .int .u16 (bt l 14 * 256 + bt l 15), .int .u16 (bt l 16 * 256 + bt l 17), .int .u16 (bt l 18 * 256 + bt l 19), .slice a1 n1 m1, .slice a2 n2 m2, .slice (some ⟨g4, f4, none⟩) (nr + 1) cp4, .slice none 0 0, u23, u24, u25, u26, u27, u28, u29, u30, u31, u32, u33, u34, y35] : List Value).take 23 ++ ([r23, r24, r25, r26, r27, r28, r29, r30, r31, r32, r33, r34] ++ ([.slice a8 n8 m8, .slice a9 n9 m9, .int .u16 (bt l 0 * 256 + bt l 1), .int .u16 (bt l 2 * 256 + bt l 3), .int .u32 (bt l 4 * 16777216 + bt l 5 * 65536 + bt l 6 * 256 + bt l 7), .int .u32 (bt l 8 * 16777216 + bt l 9 * 65536 + bt l 10 * 256 + bt l 11), .int .u8 (W : Int), .bool (fb (bt l 13) 1), .bool (fb (bt l 13) 2), .bool (fb (bt l 13) 4), .bool (fb (bt l 13) 8), .bool (fb (bt l 13) 16), .bool (fb (bt l 13) 32), .bool (fb (bt l 13) 64), .bool (fb (bt l 13) 128), .bool (fb (bt l 12) 1), .int .u16 (bt l 14 * 256 + bt l 15), .int .u16 (bt l 16 * 256 + bt l 17), .int .u16 (bt l 18 * 256 + bt l 19), .slice a1 n1 m1, .slice a2 n2 m2, .slice (some ⟨g4, f4, none⟩) (nr + 1) cp4, .slice none 0 0, u23, u24, u25, u26, u27, u28, u29, u30, u31, u32, u33, u34, y35] : List Value).drop 35) = [.slice a8 n8 m8, .slice a9 n9 m9, .int .u16 (bt l 0 * 256 + bt l 1), .int .u16 (bt l 2 * 256 + bt l 3), .int .u32 (bt l 4 * 16777216 + bt l 5 * 65536 + bt l 6 * 256 + bt l 7), .int .u32 (bt l 8 * 16777216 + bt l 9 * 65536 + bt l 10 * 256 + bt l 11), .int .u8 (W : Int), .bool (fb (bt l 13) 1), .bool (fb (bt l 13) 2), .bool (fb (bt l 13) 4), .bool (fb (bt l 13) 8), .bool (fb (bt l 13) 16), .bool (fb (bt l 13) 32), .bool (fb (bt l 13) 64), .bool (fb (bt l 13) 128), .bool (fb (bt l 12) 1), .int .u16 (bt l 14 * 256 + bt l 15), .int .u16 (bt l 16 * 256 + bt l 17), .int .u16 (bt l 18 * 256 + bt l 19), .slice a1 n1 m1, .slice a2 n2 m2, .slice (some ⟨g4, f4, none⟩) (nr + 1) cp4, .slice none 0 0, r23, r24, r25, r26, r27, r28, r29, r30, r31, r32, r33, r34, y35] := rfl
          rw [ce5] at hs5 TP5
          clear ce5 of5
          obtain ⟨j5, k50, k51, k52, f51, f52⟩ := TP5.last (t := 85) dx5 .i64
          have hnr := HNR.out.1
          rw [← hnr] at j4 j5
          have hrl' : nr ≤ 200 := by rw [hnr]; exact hrl
          have hsb : IntKind.i64.wrap (((nr + 1 : Nat) : Int) - 1) = (nr : Int) := by rw [w64 (by omega) (by omega)]; omega
          have hsc : IntKind.i64.wrap (nr : Int) = (nr : Int) := w64 (by omega) (by omega)
          have hsd : IntKind.i64.wrap ((nr : Int) + 1 - 1) = (nr : Int) := by rw [w64 (by omega) (by omega)]; omega
          have k21 := rowW_cell (cs := [.slice a8 n8 m8, .slice a9 n9 m9, .int .u16 (bt l 0 * 256 + bt l 1), .int .u16 (bt l 2 * 256 + bt l 3), .int .u32 (bt l 4 * 16777216 + bt l 5 * 65536 + bt l 6 * 256 + bt l 7), .int .u32 (bt l 8 * 16777216 + bt l 9 * 65536 + bt l 10 * 256 + bt l 11), .int .u8 (W : Int), .bool (fb (bt l 13) 1), .bool (fb (bt l 13) 2), .bool (fb (bt l 13) 4), .bool (fb (bt l 13) 8), .bool (fb (bt l 13) 16), .bool (fb (bt l 13) 32), .bool (fb (bt l 13) 64), .bool (fb (bt l 13) 128), .bool (fb (bt l 12) 1), .int .u16 (bt l 14 * 256 + bt l 15), .int .u16 (bt l 16 * 256 + bt l 17), .int .u16 (bt l 18 * 256 + bt l 19), .slice a1 n1 m1, .slice a2 n2 m2, .slice (some ⟨g4, f4, none⟩) (nr + 1) cp4, .slice none 0 0, u23, u24, u25, u26, u27, u28, u29, u30, u31, u32, u33, u34, y35]) (e := 85) dx4 21
          have HT5 := Lib.hid (And.intro TP5 gx5)
          have HT4 := Lib.hid TP4
          clear TP4 TP5 hnr gx5 j5
          go_wp2_with fail
          go_region_held3 (fun w' => w'.cell? ⟨D, 21, none⟩ = some (.slice (some ⟨g4, f4, none⟩) (nr + 1) cp4)) (first | exact k21 | go_keep) (fail)
          go_wp2_with fail
          rw [Exit.noGoto_ret]
          go_ret
          unfold TcpPost
          exact ⟨rfl, row_step hd HT5.out.2, _, _, _, _, _, _, _, _, _, _, _, _, .slice (some ⟨g4, f4, none⟩) (nr + 1) cp4, .slice a' n' m', _, _, _, _, _, _, _, _, _, _, _, _, _, rs ++ [((⟨0, 1, []⟩ : Opt), (.slice none 0 0 : Value))], isB_rows hd HT5.out.2 H9.out.1 (by rw [H9.out.2]; exact HW1.out), rowW_heap dx5, by rw [rowW_size]; exact (HT5.out.1.1.swap (C' := [.slice a8 n8 m8, .slice a9 n9 m9, .int .u16 (bt l 0 * 256 + bt l 1), .int .u16 (bt l 2 * 256 + bt l 3), .int .u32 (bt l 4 * 16777216 + bt l 5 * 65536 + bt l 6 * 256 + bt l 7), .int .u32 (bt l 8 * 16777216 + bt l 9 * 65536 + bt l 10 * 256 + bt l 11), .int .u8 (W : Int), .bool (fb (bt l 13) 1), .bool (fb (bt l 13) 2), .bool (fb (bt l 13) 4), .bool (fb (bt l 13) 8), .bool (fb (bt l 13) 16), .bool (fb (bt l 13) 32), .bool (fb (bt l 13) 64), .bool (fb (bt l 13) 128), .bool (fb (bt l 12) 1), .int .u16 (bt l 14 * 256 + bt l 15), .int .u16 (bt l 16 * 256 + bt l 17), .int .u16 (bt l 18 * 256 + bt l 19), .slice a1 n1 m1, .slice a2 n2 m2, .slice (some ⟨g4, f4, none⟩) (nr + 1) cp4, .slice a' n' m', r23, r24, r25, r26, r27, r28, r29, r30, r31, r32, r33, r34, y35]) rfl rfl).row, by rw [List.map_append, HS.out]; simp [padO, HP.out], fun p hp => (List.mem_append.1 hp).elim (fun h1 => (HIN.out p h1).rows HT5.out.2 HW1.out) (fun h1 => by rw [List.mem_singleton.1 h1]; exact ⟨isB_nil, .inr rfl⟩)⟩
        · go_simp
          refine hK.out _ _ (Gr.cell (((Gr.refl _).drew).alloc _) ((rowW_cell_other (cs := [.slice a8 n8 m8, .slice a9 n9 m9, .int .u16 (bt l 0 * 256 + bt l 1), .int .u16 (bt l 2 * 256 + bt l 3), .int .u32 (bt l 4 * 16777216 + bt l 5 * 65536 + bt l 6 * 256 + bt l 7), .int .u32 (bt l 8 * 16777216 + bt l 9 * 65536 + bt l 10 * 256 + bt l 11), .int .u8 (W : Int), .bool (fb (bt l 13) 1), .bool (fb (bt l 13) 2), .bool (fb (bt l 13) 4), .bool (fb (bt l 13) 8), .bool (fb (bt l 13) 16), .bool (fb (bt l 13) 32), .bool (fb (bt l 13) 64), .bool (fb (bt l 13) 128), .bool (fb (bt l 12) 1), .int .u16 (bt l 14 * 256 + bt l 15), .int .u16 (bt l 16 * 256 + bt l 17), .int .u16 (bt l 18 * 256 + bt l 19), .slice a1 n1 m1, .slice a2 n2 m2, v, .slice none 0 0, z23, z24, z25, z26, z27, z28, z29, z30, z31, z32, z33, z34, y35]) (e := 85) ei).trans ci)) (fun hHeld => ?_)
          clear hK K
          try simp only [Act.put, List.getElem_toArray, List.getElem_cons_succ, List.getElem_cons_zero, List.setIfInBounds_toArray, List.set_cons_zero, List.set_cons_succ]
          refine wpAnyH_ready (rs := [4]) (by kernel_rfl) (by simp) ((AllReadyH.cons rfl (fun K hK => ?_) AllReadyH.nil))
          refine step_loadc (by rfl) 75 (.tmp 225) (by rfl) D 21 (by first | rfl | simp) v 78 Try.underlying75 (Gr.cell (((Gr.refl _).drew).alloc _) (rowW_cell (cs := [.slice a8 n8 m8, .slice a9 n9 m9, .int .u16 (bt l 0 * 256 + bt l 1), .int .u16 (bt l 2 * 256 + bt l 3), .int .u32 (bt l 4 * 16777216 + bt l 5 * 65536 + bt l 6 * 256 + bt l 7), .int .u32 (bt l 8 * 16777216 + bt l 9 * 65536 + bt l 10 * 256 + bt l 11), .int .u8 (W : Int), .bool (fb (bt l 13) 1), .bool (fb (bt l 13) 2), .bool (fb (bt l 13) 4), .bool (fb (bt l 13) 8), .bool (fb (bt l 13) 16), .bool (fb (bt l 13) 32), .bool (fb (bt l 13) 64), .bool (fb (bt l 13) 128), .bool (fb (bt l 12) 1), .int .u16 (bt l 14 * 256 + bt l 15), .int .u16 (bt l 16 * 256 + bt l 17), .int .u16 (bt l 18 * 256 + bt l 19), .slice a1 n1 m1, .slice a2 n2 m2, v, .slice none 0 0, z23, z24, z25, z26, z27, z28, z29, z30, z31, z32, z33, z34, y35]) (e := 85) hX 21)) ?_
          refine hK.out _ _ (Gr.cell (((Gr.refl _).drew).alloc _) ((rowW_cell_other (cs := [.slice a8 n8 m8, .slice a9 n9 m9, .int .u16 (bt l 0 * 256 + bt l 1), .int .u16 (bt l 2 * 256 + bt l 3), .int .u32 (bt l 4 * 16777216 + bt l 5 * 65536 + bt l 6 * 256 + bt l 7), .int .u32 (bt l 8 * 16777216 + bt l 9 * 65536 + bt l 10 * 256 + bt l 11), .int .u8 (W : Int), .bool (fb (bt l 13) 1), .bool (fb (bt l 13) 2), .bool (fb (bt l 13) 4), .bool (fb (bt l 13) 8), .bool (fb (bt l 13) 16), .bool (fb (bt l 13) 32), .bool (fb (bt l 13) 64), .bool (fb (bt l 13) 128), .bool (fb (bt l 12) 1), .int .u16 (bt l 14 * 256 + bt l 15), .int .u16 (bt l 16 * 256 + bt l 17), .int .u16 (bt l 18 * 256 + bt l 19), .slice a1 n1 m1, .slice a2 n2 m2, v, .slice none 0 0, z23, z24, z25, z26, z27, z28, z29, z30, z31, z32, z33, z34, y35]) (e := 85) ei).trans ci)) (fun hHeld => ?_)
          clear hK K
          try simp only [Act.put, List.getElem_toArray, List.getElem_cons_succ, List.getElem_cons_zero, List.setIfInBounds_toArray, List.set_cons_zero, List.set_cons_succ]
          refine wpAnyH_ready (rs := [10]) (by kernel_rfl) (by simp) ((AllReadyH.cons rfl (fun K hK => ?_) AllReadyH.nil))
          refine step_appT (x := x) (U := x.drew.alloc (.cells #[.int .u8 0, .int .u8 0, .slice none 0 0] 78)) (wb := w1) (D := D) (C := [.slice a8 n8 m8, .slice a9 n9 m9, .int .u16 (bt l 0 * 256 + bt l 1), .int .u16 (bt l 2 * 256 + bt l 3), .int .u32 (bt l 4 * 16777216 + bt l 5 * 65536 + bt l 6 * 256 + bt l 7), .int .u32 (bt l 8 * 16777216 + bt l 9 * 65536 + bt l 10 * 256 + bt l 11), .int .u8 (W : Int), .bool (fb (bt l 13) 1), .bool (fb (bt l 13) 2), .bool (fb (bt l 13) 4), .bool (fb (bt l 13) 8), .bool (fb (bt l 13) 16), .bool (fb (bt l 13) 32), .bool (fb (bt l 13) 64), .bool (fb (bt l 13) 128), .bool (fb (bt l 12) 1), .int .u16 (bt l 14 * 256 + bt l 15), .int .u16 (bt l 16 * 256 + bt l 17), .int .u16 (bt l 18 * 256 + bt l 19), .slice a1 n1 m1, .slice a2 n2 m2, v, .slice none 0 0, z23, z24, z25, z26, z27, z28, z29, z30, z31, z32, z33, z34, y35]) (t := 85) (base := w1.heap.size) rfl (.tmp 226) (.tmp 231) rfl (rowW_allocT (show Has x.drew D from hX) _) (by first | rfl | simp [Act.eval]) HTL.out (((Gr.refl _).drew).alloc _) HG.out rfl hX hrl x.heap.size 1 (⟨0, 0, []⟩, .slice none 0 0) (by first | rfl | simp [Act.eval]) (box3 (rowW_size (w := x)).symm _ _ _ _).1 (box3 (rowW_size (w := x)).symm _ _ _ _).2.1 (box3 (rowW_size (w := x)).symm _ _ _ _).2.2 rfl ?_
          intro v4 x4 C4 g4 q4 hof4 dx4 gx4 hTP
          obtain ⟨f4, cp4, hv4, hq4⟩ := id hTP.2
          subst hv4
          obtain ⟨nr, hnr⟩ : ∃ nr, nr = rs.length := ⟨_, rfl⟩
          have HNR := Lib.hid (And.intro hnr hq4)
          rw [← hnr] at hTP ⊢
          clear hnr hq4
          obtain ⟨zs4, hz4, rfl⟩ := hof4.lit rfl
          obtain ⟨u23, u24, u25, u26, u27, u28, u29, u30, u31, u32, u33, u34, rfl⟩ := len12 hz4
          have ce4 : ([.slice a8 n8 m8, .slice a9 n9 m9, .int .u16 (bt l 0 * 256 + bt l 1), .int .u16 (bt l 2 * 256 + bt l 3), .int .u32 (bt l 4 * 16777216 + bt l 5 * 65536 + bt l 6 * 256 + bt l 7), .int .u32 (bt l 8 * 16777216 + bt l 9 * 65536 + bt l 10 * 256 + bt l 11), .int .u8 (W : Int), .bool (fb (bt l 13) 1), .bool (fb (bt l 13) 2), .bool (fb (bt l 13) 4), .bool (fb (bt l 13) 8), .bool (fb (bt l 13) 16), .bool (fb (bt l 13) 32), .bool (fb (bt l 13) 64), .bool (fb (bt l 13) 128), .bool (fb (bt l 12) 1), .int .u16 (bt l 14 * 256 + bt l 15), .int .u16 (bt l 16 * 256 + bt l 17), .int .u16 (bt l 18 * 256 + bt l 19), .slice a1 n1 m1, .slice a2 n2 m2, v, .slice none 0 0, z23, z24, z25, z26, z27, z28, z29, z30, z31, z32, z33, z34, y35] : List Value).take 23 ++ ([u23, u24, u25, u26, u27, u28, u29, u30, u31, u32, u33, u34] ++ ([.slice a8 n8 m8, .slice a9 n9 m9, .int .u16 (bt l 0 * 256 + bt l 1), .int .u16 (bt l 2 * 256 + bt l 3), .int .u32 (bt l 4 * 16777216 + bt l 5 * 65536 + bt l 6 * 256 + bt l 7), .int .u32 (bt l 8 * 16777216 + bt l 9 * 65536 + bt l 10 * 256 + bt l 11), .int .u8 (W : Int), .bool (fb (bt l 13) 1), .bool (fb (bt l 13) 2), .bool (fb (bt l 13) 4), .bool (fb (bt l 13) 8), .bool (fb (bt l 13) 16), .bool (fb (bt l 13) 32), .bool (fb (bt l 13) 64), .bool (fb (bt l 13) 128), .bool (fb (bt l 12) 1), .int .u16 (bt l 14 * 256 + bt l 15), .int .u16 (bt l 16 * 256 + bt l 17), .int .u16 (bt l 18 * 256 + bt l 19), .slice a1 n1 m1, .slice a2 n2 m2, v, .slice none 0 0, z23, z24, z25, z26, z27, z28, z29, z30, z31, z32, z33, z34, y35] : List Value).drop 35) = [.slice a8 n8 m8, .slice a9 n9 m9, .int .u16 (bt l 0 * 256 + bt l 1), .int .u16 (bt l 2 * 256 + bt l 3), .int .u32 (bt l 4 * 16777216 + bt l 5 * 65536 + bt l 6 * 256 + bt l 7), .int .u32 (bt l 8 * 16777216 + bt l 9 * 65536 + bt l 10 * 256 + bt l 11), .int .u8 (W : Int), .bool (fb (bt l 13) 1), .bool (fb (bt l 13) 2), .bool (fb (bt l 13) 4), .bool (fb (bt l 13) 8), .bool (fb (bt l 13) 16), .bool (fb (bt l 13) 32), .bool (fb (bt l 13) 64), .bool (fb (bt l 13) 128), .bool (fb (bt l 12) 1), .int .u16 (bt l 14 * 256 + bt l 15), .int .u16 (bt l 16 * 256 + bt l 17), .int .u16 (bt l 18 * 256 + bt l 19), .slice a1 n1 m1, .slice a2 n2 m2, v, .slice none 0 0, u23, u24, u25, u26, u27, u28, u29, u30, u31, u32, u33, u34, y35] := rfl
          rw [ce4] at hTP ⊢
          clear ce4 hof4
          refine hK.out _ _ ((rowW_cell_other ei).trans (gx4.cell ciw)) (fun hHeld => ?_)
          clear hK K
          try simp only [Act.put, List.getElem_toArray, List.getElem_cons_succ, List.getElem_cons_zero, List.setIfInBounds_toArray, List.set_cons_zero, List.set_cons_succ]
          refine wpAnyH_take (i := 11) (v := .pointer (some ⟨D, 0, none⟩)) rfl (by kernel_rfl) (by kernel_rfl) (by kernel_rfl) (fun _ _ _ h => h) (Or.inl ⟨by rfl, fun w' hS => ?_⟩) (by assumption) ?_
          · have c0 := hS
            clear hHeld
            go_simp
          try simp only [Act.put, List.getElem_toArray, List.getElem_cons_succ, List.getElem_cons_zero, List.setIfInBounds_toArray, List.set_cons_zero, List.set_cons_succ]
          refine wpAnyH_take (i := 12) (v := .pointer (some ⟨D, 21, none⟩)) rfl (by kernel_rfl) (by kernel_rfl) (by kernel_rfl) (fun _ _ _ h => h) (Or.inl ⟨by rfl, fun w' hS => ?_⟩) (by assumption) ?_
          · have c0 := hS
            clear hHeld
            go_simp
          try simp only [Act.put, List.getElem_toArray, List.getElem_cons_succ, List.getElem_cons_zero, List.setIfInBounds_toArray, List.set_cons_zero, List.set_cons_succ]
          refine wpAnyH_ready (rs := [13]) (by kernel_rfl) (by simp) ((AllReadyH.cons rfl (fun K hK => ?_) AllReadyH.nil))
          go_simp
          refine hK.out _ _ ((rowW_cell_other ei).trans (gx4.cell ciw)) (fun hHeld => ?_)
          clear hK K
          try simp only [Act.put, List.getElem_toArray, List.getElem_cons_succ, List.getElem_cons_zero, List.setIfInBounds_toArray, List.set_cons_zero, List.set_cons_succ]
          refine wpAnyH_done (by kernel_rfl) ?_ _
          clear hHeld
          have TP4 := (hTP.swap (C' := [.slice a8 n8 m8, .slice a9 n9 m9, .int .u16 (bt l 0 * 256 + bt l 1), .int .u16 (bt l 2 * 256 + bt l 3), .int .u32 (bt l 4 * 16777216 + bt l 5 * 65536 + bt l 6 * 256 + bt l 7), .int .u32 (bt l 8 * 16777216 + bt l 9 * 65536 + bt l 10 * 256 + bt l 11), .int .u8 (W : Int), .bool (fb (bt l 13) 1), .bool (fb (bt l 13) 2), .bool (fb (bt l 13) 4), .bool (fb (bt l 13) 8), .bool (fb (bt l 13) 16), .bool (fb (bt l 13) 32), .bool (fb (bt l 13) 64), .bool (fb (bt l 13) 128), .bool (fb (bt l 12) 1), .int .u16 (bt l 14 * 256 + bt l 15), .int .u16 (bt l 16 * 256 + bt l 17), .int .u16 (bt l 18 * 256 + bt l 19), .slice a1 n1 m1, .slice a2 n2 m2, .slice (some ⟨g4, f4, none⟩) (nr + 1) cp4, .slice none 0 0, u23, u24, u25, u26, u27, u28, u29, u30, u31, u32, u33, u34, y35]) rfl rfl).gr ((Gr.refl x4).drew)
          have dx4d : Has x4.drew D := dx4
          have gx4d : Gr w1 x4.drew := gx4.drew
          clear hTP
          obtain ⟨j4, k40, k41, k42, f41, f42⟩ := TP4.last (t := 85) dx4d .i64
          obtain ⟨x5, C5, hs5, of5, dx5, gx5, TP5⟩ := TP4.set (t := 85) (⟨0, 1, []⟩, .slice none 0 0) 1 (.int .u8 1) rfl (by omega) gx4d rfl dx4d
          obtain ⟨zs5, hz5, rfl⟩ := of5.lit rfl
          obtain ⟨r23, r24, r25, r26, r27, r28, r29, r30, r31, r32, r33, r34, rfl⟩ := len12 hz5
          have ce5 : ([.slice a8 n8 m8, .slice a9 n9 m9, .int .u16 (bt l 0 * 256 + bt l 1), .int .u16 (bt l 2 * 256 + bt l 3), .int .u32 (bt l 4 * 16777216 + bt l 5 * 65536 + bt l 6 * 256 + bt l 7), .int .u32 (bt l 8 * 16777216 + bt l 9 * 65536 + bt l 10 * 256 + bt l 11), .int .u8 (W : Int), .bool (fb (bt l 13) 1), .bool (fb (bt l 13) 2), .bool (fb (bt l 13) 4), .bool (fb (bt l 13) 8), .bool (fb (bt l 13) 16), .bool (fb (bt l 13) 32), .bool (fb (bt l 13) 64), .bool (fb (bt l 13) 128), .bool (fb (bt l 12) 1), .int .u16 (bt l 14 * 256 + bt l 15), .int .u16 (bt l 16 * 256 + bt l 17), .int .u16 (bt l 18 * 256 + bt l 19), .slice a1 n1 m1, .slice a2 n2 m2, .slice (some ⟨g4, f4, none⟩) (nr + 1) cp4, .slice none 0 0, u23, u24, u25, u26, u27, u28, u29, u30, u31, u32, u33, u34, y35] : List Value).take 23 ++ ([r23, r24, r25, r26, r27, r28, r29, r30, r31, r32, r33, r34] ++ ([.slice a8 n8 m8, .slice a9 n9 m9, .int .u16 (bt l 0 * 256 + bt l 1), .int .u16 (bt l 2 * 256 + bt l 3), .int .u32 (bt l 4 * 16777216 + bt l 5 * 65536 + bt l 6 * 256 + bt l 7), .int .u32 (bt l 8 * 16777216 + bt l 9 * 65536 + bt l 10 * 256 + bt l 11), .int .u8 (W : Int), .bool (fb (bt l 13) 1), .bool (fb (bt l 13) 2), .bool (fb (bt l 13) 4), .bool (fb (bt l 13) 8), .bool (fb (bt l 13) 16), .bool (fb (bt l 13) 32), .bool (fb (bt l 13) 64), .bool (fb (bt l 13) 128), .bool (fb (bt l 12) 1), .int .u16 (bt l 14 * 256 + bt l 15), .int .u16 (bt l 16 * 256 + bt l 17), .int .u16 (bt l 18 * 256 + bt l 19), .slice a1 n1 m1, .slice a2 n2 m2, .slice (some ⟨g4, f4, none⟩) (nr + 1) cp4, .slice none 0 0, u23, u24, u25, u26, u27, u28, u29, u30, u31, u32, u33, u34, y35] : List Value).drop 35) = [.slice a8 n8 m8, .slice a9 n9 m9, .int .u16 (bt l 0 * 256 + bt l 1), .int .u16 (bt l 2 * 256 + bt l 3), .int .u32 (bt l 4 * 16777216 + bt l 5 * 65536 + bt l 6 * 256 + bt l 7), .int .u32 (bt l 8 * 16777216 + bt l 9 * 65536 + bt l 10 * 256 + bt l 11), .int .u8 (W : Int), .bool (fb (bt l 13) 1), .bool (fb (bt l 13) 2), .bool (fb (bt l 13) 4), .bool (fb (bt l 13) 8), .bool (fb (bt l 13) 16), .bool (fb (bt l 13) 32), .bool (fb (bt l 13) 64), .bool (fb (bt l 13) 128), .bool (fb (bt l 12) 1), .int .u16 (bt l 14 * 256 + bt l 15), .int .u16 (bt l 16 * 256 + bt l 17), .int .u16 (bt l 18 * 256 + bt l 19), .slice a1 n1 m1, .slice a2 n2 m2, .slice (some ⟨g4, f4, none⟩) (nr + 1) cp4, .slice none 0 0, r23, r24, r25, r26, r27, r28, r29, r30, r31, r32, r33, r34, y35] := rfl
          rw [ce5] at hs5 TP5
          clear ce5 of5
          obtain ⟨j5, k50, k51, k52, f51, f52⟩ := TP5.last (t := 85) dx5 .i64
          have hnr := HNR.out.1
          rw [← hnr] at j4 j5
          have hrl' : nr ≤ 200 := by rw [hnr]; exact hrl
          have hsb : IntKind.i64.wrap (((nr + 1 : Nat) : Int) - 1) = (nr : Int) := by rw [w64 (by omega) (by omega)]; omega
          have hsc : IntKind.i64.wrap (nr : Int) = (nr : Int) := w64 (by omega) (by omega)
          have hsd : IntKind.i64.wrap ((nr : Int) + 1 - 1) = (nr : Int) := by rw [w64 (by omega) (by omega)]; omega
          have k21 := rowW_cell (cs := [.slice a8 n8 m8, .slice a9 n9 m9, .int .u16 (bt l 0 * 256 + bt l 1), .int .u16 (bt l 2 * 256 + bt l 3), .int .u32 (bt l 4 * 16777216 + bt l 5 * 65536 + bt l 6 * 256 + bt l 7), .int .u32 (bt l 8 * 16777216 + bt l 9 * 65536 + bt l 10 * 256 + bt l 11), .int .u8 (W : Int), .bool (fb (bt l 13) 1), .bool (fb (bt l 13) 2), .bool (fb (bt l 13) 4), .bool (fb (bt l 13) 8), .bool (fb (bt l 13) 16), .bool (fb (bt l 13) 32), .bool (fb (bt l 13) 64), .bool (fb (bt l 13) 128), .bool (fb (bt l 12) 1), .int .u16 (bt l 14 * 256 + bt l 15), .int .u16 (bt l 16 * 256 + bt l 17), .int .u16 (bt l 18 * 256 + bt l 19), .slice a1 n1 m1, .slice a2 n2 m2, .slice (some ⟨g4, f4, none⟩) (nr + 1) cp4, .slice none 0 0, u23, u24, u25, u26, u27, u28, u29, u30, u31, u32, u33, u34, y35]) (e := 85) dx4 21
          have HT5 := Lib.hid (And.intro TP5 gx5)
          have HT4 := Lib.hid TP4
          clear TP4 TP5 hnr gx5 j5
          go_wp2_with fail
          go_region_held3 (fun w' => w'.cell? ⟨D, 21, none⟩ = some (.slice (some ⟨g4, f4, none⟩) (nr + 1) cp4)) (first | exact k21 | go_keep) (fail)
          go_wp2_with fail
          rw [Exit.noGoto_ret]
          go_ret
          unfold TcpPost
          exact ⟨rfl, row_step hd HT5.out.2, _, _, _, _, _, _, _, _, _, _, _, _, .slice (some ⟨g4, f4, none⟩) (nr + 1) cp4, .slice a' n' m', _, _, _, _, _, _, _, _, _, _, _, _, _, rs ++ [((⟨0, 1, []⟩ : Opt), (.slice none 0 0 : Value))], isB_rows hd HT5.out.2 H9.out.1 (by rw [H9.out.2]; exact HW1.out), rowW_heap dx5, by rw [rowW_size]; exact (HT5.out.1.1.swap (C' := [.slice a8 n8 m8, .slice a9 n9 m9, .int .u16 (bt l 0 * 256 + bt l 1), .int .u16 (bt l 2 * 256 + bt l 3), .int .u32 (bt l 4 * 16777216 + bt l 5 * 65536 + bt l 6 * 256 + bt l 7), .int .u32 (bt l 8 * 16777216 + bt l 9 * 65536 + bt l 10 * 256 + bt l 11), .int .u8 (W : Int), .bool (fb (bt l 13) 1), .bool (fb (bt l 13) 2), .bool (fb (bt l 13) 4), .bool (fb (bt l 13) 8), .bool (fb (bt l 13) 16), .bool (fb (bt l 13) 32), .bool (fb (bt l 13) 64), .bool (fb (bt l 13) 128), .bool (fb (bt l 12) 1), .int .u16 (bt l 14 * 256 + bt l 15), .int .u16 (bt l 16 * 256 + bt l 17), .int .u16 (bt l 18 * 256 + bt l 19), .slice a1 n1 m1, .slice a2 n2 m2, .slice (some ⟨g4, f4, none⟩) (nr + 1) cp4, .slice a' n' m', r23, r24, r25, r26, r27, r28, r29, r30, r31, r32, r33, r34, y35]) rfl rfl).row, by rw [List.map_append, HS.out]; simp [padO, HP.out], fun p hp => (List.mem_append.1 hp).elim (fun h1 => (HIN.out p h1).rows HT5.out.2 HW1.out) (fun h1 => by rw [List.mem_singleton.1 h1]; exact ⟨isB_nil, .inr rfl⟩)⟩
end Go.Proofs.Ytdpffedmgmllbaa
