/-
  The header of a segment without options, as data.
-/
import Derived.Test.YtoopkfnkmaaieaaTCP
import Derived.Test.YtoopkfnkmaaieaaOpts
namespace Go.Proofs.Ytoopkfnkmaaieaa
open Go.RowKit

/-- the bits of a list, one behind the other -/
def fsum (f : List Bool) : Nat → Int
  | 0 => 0
  | k + 1 => fsum f k + (if f.getD k false = true then 2 ^ k else 0)
theorem fsum_bd (f : List Bool) : ∀ k, 0 ≤ fsum f k ∧ fsum f k < 2 ^ k
  | 0 => by simp [fsum]
  | k + 1 => by
    have := fsum_bd f k
    have h2 : (2 : Int) ^ (k + 1) = 2 ^ k + 2 ^ k := by rw [Int.pow_succ]; omega
    rw [fsum, h2]
    split <;> omega
/-- the flags of a header -/
def flagsOf (l : List Int) : List Bool := [(fb (bt l 13) 1), (fb (bt l 13) 2), (fb (bt l 13) 4), (fb (bt l 13) 8), (fb (bt l 13) 16), (fb (bt l 13) 32), (fb (bt l 13) 64), (fb (bt l 13) 128), (fb (bt l 12) 1)]

/-- what holds ahead of a round -/
def TcpRel (x0 : World) (O : Nat) (c : Int → List Value) (fs : List Bool) (i : Value) (wr : World) : Prop := ∃ k : Nat, k ≤ 9 ∧ i = .int .i64 k ∧ wr = rowW x0 O (c (fsum fs k)) 24

set_option maxRecDepth 100000 in
set_option maxHeartbeats 4000000 in
theorem tcpRead_calls (v : Value) (l : List Int) (w : World) (h : IsB w v l) (hl : 20 ≤ l.length) (h5 : bt l 12 / 16 = 5) (hm : l.length ≤ 1000000) :
    Calls Try.prog 17 #[v] w fun e w' => ∃ f9 g9 j9, e = .returned (.tuple #[.agg #[.int .i64 (bt l 0 * 256 + bt l 1), .int .i64 (bt l 2 * 256 + bt l 3), .int .i64 (bt l 4 * 16777216 + bt l 5 * 65536 + bt l 6 * 256 + bt l 7), .int .i64 (bt l 8 * 16777216 + bt l 9 * 65536 + bt l 10 * 256 + bt l 11), .int .i64 5, .int .i64 (fsum (flagsOf l) 9), .int .i64 (bt l 14 * 256 + bt l 15), .int .i64 (bt l 16 * 256 + bt l 17), .int .i64 (bt l 18 * 256 + bt l 19), .slice none 0 0], .slice f9 g9 j9, .bool true]) ∧
      IsB w' (.slice f9 g9 j9) (l.drop 20) ∧ Gr w w' := by
  have H := Lib.hid h
  have H5 := Lib.hid h5
  clear h h5
  go_enter Try.func17, Try.ntmps17
  go_wp2_with fail
  refine (copied_calls _ l _ ?_ (by omega)).mono ?_
  · exact H.out.gr (((Gr.refl w).alloc _).alloc _)
  rintro e w1 ⟨a0, n0, m0, rfl, hoA, hgA⟩
  go_wp2_with fail
  refine (nilFeedback_calls _).mono ?_
  rintro e w2 ⟨rfl, rfl⟩
  go_wp2_with fail
  have hR := HasRow.gr hgA (HasRow.gr (World.grownBy_alloc _ (.cells #[.slice none 0 0, .slice none 0 0, .int .u16 0, .int .u16 0, .int .u32 0, .int .u32 0, .int .u8 0, .bool false, .bool false, .bool false, .bool false, .bool false, .bool false, .bool false, .bool false, .bool false, .int .u16 0, .int .u16 0, .int .u16 0, .slice none 0 0, .slice none 0 0, .slice none 0 0, .slice none 0 0, .int .u8 0, .int .u8 0, .slice none 0 0, .int .u8 0, .int .u8 0, .slice none 0 0, .int .u8 0, .int .u8 0, .slice none 0 0, .int .u8 0, .int .u8 0, .slice none 0 0, .nilIface] 87) none) (HasRow.new w [.int .i64 0, .int .i64 0, .int .i64 0, .int .i64 0, .int .i64 0, .int .i64 0, .int .i64 0, .int .i64 0, .int .i64 0, .slice none 0 0] 24 10 rfl))
  have hD := heap_gr hgA (heap_alloc_new (w.alloc (.cells #[.int .i64 0, .int .i64 0, .int .i64 0, .int .i64 0, .int .i64 0, .int .i64 0, .int .i64 0, .int .i64 0, .int .i64 0, .slice none 0 0] 24)) (.cells #[.slice none 0 0, .slice none 0 0, .int .u16 0, .int .u16 0, .int .u32 0, .int .u32 0, .int .u8 0, .bool false, .bool false, .bool false, .bool false, .bool false, .bool false, .bool false, .bool false, .bool false, .int .u16 0, .int .u16 0, .int .u16 0, .slice none 0 0, .slice none 0 0, .slice none 0 0, .slice none 0 0, .int .u8 0, .int .u8 0, .slice none 0 0, .int .u8 0, .int .u8 0, .slice none 0 0, .int .u8 0, .int .u8 0, .slice none 0 0, .int .u8 0, .int .u8 0, .slice none 0 0, .nilIface] 87))
  have hS := hgA.size
  simp only [World.size_alloc] at hD hS
  have HR := Lib.hid hR
  have HD := Lib.hid hD
  clear hR hD
  refine (tcpDecode_calls (w.heap.size + 1) _ rfl rfl rfl _ l w1 HD.out hoA.isB hl H5.out (hoA.other (by simp))).mono ?_
  rintro e w2 ⟨rfl, hgB, z23, z24, z25, z26, z27, z28, z29, z30, z31, z32, z33, z34, z35, a8, n8, m8, a9, n9, m9, a1, n1, m1, a2, n2, m2, hb8, hb9, hb1, hb2, hd2⟩
  have HR2 := Lib.hid (HasRow.grown HR.out hgB (by omega))
  have HG2 := Lib.hid hgB
  have HD2 := Lib.hid hd2
  clear hgB hd2
  have k1 := cell_of_heap (cs := [_, _, _, _, _, _, _, _, _, _, _, _, _, _, _, _, _, _, _, _, _, _, _, _, _, _, _, _, _, _, _, _, _, _, _, _]) HD2.out 1 _ rfl
  have k2 := cell_of_heap (cs := [_, _, _, _, _, _, _, _, _, _, _, _, _, _, _, _, _, _, _, _, _, _, _, _, _, _, _, _, _, _, _, _, _, _, _, _]) HD2.out 2 _ rfl
  have k3 := cell_of_heap (cs := [_, _, _, _, _, _, _, _, _, _, _, _, _, _, _, _, _, _, _, _, _, _, _, _, _, _, _, _, _, _, _, _, _, _, _, _]) HD2.out 3 _ rfl
  have k4 := cell_of_heap (cs := [_, _, _, _, _, _, _, _, _, _, _, _, _, _, _, _, _, _, _, _, _, _, _, _, _, _, _, _, _, _, _, _, _, _, _, _]) HD2.out 4 _ rfl
  have k5 := cell_of_heap (cs := [_, _, _, _, _, _, _, _, _, _, _, _, _, _, _, _, _, _, _, _, _, _, _, _, _, _, _, _, _, _, _, _, _, _, _, _]) HD2.out 5 _ rfl
  have k6 := cell_of_heap (cs := [_, _, _, _, _, _, _, _, _, _, _, _, _, _, _, _, _, _, _, _, _, _, _, _, _, _, _, _, _, _, _, _, _, _, _, _]) HD2.out 6 _ rfl
  have k7 := cell_of_heap (cs := [_, _, _, _, _, _, _, _, _, _, _, _, _, _, _, _, _, _, _, _, _, _, _, _, _, _, _, _, _, _, _, _, _, _, _, _]) HD2.out 7 _ rfl
  have k8 := cell_of_heap (cs := [_, _, _, _, _, _, _, _, _, _, _, _, _, _, _, _, _, _, _, _, _, _, _, _, _, _, _, _, _, _, _, _, _, _, _, _]) HD2.out 8 _ rfl
  have k9 := cell_of_heap (cs := [_, _, _, _, _, _, _, _, _, _, _, _, _, _, _, _, _, _, _, _, _, _, _, _, _, _, _, _, _, _, _, _, _, _, _, _]) HD2.out 9 _ rfl
  have k10 := cell_of_heap (cs := [_, _, _, _, _, _, _, _, _, _, _, _, _, _, _, _, _, _, _, _, _, _, _, _, _, _, _, _, _, _, _, _, _, _, _, _]) HD2.out 10 _ rfl
  have k11 := cell_of_heap (cs := [_, _, _, _, _, _, _, _, _, _, _, _, _, _, _, _, _, _, _, _, _, _, _, _, _, _, _, _, _, _, _, _, _, _, _, _]) HD2.out 11 _ rfl
  have k12 := cell_of_heap (cs := [_, _, _, _, _, _, _, _, _, _, _, _, _, _, _, _, _, _, _, _, _, _, _, _, _, _, _, _, _, _, _, _, _, _, _, _]) HD2.out 12 _ rfl
  have k13 := cell_of_heap (cs := [_, _, _, _, _, _, _, _, _, _, _, _, _, _, _, _, _, _, _, _, _, _, _, _, _, _, _, _, _, _, _, _, _, _, _, _]) HD2.out 13 _ rfl
  have k14 := cell_of_heap (cs := [_, _, _, _, _, _, _, _, _, _, _, _, _, _, _, _, _, _, _, _, _, _, _, _, _, _, _, _, _, _, _, _, _, _, _, _]) HD2.out 14 _ rfl
  have k15 := cell_of_heap (cs := [_, _, _, _, _, _, _, _, _, _, _, _, _, _, _, _, _, _, _, _, _, _, _, _, _, _, _, _, _, _, _, _, _, _, _, _]) HD2.out 15 _ rfl
  have k16 := cell_of_heap (cs := [_, _, _, _, _, _, _, _, _, _, _, _, _, _, _, _, _, _, _, _, _, _, _, _, _, _, _, _, _, _, _, _, _, _, _, _]) HD2.out 16 _ rfl
  have k17 := cell_of_heap (cs := [_, _, _, _, _, _, _, _, _, _, _, _, _, _, _, _, _, _, _, _, _, _, _, _, _, _, _, _, _, _, _, _, _, _, _, _]) HD2.out 17 _ rfl
  have k18 := cell_of_heap (cs := [_, _, _, _, _, _, _, _, _, _, _, _, _, _, _, _, _, _, _, _, _, _, _, _, _, _, _, _, _, _, _, _, _, _, _, _]) HD2.out 18 _ rfl
  have k21 := cell_of_heap (cs := [_, _, _, _, _, _, _, _, _, _, _, _, _, _, _, _, _, _, _, _, _, _, _, _, _, _, _, _, _, _, _, _, _, _, _, _]) HD2.out 21 _ rfl
  have p0 := hoA.bytes.bt0 0
  have q0 := hoA.bytes.bt1 0
  have p1 := hoA.bytes.bt0 1
  have q1 := hoA.bytes.bt1 1
  have p2 := hoA.bytes.bt0 2
  have q2 := hoA.bytes.bt1 2
  have p3 := hoA.bytes.bt0 3
  have q3 := hoA.bytes.bt1 3
  have p4 := hoA.bytes.bt0 4
  have q4 := hoA.bytes.bt1 4
  have p5 := hoA.bytes.bt0 5
  have q5 := hoA.bytes.bt1 5
  have p6 := hoA.bytes.bt0 6
  have q6 := hoA.bytes.bt1 6
  have p7 := hoA.bytes.bt0 7
  have q7 := hoA.bytes.bt1 7
  have p8 := hoA.bytes.bt0 8
  have q8 := hoA.bytes.bt1 8
  have p9 := hoA.bytes.bt0 9
  have q9 := hoA.bytes.bt1 9
  have p10 := hoA.bytes.bt0 10
  have q10 := hoA.bytes.bt1 10
  have p11 := hoA.bytes.bt0 11
  have q11 := hoA.bytes.bt1 11
  have p14 := hoA.bytes.bt0 14
  have q14 := hoA.bytes.bt1 14
  have p15 := hoA.bytes.bt0 15
  have q15 := hoA.bytes.bt1 15
  have p16 := hoA.bytes.bt0 16
  have q16 := hoA.bytes.bt1 16
  have p17 := hoA.bytes.bt0 17
  have q17 := hoA.bytes.bt1 17
  have p18 := hoA.bytes.bt0 18
  have q18 := hoA.bytes.bt1 18
  have p19 := hoA.bytes.bt0 19
  have q19 := hoA.bytes.bt1 19
  have u0 : IntKind.i64.wrap (bt l 0 * 256 + bt l 1) = bt l 0 * 256 + bt l 1 := w64 (by omega) (by omega)
  have u1 : IntKind.i64.wrap (bt l 2 * 256 + bt l 3) = bt l 2 * 256 + bt l 3 := w64 (by omega) (by omega)
  have u2 : IntKind.i64.wrap (bt l 4 * 16777216 + bt l 5 * 65536 + bt l 6 * 256 + bt l 7) = bt l 4 * 16777216 + bt l 5 * 65536 + bt l 6 * 256 + bt l 7 := w64 (by omega) (by omega)
  have u3 : IntKind.i64.wrap (bt l 8 * 16777216 + bt l 9 * 65536 + bt l 10 * 256 + bt l 11) = bt l 8 * 16777216 + bt l 9 * 65536 + bt l 10 * 256 + bt l 11 := w64 (by omega) (by omega)
  have u4 : IntKind.i64.wrap (bt l 14 * 256 + bt l 15) = bt l 14 * 256 + bt l 15 := w64 (by omega) (by omega)
  have u5 : IntKind.i64.wrap (bt l 16 * 256 + bt l 17) = bt l 16 * 256 + bt l 17 := w64 (by omega) (by omega)
  have u6 : IntKind.i64.wrap (bt l 18 * 256 + bt l 19) = bt l 18 * 256 + bt l 19 := w64 (by omega) (by omega)
  have u7 : IntKind.i64.wrap 5 = 5 := by decide
  go_wp2_with fail
  go_region_held3 (fun w' => w'.cell? ⟨w.heap.size + 1, 2, none⟩ = some (.int .u16 (bt l 0 * 256 + bt l 1)) ∧ w'.cell? ⟨w.heap.size + 1, 3, none⟩ = some (.int .u16 (bt l 2 * 256 + bt l 3)) ∧ w'.cell? ⟨w.heap.size + 1, 4, none⟩ = some (.int .u32 (bt l 4 * 16777216 + bt l 5 * 65536 + bt l 6 * 256 + bt l 7)) ∧ w'.cell? ⟨w.heap.size + 1, 5, none⟩ = some (.int .u32 (bt l 8 * 16777216 + bt l 9 * 65536 + bt l 10 * 256 + bt l 11)) ∧ w'.cell? ⟨w.heap.size + 1, 6, none⟩ = some (.int .u8 5) ∧ w'.cell? ⟨w.heap.size + 1, 16, none⟩ = some (.int .u16 (bt l 14 * 256 + bt l 15)) ∧ w'.cell? ⟨w.heap.size + 1, 17, none⟩ = some (.int .u16 (bt l 16 * 256 + bt l 17)) ∧ w'.cell? ⟨w.heap.size + 1, 18, none⟩ = some (.int .u16 (bt l 18 * 256 + bt l 19))) (first | exact ⟨k2, k3, k4, k5, k6, k16, k17, k18⟩ | exact And.imp (Gr.cell ((Gr.refl _).alloc _)) (And.imp (Gr.cell ((Gr.refl _).alloc _)) (And.imp (Gr.cell ((Gr.refl _).alloc _)) (And.imp (Gr.cell ((Gr.refl _).alloc _)) (And.imp (Gr.cell ((Gr.refl _).alloc _)) (And.imp (Gr.cell ((Gr.refl _).alloc _)) (And.imp (Gr.cell ((Gr.refl _).alloc _)) (Gr.cell ((Gr.refl _).alloc _)))))))) (by assumption) | go_keep) (fail)
  go_wp2_with fail
  go_region_held3 (fun w' => w'.cell? ⟨w.heap.size + 1, 7, none⟩ = some (.bool (fb (bt l 13) 1)) ∧ w'.cell? ⟨w.heap.size + 1, 8, none⟩ = some (.bool (fb (bt l 13) 2)) ∧ w'.cell? ⟨w.heap.size + 1, 9, none⟩ = some (.bool (fb (bt l 13) 4)) ∧ w'.cell? ⟨w.heap.size + 1, 10, none⟩ = some (.bool (fb (bt l 13) 8)) ∧ w'.cell? ⟨w.heap.size + 1, 11, none⟩ = some (.bool (fb (bt l 13) 16)) ∧ w'.cell? ⟨w.heap.size + 1, 12, none⟩ = some (.bool (fb (bt l 13) 32)) ∧ w'.cell? ⟨w.heap.size + 1, 13, none⟩ = some (.bool (fb (bt l 13) 64)) ∧ w'.cell? ⟨w.heap.size + 1, 14, none⟩ = some (.bool (fb (bt l 13) 128)) ∧ w'.cell? ⟨w.heap.size + 1, 15, none⟩ = some (.bool (fb (bt l 12) 1))) (first | exact ⟨Gr.cell ((Gr.refl _).alloc _).drew.drew k7, Gr.cell ((Gr.refl _).alloc _).drew.drew k8, Gr.cell ((Gr.refl _).alloc _).drew.drew k9, Gr.cell ((Gr.refl _).alloc _).drew.drew k10, Gr.cell ((Gr.refl _).alloc _).drew.drew k11, Gr.cell ((Gr.refl _).alloc _).drew.drew k12, Gr.cell ((Gr.refl _).alloc _).drew.drew k13, Gr.cell ((Gr.refl _).alloc _).drew.drew k14, Gr.cell ((Gr.refl _).alloc _).drew.drew k15⟩ | exact And.imp (Gr.cell ((Gr.refl _).alloc _)) (And.imp (Gr.cell ((Gr.refl _).alloc _)) (And.imp (Gr.cell ((Gr.refl _).alloc _)) (And.imp (Gr.cell ((Gr.refl _).alloc _)) (And.imp (Gr.cell ((Gr.refl _).alloc _)) (And.imp (Gr.cell ((Gr.refl _).alloc _)) (And.imp (Gr.cell ((Gr.refl _).alloc _)) (And.imp (Gr.cell ((Gr.refl _).alloc _)) (Gr.cell ((Gr.refl _).alloc _))))))))) (by assumption) | go_keep) (fail)
  go_wp2_with fail
  obtain ⟨Y, hY⟩ : ∃ Y : World, Y = ((w2.alloc (.cells [.int .i64 (bt l 0 * 256 + bt l 1), .int .i64 (bt l 2 * 256 + bt l 3), .int .i64 (bt l 4 * 16777216 + bt l 5 * 65536 + bt l 6 * 256 + bt l 7), .int .i64 (bt l 8 * 16777216 + bt l 9 * 65536 + bt l 10 * 256 + bt l 11), .int .i64 5, .int .i64 0, .int .i64 (bt l 14 * 256 + bt l 15), .int .i64 (bt l 16 * 256 + bt l 17), .int .i64 (bt l 18 * 256 + bt l 19), .slice none 0 0].toArray 24)).alloc (.cells [.bool (fb (bt l 13) 1), .bool (fb (bt l 13) 2), .bool (fb (bt l 13) 4), .bool (fb (bt l 13) 8), .bool (fb (bt l 13) 16), .bool (fb (bt l 13) 32), .bool (fb (bt l 13) 64), .bool (fb (bt l 13) 128), .bool (fb (bt l 12) 1)].toArray 4)).drew.drew := ⟨_, rfl⟩
  rw [← hY]
  have hO : Y.heap[w2.heap.size]? = some (.cells [.int .i64 (bt l 0 * 256 + bt l 1), .int .i64 (bt l 2 * 256 + bt l 3), .int .i64 (bt l 4 * 16777216 + bt l 5 * 65536 + bt l 6 * 256 + bt l 7), .int .i64 (bt l 8 * 16777216 + bt l 9 * 65536 + bt l 10 * 256 + bt l 11), .int .i64 5, .int .i64 0, .int .i64 (bt l 14 * 256 + bt l 15), .int .i64 (bt l 16 * 256 + bt l 17), .int .i64 (bt l 18 * 256 + bt l 19), .slice none 0 0].toArray 24 (0, 0)) := by rw [hY]; exact heap_gr ((Gr.refl _).alloc _).drew.drew (heap_alloc_new w2 _)
  have hB := heap_alloc_new (w2.alloc (.cells [.int .i64 (bt l 0 * 256 + bt l 1), .int .i64 (bt l 2 * 256 + bt l 3), .int .i64 (bt l 4 * 16777216 + bt l 5 * 65536 + bt l 6 * 256 + bt l 7), .int .i64 (bt l 8 * 16777216 + bt l 9 * 65536 + bt l 10 * 256 + bt l 11), .int .i64 5, .int .i64 0, .int .i64 (bt l 14 * 256 + bt l 15), .int .i64 (bt l 16 * 256 + bt l 17), .int .i64 (bt l 18 * 256 + bt l 19), .slice none 0 0].toArray 24)) (.cells [.bool (fb (bt l 13) 1), .bool (fb (bt l 13) 2), .bool (fb (bt l 13) 4), .bool (fb (bt l 13) 8), .bool (fb (bt l 13) 16), .bool (fb (bt l 13) 32), .bool (fb (bt l 13) 64), .bool (fb (bt l 13) 128), .bool (fb (bt l 12) 1)].toArray 4)
  rw [World.size_alloc] at hB
  have hB : Y.heap[w2.heap.size + 1]? = some (.cells [.bool (fb (bt l 13) 1), .bool (fb (bt l 13) 2), .bool (fb (bt l 13) 4), .bool (fb (bt l 13) 8), .bool (fb (bt l 13) 16), .bool (fb (bt l 13) 32), .bool (fb (bt l 13) 64), .bool (fb (bt l 13) 128), .bool (fb (bt l 12) 1)].toArray 4 (0, 0)) := by rw [hY]; exact hB
  have HGY := Lib.hid (show Gr w2 Y by rw [hY]; exact (((Gr.refl w2).alloc _).alloc _).drew.drew)
  clear hY
  obtain ⟨x0, hx0, rfl⟩ := one_row hO (Gr.refl Y)
  rw [rowW_other (by omega)] at hB
  have HB := Lib.hid hB
  obtain ⟨O, hOe⟩ : ∃ O, O = w2.heap.size := ⟨_, rfl⟩
  rw [← hOe] at HB hx0 HGY ⊢
  have HOE := Lib.hid hOe
  clear hO hB hOe k7 k8 k9 k10 k11 k12 k13 k14 k15
  go_loopw [99] (TcpRel x0 O (fun fl => [.int .i64 (bt l 0 * 256 + bt l 1), .int .i64 (bt l 2 * 256 + bt l 3), .int .i64 (bt l 4 * 16777216 + bt l 5 * 65536 + bt l 6 * 256 + bt l 7), .int .i64 (bt l 8 * 16777216 + bt l 9 * 65536 + bt l 10 * 256 + bt l 11), .int .i64 5, .int .i64 fl, .int .i64 (bt l 14 * 256 + bt l 15), .int .i64 (bt l 16 * 256 + bt l 17), .int .i64 (bt l 18 * 256 + bt l 19), .slice none 0 0]) (flagsOf l)) (fun i _ => 9 - (intOf i).toNat)
  case atStart => exact ⟨0, Nat.zero_le _, rfl, rfl⟩
  case round =>
    obtain ⟨k, hk, rfl, rfl⟩ := hrel
    by_cases hlt : k < 9
    · have cB := cell_of_heap HB.out k (.bool ((flagsOf l).getD k false)) (by unfold flagsOf; match k, hlt with | 0, _ => rfl | 1, _ => rfl | 2, _ => rfl | 3, _ => rfl | 4, _ => rfl | 5, _ => rfl | 6, _ => rfl | 7, _ => rfl | 8, _ => rfl)
      have k0 : (0 : Int) ≤ (k : Int) := by omega
      have k9 : (k : Int) < 9 := by omega
      have hne : O + 1 ≠ O := by omega
      have hs : fsum (flagsOf l) (k + 1) = fsum (flagsOf l) k + (if (flagsOf l).getD k false = true then 2 ^ k else 0) := rfl
      have hbd := fsum_bd (flagsOf l) k
      obtain ⟨b, hb⟩ : ∃ b, b = (flagsOf l).getD k false := ⟨_, rfl⟩
      obtain ⟨fl, hfl⟩ : ∃ fl, fl = fsum (flagsOf l) k := ⟨_, rfl⟩
      rw [← hb] at cB hs
      rw [← hfl] at hs hbd ⊢
      have HS := Lib.hid hs
      have HBD := Lib.hid hbd
      have hw : wrap64 ((2 : Int) ^ k) = 2 ^ k := by match k, hlt with | 0, _ => simp [wrap64] | 1, _ => simp [wrap64] | 2, _ => simp [wrap64] | 3, _ => simp [wrap64] | 4, _ => simp [wrap64] | 5, _ => simp [wrap64] | 6, _ => simp [wrap64] | 7, _ => simp [wrap64] | 8, _ => simp [wrap64]
      have hp : (2 : Int) ^ k ≤ 256 := by match k, hlt with | 0, _ => simp | 1, _ => simp | 2, _ => simp | 3, _ => simp | 4, _ => simp | 5, _ => simp | 6, _ => simp | 7, _ => simp | 8, _ => simp
      have HW := Lib.hid hw; have HP := Lib.hid hp
      clear hs hbd hb hfl hw hp
      cases b with
      | true =>
        have HE := Lib.hid (show bits .or .i64 fl (wrap64 ((2 : Int) ^ k)) = fsum (flagsOf l) (k + 1) by
          have h1 := HBD.out
          have h2 := HP.out
          rw [HS.out, if_pos rfl, HW.out, bor' .i64 k h1.1 (by omega) (by simp) h1.2 (by rw [max_i64]; omega)])
        go_wp2_with fail
        go_roundw
        case rel => exact ⟨k + 1, by omega, by go_num, by rw [HE.out]⟩
        case measure => simp [intOf]; omega
      | false =>
        go_wp2_with fail
        go_roundw
        case rel => exact ⟨k + 1, by omega, by go_num, by rw [HS.out]; simp⟩
        case measure => simp [intOf]; omega
    · obtain rfl : k = 9 := by omega
      obtain ⟨FS, hFS⟩ : ∃ FS, FS = fsum (flagsOf l) 9 := ⟨_, rfl⟩
      rw [← hFS]
      have HFS := Lib.hid hFS
      clear hFS
      have hneD : w.heap.size + 1 ≠ O := by have := HOE.out; have := HG2.out.size; omega
      have hGF : Gr w2 (rowW x0 O [.int .i64 (bt l 0 * 256 + bt l 1), .int .i64 (bt l 2 * 256 + bt l 3), .int .i64 (bt l 4 * 16777216 + bt l 5 * 65536 + bt l 6 * 256 + bt l 7), .int .i64 (bt l 8 * 16777216 + bt l 9 * 65536 + bt l 10 * 256 + bt l 11), .int .i64 5, .int .i64 FS, .int .i64 (bt l 14 * 256 + bt l 15), .int .i64 (bt l 16 * 256 + bt l 17), .int .i64 (bt l 18 * 256 + bt l 19), .slice none 0 0] 24) := Gr.row HGY.out (by rw [← HOE.out]; exact Nat.le_refl _)
      have HGF := Lib.hid hGF
      have x21 := Gr.cell hGF k21
      have x1 := Gr.cell hGF k1
      clear hGF
      rw [rowW_cell_other hneD] at x21 x1
      go_wp2_with fail
      refine wp_loop_rounds 1 ?_
      rw [rounds_succ]
      go_wp2_with fail
      have hR6 := HasRow.gr HGF.out HR2.out
      have HR6 := Lib.hid hR6
      have HBP := Lib.hid (hb9.gr HGF.out)
      have gAA : Gr w w2 := ((((Gr.refl w).alloc _).alloc _).trans hgA).step HG2.out (by omega)
      have GAA := Lib.hid gAA
      have z0 : w.heap.size < O := by have := HOE.out; have := HG2.out.size; omega
      have hneR : O ≠ w.heap.size := by omega
      have hneD2 : w.heap.size + 1 ≠ w.heap.size := by omega
      clear hgA hoA hR6 gAA HB
      go_region_held3 (fun w' => w'.cell? ⟨w.heap.size + 1, 1, none⟩ = some (.slice a9 n9 m9) ∧ w'.cell? ⟨O, 0, none⟩ = some (.int .i64 (bt l 0 * 256 + bt l 1)) ∧ w'.cell? ⟨O, 1, none⟩ = some (.int .i64 (bt l 2 * 256 + bt l 3)) ∧ w'.cell? ⟨O, 2, none⟩ = some (.int .i64 (bt l 4 * 16777216 + bt l 5 * 65536 + bt l 6 * 256 + bt l 7)) ∧ w'.cell? ⟨O, 3, none⟩ = some (.int .i64 (bt l 8 * 16777216 + bt l 9 * 65536 + bt l 10 * 256 + bt l 11)) ∧ w'.cell? ⟨O, 4, none⟩ = some (.int .i64 5) ∧ w'.cell? ⟨O, 5, none⟩ = some (.int .i64 FS) ∧ w'.cell? ⟨O, 6, none⟩ = some (.int .i64 (bt l 14 * 256 + bt l 15)) ∧ w'.cell? ⟨O, 7, none⟩ = some (.int .i64 (bt l 16 * 256 + bt l 17)) ∧ w'.cell? ⟨O, 8, none⟩ = some (.int .i64 (bt l 18 * 256 + bt l 19)) ∧ w'.cell? ⟨O, 9, none⟩ = some (.slice none 0 0)) (first | exact ⟨(rowW_cell_other hneD).trans x1, rowW_cell (show Has x0.drew O from hx0) 0, rowW_cell (show Has x0.drew O from hx0) 1, rowW_cell (show Has x0.drew O from hx0) 2, rowW_cell (show Has x0.drew O from hx0) 3, rowW_cell (show Has x0.drew O from hx0) 4, rowW_cell (show Has x0.drew O from hx0) 5, rowW_cell (show Has x0.drew O from hx0) 6, rowW_cell (show Has x0.drew O from hx0) 7, rowW_cell (show Has x0.drew O from hx0) 8, rowW_cell (show Has x0.drew O from hx0) 9⟩ | exact And.imp (Gr.cell (by assumption)) (And.imp (Gr.cell (by assumption)) (And.imp (Gr.cell (by assumption)) (And.imp (Gr.cell (by assumption)) (And.imp (Gr.cell (by assumption)) (And.imp (Gr.cell (by assumption)) (And.imp (Gr.cell (by assumption)) (And.imp (Gr.cell (by assumption)) (And.imp (Gr.cell (by assumption)) (And.imp (Gr.cell (by assumption)) (Gr.cell (by assumption))))))))))) (by assumption) | exact And.imp (rowW_swap hneD2) (And.imp (rowW_swap hneR) (And.imp (rowW_swap hneR) (And.imp (rowW_swap hneR) (And.imp (rowW_swap hneR) (And.imp (rowW_swap hneR) (And.imp (rowW_swap hneR) (And.imp (rowW_swap hneR) (And.imp (rowW_swap hneR) (And.imp (rowW_swap hneR) (rowW_swap hneR)))))))))) (by assumption) | go_keep) (first
        | (go_at_call 48; refine (copied_calls _ (l.drop 20) _ ?_ ?_).mono ?_; (exact IsB.drew HBP.out); (rw [List.length_drop]; omega); rintro e x9 ⟨f9, g9, j9, rfl, ho9, hg9⟩; obtain ⟨u9, rs, hrs, hR9, rfl⟩ := (HasRow.gr hg9 (HR6.out.drew)).w0; obtain ⟨r9x0, r9x1, r9x2, r9x3, r9x4, r9x5, r9x6, r9x7, r9x8, r9x9, rfl⟩ := len10 hrs))
      go_wp2
      have hz1 : w.heap.size < (rowW x0 O [.int .i64 (bt l 0 * 256 + bt l 1), .int .i64 (bt l 2 * 256 + bt l 3), .int .i64 (bt l 4 * 16777216 + bt l 5 * 65536 + bt l 6 * 256 + bt l 7), .int .i64 (bt l 8 * 16777216 + bt l 9 * 65536 + bt l 10 * 256 + bt l 11), .int .i64 5, .int .i64 FS, .int .i64 (bt l 14 * 256 + bt l 15), .int .i64 (bt l 16 * 256 + bt l 17), .int .i64 (bt l 18 * 256 + bt l 19), .slice none 0 0] 24).heap.size := by have h1 := HGF.out.size; have h2 := HOE.out; omega
      have t9 := (GAA.out.trans HGF.out).drew.trans hg9
      exact bodyPost_ret (v := .tuple #[.agg #[.int .i64 (bt l 0 * 256 + bt l 1), .int .i64 (bt l 2 * 256 + bt l 3), .int .i64 (bt l 4 * 16777216 + bt l 5 * 65536 + bt l 6 * 256 + bt l 7), .int .i64 (bt l 8 * 16777216 + bt l 9 * 65536 + bt l 10 * 256 + bt l 11), .int .i64 5, .int .i64 FS, .int .i64 (bt l 14 * 256 + bt l 15), .int .i64 (bt l 16 * 256 + bt l 17), .int .i64 (bt l 18 * 256 + bt l 19), .slice none 0 0], .slice f9 g9 j9, .bool true]) (by simp [results, Try.results17, go_sem, hR9]) rfl ⟨_, _, _, by rw [HFS.out], IsB.reRow ho9.isB (ho9.other hz1), Gr.row t9 (Nat.le_refl _)⟩
end Go.Proofs.Ytoopkfnkmaaieaa
