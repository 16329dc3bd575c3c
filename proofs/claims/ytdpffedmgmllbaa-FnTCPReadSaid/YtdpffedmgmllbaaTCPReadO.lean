/-
  The header of a segment with its options, as data.
-/
import Derived.Test.YtdpffedmgmllbaaTCPO
import Derived.Test.YtdpffedmgmllbaaTCPCopy
import Derived.Test.YtdpffedmgmllbaaRecs2
import Derived.Deep.DeepCutAuto
namespace Go.Proofs.Ytdpffedmgmllbaa
open Go.RowKit

/-- what holds ahead of a round of the flags -/
def FlagRel (x0 : World) (O : Nat) (c : Int → List Value) (fs : List Bool) (i : Value) (wr : World) : Prop := ∃ k : Nat, k ≤ 9 ∧ i = .int .i64 k ∧ wr = rowW x0 O (c (fsum fs k)) 24
/-- what a header is as data -/
def TcpData (w w' : World) (l : List Int) (W : Nat) (os : List Opt) (e : Ending) : Prop := ∃ ao no mo f9 g9 j9, e = .returned (.tuple #[.agg #[.int .i64 (bt l 0 * 256 + bt l 1), .int .i64 (bt l 2 * 256 + bt l 3), .int .i64 (bt l 4 * 16777216 + bt l 5 * 65536 + bt l 6 * 256 + bt l 7), .int .i64 (bt l 8 * 16777216 + bt l 9 * 65536 + bt l 10 * 256 + bt l 11), .int .i64 (W : Int), .int .i64 (fsum (flagsOf l) 9), .int .i64 (bt l 14 * 256 + bt l 15), .int .i64 (bt l 16 * 256 + bt l 17), .int .i64 (bt l 18 * 256 + bt l 19), .slice ao no mo], .slice f9 g9 j9, .bool true]) ∧
  IsOpts w' (.slice ao no mo) (os ++ padO os) ∧ IsB w' (.slice f9 g9 j9) (l.drop (4 * W)) ∧ Gr w w'
theorem cell_ltT {w : World} {g o : Nat} {u : Value} (h : w.cell? ⟨g, o, none⟩ = some u) : g < w.heap.size := by
  rcases Nat.lt_or_ge g w.heap.size with h1 | h1
  · exact h1
  · have : w.heap[g]? = none := Array.getElem?_eq_none h1
    simp [World.cell?, this] at h

set_option linter.unusedSimpArgs false in
set_option linter.unusedVariables false in
set_option maxRecDepth 100000 in
set_option maxHeartbeats 8000000 in
theorem tcpReadO_calls (v : Value) (l : List Int) (W : Nat) (os : List Opt) (w : World) (h : IsB w v l) (hl : 20 ≤ l.length) (hW : bt l 12 / 16 = (W : Int)) (hW5 : 5 ≤ W) (hWl : 4 * W ≤ l.length) (hmx : l.length ≤ 1000000)
    (hO : (l.take (4 * W)).drop 20 = optsB os) (hok : ∀ x ∈ os, OkOpt x) (hraw : (optsRaw os).length ≤ 40) :
    Calls Try.prog 14 #[v] w fun e w' => TcpData w w' l W os e := by
  have H := Lib.hid h
  have HW := Lib.hid hW
  have HO := Lib.hid hO
  have HOK := Lib.hid hok
  clear h hW hO hok
  go_enter Try.func14, Try.ntmps14
  go_wp2_with fail
  refine (copied_calls _ l _ ?_ (by omega)).mono ?_
  · exact H.out.gr (((Gr.refl w).alloc _).alloc _)
  rintro e w1 ⟨a0, n0, m0, rfl, hoA, hgA⟩
  go_wp2_with fail
  refine (nilFeedback_calls _).mono ?_
  rintro e w2 ⟨rfl, rfl⟩
  go_wp2_with fail
  have hR := HasRow.gr hgA (HasRow.gr (World.grownBy_alloc _ (.cells #[.slice none 0 0, .slice none 0 0, .int .u16 0, .int .u16 0, .int .u32 0, .int .u32 0, .int .u8 0, .bool false, .bool false, .bool false, .bool false, .bool false, .bool false, .bool false, .bool false, .bool false, .int .u16 0, .int .u16 0, .int .u16 0, .slice none 0 0, .slice none 0 0, .slice none 0 0, .slice none 0 0, .int .u8 0, .int .u8 0, .slice none 0 0, .int .u8 0, .int .u8 0, .slice none 0 0, .int .u8 0, .int .u8 0, .slice none 0 0, .int .u8 0, .int .u8 0, .slice none 0 0, .nilIface] 85) none) (HasRow.new w [.int .i64 0, .int .i64 0, .int .i64 0, .int .i64 0, .int .i64 0, .int .i64 0, .int .i64 0, .int .i64 0, .int .i64 0, .slice none 0 0] 24 10 rfl))
  have hD := heap_gr hgA (heap_alloc_new (w.alloc (.cells #[.int .i64 0, .int .i64 0, .int .i64 0, .int .i64 0, .int .i64 0, .int .i64 0, .int .i64 0, .int .i64 0, .int .i64 0, .slice none 0 0] 24)) (.cells #[.slice none 0 0, .slice none 0 0, .int .u16 0, .int .u16 0, .int .u32 0, .int .u32 0, .int .u8 0, .bool false, .bool false, .bool false, .bool false, .bool false, .bool false, .bool false, .bool false, .bool false, .int .u16 0, .int .u16 0, .int .u16 0, .slice none 0 0, .slice none 0 0, .slice none 0 0, .slice none 0 0, .int .u8 0, .int .u8 0, .slice none 0 0, .int .u8 0, .int .u8 0, .slice none 0 0, .int .u8 0, .int .u8 0, .slice none 0 0, .int .u8 0, .int .u8 0, .slice none 0 0, .nilIface] 85))
  have hS := hgA.size
  simp only [World.size_alloc] at hD hS
  have HR := Lib.hid hR
  have HD := Lib.hid hD
  clear hR hD
  refine (tcpDecodeO_calls (w.heap.size + 1) _ rfl rfl rfl _ _ _ l W os w1 HD.out hoA.isB hl HW.out hW5 hWl hmx HO.out HOK.out hraw (hoA.other (by simp))).mono ?_
  rintro e w2 ⟨rfl, hgB, a8, n8, m8, a9, n9, m9, a1, n1, m1, a2, n2, m2, vo, pd, z23, z24, z25, z26, z27, z28, z29, z30, z31, z32, z33, z34, y35, rs, hb9, hd2, htl, hrs, hin⟩
  have HR2 := Lib.hid (HasRow.grown HR.out hgB (by omega))
  have HG2 := Lib.hid hgB
  have HD2 := Lib.hid hd2
  have HTL := Lib.hid htl
  have HRS := Lib.hid hrs
  have HINB := Lib.hid hin
  have hdD : Has w2 (w.heap.size + 1) := (Array.getElem?_eq_some_iff.1 hd2).1
  clear hgB hd2 htl hrs hin
  have k1 := cell_of_heap (cs := [_, _, _, _, _, _, _, _, _, _, _, _, _, _, _, _, _, _, _, _, _, _, _, _, _, _, _, _, _, _, _, _, _, _, _, _]) HD2.out 1 _ rfl
  have k2 := cell_of_heap (cs := [_, _, _, _, _, _, _, _, _, _, _, _, _, _, _, _, _, _, _, _, _, _, _, _, _, _, _, _, _, _, _, _, _, _, _, _]) HD2.out 2 _ rfl
  have k3 := cell_of_heap (cs := [_, _, _, _, _, _, _, _, _, _, _, _, _, _, _, _, _, _, _, _, _, _, _, _, _, _, _, _, _, _, _, _, _, _, _, _]) HD2.out 3 _ rfl
  have k4 := cell_of_heap (cs := [_, _, _, _, _, _, _, _, _, _, _, _, _, _, _, _, _, _, _, _, _, _, _, _, _, _, _, _, _, _, _, _, _, _, _, _]) HD2.out 4 _ rfl
  have k5 := cell_of_heap (cs := [_, _, _, _, _, _, _, _, _, _, _, _, _, _, _, _, _, _, _, _, _, _, _, _, _, _, _, _, _, _, _, _, _, _, _, _]) HD2.out 5 _ rfl
  have k6 := cell_of_heap (cs := [_, _, _, _, _, _, _, _, _, _, _, _, _, _, _, _, _, _, _, _, _, _, _, _, _, _, _, _, _, _, _, _, _, _, _, _]) HD2.out 6 _ rfl
  have k7 := cell_of_heap (cs := [_, _, _, _, _, _, _, _, _, _, _, _, _, _, _, _, _, _, _, _, _, _, _, _, _, _, _, _, _, _, _, _, _, _, _, _]) HD2.out 7 _ rfl
  have k8 := cell_of_heap (cs := [_, _, _, _, _, _, _, _, _, _, _, _, _, _, _, _, _, _, _, _, _, _, _, _, _, _, _, _, _, _, _, _, _, _, _, _]) HD2.out 8 _ rfl
  have k9 := cell_of_heap (cs := [_, _, _, _, _, _, _, _, _, _, _, _, _, _, _, _, _, _, _, _, _, _, _, _, _, _, _, _, _, _, _, _, _, _, _, _]) HD2.out 9 _ rfl
  have k10 := cell_of_heap (cs := [_, _, _, _, _, _, _, _, _, _, _, _, _, _, _, _, _, _, _, _, _, _, _, _, _, _, _, _, _, _, _, _, _, _, _, _]) HD2.out 10 _ rfl
  have k11 := cell_of_heap (cs := [_, _, _, _, _, _, _, _, _, _, _, _, _, _, _, _, _, _, _, _, _, _, _, _, _, _, _, _, _, _, _, _, _, _, _, _]) HD2.out 11 _ rfl
  have k12 := cell_of_heap (cs := [_, _, _, _, _, _, _, _, _, _, _, _, _, _, _, _, _, _, _, _, _, _, _, _, _, _, _, _, _, _, _, _, _, _, _, _]) HD2.out 12 _ rfl
  have k13 := cell_of_heap (cs := [_, _, _, _, _, _, _, _, _, _, _, _, _, _, _, _, _, _, _, _, _, _, _, _, _, _, _, _, _, _, _, _, _, _, _, _]) HD2.out 13 _ rfl
  have k14 := cell_of_heap (cs := [_, _, _, _, _, _, _, _, _, _, _, _, _, _, _, _, _, _, _, _, _, _, _, _, _, _, _, _, _, _, _, _, _, _, _, _]) HD2.out 14 _ rfl
  have k15 := cell_of_heap (cs := [_, _, _, _, _, _, _, _, _, _, _, _, _, _, _, _, _, _, _, _, _, _, _, _, _, _, _, _, _, _, _, _, _, _, _, _]) HD2.out 15 _ rfl
  have k16 := cell_of_heap (cs := [_, _, _, _, _, _, _, _, _, _, _, _, _, _, _, _, _, _, _, _, _, _, _, _, _, _, _, _, _, _, _, _, _, _, _, _]) HD2.out 16 _ rfl
  have k17 := cell_of_heap (cs := [_, _, _, _, _, _, _, _, _, _, _, _, _, _, _, _, _, _, _, _, _, _, _, _, _, _, _, _, _, _, _, _, _, _, _, _]) HD2.out 17 _ rfl
  have k18 := cell_of_heap (cs := [_, _, _, _, _, _, _, _, _, _, _, _, _, _, _, _, _, _, _, _, _, _, _, _, _, _, _, _, _, _, _, _, _, _, _, _]) HD2.out 18 _ rfl
  have k21 := cell_of_heap (cs := [_, _, _, _, _, _, _, _, _, _, _, _, _, _, _, _, _, _, _, _, _, _, _, _, _, _, _, _, _, _, _, _, _, _, _, _]) HD2.out 21 _ rfl
  have p0 := hoA.bytes.bt0 0
  have q0 := hoA.bytes.bt1 0
  have p1 := hoA.bytes.bt0 1
  have q1 := hoA.bytes.bt1 1
  have p2 := hoA.bytes.bt0 2
  have q2 := hoA.bytes.bt1 2
  have p3 := hoA.bytes.bt0 3
  have q3 := hoA.bytes.bt1 3
  have p4 := hoA.bytes.bt0 4
  have q4 := hoA.bytes.bt1 4
  have p5 := hoA.bytes.bt0 5
  have q5 := hoA.bytes.bt1 5
  have p6 := hoA.bytes.bt0 6
  have q6 := hoA.bytes.bt1 6
  have p7 := hoA.bytes.bt0 7
  have q7 := hoA.bytes.bt1 7
  have p8 := hoA.bytes.bt0 8
  have q8 := hoA.bytes.bt1 8
  have p9 := hoA.bytes.bt0 9
  have q9 := hoA.bytes.bt1 9
  have p10 := hoA.bytes.bt0 10
  have q10 := hoA.bytes.bt1 10
  have p11 := hoA.bytes.bt0 11
  have q11 := hoA.bytes.bt1 11
  have p14 := hoA.bytes.bt0 14
  have q14 := hoA.bytes.bt1 14
  have p15 := hoA.bytes.bt0 15
  have q15 := hoA.bytes.bt1 15
  have p16 := hoA.bytes.bt0 16
  have q16 := hoA.bytes.bt1 16
  have p17 := hoA.bytes.bt0 17
  have q17 := hoA.bytes.bt1 17
  have p18 := hoA.bytes.bt0 18
  have q18 := hoA.bytes.bt1 18
  have p19 := hoA.bytes.bt0 19
  have q19 := hoA.bytes.bt1 19
  have hLW := HW.out
  have p12 := hoA.bytes.bt0 12
  have q12 := hoA.bytes.bt1 12
  have hW15 : W ≤ 15 := by omega
  have uw0 : IntKind.i64.wrap (bt l 0 * 256 + bt l 1) = bt l 0 * 256 + bt l 1 := w64 (by omega) (by omega)
  have uw1 : IntKind.i64.wrap (bt l 2 * 256 + bt l 3) = bt l 2 * 256 + bt l 3 := w64 (by omega) (by omega)
  have uw2 : IntKind.i64.wrap (bt l 4 * 16777216 + bt l 5 * 65536 + bt l 6 * 256 + bt l 7) = bt l 4 * 16777216 + bt l 5 * 65536 + bt l 6 * 256 + bt l 7 := w64 (by omega) (by omega)
  have uw3 : IntKind.i64.wrap (bt l 8 * 16777216 + bt l 9 * 65536 + bt l 10 * 256 + bt l 11) = bt l 8 * 16777216 + bt l 9 * 65536 + bt l 10 * 256 + bt l 11 := w64 (by omega) (by omega)
  have uw4 : IntKind.i64.wrap (bt l 14 * 256 + bt l 15) = bt l 14 * 256 + bt l 15 := w64 (by omega) (by omega)
  have uw5 : IntKind.i64.wrap (bt l 16 * 256 + bt l 17) = bt l 16 * 256 + bt l 17 := w64 (by omega) (by omega)
  have uw6 : IntKind.i64.wrap (bt l 18 * 256 + bt l 19) = bt l 18 * 256 + bt l 19 := w64 (by omega) (by omega)
  have uw7 : IntKind.i64.wrap (W : Int) = (W : Int) := w64 (by omega) (by omega)
  clear hLW p12 q12
  go_wp2_with fail
  go_region_held3 (fun w' => w'.cell? ⟨w.heap.size + 1, 2, none⟩ = some (.int .u16 (bt l 0 * 256 + bt l 1)) ∧ w'.cell? ⟨w.heap.size + 1, 3, none⟩ = some (.int .u16 (bt l 2 * 256 + bt l 3)) ∧ w'.cell? ⟨w.heap.size + 1, 4, none⟩ = some (.int .u32 (bt l 4 * 16777216 + bt l 5 * 65536 + bt l 6 * 256 + bt l 7)) ∧ w'.cell? ⟨w.heap.size + 1, 5, none⟩ = some (.int .u32 (bt l 8 * 16777216 + bt l 9 * 65536 + bt l 10 * 256 + bt l 11)) ∧ w'.cell? ⟨w.heap.size + 1, 6, none⟩ = some (.int .u8 (W : Int)) ∧ w'.cell? ⟨w.heap.size + 1, 16, none⟩ = some (.int .u16 (bt l 14 * 256 + bt l 15)) ∧ w'.cell? ⟨w.heap.size + 1, 17, none⟩ = some (.int .u16 (bt l 16 * 256 + bt l 17)) ∧ w'.cell? ⟨w.heap.size + 1, 18, none⟩ = some (.int .u16 (bt l 18 * 256 + bt l 19))) (first | exact ⟨k2, k3, k4, k5, k6, k16, k17, k18⟩ | exact And.imp (Gr.cell ((Gr.refl _).alloc _)) (And.imp (Gr.cell ((Gr.refl _).alloc _)) (And.imp (Gr.cell ((Gr.refl _).alloc _)) (And.imp (Gr.cell ((Gr.refl _).alloc _)) (And.imp (Gr.cell ((Gr.refl _).alloc _)) (And.imp (Gr.cell ((Gr.refl _).alloc _)) (And.imp (Gr.cell ((Gr.refl _).alloc _)) (Gr.cell ((Gr.refl _).alloc _)))))))) (by assumption) | go_keep) (fail)
  go_wp2_with fail
  go_region_held3 (fun w' => w'.cell? ⟨w.heap.size + 1, 7, none⟩ = some (.bool (fb (bt l 13) 1)) ∧ w'.cell? ⟨w.heap.size + 1, 8, none⟩ = some (.bool (fb (bt l 13) 2)) ∧ w'.cell? ⟨w.heap.size + 1, 9, none⟩ = some (.bool (fb (bt l 13) 4)) ∧ w'.cell? ⟨w.heap.size + 1, 10, none⟩ = some (.bool (fb (bt l 13) 8)) ∧ w'.cell? ⟨w.heap.size + 1, 11, none⟩ = some (.bool (fb (bt l 13) 16)) ∧ w'.cell? ⟨w.heap.size + 1, 12, none⟩ = some (.bool (fb (bt l 13) 32)) ∧ w'.cell? ⟨w.heap.size + 1, 13, none⟩ = some (.bool (fb (bt l 13) 64)) ∧ w'.cell? ⟨w.heap.size + 1, 14, none⟩ = some (.bool (fb (bt l 13) 128)) ∧ w'.cell? ⟨w.heap.size + 1, 15, none⟩ = some (.bool (fb (bt l 12) 1))) (first | exact ⟨Gr.cell ((Gr.refl _).alloc _).drew.drew k7, Gr.cell ((Gr.refl _).alloc _).drew.drew k8, Gr.cell ((Gr.refl _).alloc _).drew.drew k9, Gr.cell ((Gr.refl _).alloc _).drew.drew k10, Gr.cell ((Gr.refl _).alloc _).drew.drew k11, Gr.cell ((Gr.refl _).alloc _).drew.drew k12, Gr.cell ((Gr.refl _).alloc _).drew.drew k13, Gr.cell ((Gr.refl _).alloc _).drew.drew k14, Gr.cell ((Gr.refl _).alloc _).drew.drew k15⟩ | exact And.imp (Gr.cell ((Gr.refl _).alloc _)) (And.imp (Gr.cell ((Gr.refl _).alloc _)) (And.imp (Gr.cell ((Gr.refl _).alloc _)) (And.imp (Gr.cell ((Gr.refl _).alloc _)) (And.imp (Gr.cell ((Gr.refl _).alloc _)) (And.imp (Gr.cell ((Gr.refl _).alloc _)) (And.imp (Gr.cell ((Gr.refl _).alloc _)) (And.imp (Gr.cell ((Gr.refl _).alloc _)) (Gr.cell ((Gr.refl _).alloc _))))))))) (by assumption) | go_keep) (fail)
  go_wp2_with fail
  obtain ⟨Y, hY⟩ : ∃ Y : World, Y = ((w2.alloc (.cells [.int .i64 (bt l 0 * 256 + bt l 1), .int .i64 (bt l 2 * 256 + bt l 3), .int .i64 (bt l 4 * 16777216 + bt l 5 * 65536 + bt l 6 * 256 + bt l 7), .int .i64 (bt l 8 * 16777216 + bt l 9 * 65536 + bt l 10 * 256 + bt l 11), .int .i64 (W : Int), .int .i64 0, .int .i64 (bt l 14 * 256 + bt l 15), .int .i64 (bt l 16 * 256 + bt l 17), .int .i64 (bt l 18 * 256 + bt l 19), .slice none 0 0].toArray 24)).alloc (.cells [.bool (fb (bt l 13) 1), .bool (fb (bt l 13) 2), .bool (fb (bt l 13) 4), .bool (fb (bt l 13) 8), .bool (fb (bt l 13) 16), .bool (fb (bt l 13) 32), .bool (fb (bt l 13) 64), .bool (fb (bt l 13) 128), .bool (fb (bt l 12) 1)].toArray 4)).drew.drew := ⟨_, rfl⟩
  rw [← hY]
  have hO : Y.heap[w2.heap.size]? = some (.cells [.int .i64 (bt l 0 * 256 + bt l 1), .int .i64 (bt l 2 * 256 + bt l 3), .int .i64 (bt l 4 * 16777216 + bt l 5 * 65536 + bt l 6 * 256 + bt l 7), .int .i64 (bt l 8 * 16777216 + bt l 9 * 65536 + bt l 10 * 256 + bt l 11), .int .i64 (W : Int), .int .i64 0, .int .i64 (bt l 14 * 256 + bt l 15), .int .i64 (bt l 16 * 256 + bt l 17), .int .i64 (bt l 18 * 256 + bt l 19), .slice none 0 0].toArray 24 (0, 0)) := by rw [hY]; exact heap_gr ((Gr.refl _).alloc _).drew.drew (heap_alloc_new w2 _)
  have hB := heap_alloc_new (w2.alloc (.cells [.int .i64 (bt l 0 * 256 + bt l 1), .int .i64 (bt l 2 * 256 + bt l 3), .int .i64 (bt l 4 * 16777216 + bt l 5 * 65536 + bt l 6 * 256 + bt l 7), .int .i64 (bt l 8 * 16777216 + bt l 9 * 65536 + bt l 10 * 256 + bt l 11), .int .i64 (W : Int), .int .i64 0, .int .i64 (bt l 14 * 256 + bt l 15), .int .i64 (bt l 16 * 256 + bt l 17), .int .i64 (bt l 18 * 256 + bt l 19), .slice none 0 0].toArray 24)) (.cells [.bool (fb (bt l 13) 1), .bool (fb (bt l 13) 2), .bool (fb (bt l 13) 4), .bool (fb (bt l 13) 8), .bool (fb (bt l 13) 16), .bool (fb (bt l 13) 32), .bool (fb (bt l 13) 64), .bool (fb (bt l 13) 128), .bool (fb (bt l 12) 1)].toArray 4)
  rw [World.size_alloc] at hB
  have hB : Y.heap[w2.heap.size + 1]? = some (.cells [.bool (fb (bt l 13) 1), .bool (fb (bt l 13) 2), .bool (fb (bt l 13) 4), .bool (fb (bt l 13) 8), .bool (fb (bt l 13) 16), .bool (fb (bt l 13) 32), .bool (fb (bt l 13) 64), .bool (fb (bt l 13) 128), .bool (fb (bt l 12) 1)].toArray 4 (0, 0)) := by rw [hY]; exact hB
  have HGY := Lib.hid (show Gr w2 Y by rw [hY]; exact (((Gr.refl w2).alloc _).alloc _).drew.drew)
  clear hY
  obtain ⟨x0, hx0, rfl⟩ := one_row hO (Gr.refl Y)
  rw [rowW_other (by omega)] at hB
  have HB := Lib.hid hB
  obtain ⟨O, hOe⟩ : ∃ O, O = w2.heap.size := ⟨_, rfl⟩
  rw [← hOe] at HB hx0 HGY ⊢
  have HOE := Lib.hid hOe
  clear hO hB hOe k7 k8 k9 k10 k11 k12 k13 k14 k15
  go_loopw [99] (FlagRel x0 O (fun fl => [.int .i64 (bt l 0 * 256 + bt l 1), .int .i64 (bt l 2 * 256 + bt l 3), .int .i64 (bt l 4 * 16777216 + bt l 5 * 65536 + bt l 6 * 256 + bt l 7), .int .i64 (bt l 8 * 16777216 + bt l 9 * 65536 + bt l 10 * 256 + bt l 11), .int .i64 (W : Int), .int .i64 fl, .int .i64 (bt l 14 * 256 + bt l 15), .int .i64 (bt l 16 * 256 + bt l 17), .int .i64 (bt l 18 * 256 + bt l 19), .slice none 0 0]) (flagsOf l)) (fun i _ => 9 - (intOf i).toNat)
  case atStart => exact ⟨0, Nat.zero_le _, rfl, rfl⟩
  case round =>
    obtain ⟨k, hk, rfl, rfl⟩ := hrel
    by_cases hlt : k < 9
    · have cB := cell_of_heap HB.out k (.bool ((flagsOf l).getD k false)) (by unfold flagsOf; match k, hlt with | 0, _ => rfl | 1, _ => rfl | 2, _ => rfl | 3, _ => rfl | 4, _ => rfl | 5, _ => rfl | 6, _ => rfl | 7, _ => rfl | 8, _ => rfl)
      have k0 : (0 : Int) ≤ (k : Int) := by omega
      have k9 : (k : Int) < 9 := by omega
      have hne : O + 1 ≠ O := by omega
      have hs : fsum (flagsOf l) (k + 1) = fsum (flagsOf l) k + (if (flagsOf l).getD k false = true then 2 ^ k else 0) := rfl
      have hbd := fsum_bd (flagsOf l) k
      obtain ⟨b, hb⟩ : ∃ b, b = (flagsOf l).getD k false := ⟨_, rfl⟩
      obtain ⟨fl, hfl⟩ : ∃ fl, fl = fsum (flagsOf l) k := ⟨_, rfl⟩
      rw [← hb] at cB hs
      rw [← hfl] at hs hbd ⊢
      have HS := Lib.hid hs
      have HBD := Lib.hid hbd
      have hw : wrap64 ((2 : Int) ^ k) = 2 ^ k := by match k, hlt with | 0, _ => simp [wrap64] | 1, _ => simp [wrap64] | 2, _ => simp [wrap64] | 3, _ => simp [wrap64] | 4, _ => simp [wrap64] | 5, _ => simp [wrap64] | 6, _ => simp [wrap64] | 7, _ => simp [wrap64] | 8, _ => simp [wrap64]
      have hp : (2 : Int) ^ k ≤ 256 := by match k, hlt with | 0, _ => simp | 1, _ => simp | 2, _ => simp | 3, _ => simp | 4, _ => simp | 5, _ => simp | 6, _ => simp | 7, _ => simp | 8, _ => simp
      have HW := Lib.hid hw; have HP := Lib.hid hp
      clear hs hbd hb hfl hw hp
      cases b with
      | true =>
        have HE := Lib.hid (show bits .or .i64 fl (wrap64 ((2 : Int) ^ k)) = fsum (flagsOf l) (k + 1) by
          have h1 := HBD.out
          have h2 := HP.out
          rw [HS.out, if_pos rfl, HW.out, bor' .i64 k h1.1 (by omega) (by simp) h1.2 (by rw [max_i64]; omega)])
        go_wp2_with fail
        go_roundw
        case rel => exact ⟨k + 1, by omega, by go_num, by rw [HE.out]⟩
        case measure => simp [intOf]; omega
      | false =>
        go_wp2_with fail
        go_roundw
        case rel => exact ⟨k + 1, by omega, by go_num, by rw [HS.out]; simp⟩
        case measure => simp [intOf]; omega
    · obtain rfl : k = 9 := by omega
      obtain ⟨FS, hFS⟩ : ∃ FS, FS = fsum (flagsOf l) 9 := ⟨_, rfl⟩
      rw [← hFS]
      have HFS := Lib.hid hFS
      clear hFS
      have hneD : w.heap.size + 1 ≠ O := by have := HOE.out; have := HG2.out.size; omega
      have hGF : Gr w2 (rowW x0 O [.int .i64 (bt l 0 * 256 + bt l 1), .int .i64 (bt l 2 * 256 + bt l 3), .int .i64 (bt l 4 * 16777216 + bt l 5 * 65536 + bt l 6 * 256 + bt l 7), .int .i64 (bt l 8 * 16777216 + bt l 9 * 65536 + bt l 10 * 256 + bt l 11), .int .i64 (W : Int), .int .i64 FS, .int .i64 (bt l 14 * 256 + bt l 15), .int .i64 (bt l 16 * 256 + bt l 17), .int .i64 (bt l 18 * 256 + bt l 19), .slice none 0 0] 24) := Gr.row HGY.out (by rw [← HOE.out]; exact Nat.le_refl _)
      obtain ⟨wc, hwc⟩ : ∃ wc, wc = rowW x0 O [.int .i64 (bt l 0 * 256 + bt l 1), .int .i64 (bt l 2 * 256 + bt l 3), .int .i64 (bt l 4 * 16777216 + bt l 5 * 65536 + bt l 6 * 256 + bt l 7), .int .i64 (bt l 8 * 16777216 + bt l 9 * 65536 + bt l 10 * 256 + bt l 11), .int .i64 (W : Int), .int .i64 FS, .int .i64 (bt l 14 * 256 + bt l 15), .int .i64 (bt l 16 * 256 + bt l 17), .int .i64 (bt l 18 * 256 + bt l 19), .slice none 0 0] 24 := ⟨_, rfl⟩
      have HHC : wc.heap[O]? = some (.cells [.int .i64 (bt l 0 * 256 + bt l 1), .int .i64 (bt l 2 * 256 + bt l 3), .int .i64 (bt l 4 * 16777216 + bt l 5 * 65536 + bt l 6 * 256 + bt l 7), .int .i64 (bt l 8 * 16777216 + bt l 9 * 65536 + bt l 10 * 256 + bt l 11), .int .i64 (W : Int), .int .i64 FS, .int .i64 (bt l 14 * 256 + bt l 15), .int .i64 (bt l 16 * 256 + bt l 17), .int .i64 (bt l 18 * 256 + bt l 19), .slice none 0 0].toArray 24 (0, 0)) := by rw [hwc]; exact rowW_heap hx0
      rw [← hwc] at hGF ⊢
      clear hwc
      have hdT : Has wc O := (Array.getElem?_eq_some_iff.1 HHC).1
      have HHC := Lib.hid HHC
      have HGF := Lib.hid hGF
      have k21 := Gr.cell hGF k21
      have k1 := Gr.cell hGF k1
      have gwc := hGF.size
      have hlo := fun ty => HTL.out.len ty
      have HRNG := Lib.hid (show ∀ p ∈ rs, 0 ≤ p.1.kind ∧ p.1.kind ≤ 255 ∧ 0 ≤ p.1.len ∧ p.1.len ≤ 255 ∧ p.1.data.length ≤ 255 from fun p hp => opt_rng HOK.out hraw p.1 (by rw [← HRS.out]; exact List.mem_map_of_mem hp))
      have HRL := Lib.hid (show rs.length ≤ 1000 by have e := congrArg List.length HRS.out; rw [List.length_map, List.length_append] at e; have h40 := raw_len hraw; have h1 : (padO os).length ≤ 1 := (by unfold padO; split <;> simp); omega)
      clear hGF uw0 uw1 uw2 uw3 uw4 uw5 uw6 uw7 hx0 HB HGY k2 k3 k4 k5 k6 k16 k17 k18
      have hOw2 : w2.heap.size ≤ O := by have := HOE.out; omega
      go_wp2_with fail
      go_loopw [118] (CopyRel wc O 24 rs (fun o => [.int .i64 (bt l 0 * 256 + bt l 1), .int .i64 (bt l 2 * 256 + bt l 3), .int .i64 (bt l 4 * 16777216 + bt l 5 * 65536 + bt l 6 * 256 + bt l 7), .int .i64 (bt l 8 * 16777216 + bt l 9 * 65536 + bt l 10 * 256 + bt l 11), .int .i64 (W : Int), .int .i64 FS, .int .i64 (bt l 14 * 256 + bt l 15), .int .i64 (bt l 16 * 256 + bt l 17), .int .i64 (bt l 18 * 256 + bt l 19), o])) (fun i _ => rs.length - (intOf i).toNat)
      case atStart => exact ⟨0, [], wc, none, 0, 0, Nat.zero_le _, rfl, (rowW_self HHC.out).symm, hdT, Gr.refl _, OwnO.nil, by simp, fun p hp => by cases hp⟩
      case round =>
        obtain ⟨k, rs', x, av, nv, cv, hk, rfl, rfl, hX, hG, hOw, hrs', hfar'⟩ := hrel
        have HOw := Lib.hid hOw
        have HRS' := Lib.hid hrs'
        have HFAR := Lib.hid hfar'
        have HG := Lib.hid hG
        have neR : O ≠ w.heap.size + 1 := fun e => hneD e.symm
        clear hOw hrs' hfar' hG
        by_cases hlt : k < rs.length
        · obtain ⟨p, hp⟩ : ∃ p, rs[k]? = some p := ⟨_, List.getElem?_eq_getElem hlt⟩
          obtain ⟨g, o, ix, c0, c1, c2, -, -, -⟩ := HTL.out.idx (t := 85) hdD .i64 k hp
          rw [rowW_self HD2.out] at c0 c1 c2
          have hgl := cell_ltT c0
          have hI := (HINB.out p (List.mem_of_getElem? hp)).1
          have hrg := HRNG.out p (List.mem_of_getElem? hp)
          have hrl := HRL.out
          obtain ⟨⟨kd, ln, d⟩, sv⟩ := p
          simp only at c0 c1 c2 hI hrg
          obtain ⟨ad, md, rfl, -⟩ := id hI
          obtain ⟨nd, hnd⟩ : ∃ nd, nd = d.length := ⟨_, rfl⟩
          rw [← hnd] at c2 hI
          have neG : g ≠ O := by omega
          have c0 := HG.out.cell (HGF.out.cell c0)
          have c1 := HG.out.cell (HGF.out.cell c1)
          have c2 := HG.out.cell (HGF.out.cell c2)
          have HID := Lib.hid (show IsB (rowW x O [.int .i64 (bt l 0 * 256 + bt l 1), .int .i64 (bt l 2 * 256 + bt l 3), .int .i64 (bt l 4 * 16777216 + bt l 5 * 65536 + bt l 6 * 256 + bt l 7), .int .i64 (bt l 8 * 16777216 + bt l 9 * 65536 + bt l 10 * 256 + bt l 11), .int .i64 (W : Int), .int .i64 FS, .int .i64 (bt l 14 * 256 + bt l 15), .int .i64 (bt l 16 * 256 + bt l 17), .int .i64 (bt l 18 * 256 + bt l 19), .slice av nv cv] 24) (.slice ad nd md) d from IsB.keptE ((hI.gr HGF.out).gr HG.out) (rowW_grown (some O) rfl) (hI.aside hOw2))
          have HP := Lib.hid hp
          have HLT := Lib.hid hlt
          have wk : IntKind.i64.wrap kd = kd := w64 (by omega) (by omega)
          have wl : IntKind.i64.wrap ln = ln := w64 (by omega) (by omega)
          have hdl : d.length ≤ 255 := hrg.2.2.2.2
          have HRSL := Lib.hid (show rs'.length ≤ 1000000000 by have e := congrArg List.length HRS'.out; rw [List.length_map, List.length_map, List.length_take] at e; omega)
          clear hp hI hlt hnd hrg
          go_wp2_with fail
          obtain ⟨Y, hY⟩ : ∃ Y, Y = ((rowW x O [.int .i64 (bt l 0 * 256 + bt l 1), .int .i64 (bt l 2 * 256 + bt l 3), .int .i64 (bt l 4 * 16777216 + bt l 5 * 65536 + bt l 6 * 256 + bt l 7), .int .i64 (bt l 8 * 16777216 + bt l 9 * 65536 + bt l 10 * 256 + bt l 11), .int .i64 (W : Int), .int .i64 FS, .int .i64 (bt l 14 * 256 + bt l 15), .int .i64 (bt l 16 * 256 + bt l 17), .int .i64 (bt l 18 * 256 + bt l 19), .slice av nv cv] 24).alloc (.cells #[.int .u8 kd, .int .u8 ln, .slice ad nd md] 78)) := ⟨_, rfl⟩
          rw [← hY]
          obtain ⟨T8, hT8⟩ : ∃ T8, T8 = x.heap.size := ⟨_, rfl⟩
          try rw [← hT8]
          have gY : Gr (rowW x O [.int .i64 (bt l 0 * 256 + bt l 1), .int .i64 (bt l 2 * 256 + bt l 3), .int .i64 (bt l 4 * 16777216 + bt l 5 * 65536 + bt l 6 * 256 + bt l 7), .int .i64 (bt l 8 * 16777216 + bt l 9 * 65536 + bt l 10 * 256 + bt l 11), .int .i64 (W : Int), .int .i64 FS, .int .i64 (bt l 14 * 256 + bt l 15), .int .i64 (bt l 16 * 256 + bt l 17), .int .i64 (bt l 18 * 256 + bt l 19), .slice av nv cv] 24) Y := by rw [hY]; exact (Gr.refl _).alloc _
          have bY := box3 (w := rowW x O [.int .i64 (bt l 0 * 256 + bt l 1), .int .i64 (bt l 2 * 256 + bt l 3), .int .i64 (bt l 4 * 16777216 + bt l 5 * 65536 + bt l 6 * 256 + bt l 7), .int .i64 (bt l 8 * 16777216 + bt l 9 * 65536 + bt l 10 * 256 + bt l 11), .int .i64 (W : Int), .int .i64 FS, .int .i64 (bt l 14 * 256 + bt l 15), .int .i64 (bt l 16 * 256 + bt l 17), .int .i64 (bt l 18 * 256 + bt l 19), .slice av nv cv] 24) (b := T8) (by rw [hT8, rowW_size]) (.int .u8 kd) (.int .u8 ln) (.slice ad nd md) 78
          rw [← hY] at bY
          obtain ⟨bY0, bY1, bY2⟩ := bY
          have cY := gY.cell (rowW_cell hX 9)
          have HOY := Lib.hid (HOw.out.gr gY)
          have GWY := Lib.hid ((gr_rows (cs := [.int .i64 (bt l 0 * 256 + bt l 1), .int .i64 (bt l 2 * 256 + bt l 3), .int .i64 (bt l 4 * 16777216 + bt l 5 * 65536 + bt l 6 * 256 + bt l 7), .int .i64 (bt l 8 * 16777216 + bt l 9 * 65536 + bt l 10 * 256 + bt l 11), .int .i64 (W : Int), .int .i64 FS, .int .i64 (bt l 14 * 256 + bt l 15), .int .i64 (bt l 16 * 256 + bt l 17), .int .i64 (bt l 18 * 256 + bt l 19), .slice av nv cv]) (e := 24) hdT HG.out).trans gY)
          have neV := Lib.hid (show ∀ k, (Value.slice av nv cv).ownBlock = some k → k ≠ T8 from fun k hk => by
            have h1 := (HOw.out.fresh k hk).2
            rw [rowW_size] at h1
            omega)
          have HIDY := Lib.hid ((HID.out.gr gY))
          have szY := gY.size
          have szW := HG.out.size
          rw [rowW_size] at szY
          have HB0 := Lib.hid (And.intro bY0 (And.intro bY1 bY2))
          have CY := Lib.hid cY
          have hTb : O < wc.heap.size := hdT
          have neTT : T8 ≠ O := by omega
          clear hY hT8 gY cY
          refine wp_region_held_drew (S := (fun w' => w'.cell? ⟨T8, 0, none⟩ = some (.int .u8 kd) ∧ w'.cell? ⟨T8, 1, none⟩ = some (.int .u8 ln) ∧ w'.cell? ⟨T8, 2, none⟩ = some (.slice ad nd md))) (by kernel_rfl) ⟨bY0, bY1, bY2⟩ (fun hHeld => ?_)
          refine wpAnyH_take (i := 0) (v := .pointer (some ⟨O, 9, none⟩)) rfl (by kernel_rfl) (by kernel_rfl) (by kernel_rfl) (fun _ _ _ h => h) (Or.inl ⟨by rfl, fun w' hS => ?_⟩) (by assumption) ?_
          · obtain ⟨c0, c1, c2⟩ := hS
            clear hHeld
            go_simp
          try simp only [Act.put, List.getElem_toArray, List.getElem_cons_succ, List.getElem_cons_zero, List.setIfInBounds_toArray, List.set_cons_zero, List.set_cons_succ]
          refine wpAnyH_take (i := 2) (v := .pointer (some ⟨T8, 0, none⟩)) rfl (by kernel_rfl) (by kernel_rfl) (by kernel_rfl) (fun _ _ _ h => h) (Or.inl ⟨by rfl, fun w' hS => ?_⟩) (by assumption) ?_
          · obtain ⟨c0, c1, c2⟩ := hS
            clear hHeld
            go_simp
          try simp only [Act.put, List.getElem_toArray, List.getElem_cons_succ, List.getElem_cons_zero, List.setIfInBounds_toArray, List.set_cons_zero, List.set_cons_succ]
          refine wpAnyH_take (i := 3) (v := .int .u8 kd) rfl (by kernel_rfl) (by kernel_rfl) (by kernel_rfl) (fun _ _ _ h => h) (Or.inl ⟨by rfl, fun w' hS => ?_⟩) (by assumption) ?_
          · obtain ⟨c0, c1, c2⟩ := hS
            clear hHeld
            go_simp
          try simp only [Act.put, List.getElem_toArray, List.getElem_cons_succ, List.getElem_cons_zero, List.setIfInBounds_toArray, List.set_cons_zero, List.set_cons_succ]
          refine wpAnyH_take (i := 4) (v := .int .i64 kd) rfl (by kernel_rfl) (by kernel_rfl) (by kernel_rfl) (fun _ _ _ h => h) (Or.inl ⟨by rfl, fun w' hS => ?_⟩) (by assumption) ?_
          · obtain ⟨c0, c1, c2⟩ := hS
            clear hHeld
            go_simp
          try simp only [Act.put, List.getElem_toArray, List.getElem_cons_succ, List.getElem_cons_zero, List.setIfInBounds_toArray, List.set_cons_zero, List.set_cons_succ]
          refine wpAnyH_take (i := 5) (v := .pointer (some ⟨T8, 1, none⟩)) rfl (by kernel_rfl) (by kernel_rfl) (by kernel_rfl) (fun _ _ _ h => h) (Or.inl ⟨by rfl, fun w' hS => ?_⟩) (by assumption) ?_
          · obtain ⟨c0, c1, c2⟩ := hS
            clear hHeld
            go_simp
          try simp only [Act.put, List.getElem_toArray, List.getElem_cons_succ, List.getElem_cons_zero, List.setIfInBounds_toArray, List.set_cons_zero, List.set_cons_succ]
          refine wpAnyH_take (i := 6) (v := .int .u8 ln) rfl (by kernel_rfl) (by kernel_rfl) (by kernel_rfl) (fun _ _ _ h => h) (Or.inl ⟨by rfl, fun w' hS => ?_⟩) (by assumption) ?_
          · obtain ⟨c0, c1, c2⟩ := hS
            clear hHeld
            go_simp
          try simp only [Act.put, List.getElem_toArray, List.getElem_cons_succ, List.getElem_cons_zero, List.setIfInBounds_toArray, List.set_cons_zero, List.set_cons_succ]
          refine wpAnyH_take (i := 7) (v := .int .i64 ln) rfl (by kernel_rfl) (by kernel_rfl) (by kernel_rfl) (fun _ _ _ h => h) (Or.inl ⟨by rfl, fun w' hS => ?_⟩) (by assumption) ?_
          · obtain ⟨c0, c1, c2⟩ := hS
            clear hHeld
            go_simp
          try simp only [Act.put, List.getElem_toArray, List.getElem_cons_succ, List.getElem_cons_zero, List.setIfInBounds_toArray, List.set_cons_zero, List.set_cons_succ]
          refine wpAnyH_take (i := 8) (v := .pointer (some ⟨T8, 2, none⟩)) rfl (by kernel_rfl) (by kernel_rfl) (by kernel_rfl) (fun _ _ _ h => h) (Or.inl ⟨by rfl, fun w' hS => ?_⟩) (by assumption) ?_
          · obtain ⟨c0, c1, c2⟩ := hS
            clear hHeld
            go_simp
          try simp only [Act.put, List.getElem_toArray, List.getElem_cons_succ, List.getElem_cons_zero, List.setIfInBounds_toArray, List.set_cons_zero, List.set_cons_succ]
          refine wpAnyH_take (i := 9) (v := .slice ad nd md) rfl (by kernel_rfl) (by kernel_rfl) (by kernel_rfl) (fun _ _ _ h => h) (Or.inl ⟨by rfl, fun w' hS => ?_⟩) (by assumption) ?_
          · obtain ⟨c0, c1, c2⟩ := hS
            clear hHeld
            go_simp
          try simp only [Act.put, List.getElem_toArray, List.getElem_cons_succ, List.getElem_cons_zero, List.setIfInBounds_toArray, List.set_cons_zero, List.set_cons_succ]
          refine wpAnyH_ready (rs := [1, 10]) (by kernel_rfl) (by simp) ((AllReadyH.cons rfl (fun K hK => ?_) (AllReadyH.cons rfl (fun K hK => ?_) AllReadyH.nil)))
          · refine step_loadc (by rfl) 22 (.tmp 122) (by rfl) O 9 (by first | rfl | simp) (.slice av nv cv) 96 Try.underlying22 (CY.out) ?_
            refine hK.out _ _ ⟨HB0.out.1, HB0.out.2.1, HB0.out.2.2⟩ (fun hHeld => ?_)
            clear hK K
            try simp only [Act.put, List.getElem_toArray, List.getElem_cons_succ, List.getElem_cons_zero, List.setIfInBounds_toArray, List.set_cons_zero, List.set_cons_succ]
            refine wpAnyH_ready (rs := [10]) (by kernel_rfl) (by simp) ((AllReadyH.cons rfl (fun K hK => ?_) AllReadyH.nil))
            go_simp
            go_at_call_of 44 (Value.slice ad nd md)
            refine (copied_calls _ d _ (HIDY.out.drew) (by omega)).mono ?_
            rintro e x9 ⟨f9, g9, j9, rfl, ho9, hg9⟩
            refine hK.out _ _ ⟨Gr.cell hg9 HB0.out.1, Gr.cell hg9 HB0.out.2.1, Gr.cell hg9 HB0.out.2.2⟩ (fun hHeld => ?_)
            clear hK K
            try simp only [Act.put, List.getElem_toArray, List.getElem_cons_succ, List.getElem_cons_zero, List.setIfInBounds_toArray, List.set_cons_zero, List.set_cons_succ]
            refine wpAnyH_take (i := 11) (v := .agg #[.int .i64 kd, .int .i64 ln, .slice f9 g9 j9]) rfl (by kernel_rfl) (by kernel_rfl) (by kernel_rfl) (fun _ _ _ h => h) (Or.inl ⟨by rfl, fun w' hS => ?_⟩) (by assumption) ?_
            · obtain ⟨c0, c1, c2⟩ := hS
              clear hHeld
              go_simp
            try simp only [Act.put, List.getElem_toArray, List.getElem_cons_succ, List.getElem_cons_zero, List.setIfInBounds_toArray, List.set_cons_zero, List.set_cons_succ]
            refine wpAnyH_ready (rs := [12]) (by kernel_rfl) (by simp) ((AllReadyH.cons rfl (fun K hK => ?_) AllReadyH.nil))
            go_simp
            refine hK.out _ _ ⟨Gr.cell ((Gr.refl _).alloc _) (Gr.cell hg9 HB0.out.1), Gr.cell ((Gr.refl _).alloc _) (Gr.cell hg9 HB0.out.2.1), Gr.cell ((Gr.refl _).alloc _) (Gr.cell hg9 HB0.out.2.2)⟩ (fun hHeld => ?_)
            clear hK K
            try simp only [Act.put, List.getElem_toArray, List.getElem_cons_succ, List.getElem_cons_zero, List.setIfInBounds_toArray, List.set_cons_zero, List.set_cons_succ]
            refine wpAnyH_ready (rs := [13]) (by kernel_rfl) (by simp) ((AllReadyH.cons rfl (fun K hK => ?_) AllReadyH.nil))
            have hb9 : Y.heap.size ≤ x9.heap.size := hg9.size
            refine step_appR rfl (.tmp 123) (.tmp 134) 22 96 rfl Try.underlying22 _ 40 info_oI rfl (by omega) wc.heap.size O (.slice av nv cv) rs' (by first | rfl | simp [Act.eval]) ((HOY.out.gr ((Gr.refl Y).drew.trans hg9)).gr ((Gr.refl _).alloc _)) x9.heap.size 1 ⟨kd, ln, d⟩ (.slice f9 g9 j9) (by first | rfl | simp [Act.eval]) (box3 rfl _ _ _ _).1 (box3 rfl _ _ _ _).2.1 (box3 rfl _ _ _ _).2.2 (ho9.isB.gr ((Gr.refl _).alloc _)) (ho9.aside (show O < Y.heap.size by omega)) (fun k hk => ho9.aside (show k < Y.heap.size from (HOY.out.fresh k hk).2)) HRSL.out (by rw [World.size_alloc]; omega) ?_
            intro v4 w4 ho4 hg4 hat4
            obtain ⟨g4, n4, c4, rfl, hg41⟩ := ho4.slice_pos (by simp)
            have G4 := grownBy_step ((GWY.out.drew.trans hg9).alloc _) hg4 (fun k hk => .inl (by rw [rowW_size]; exact (HOY.out.fresh k hk).1))
            have k4b := World.grownBy.cell hg4 (a := ⟨T8, 0, none⟩) (Gr.cell ((Gr.refl _).alloc _) (Gr.cell hg9 HB0.out.1)) (fun e => neV.out _ e.symm rfl)
            have k4c := World.grownBy.cell hg4 (a := ⟨T8, 1, none⟩) (Gr.cell ((Gr.refl _).alloc _) (Gr.cell hg9 HB0.out.2.1)) (fun e => neV.out _ e.symm rfl)
            have k4d := World.grownBy.cell hg4 (a := ⟨T8, 2, none⟩) (Gr.cell ((Gr.refl _).alloc _) (Gr.cell hg9 HB0.out.2.2)) (fun e => neV.out _ e.symm rfl)
            obtain ⟨x4, gx4, dx4, rfl⟩ := Gr.unrow hdT G4
            have hfar4 := Lib.hid (fun k (hk : k < wc.heap.size) => ho9.aside (show k < Y.heap.size by omega))
            refine hK.out _ _ ⟨k4b, k4c, k4d⟩ (fun hHeld => ?_)
            clear hK K
            try simp only [Act.put, List.getElem_toArray, List.getElem_cons_succ, List.getElem_cons_zero, List.setIfInBounds_toArray, List.set_cons_zero, List.set_cons_succ]
            refine wpAnyH_take (i := 14) (v := .pointer (some ⟨O, 9, none⟩)) rfl (by kernel_rfl) (by kernel_rfl) (by kernel_rfl) (fun _ _ _ h => h) (Or.inl ⟨by rfl, fun w' hS => ?_⟩) (by assumption) ?_
            · obtain ⟨c0, c1, c2⟩ := hS
              clear hHeld
              go_simp
            try simp only [Act.put, List.getElem_toArray, List.getElem_cons_succ, List.getElem_cons_zero, List.setIfInBounds_toArray, List.set_cons_zero, List.set_cons_succ]
            refine wpAnyH_ready (rs := [15]) (by kernel_rfl) (by simp) ((AllReadyH.cons rfl (fun K hK => ?_) AllReadyH.nil))
            go_simp
            refine hK.out _ _ ⟨rowW_swap neTT k4b, rowW_swap neTT k4c, rowW_swap neTT k4d⟩ (fun hHeld => ?_)
            clear hK K
            try simp only [Act.put, List.getElem_toArray, List.getElem_cons_succ, List.getElem_cons_zero, List.setIfInBounds_toArray, List.set_cons_zero, List.set_cons_succ]
            refine wpAnyH_done (by kernel_rfl) ?_ _
            go_wp2_with fail
            go_roundw
            case rel =>
              repeat apply Exists.intro
              exact ⟨⟨k + 1, rs' ++ [(⟨kd, ln, d⟩, _)], x4, some ⟨g4, 0, none⟩, n4, c4, HLT.out, by go_num, rfl, dx4, gx4, ho4.reRow hdT, by rw [List.map_append, HRS'.out, opt_step HP.out, List.map_append]; rfl, fun p hp k hk => (List.mem_append.1 hp).elim (fun h => HFAR.out p h k hk) (fun h => by simp at h; subst h; exact hfar4.out k hk)⟩, rfl⟩
            case measure => simp [intOf]; omega
          · go_simp
            go_at_call_of 44 (Value.slice ad nd md)
            refine (copied_calls _ d _ (HIDY.out.drew) (by omega)).mono ?_
            rintro e x9 ⟨f9, g9, j9, rfl, ho9, hg9⟩
            refine hK.out _ _ ⟨Gr.cell hg9 HB0.out.1, Gr.cell hg9 HB0.out.2.1, Gr.cell hg9 HB0.out.2.2⟩ (fun hHeld => ?_)
            clear hK K
            try simp only [Act.put, List.getElem_toArray, List.getElem_cons_succ, List.getElem_cons_zero, List.setIfInBounds_toArray, List.set_cons_zero, List.set_cons_succ]
            refine wpAnyH_take (i := 11) (v := .agg #[.int .i64 kd, .int .i64 ln, .slice f9 g9 j9]) rfl (by kernel_rfl) (by kernel_rfl) (by kernel_rfl) (fun _ _ _ h => h) (Or.inl ⟨by rfl, fun w' hS => ?_⟩) (by assumption) ?_
            · obtain ⟨c0, c1, c2⟩ := hS
              clear hHeld
              go_simp
            try simp only [Act.put, List.getElem_toArray, List.getElem_cons_succ, List.getElem_cons_zero, List.setIfInBounds_toArray, List.set_cons_zero, List.set_cons_succ]
            refine wpAnyH_ready (rs := [1, 12]) (by kernel_rfl) (by simp) ((AllReadyH.cons rfl (fun K hK => ?_) (AllReadyH.cons rfl (fun K hK => ?_) AllReadyH.nil)))
            · refine step_loadc (by rfl) 22 (.tmp 122) (by rfl) O 9 (by first | rfl | simp) (.slice av nv cv) 96 Try.underlying22 (Gr.cell hg9 CY.out) ?_
              refine hK.out _ _ ⟨Gr.cell hg9 HB0.out.1, Gr.cell hg9 HB0.out.2.1, Gr.cell hg9 HB0.out.2.2⟩ (fun hHeld => ?_)
              clear hK K
              try simp only [Act.put, List.getElem_toArray, List.getElem_cons_succ, List.getElem_cons_zero, List.setIfInBounds_toArray, List.set_cons_zero, List.set_cons_succ]
              refine wpAnyH_ready (rs := [12]) (by kernel_rfl) (by simp) ((AllReadyH.cons rfl (fun K hK => ?_) AllReadyH.nil))
              go_simp
              refine hK.out _ _ ⟨Gr.cell ((Gr.refl _).alloc _) (Gr.cell hg9 HB0.out.1), Gr.cell ((Gr.refl _).alloc _) (Gr.cell hg9 HB0.out.2.1), Gr.cell ((Gr.refl _).alloc _) (Gr.cell hg9 HB0.out.2.2)⟩ (fun hHeld => ?_)
              clear hK K
              try simp only [Act.put, List.getElem_toArray, List.getElem_cons_succ, List.getElem_cons_zero, List.setIfInBounds_toArray, List.set_cons_zero, List.set_cons_succ]
              refine wpAnyH_ready (rs := [13]) (by kernel_rfl) (by simp) ((AllReadyH.cons rfl (fun K hK => ?_) AllReadyH.nil))
              have hb9 : Y.heap.size ≤ x9.heap.size := hg9.size
              refine step_appR rfl (.tmp 123) (.tmp 134) 22 96 rfl Try.underlying22 _ 40 info_oI rfl (by omega) wc.heap.size O (.slice av nv cv) rs' (by first | rfl | simp [Act.eval]) ((HOY.out.gr ((Gr.refl Y).drew.trans hg9)).gr ((Gr.refl _).alloc _)) x9.heap.size 1 ⟨kd, ln, d⟩ (.slice f9 g9 j9) (by first | rfl | simp [Act.eval]) (box3 rfl _ _ _ _).1 (box3 rfl _ _ _ _).2.1 (box3 rfl _ _ _ _).2.2 (ho9.isB.gr ((Gr.refl _).alloc _)) (ho9.aside (show O < Y.heap.size by omega)) (fun k hk => ho9.aside (show k < Y.heap.size from (HOY.out.fresh k hk).2)) HRSL.out (by rw [World.size_alloc]; omega) ?_
              intro v4 w4 ho4 hg4 hat4
              obtain ⟨g4, n4, c4, rfl, hg41⟩ := ho4.slice_pos (by simp)
              have G4 := grownBy_step ((GWY.out.drew.trans hg9).alloc _) hg4 (fun k hk => .inl (by rw [rowW_size]; exact (HOY.out.fresh k hk).1))
              have k4b := World.grownBy.cell hg4 (a := ⟨T8, 0, none⟩) (Gr.cell ((Gr.refl _).alloc _) (Gr.cell hg9 HB0.out.1)) (fun e => neV.out _ e.symm rfl)
              have k4c := World.grownBy.cell hg4 (a := ⟨T8, 1, none⟩) (Gr.cell ((Gr.refl _).alloc _) (Gr.cell hg9 HB0.out.2.1)) (fun e => neV.out _ e.symm rfl)
              have k4d := World.grownBy.cell hg4 (a := ⟨T8, 2, none⟩) (Gr.cell ((Gr.refl _).alloc _) (Gr.cell hg9 HB0.out.2.2)) (fun e => neV.out _ e.symm rfl)
              obtain ⟨x4, gx4, dx4, rfl⟩ := Gr.unrow hdT G4
              have hfar4 := Lib.hid (fun k (hk : k < wc.heap.size) => ho9.aside (show k < Y.heap.size by omega))
              refine hK.out _ _ ⟨k4b, k4c, k4d⟩ (fun hHeld => ?_)
              clear hK K
              try simp only [Act.put, List.getElem_toArray, List.getElem_cons_succ, List.getElem_cons_zero, List.setIfInBounds_toArray, List.set_cons_zero, List.set_cons_succ]
              refine wpAnyH_take (i := 14) (v := .pointer (some ⟨O, 9, none⟩)) rfl (by kernel_rfl) (by kernel_rfl) (by kernel_rfl) (fun _ _ _ h => h) (Or.inl ⟨by rfl, fun w' hS => ?_⟩) (by assumption) ?_
              · obtain ⟨c0, c1, c2⟩ := hS
                clear hHeld
                go_simp
              try simp only [Act.put, List.getElem_toArray, List.getElem_cons_succ, List.getElem_cons_zero, List.setIfInBounds_toArray, List.set_cons_zero, List.set_cons_succ]
              refine wpAnyH_ready (rs := [15]) (by kernel_rfl) (by simp) ((AllReadyH.cons rfl (fun K hK => ?_) AllReadyH.nil))
              go_simp
              refine hK.out _ _ ⟨rowW_swap neTT k4b, rowW_swap neTT k4c, rowW_swap neTT k4d⟩ (fun hHeld => ?_)
              clear hK K
              try simp only [Act.put, List.getElem_toArray, List.getElem_cons_succ, List.getElem_cons_zero, List.setIfInBounds_toArray, List.set_cons_zero, List.set_cons_succ]
              refine wpAnyH_done (by kernel_rfl) ?_ _
              go_wp2_with fail
              go_roundw
              case rel =>
                repeat apply Exists.intro
                exact ⟨⟨k + 1, rs' ++ [(⟨kd, ln, d⟩, _)], x4, some ⟨g4, 0, none⟩, n4, c4, HLT.out, by go_num, rfl, dx4, gx4, ho4.reRow hdT, by rw [List.map_append, HRS'.out, opt_step HP.out, List.map_append]; rfl, fun p hp k hk => (List.mem_append.1 hp).elim (fun h => HFAR.out p h k hk) (fun h => by simp at h; subst h; exact hfar4.out k hk)⟩, rfl⟩
              case measure => simp [intOf]; omega
            · go_simp
              refine hK.out _ _ ⟨Gr.cell ((Gr.refl _).alloc _) (Gr.cell hg9 HB0.out.1), Gr.cell ((Gr.refl _).alloc _) (Gr.cell hg9 HB0.out.2.1), Gr.cell ((Gr.refl _).alloc _) (Gr.cell hg9 HB0.out.2.2)⟩ (fun hHeld => ?_)
              clear hK K
              try simp only [Act.put, List.getElem_toArray, List.getElem_cons_succ, List.getElem_cons_zero, List.setIfInBounds_toArray, List.set_cons_zero, List.set_cons_succ]
              refine wpAnyH_ready (rs := [1]) (by kernel_rfl) (by simp) ((AllReadyH.cons rfl (fun K hK => ?_) AllReadyH.nil))
              refine step_loadc (by rfl) 22 (.tmp 122) (by rfl) O 9 (by first | rfl | simp) (.slice av nv cv) 96 Try.underlying22 (Gr.cell ((Gr.refl _).alloc _) (Gr.cell hg9 CY.out)) ?_
              refine hK.out _ _ ⟨Gr.cell ((Gr.refl _).alloc _) (Gr.cell hg9 HB0.out.1), Gr.cell ((Gr.refl _).alloc _) (Gr.cell hg9 HB0.out.2.1), Gr.cell ((Gr.refl _).alloc _) (Gr.cell hg9 HB0.out.2.2)⟩ (fun hHeld => ?_)
              clear hK K
              try simp only [Act.put, List.getElem_toArray, List.getElem_cons_succ, List.getElem_cons_zero, List.setIfInBounds_toArray, List.set_cons_zero, List.set_cons_succ]
              refine wpAnyH_ready (rs := [13]) (by kernel_rfl) (by simp) ((AllReadyH.cons rfl (fun K hK => ?_) AllReadyH.nil))
              have hb9 : Y.heap.size ≤ x9.heap.size := hg9.size
              refine step_appR rfl (.tmp 123) (.tmp 134) 22 96 rfl Try.underlying22 _ 40 info_oI rfl (by omega) wc.heap.size O (.slice av nv cv) rs' (by first | rfl | simp [Act.eval]) ((HOY.out.gr ((Gr.refl Y).drew.trans hg9)).gr ((Gr.refl _).alloc _)) x9.heap.size 1 ⟨kd, ln, d⟩ (.slice f9 g9 j9) (by first | rfl | simp [Act.eval]) (box3 rfl _ _ _ _).1 (box3 rfl _ _ _ _).2.1 (box3 rfl _ _ _ _).2.2 (ho9.isB.gr ((Gr.refl _).alloc _)) (ho9.aside (show O < Y.heap.size by omega)) (fun k hk => ho9.aside (show k < Y.heap.size from (HOY.out.fresh k hk).2)) HRSL.out (by rw [World.size_alloc]; omega) ?_
              intro v4 w4 ho4 hg4 hat4
              obtain ⟨g4, n4, c4, rfl, hg41⟩ := ho4.slice_pos (by simp)
              have G4 := grownBy_step ((GWY.out.drew.trans hg9).alloc _) hg4 (fun k hk => .inl (by rw [rowW_size]; exact (HOY.out.fresh k hk).1))
              have k4b := World.grownBy.cell hg4 (a := ⟨T8, 0, none⟩) (Gr.cell ((Gr.refl _).alloc _) (Gr.cell hg9 HB0.out.1)) (fun e => neV.out _ e.symm rfl)
              have k4c := World.grownBy.cell hg4 (a := ⟨T8, 1, none⟩) (Gr.cell ((Gr.refl _).alloc _) (Gr.cell hg9 HB0.out.2.1)) (fun e => neV.out _ e.symm rfl)
              have k4d := World.grownBy.cell hg4 (a := ⟨T8, 2, none⟩) (Gr.cell ((Gr.refl _).alloc _) (Gr.cell hg9 HB0.out.2.2)) (fun e => neV.out _ e.symm rfl)
              obtain ⟨x4, gx4, dx4, rfl⟩ := Gr.unrow hdT G4
              have hfar4 := Lib.hid (fun k (hk : k < wc.heap.size) => ho9.aside (show k < Y.heap.size by omega))
              refine hK.out _ _ ⟨k4b, k4c, k4d⟩ (fun hHeld => ?_)
              clear hK K
              try simp only [Act.put, List.getElem_toArray, List.getElem_cons_succ, List.getElem_cons_zero, List.setIfInBounds_toArray, List.set_cons_zero, List.set_cons_succ]
              refine wpAnyH_take (i := 14) (v := .pointer (some ⟨O, 9, none⟩)) rfl (by kernel_rfl) (by kernel_rfl) (by kernel_rfl) (fun _ _ _ h => h) (Or.inl ⟨by rfl, fun w' hS => ?_⟩) (by assumption) ?_
              · obtain ⟨c0, c1, c2⟩ := hS
                clear hHeld
                go_simp
              try simp only [Act.put, List.getElem_toArray, List.getElem_cons_succ, List.getElem_cons_zero, List.setIfInBounds_toArray, List.set_cons_zero, List.set_cons_succ]
              refine wpAnyH_ready (rs := [15]) (by kernel_rfl) (by simp) ((AllReadyH.cons rfl (fun K hK => ?_) AllReadyH.nil))
              go_simp
              refine hK.out _ _ ⟨rowW_swap neTT k4b, rowW_swap neTT k4c, rowW_swap neTT k4d⟩ (fun hHeld => ?_)
              clear hK K
              try simp only [Act.put, List.getElem_toArray, List.getElem_cons_succ, List.getElem_cons_zero, List.setIfInBounds_toArray, List.set_cons_zero, List.set_cons_succ]
              refine wpAnyH_done (by kernel_rfl) ?_ _
              go_wp2_with fail
              go_roundw
              case rel =>
                repeat apply Exists.intro
                exact ⟨⟨k + 1, rs' ++ [(⟨kd, ln, d⟩, _)], x4, some ⟨g4, 0, none⟩, n4, c4, HLT.out, by go_num, rfl, dx4, gx4, ho4.reRow hdT, by rw [List.map_append, HRS'.out, opt_step HP.out, List.map_append]; rfl, fun p hp k hk => (List.mem_append.1 hp).elim (fun h => HFAR.out p h k hk) (fun h => by simp at h; subst h; exact hfar4.out k hk)⟩, rfl⟩
              case measure => simp [intOf]; omega
        · obtain rfl : k = rs.length := by omega
          have hGF2 : Gr w2 (rowW x O [.int .i64 (bt l 0 * 256 + bt l 1), .int .i64 (bt l 2 * 256 + bt l 3), .int .i64 (bt l 4 * 16777216 + bt l 5 * 65536 + bt l 6 * 256 + bt l 7), .int .i64 (bt l 8 * 16777216 + bt l 9 * 65536 + bt l 10 * 256 + bt l 11), .int .i64 (W : Int), .int .i64 FS, .int .i64 (bt l 14 * 256 + bt l 15), .int .i64 (bt l 16 * 256 + bt l 17), .int .i64 (bt l 18 * 256 + bt l 19), .slice av nv cv] 24) := (HGF.out.trans HG.out).step (rowW_grown (some O) rfl) hOw2
          have HGF2 := Lib.hid hGF2
          have x1 := (HG.out.cell k1)
          have hR6 := HasRow.gr HGF2.out HR2.out
          have HR6 := Lib.hid hR6
          have HBP := Lib.hid (hb9.gr HGF2.out)
          have gAA : Gr w w2 := ((((Gr.refl w).alloc _).alloc _).trans hgA).step HG2.out (by omega)
          have GAA := Lib.hid gAA
          have z0 : w.heap.size < O := by have := HOE.out; have := HG2.out.size; omega
          have hneR : O ≠ w.heap.size := by omega
          have hneD2 : w.heap.size + 1 ≠ w.heap.size := by omega
          have szw2 := HGF2.out.size
          clear hGF2 hgA hoA hR6 gAA hb9 k1 k21
          go_wp2_with fail
          go_region_held3 (fun w' => w'.cell? ⟨w.heap.size + 1, 1, none⟩ = some (.slice a9 n9 m9) ∧ w'.cell? ⟨O, 0, none⟩ = some (.int .i64 (bt l 0 * 256 + bt l 1)) ∧ w'.cell? ⟨O, 1, none⟩ = some (.int .i64 (bt l 2 * 256 + bt l 3)) ∧ w'.cell? ⟨O, 2, none⟩ = some (.int .i64 (bt l 4 * 16777216 + bt l 5 * 65536 + bt l 6 * 256 + bt l 7)) ∧ w'.cell? ⟨O, 3, none⟩ = some (.int .i64 (bt l 8 * 16777216 + bt l 9 * 65536 + bt l 10 * 256 + bt l 11)) ∧ w'.cell? ⟨O, 4, none⟩ = some (.int .i64 (W : Int)) ∧ w'.cell? ⟨O, 5, none⟩ = some (.int .i64 FS) ∧ w'.cell? ⟨O, 6, none⟩ = some (.int .i64 (bt l 14 * 256 + bt l 15)) ∧ w'.cell? ⟨O, 7, none⟩ = some (.int .i64 (bt l 16 * 256 + bt l 17)) ∧ w'.cell? ⟨O, 8, none⟩ = some (.int .i64 (bt l 18 * 256 + bt l 19)) ∧ w'.cell? ⟨O, 9, none⟩ = some (.slice av nv cv)) (first | exact ⟨(rowW_cell_other hneD).trans x1, rowW_cell (show Has x.drew O from hX) 0, rowW_cell (show Has x.drew O from hX) 1, rowW_cell (show Has x.drew O from hX) 2, rowW_cell (show Has x.drew O from hX) 3, rowW_cell (show Has x.drew O from hX) 4, rowW_cell (show Has x.drew O from hX) 5, rowW_cell (show Has x.drew O from hX) 6, rowW_cell (show Has x.drew O from hX) 7, rowW_cell (show Has x.drew O from hX) 8, rowW_cell (show Has x.drew O from hX) 9⟩ | exact And.imp (Gr.cell (by assumption)) (And.imp (Gr.cell (by assumption)) (And.imp (Gr.cell (by assumption)) (And.imp (Gr.cell (by assumption)) (And.imp (Gr.cell (by assumption)) (And.imp (Gr.cell (by assumption)) (And.imp (Gr.cell (by assumption)) (And.imp (Gr.cell (by assumption)) (And.imp (Gr.cell (by assumption)) (And.imp (Gr.cell (by assumption)) (Gr.cell (by assumption))))))))))) (by assumption) | exact And.imp (rowW_swap hneD2) (And.imp (rowW_swap hneR) (And.imp (rowW_swap hneR) (And.imp (rowW_swap hneR) (And.imp (rowW_swap hneR) (And.imp (rowW_swap hneR) (And.imp (rowW_swap hneR) (And.imp (rowW_swap hneR) (And.imp (rowW_swap hneR) (And.imp (rowW_swap hneR) (rowW_swap hneR)))))))))) (by assumption) | go_keep) (first
            | (go_at_call 44; refine (copied_calls _ (l.drop (4 * W)) _ ?_ ?_).mono ?_; (exact IsB.drew HBP.out); (rw [List.length_drop]; omega); rintro e x9 ⟨f9, g9, j9, rfl, ho9, hg9⟩; obtain ⟨u9, rs9, hrs9, hR9, rfl⟩ := (HasRow.gr hg9 (HR6.out.drew)).w0; obtain ⟨r9x0, r9x1, r9x2, r9x3, r9x4, r9x5, r9x6, r9x7, r9x8, r9x9, rfl⟩ := len10 hrs9))
          go_wp2
          have t9 := (GAA.out.trans HGF2.out).drew.trans hg9
          have hwc : w.heap.size < w2.heap.size := by have := HG2.out.size; omega
          refine bodyPost_ret (v := .tuple #[.agg #[.int .i64 (bt l 0 * 256 + bt l 1), .int .i64 (bt l 2 * 256 + bt l 3), .int .i64 (bt l 4 * 16777216 + bt l 5 * 65536 + bt l 6 * 256 + bt l 7), .int .i64 (bt l 8 * 16777216 + bt l 9 * 65536 + bt l 10 * 256 + bt l 11), .int .i64 (W : Int), .int .i64 FS, .int .i64 (bt l 14 * 256 + bt l 15), .int .i64 (bt l 16 * 256 + bt l 17), .int .i64 (bt l 18 * 256 + bt l 19), .slice av nv cv], .slice f9 g9 j9, .bool true]) (by simp [results, Try.results14, go_sem, hR9]) rfl ?_
          unfold TcpData
          refine ⟨_, _, _, _, _, _, by rw [HFS.out], ?_, ?_, Gr.row t9 (Nat.le_refl _)⟩
          · have e := HRS'.out
            rw [List.take_length] at e
            rw [← HRS.out, ← e]
            refine OwnO.isOpts (base := wc.heap.size) (e := 96) (D := w.heap.size) (OwnO.turn (((HOw.out.gr ((Gr.refl _).drew.trans hg9)).other (D' := w.heap.size) (fun p hp => HFAR.out p hp _ (by omega)))) (rowW_rowW (n := 0)) (by omega)) (fun p hp => ?_)
            have hm : p.1 ∈ rs.map Prod.fst := by rw [← e]; exact List.mem_map_of_mem hp
            obtain ⟨q, hq, hqe⟩ := List.mem_map.1 hm
            have := HRNG.out q hq
            rw [hqe] at this
            exact ⟨WalkArith.wf_i64 (by omega), WalkArith.wf_i64 (by omega)⟩
          · exact IsB.reRow ho9.isB (ho9.other (show w.heap.size < (rowW x O [.int .i64 (bt l 0 * 256 + bt l 1), .int .i64 (bt l 2 * 256 + bt l 3), .int .i64 (bt l 4 * 16777216 + bt l 5 * 65536 + bt l 6 * 256 + bt l 7), .int .i64 (bt l 8 * 16777216 + bt l 9 * 65536 + bt l 10 * 256 + bt l 11), .int .i64 (W : Int), .int .i64 FS, .int .i64 (bt l 14 * 256 + bt l 15), .int .i64 (bt l 16 * 256 + bt l 17), .int .i64 (bt l 18 * 256 + bt l 19), .slice av nv cv] 24).heap.size by omega))
end Go.Proofs.Ytdpffedmgmllbaa
