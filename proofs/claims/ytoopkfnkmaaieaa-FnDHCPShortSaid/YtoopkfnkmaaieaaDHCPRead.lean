/-
  A message for addresses, as data.
-/
import Derived.Test.YtoopkfnkmaaieaaDHCP
import Derived.Test.YtoopkfnkmaaieaaIP4Read
namespace Go.Proofs.Ytoopkfnkmaaieaa
open Go.RowKit

theorem size_dh : (Try.prog.info? 122).map (·.size) = some 3 := by kernel_rfl
/-- an option as it comes out -/
def outO (x : Opt) : Opt := ⟨x.kind, 0, x.data⟩
/-- what holds ahead of a round that copies an option -/
def CopyRel0 (wb : World) (T : Nat) (TI : TypeId) (rs : List (Opt × Value)) (c : Value → List Value) (i : Value) (wr : World) : Prop :=
  ∃ (k : Nat) (rs' : List (Opt × Value)) (x : World) (a : Option Addr) (n m : Nat), k ≤ rs.length ∧ i = .int .i64 k ∧ wr = rowW x T (c (.slice a n m)) TI ∧ Has x T ∧ Gr wb x ∧ OwnO .i64 .i64 wr wb.heap.size 98 T (.slice a n m) rs' ∧ rs'.map Prod.fst = ((rs.take k).map Prod.fst).map outO ∧ ∀ p ∈ rs', ∀ k, k < wb.heap.size → Aside p.2 p.1.data k
/-- what a message is as data -/
def DhcpData (w w' : World) (l : List Int) (HL : Nat) (os : List Opt) (e : Ending) : Prop := ∃ f5 g5 j5 f6 g6 j6 f7 g7 j7 f8 g8 j8 f9 g9 j9 f10 g10 j10 f11 g11 j11 ao no mo, e = .returned (.tuple #[.agg #[.int .i64 (bt l 0), .int .i64 (bt l 1), .int .i64 (bt l 3), .int .i64 (bt l 4 * 16777216 + bt l 5 * 65536 + bt l 6 * 256 + bt l 7), .int .i64 (bt l 8 * 256 + bt l 9), .int .i64 (bt l 10 * 256 + bt l 11), .slice f5 g5 j5, .slice f6 g6 j6, .slice f7 g7 j7, .slice f8 g8 j8, .slice f9 g9 j9, .slice f10 g10 j10, .slice f11 g11 j11, .slice ao no mo], .bool true]) ∧
  IsB w' (.slice f5 g5 j5) ((l.take 16).drop 12) ∧ IsB w' (.slice f6 g6 j6) ((l.take 20).drop 16) ∧ IsB w' (.slice f7 g7 j7) ((l.take 24).drop 20) ∧ IsB w' (.slice f8 g8 j8) ((l.take 28).drop 24) ∧ IsB w' (.slice f9 g9 j9) ((l.take (28 + HL)).drop 28) ∧ IsB w' (.slice f10 g10 j10) ((l.take 108).drop 44) ∧ IsB w' (.slice f11 g11 j11) ((l.take 236).drop 108) ∧ IsOpts w' (.slice ao no mo) (os.map outO) ∧ Gr w w'

set_option linter.unusedSimpArgs false in
set_option maxRecDepth 100000 in
set_option maxHeartbeats 8000000 in
theorem dhcpRead_calls (v : Value) (l : List Int) (HL : Nat) (os : List Opt) (w : World) (h : IsB w v l) (hll : l.length = 241 + (typedB os).length) (hHL : bt l 2 = (HL : Int)) (h16 : HL ≤ 16) (hmg : bt l 236 * 16777216 + bt l 237 * 65536 + bt l 238 * 256 + bt l 239 = 1669485411)
    (hO : l.drop 240 = typedB os ++ [255]) (hok : ∀ x ∈ os, OkKind x) (hmx : os.length ≤ 30) (htl : (typedB os).length ≤ 50000) :
    Calls Try.prog 32 #[v] w fun e w' => DhcpData w w' l HL os e := by
  have H := Lib.hid h
  have HLL := Lib.hid hll
  have HHL := Lib.hid hHL
  have HMG := Lib.hid hmg
  have HO := Lib.hid hO
  have HOK := Lib.hid hok
  have HTL := Lib.hid htl
  have hlm : l.length ≤ 100000 := by omega
  have HLM := Lib.hid (show l.length ≤ 100000 ∧ 240 ≤ l.length by omega)
  clear h hll hHL hmg hO hok htl
  go_enter Try.func32, Try.ntmps32
  go_wp2_with fail
  refine (copied_calls _ l _ ?_ (by omega)).mono ?_
  · exact H.out.gr (((Gr.refl w).alloc _).alloc _)
  rintro e w1 ⟨a0, n0, m0, rfl, hoA, hgA⟩
  go_wp2_with fail
  refine (nilFeedback_calls _).mono ?_
  rintro e w2 ⟨rfl, rfl⟩
  go_wp2_with fail
  have hR := HasRow.gr hgA (HasRow.gr (World.grownBy_alloc _ (.cells #[.slice none 0 0, .slice none 0 0, .int .u8 0, .int .u8 0, .int .u8 0, .int .u8 0, .int .u32 0, .int .u16 0, .int .u16 0, .slice none 0 0, .slice none 0 0, .slice none 0 0, .slice none 0 0, .slice none 0 0, .slice none 0 0, .slice none 0 0, .slice none 0 0] 119) none) (HasRow.new w [.int .i64 0, .int .i64 0, .int .i64 0, .int .i64 0, .int .i64 0, .int .i64 0, .slice none 0 0, .slice none 0 0, .slice none 0 0, .slice none 0 0, .slice none 0 0, .slice none 0 0, .slice none 0 0, .slice none 0 0] 50 14 rfl))
  have hD := heap_gr hgA (heap_alloc_new (w.alloc (.cells #[.int .i64 0, .int .i64 0, .int .i64 0, .int .i64 0, .int .i64 0, .int .i64 0, .slice none 0 0, .slice none 0 0, .slice none 0 0, .slice none 0 0, .slice none 0 0, .slice none 0 0, .slice none 0 0, .slice none 0 0] 50)) (.cells #[.slice none 0 0, .slice none 0 0, .int .u8 0, .int .u8 0, .int .u8 0, .int .u8 0, .int .u32 0, .int .u16 0, .int .u16 0, .slice none 0 0, .slice none 0 0, .slice none 0 0, .slice none 0 0, .slice none 0 0, .slice none 0 0, .slice none 0 0, .slice none 0 0] 119))
  have hS := hgA.size
  simp only [World.size_alloc] at hD hS
  have HR := Lib.hid hR
  have HD := Lib.hid hD
  clear hR hD hlm
  refine (dhcpDecode_calls (w.heap.size + 1) _ _ _ l HL os w1 HD.out hoA.isB HLL.out HHL.out h16 HMG.out HO.out HOK.out hmx HTL.out (hoA.other (by simp))).mono ?_
  rintro e w2 ⟨rfl, hgB, a0, n0, m0, a5, n5, m5, a6, n6, m6, a7, n7, m7, a8, n8, m8, a9, n9, m9, a10, n10, m10, a11, n11, m11, vo, rs, hb5, hb6, hb7, hb8, hb9, hb10, hb11, hd2, how, hrs⟩
  have HR2 := Lib.hid (HasRow.grown HR.out hgB (by omega))
  have HG2 := Lib.hid hgB
  have HD2 := Lib.hid hd2
  have HOW := Lib.hid how
  have HRS := Lib.hid hrs
  clear hgB hd2 how hrs
  have HBW9 := Lib.hid hb9
  have HBW10 := Lib.hid hb10
  have HBW11 := Lib.hid hb11
  have k2 := cell_of_heap (cs := [_, _, _, _, _, _, _, _, _, _, _, _, _, _, _, _, _]) HD2.out 2 _ rfl
  have k3 := cell_of_heap (cs := [_, _, _, _, _, _, _, _, _, _, _, _, _, _, _, _, _]) HD2.out 3 _ rfl
  have k5 := cell_of_heap (cs := [_, _, _, _, _, _, _, _, _, _, _, _, _, _, _, _, _]) HD2.out 5 _ rfl
  have k6 := cell_of_heap (cs := [_, _, _, _, _, _, _, _, _, _, _, _, _, _, _, _, _]) HD2.out 6 _ rfl
  have k7 := cell_of_heap (cs := [_, _, _, _, _, _, _, _, _, _, _, _, _, _, _, _, _]) HD2.out 7 _ rfl
  have k8 := cell_of_heap (cs := [_, _, _, _, _, _, _, _, _, _, _, _, _, _, _, _, _]) HD2.out 8 _ rfl
  have k9 := cell_of_heap (cs := [_, _, _, _, _, _, _, _, _, _, _, _, _, _, _, _, _]) HD2.out 9 _ rfl
  have k10 := cell_of_heap (cs := [_, _, _, _, _, _, _, _, _, _, _, _, _, _, _, _, _]) HD2.out 10 _ rfl
  have k11 := cell_of_heap (cs := [_, _, _, _, _, _, _, _, _, _, _, _, _, _, _, _, _]) HD2.out 11 _ rfl
  have k12 := cell_of_heap (cs := [_, _, _, _, _, _, _, _, _, _, _, _, _, _, _, _, _]) HD2.out 12 _ rfl
  have k13 := cell_of_heap (cs := [_, _, _, _, _, _, _, _, _, _, _, _, _, _, _, _, _]) HD2.out 13 _ rfl
  have k14 := cell_of_heap (cs := [_, _, _, _, _, _, _, _, _, _, _, _, _, _, _, _, _]) HD2.out 14 _ rfl
  have k15 := cell_of_heap (cs := [_, _, _, _, _, _, _, _, _, _, _, _, _, _, _, _, _]) HD2.out 15 _ rfl
  have p0 := hoA.bytes.bt0 0
  have q0 := hoA.bytes.bt1 0
  have p1 := hoA.bytes.bt0 1
  have q1 := hoA.bytes.bt1 1
  have p2 := hoA.bytes.bt0 2
  have q2 := hoA.bytes.bt1 2
  have p3 := hoA.bytes.bt0 3
  have q3 := hoA.bytes.bt1 3
  have p4 := hoA.bytes.bt0 4
  have q4 := hoA.bytes.bt1 4
  have p5 := hoA.bytes.bt0 5
  have q5 := hoA.bytes.bt1 5
  have p6 := hoA.bytes.bt0 6
  have q6 := hoA.bytes.bt1 6
  have p7 := hoA.bytes.bt0 7
  have q7 := hoA.bytes.bt1 7
  have p8 := hoA.bytes.bt0 8
  have q8 := hoA.bytes.bt1 8
  have p9 := hoA.bytes.bt0 9
  have q9 := hoA.bytes.bt1 9
  have p10 := hoA.bytes.bt0 10
  have q10 := hoA.bytes.bt1 10
  have p11 := hoA.bytes.bt0 11
  have q11 := hoA.bytes.bt1 11
  have uw0 : IntKind.i64.wrap (bt l 0) = bt l 0 := w64 (by omega) (by omega)
  have uw1 : IntKind.i64.wrap (bt l 1) = bt l 1 := w64 (by omega) (by omega)
  have uw2 : IntKind.i64.wrap (bt l 3) = bt l 3 := w64 (by omega) (by omega)
  have uw3 : IntKind.i64.wrap (bt l 4 * 16777216 + bt l 5 * 65536 + bt l 6 * 256 + bt l 7) = bt l 4 * 16777216 + bt l 5 * 65536 + bt l 6 * 256 + bt l 7 := w64 (by omega) (by omega)
  have uw4 : IntKind.i64.wrap (bt l 8 * 256 + bt l 9) = bt l 8 * 256 + bt l 9 := w64 (by omega) (by omega)
  have uw5 : IntKind.i64.wrap (bt l 10 * 256 + bt l 11) = bt l 10 * 256 + bt l 11 := w64 (by omega) (by omega)
  have ltW : w.heap.size + 1 < w2.heap.size := by have := HG2.out.size; omega
  go_wp2_with fail
  go_region_held3 (fun w' => w'.cell? ⟨w.heap.size + 1, 2, none⟩ = some (.int .u8 (bt l 0)) ∧ w'.cell? ⟨w.heap.size + 1, 3, none⟩ = some (.int .u8 (bt l 1)) ∧ w'.cell? ⟨w.heap.size + 1, 5, none⟩ = some (.int .u8 (bt l 3)) ∧ w'.cell? ⟨w.heap.size + 1, 6, none⟩ = some (.int .u32 (bt l 4 * 16777216 + bt l 5 * 65536 + bt l 6 * 256 + bt l 7)) ∧ w'.cell? ⟨w.heap.size + 1, 7, none⟩ = some (.int .u16 (bt l 8 * 256 + bt l 9)) ∧ w'.cell? ⟨w.heap.size + 1, 8, none⟩ = some (.int .u16 (bt l 10 * 256 + bt l 11))) (first | exact ⟨k2, k3, k5, k6, k7, k8⟩ | exact And.imp (Gr.cell ((Gr.refl _).alloc _)) (And.imp (Gr.cell ((Gr.refl _).alloc _)) (And.imp (Gr.cell ((Gr.refl _).alloc _)) (And.imp (Gr.cell ((Gr.refl _).alloc _)) (And.imp (Gr.cell ((Gr.refl _).alloc _)) (Gr.cell ((Gr.refl _).alloc _)))))) (by assumption) | go_keep) (fail)
  go_wp2_with fail
  obtain ⟨Y, hY⟩ : ∃ Y : World, Y = (w2.alloc (.cells [.int .i64 (bt l 0), .int .i64 (bt l 1), .int .i64 (bt l 3), .int .i64 (bt l 4 * 16777216 + bt l 5 * 65536 + bt l 6 * 256 + bt l 7), .int .i64 (bt l 8 * 256 + bt l 9), .int .i64 (bt l 10 * 256 + bt l 11), .slice none 0 0, .slice none 0 0, .slice none 0 0, .slice none 0 0, .slice none 0 0, .slice none 0 0, .slice none 0 0, .slice none 0 0].toArray 50)).drew := ⟨_, rfl⟩
  rw [← hY]
  have hOY : Y.heap[w2.heap.size]? = some (.cells [.int .i64 (bt l 0), .int .i64 (bt l 1), .int .i64 (bt l 3), .int .i64 (bt l 4 * 16777216 + bt l 5 * 65536 + bt l 6 * 256 + bt l 7), .int .i64 (bt l 8 * 256 + bt l 9), .int .i64 (bt l 10 * 256 + bt l 11), .slice none 0 0, .slice none 0 0, .slice none 0 0, .slice none 0 0, .slice none 0 0, .slice none 0 0, .slice none 0 0, .slice none 0 0].toArray 50 (0, 0)) := by rw [hY]; exact heap_gr (Gr.refl (w2.alloc _)).drew (heap_alloc_new w2 _)
  have gY : Gr w2 Y := by rw [hY]; exact ((Gr.refl _).alloc _).drew
  obtain ⟨T6, hT6e⟩ : ∃ T6, T6 = w2.heap.size := ⟨_, rfl⟩
  rw [← hT6e] at hOY ⊢
  have HGY := Lib.hid gY
  have hT6 : w2.heap.size ≤ T6 := by omega
  have neT : w.heap.size + 1 ≠ T6 := by omega
  have ltT : w.heap.size < T6 := by omega
  clear gY hY hT6e
  obtain ⟨x0, dx0, rfl⟩ := one_row hOY (Gr.refl Y)
  clear hOY k2 k3 k5 k6 k7 k8 uw0 uw1 uw2 uw3 uw4 uw5
  have HB5 := Lib.hid (hb5.gr HGY.out)
  have HB6 := Lib.hid (hb6.gr HGY.out)
  have HB7 := Lib.hid (hb7.gr HGY.out)
  have HB8 := Lib.hid (hb8.gr HGY.out)
  have z9 := HGY.out.cell k9
  have z10 := HGY.out.cell k10
  have z11 := HGY.out.cell k11
  have z12 := HGY.out.cell k12
  clear k9 k10 k11 k12 hb5 hb6 hb7 hb8 hb9 hb10 hb11
  go_region_held3 (fun w' => w'.cell? ⟨w.heap.size + 1, 9, none⟩ = some (.slice a5 n5 m5) ∧ w'.cell? ⟨w.heap.size + 1, 10, none⟩ = some (.slice a6 n6 m6) ∧ w'.cell? ⟨w.heap.size + 1, 11, none⟩ = some (.slice a7 n7 m7) ∧ w'.cell? ⟨w.heap.size + 1, 12, none⟩ = some (.slice a8 n8 m8)) (first | exact ⟨z9, z10, z11, z12⟩ | exact And.imp (Gr.cell hg8) (And.imp (Gr.cell hg8) (And.imp (Gr.cell hg8) (Gr.cell hg8))) (by assumption) | exact And.imp (Gr.cell hg7) (And.imp (Gr.cell hg7) (And.imp (Gr.cell hg7) (Gr.cell hg7))) (by assumption) | exact And.imp (Gr.cell hg6) (And.imp (Gr.cell hg6) (And.imp (Gr.cell hg6) (Gr.cell hg6))) (by assumption) | exact And.imp (Gr.cell hg5) (And.imp (Gr.cell hg5) (And.imp (Gr.cell hg5) (Gr.cell hg5))) (by assumption) | exact And.imp (rowW_swap neT) (And.imp (rowW_swap neT) (And.imp (rowW_swap neT) (rowW_swap neT))) (by assumption) | go_keep) (first
    | (go_at_call_of 48 (Value.slice a5 n5 m5); refine (copied_calls _ ((l.take 16).drop 12) _ ?_ ?_).mono ?_; (exact HB5.out.gr (Gr.refl _).drew); (simp only [List.length_take, List.length_drop]; have := HLM.out; omega); rintro e y5 ⟨f5, g5, j5, rfl, ho5, hg5⟩; obtain ⟨x5, gx5, dx5, rfl⟩ := Gr.unrow (show Has x0.drew T6 from dx0) hg5)
    | (go_at_call_of 48 (Value.slice a6 n6 m6); refine (copied_calls _ ((l.take 20).drop 16) _ ?_ ?_).mono ?_; (exact HB6.out.gr ((Gr.refl _).drew.trans hg5)); (simp only [List.length_take, List.length_drop]; have := HLM.out; omega); rintro e y6 ⟨f6, g6, j6, rfl, ho6, hg6⟩; obtain ⟨x6, gx6, dx6, rfl⟩ := Gr.unrow (dx5) hg6)
    | (go_at_call_of 48 (Value.slice a7 n7 m7); refine (copied_calls _ ((l.take 24).drop 20) _ ?_ ?_).mono ?_; (exact HB7.out.gr ((Gr.refl _).drew.trans (hg5.trans hg6))); (simp only [List.length_take, List.length_drop]; have := HLM.out; omega); rintro e y7 ⟨f7, g7, j7, rfl, ho7, hg7⟩; obtain ⟨x7, gx7, dx7, rfl⟩ := Gr.unrow (dx6) hg7)
    | (go_at_call_of 48 (Value.slice a8 n8 m8); refine (copied_calls _ ((l.take 28).drop 24) _ ?_ ?_).mono ?_; (exact HB8.out.gr ((Gr.refl _).drew.trans (hg5.trans (hg6.trans hg7)))); (simp only [List.length_take, List.length_drop]; have := HLM.out; omega); rintro e y8 ⟨f8, g8, j8, rfl, ho8, hg8⟩; obtain ⟨x8, gx8, dx8, rfl⟩ := Gr.unrow (dx7) hg8))
  have hgA8 := (hg5.trans (hg6.trans (hg7.trans hg8)))
  have GA := Lib.hid ((HGY.out.drew.trans hgA8).row (cs' := [.int .i64 (bt l 0), .int .i64 (bt l 1), .int .i64 (bt l 3), .int .i64 (bt l 4 * 16777216 + bt l 5 * 65536 + bt l 6 * 256 + bt l 7), .int .i64 (bt l 8 * 256 + bt l 9), .int .i64 (bt l 10 * 256 + bt l 11), .slice f5 g5 j5, .slice f6 g6 j6, .slice f7 g7 j7, .slice f8 g8 j8, .slice none 0 0, .slice none 0 0, .slice none 0 0, .slice none 0 0]) hT6)
  have FR5 := Lib.hid (show ∀ k, k ≤ T6 → Aside (.slice f5 g5 j5) ((l.take 16).drop 12) k from fun k hk => ho5.aside (Nat.lt_of_le_of_lt hk (by rw [rowW_size]; exact dx0)))
  have IB5 := Lib.hid (show IsB (rowW x8 T6 [.int .i64 (bt l 0), .int .i64 (bt l 1), .int .i64 (bt l 3), .int .i64 (bt l 4 * 16777216 + bt l 5 * 65536 + bt l 6 * 256 + bt l 7), .int .i64 (bt l 8 * 256 + bt l 9), .int .i64 (bt l 10 * 256 + bt l 11), .slice f5 g5 j5, .slice f6 g6 j6, .slice f7 g7 j7, .slice f8 g8 j8, .slice none 0 0, .slice none 0 0, .slice none 0 0, .slice none 0 0] 50) (.slice f5 g5 j5) ((l.take 16).drop 12) from (ho5.isB.gr (hg6.trans (hg7.trans hg8))).keptE (rowW_rowW (n := 0)) (FR5.out _ (Nat.le_refl _)))
  have FR6 := Lib.hid (show ∀ k, k ≤ T6 → Aside (.slice f6 g6 j6) ((l.take 20).drop 16) k from fun k hk => ho6.aside (Nat.lt_of_le_of_lt hk (by rw [rowW_size]; exact dx5)))
  have IB6 := Lib.hid (show IsB (rowW x8 T6 [.int .i64 (bt l 0), .int .i64 (bt l 1), .int .i64 (bt l 3), .int .i64 (bt l 4 * 16777216 + bt l 5 * 65536 + bt l 6 * 256 + bt l 7), .int .i64 (bt l 8 * 256 + bt l 9), .int .i64 (bt l 10 * 256 + bt l 11), .slice f5 g5 j5, .slice f6 g6 j6, .slice f7 g7 j7, .slice f8 g8 j8, .slice none 0 0, .slice none 0 0, .slice none 0 0, .slice none 0 0] 50) (.slice f6 g6 j6) ((l.take 20).drop 16) from (ho6.isB.gr (hg7.trans hg8)).keptE (rowW_rowW (n := 0)) (FR6.out _ (Nat.le_refl _)))
  have FR7 := Lib.hid (show ∀ k, k ≤ T6 → Aside (.slice f7 g7 j7) ((l.take 24).drop 20) k from fun k hk => ho7.aside (Nat.lt_of_le_of_lt hk (by rw [rowW_size]; exact dx6)))
  have IB7 := Lib.hid (show IsB (rowW x8 T6 [.int .i64 (bt l 0), .int .i64 (bt l 1), .int .i64 (bt l 3), .int .i64 (bt l 4 * 16777216 + bt l 5 * 65536 + bt l 6 * 256 + bt l 7), .int .i64 (bt l 8 * 256 + bt l 9), .int .i64 (bt l 10 * 256 + bt l 11), .slice f5 g5 j5, .slice f6 g6 j6, .slice f7 g7 j7, .slice f8 g8 j8, .slice none 0 0, .slice none 0 0, .slice none 0 0, .slice none 0 0] 50) (.slice f7 g7 j7) ((l.take 24).drop 20) from (ho7.isB.gr (hg8)).keptE (rowW_rowW (n := 0)) (FR7.out _ (Nat.le_refl _)))
  have FR8 := Lib.hid (show ∀ k, k ≤ T6 → Aside (.slice f8 g8 j8) ((l.take 28).drop 24) k from fun k hk => ho8.aside (Nat.lt_of_le_of_lt hk (by rw [rowW_size]; exact dx7)))
  have IB8 := Lib.hid (show IsB (rowW x8 T6 [.int .i64 (bt l 0), .int .i64 (bt l 1), .int .i64 (bt l 3), .int .i64 (bt l 4 * 16777216 + bt l 5 * 65536 + bt l 6 * 256 + bt l 7), .int .i64 (bt l 8 * 256 + bt l 9), .int .i64 (bt l 10 * 256 + bt l 11), .slice f5 g5 j5, .slice f6 g6 j6, .slice f7 g7 j7, .slice f8 g8 j8, .slice none 0 0, .slice none 0 0, .slice none 0 0, .slice none 0 0] 50) (.slice f8 g8 j8) ((l.take 28).drop 24) from ho8.isB.keptE (rowW_rowW (n := 0)) (FR8.out _ (Nat.le_refl _)))
  have HB9 := Lib.hid (HBW9.out.gr GA.out)
  have HB10 := Lib.hid (HBW10.out.gr GA.out)
  have HB11 := Lib.hid (HBW11.out.gr GA.out)
  have z13' := GA.out.cell k13
  have z14' := GA.out.cell k14
  have z15' := GA.out.cell k15
  clear ho5 ho6 ho7 ho8 hgA8 z9 z10 z11 z12
  go_wp2_with fail
  go_region_held3 (fun w' => w'.cell? ⟨w.heap.size + 1, 13, none⟩ = some (.slice a9 n9 m9) ∧ w'.cell? ⟨w.heap.size + 1, 14, none⟩ = some (.slice a10 n10 m10) ∧ w'.cell? ⟨w.heap.size + 1, 15, none⟩ = some (.slice a11 n11 m11)) (first | exact ⟨z13', z14', z15'⟩ | exact And.imp (Gr.cell hg11) (And.imp (Gr.cell hg11) (Gr.cell hg11)) (by assumption) | exact And.imp (Gr.cell hg10) (And.imp (Gr.cell hg10) (Gr.cell hg10)) (by assumption) | exact And.imp (Gr.cell hg9) (And.imp (Gr.cell hg9) (Gr.cell hg9)) (by assumption) | exact And.imp (rowW_swap neT) (And.imp (rowW_swap neT) (rowW_swap neT)) (by assumption) | go_keep) (first
    | (go_at_call_of 48 (Value.slice a9 n9 m9); refine (copied_calls _ ((l.take (28 + HL)).drop 28) _ ?_ ?_).mono ?_; (exact HB9.out.gr (Gr.refl _).drew); (simp only [List.length_take, List.length_drop]; have := HLM.out; omega); rintro e y9 ⟨f9, g9, j9, rfl, ho9, hg9⟩; obtain ⟨x9, gx9, dx9, rfl⟩ := Gr.unrow (show Has x8.drew T6 from dx8) hg9)
    | (go_at_call_of 48 (Value.slice a10 n10 m10); refine (copied_calls _ ((l.take 108).drop 44) _ ?_ ?_).mono ?_; (exact HB10.out.gr ((Gr.refl _).drew.trans hg9)); (simp only [List.length_take, List.length_drop]; have := HLM.out; omega); rintro e y10 ⟨f10, g10, j10, rfl, ho10, hg10⟩; obtain ⟨x10, gx10, dx10, rfl⟩ := Gr.unrow (dx9) hg10)
    | (go_at_call_of 48 (Value.slice a11 n11 m11); refine (copied_calls _ ((l.take 236).drop 108) _ ?_ ?_).mono ?_; (exact HB11.out.gr ((Gr.refl _).drew.trans (hg9.trans hg10))); (simp only [List.length_take, List.length_drop]; have := HLM.out; omega); rintro e y11 ⟨f11, g11, j11, rfl, ho11, hg11⟩; obtain ⟨x11, gx11, dx11, rfl⟩ := Gr.unrow (dx10) hg11))
  have hgA11 := (hg9.trans (hg10.trans hg11))
  have GC := Lib.hid ((GA.out.drew.trans hgA11).row (cs' := [.int .i64 (bt l 0), .int .i64 (bt l 1), .int .i64 (bt l 3), .int .i64 (bt l 4 * 16777216 + bt l 5 * 65536 + bt l 6 * 256 + bt l 7), .int .i64 (bt l 8 * 256 + bt l 9), .int .i64 (bt l 10 * 256 + bt l 11), .slice f5 g5 j5, .slice f6 g6 j6, .slice f7 g7 j7, .slice f8 g8 j8, .slice f9 g9 j9, .slice f10 g10 j10, .slice f11 g11 j11, .slice none 0 0]) hT6)
  have IB5 := Lib.hid (show IsB (rowW x11 T6 [.int .i64 (bt l 0), .int .i64 (bt l 1), .int .i64 (bt l 3), .int .i64 (bt l 4 * 16777216 + bt l 5 * 65536 + bt l 6 * 256 + bt l 7), .int .i64 (bt l 8 * 256 + bt l 9), .int .i64 (bt l 10 * 256 + bt l 11), .slice f5 g5 j5, .slice f6 g6 j6, .slice f7 g7 j7, .slice f8 g8 j8, .slice f9 g9 j9, .slice f10 g10 j10, .slice f11 g11 j11, .slice none 0 0] 50) (.slice f5 g5 j5) ((l.take 16).drop 12) from ((IB5.out.drew).gr hgA11).keptE (rowW_rowW (n := 0)) (FR5.out _ (Nat.le_refl _)))
  have IB6 := Lib.hid (show IsB (rowW x11 T6 [.int .i64 (bt l 0), .int .i64 (bt l 1), .int .i64 (bt l 3), .int .i64 (bt l 4 * 16777216 + bt l 5 * 65536 + bt l 6 * 256 + bt l 7), .int .i64 (bt l 8 * 256 + bt l 9), .int .i64 (bt l 10 * 256 + bt l 11), .slice f5 g5 j5, .slice f6 g6 j6, .slice f7 g7 j7, .slice f8 g8 j8, .slice f9 g9 j9, .slice f10 g10 j10, .slice f11 g11 j11, .slice none 0 0] 50) (.slice f6 g6 j6) ((l.take 20).drop 16) from ((IB6.out.drew).gr hgA11).keptE (rowW_rowW (n := 0)) (FR6.out _ (Nat.le_refl _)))
  have IB7 := Lib.hid (show IsB (rowW x11 T6 [.int .i64 (bt l 0), .int .i64 (bt l 1), .int .i64 (bt l 3), .int .i64 (bt l 4 * 16777216 + bt l 5 * 65536 + bt l 6 * 256 + bt l 7), .int .i64 (bt l 8 * 256 + bt l 9), .int .i64 (bt l 10 * 256 + bt l 11), .slice f5 g5 j5, .slice f6 g6 j6, .slice f7 g7 j7, .slice f8 g8 j8, .slice f9 g9 j9, .slice f10 g10 j10, .slice f11 g11 j11, .slice none 0 0] 50) (.slice f7 g7 j7) ((l.take 24).drop 20) from ((IB7.out.drew).gr hgA11).keptE (rowW_rowW (n := 0)) (FR7.out _ (Nat.le_refl _)))
  have IB8 := Lib.hid (show IsB (rowW x11 T6 [.int .i64 (bt l 0), .int .i64 (bt l 1), .int .i64 (bt l 3), .int .i64 (bt l 4 * 16777216 + bt l 5 * 65536 + bt l 6 * 256 + bt l 7), .int .i64 (bt l 8 * 256 + bt l 9), .int .i64 (bt l 10 * 256 + bt l 11), .slice f5 g5 j5, .slice f6 g6 j6, .slice f7 g7 j7, .slice f8 g8 j8, .slice f9 g9 j9, .slice f10 g10 j10, .slice f11 g11 j11, .slice none 0 0] 50) (.slice f8 g8 j8) ((l.take 28).drop 24) from ((IB8.out.drew).gr hgA11).keptE (rowW_rowW (n := 0)) (FR8.out _ (Nat.le_refl _)))
  have FR9 := Lib.hid (show ∀ k, k ≤ T6 → Aside (.slice f9 g9 j9) ((l.take (28 + HL)).drop 28) k from fun k hk => ho9.aside (Nat.lt_of_le_of_lt hk (by rw [rowW_size]; exact dx8)))
  have IB9 := Lib.hid (show IsB (rowW x11 T6 [.int .i64 (bt l 0), .int .i64 (bt l 1), .int .i64 (bt l 3), .int .i64 (bt l 4 * 16777216 + bt l 5 * 65536 + bt l 6 * 256 + bt l 7), .int .i64 (bt l 8 * 256 + bt l 9), .int .i64 (bt l 10 * 256 + bt l 11), .slice f5 g5 j5, .slice f6 g6 j6, .slice f7 g7 j7, .slice f8 g8 j8, .slice f9 g9 j9, .slice f10 g10 j10, .slice f11 g11 j11, .slice none 0 0] 50) (.slice f9 g9 j9) ((l.take (28 + HL)).drop 28) from (ho9.isB.gr (hg10.trans hg11)).keptE (rowW_rowW (n := 0)) (FR9.out _ (Nat.le_refl _)))
  have FR10 := Lib.hid (show ∀ k, k ≤ T6 → Aside (.slice f10 g10 j10) ((l.take 108).drop 44) k from fun k hk => ho10.aside (Nat.lt_of_le_of_lt hk (by rw [rowW_size]; exact dx9)))
  have IB10 := Lib.hid (show IsB (rowW x11 T6 [.int .i64 (bt l 0), .int .i64 (bt l 1), .int .i64 (bt l 3), .int .i64 (bt l 4 * 16777216 + bt l 5 * 65536 + bt l 6 * 256 + bt l 7), .int .i64 (bt l 8 * 256 + bt l 9), .int .i64 (bt l 10 * 256 + bt l 11), .slice f5 g5 j5, .slice f6 g6 j6, .slice f7 g7 j7, .slice f8 g8 j8, .slice f9 g9 j9, .slice f10 g10 j10, .slice f11 g11 j11, .slice none 0 0] 50) (.slice f10 g10 j10) ((l.take 108).drop 44) from (ho10.isB.gr (hg11)).keptE (rowW_rowW (n := 0)) (FR10.out _ (Nat.le_refl _)))
  have FR11 := Lib.hid (show ∀ k, k ≤ T6 → Aside (.slice f11 g11 j11) ((l.take 236).drop 108) k from fun k hk => ho11.aside (Nat.lt_of_le_of_lt hk (by rw [rowW_size]; exact dx10)))
  have IB11 := Lib.hid (show IsB (rowW x11 T6 [.int .i64 (bt l 0), .int .i64 (bt l 1), .int .i64 (bt l 3), .int .i64 (bt l 4 * 16777216 + bt l 5 * 65536 + bt l 6 * 256 + bt l 7), .int .i64 (bt l 8 * 256 + bt l 9), .int .i64 (bt l 10 * 256 + bt l 11), .slice f5 g5 j5, .slice f6 g6 j6, .slice f7 g7 j7, .slice f8 g8 j8, .slice f9 g9 j9, .slice f10 g10 j10, .slice f11 g11 j11, .slice none 0 0] 50) (.slice f11 g11 j11) ((l.take 236).drop 108) from ho11.isB.keptE (rowW_rowW (n := 0)) (FR11.out _ (Nat.le_refl _)))
  have k16 : (rowW x11 T6 [.int .i64 (bt l 0), .int .i64 (bt l 1), .int .i64 (bt l 3), .int .i64 (bt l 4 * 16777216 + bt l 5 * 65536 + bt l 6 * 256 + bt l 7), .int .i64 (bt l 8 * 256 + bt l 9), .int .i64 (bt l 10 * 256 + bt l 11), .slice f5 g5 j5, .slice f6 g6 j6, .slice f7 g7 j7, .slice f8 g8 j8, .slice f9 g9 j9, .slice f10 g10 j10, .slice f11 g11 j11, .slice none 0 0] 50).cell? ⟨w.heap.size + 1, 16, none⟩ = some vo := GC.out.cell (cell_of_heap (cs := [_, _, _, _, _, _, _, _, _, _, _, _, _, _, _, _, _]) HD2.out 16 _ rfl)
  rw [rowW_cell_other neT] at k16
  have hlo := fun ty => (HOW.out.len (P := Try.prog) 117 Try.underlying117 ty)
  clear ho9 ho10 ho11 hgA11 z13' z14' z15' hg5 hg6 hg7 hg8 hg9 hg10 hg11 gx5 gx6 gx7 gx8 gx9 gx10 gx11 dx0 dx5 dx6 dx7 dx8 dx9 dx10
  have hdT : Has x11 T6 := dx11
  go_wp2_with fail
  go_loopw [95] (CopyRel0 x11 T6 50 rs (fun o => [.int .i64 (bt l 0), .int .i64 (bt l 1), .int .i64 (bt l 3), .int .i64 (bt l 4 * 16777216 + bt l 5 * 65536 + bt l 6 * 256 + bt l 7), .int .i64 (bt l 8 * 256 + bt l 9), .int .i64 (bt l 10 * 256 + bt l 11), .slice f5 g5 j5, .slice f6 g6 j6, .slice f7 g7 j7, .slice f8 g8 j8, .slice f9 g9 j9, .slice f10 g10 j10, .slice f11 g11 j11, o])) (fun i _ => rs.length - (intOf i).toNat)
  case atStart => exact ⟨0, [], x11, none, 0, 0, Nat.zero_le _, rfl, rfl, hdT, Gr.refl _, OwnO.nil, by simp, fun p hp => by cases hp⟩
  case round =>
    obtain ⟨k, rs', x, av, nv, cv, hk, rfl, rfl, hX, hG, hOw, hrs', hfar'⟩ := hrel
    have HOw := Lib.hid hOw
    have HRS' := Lib.hid hrs'
    have HFAR := Lib.hid hfar'
    have HG := Lib.hid hG
    have neR : T6 ≠ w.heap.size + 1 := by omega
    have GX := Lib.hid (GC.out.trans (gr_rows (cs := [.int .i64 (bt l 0), .int .i64 (bt l 1), .int .i64 (bt l 3), .int .i64 (bt l 4 * 16777216 + bt l 5 * 65536 + bt l 6 * 256 + bt l 7), .int .i64 (bt l 8 * 256 + bt l 9), .int .i64 (bt l 10 * 256 + bt l 11), .slice f5 g5 j5, .slice f6 g6 j6, .slice f7 g7 j7, .slice f8 g8 j8, .slice f9 g9 j9, .slice f10 g10 j10, .slice f11 g11 j11, .slice none 0 0]) (e := 50) hdT hG))
    have hrl : rs.length ≤ 30 := by have e := congrArg List.length HRS.out; rw [List.length_map, List.length_map] at e; omega
    clear hOw hrs' hfar' hG
    by_cases hlt : k < rs.length
    · obtain ⟨p, hp⟩ : ∃ p, rs[k]? = some p := ⟨_, List.getElem?_eq_getElem hlt⟩
      obtain ⟨g, o, ix, c0, c1, c2, hI, hgl, -⟩ := HOW.out.idx (P := Try.prog) 117 Try.underlying117 size_dh .i64 k p hp
      have hrg : 0 ≤ p.1.kind ∧ p.1.kind ≤ 255 ∧ p.1.data.length ≤ 255 := by
        have hm : p.1 ∈ os.map normO := by rw [← HRS.out]; exact List.mem_map_of_mem (List.mem_of_getElem? hp)
        obtain ⟨y, hy, hye⟩ := List.mem_map.1 hm
        obtain ⟨⟨h1, h2⟩, h3, -⟩ := HOK.out y hy
        rw [← hye]
        exact ⟨h1, (by show y.kind ≤ 255; omega), h3⟩
      obtain ⟨⟨kd, ln, d⟩, sv⟩ := p
      simp only at c0 c1 c2 hI hrg
      obtain ⟨ad, md, rfl, -⟩ := id hI
      obtain ⟨nd, hnd⟩ : ∃ nd, nd = d.length := ⟨_, rfl⟩
      rw [← hnd] at c2 hI
      have neG : g ≠ T6 := by omega
      have c0 := (rowW_cell_other neG).symm.trans (GX.out.cell c0)
      have c1 := (rowW_cell_other neG).symm.trans (GX.out.cell c1)
      have c2 := (rowW_cell_other neG).symm.trans (GX.out.cell c2)
      have HID := Lib.hid (show IsB (rowW x T6 [.int .i64 (bt l 0), .int .i64 (bt l 1), .int .i64 (bt l 3), .int .i64 (bt l 4 * 16777216 + bt l 5 * 65536 + bt l 6 * 256 + bt l 7), .int .i64 (bt l 8 * 256 + bt l 9), .int .i64 (bt l 10 * 256 + bt l 11), .slice f5 g5 j5, .slice f6 g6 j6, .slice f7 g7 j7, .slice f8 g8 j8, .slice f9 g9 j9, .slice f10 g10 j10, .slice f11 g11 j11, .slice av nv cv] 50) (.slice ad nd md) d from IsB.keptE (hI.gr GX.out) (rowW_rowW (n := 0)) (hI.aside hT6))
      have HP := Lib.hid hp
      have HLT := Lib.hid hlt
      have wk : IntKind.i64.wrap kd = kd := w64 (by omega) (by omega)
      have hdl : d.length ≤ 255 := hrg.2.2
      have HRSL := Lib.hid (show rs'.length ≤ 1000000000 by have e := congrArg List.length HRS'.out; rw [List.length_map, List.length_map, List.length_map, List.length_take] at e; omega)
      clear hp hI hlt hnd hrg
      go_wp2_with fail
      obtain ⟨Y, hY⟩ : ∃ Y, Y = ((rowW x T6 [.int .i64 (bt l 0), .int .i64 (bt l 1), .int .i64 (bt l 3), .int .i64 (bt l 4 * 16777216 + bt l 5 * 65536 + bt l 6 * 256 + bt l 7), .int .i64 (bt l 8 * 256 + bt l 9), .int .i64 (bt l 10 * 256 + bt l 11), .slice f5 g5 j5, .slice f6 g6 j6, .slice f7 g7 j7, .slice f8 g8 j8, .slice f9 g9 j9, .slice f10 g10 j10, .slice f11 g11 j11, .slice av nv cv] 50).alloc (.cells #[.int .u8 kd, .int .u8 ln, .slice ad nd md] 122)) := ⟨_, rfl⟩
      rw [← hY]
      obtain ⟨T8, hT8⟩ : ∃ T8, T8 = x.heap.size := ⟨_, rfl⟩
      try rw [← hT8]
      have gY : Gr (rowW x T6 [.int .i64 (bt l 0), .int .i64 (bt l 1), .int .i64 (bt l 3), .int .i64 (bt l 4 * 16777216 + bt l 5 * 65536 + bt l 6 * 256 + bt l 7), .int .i64 (bt l 8 * 256 + bt l 9), .int .i64 (bt l 10 * 256 + bt l 11), .slice f5 g5 j5, .slice f6 g6 j6, .slice f7 g7 j7, .slice f8 g8 j8, .slice f9 g9 j9, .slice f10 g10 j10, .slice f11 g11 j11, .slice av nv cv] 50) Y := by rw [hY]; exact (Gr.refl _).alloc _
      have bY := box3 (w := rowW x T6 [.int .i64 (bt l 0), .int .i64 (bt l 1), .int .i64 (bt l 3), .int .i64 (bt l 4 * 16777216 + bt l 5 * 65536 + bt l 6 * 256 + bt l 7), .int .i64 (bt l 8 * 256 + bt l 9), .int .i64 (bt l 10 * 256 + bt l 11), .slice f5 g5 j5, .slice f6 g6 j6, .slice f7 g7 j7, .slice f8 g8 j8, .slice f9 g9 j9, .slice f10 g10 j10, .slice f11 g11 j11, .slice av nv cv] 50) (b := T8) (by rw [hT8, rowW_size]) (.int .u8 kd) (.int .u8 ln) (.slice ad nd md) 122
      rw [← hY] at bY
      obtain ⟨bY0, bY1, bY2⟩ := bY
      have cY := gY.cell (rowW_cell hX 13)
      have HOY := Lib.hid (HOw.out.gr gY)
      have GWY := Lib.hid ((gr_rows (cs := [.int .i64 (bt l 0), .int .i64 (bt l 1), .int .i64 (bt l 3), .int .i64 (bt l 4 * 16777216 + bt l 5 * 65536 + bt l 6 * 256 + bt l 7), .int .i64 (bt l 8 * 256 + bt l 9), .int .i64 (bt l 10 * 256 + bt l 11), .slice f5 g5 j5, .slice f6 g6 j6, .slice f7 g7 j7, .slice f8 g8 j8, .slice f9 g9 j9, .slice f10 g10 j10, .slice f11 g11 j11, .slice av nv cv]) (e := 50) hdT HG.out).trans gY)
      have neV := Lib.hid (show ∀ k, (Value.slice av nv cv).ownBlock = some k → k ≠ T8 from fun k hk => by
        have h1 := (HOw.out.fresh k hk).2
        rw [rowW_size] at h1
        omega)
      have HIDY := Lib.hid ((HID.out.gr gY))
      have szY := gY.size
      have szW := HG.out.size
      rw [rowW_size] at szY
      have HB0 := Lib.hid (And.intro bY0 (And.intro bY1 bY2))
      have CY := Lib.hid cY
      have hTb : T6 < x11.heap.size := hdT
      have neTT : T8 ≠ T6 := by omega
      clear hY hT8 gY cY
      refine wp_region_held_drew (S := (fun w' => w'.cell? ⟨T8, 0, none⟩ = some (.int .u8 kd) ∧ w'.cell? ⟨T8, 1, none⟩ = some (.int .u8 ln) ∧ w'.cell? ⟨T8, 2, none⟩ = some (.slice ad nd md))) (by kernel_rfl) ⟨bY0, bY1, bY2⟩ (fun hHeld => ?_)
      refine wpAnyH_take (i := 0) (v := .pointer (some ⟨T6, 13, none⟩)) rfl (by kernel_rfl) (by kernel_rfl) (by kernel_rfl) (fun _ _ _ h => h) (Or.inl ⟨by rfl, fun w' hS => ?_⟩) (by assumption) ?_
      · obtain ⟨c0, c1, c2⟩ := hS
        clear hHeld
        go_simp
      try simp only [Act.put, List.getElem_toArray, List.getElem_cons_succ, List.getElem_cons_zero, List.setIfInBounds_toArray, List.set_cons_zero, List.set_cons_succ]
      refine wpAnyH_take (i := 2) (v := .pointer (some ⟨T8, 0, none⟩)) rfl (by kernel_rfl) (by kernel_rfl) (by kernel_rfl) (fun _ _ _ h => h) (Or.inl ⟨by rfl, fun w' hS => ?_⟩) (by assumption) ?_
      · obtain ⟨c0, c1, c2⟩ := hS
        clear hHeld
        go_simp
      try simp only [Act.put, List.getElem_toArray, List.getElem_cons_succ, List.getElem_cons_zero, List.setIfInBounds_toArray, List.set_cons_zero, List.set_cons_succ]
      refine wpAnyH_take (i := 3) (v := .int .u8 kd) rfl (by kernel_rfl) (by kernel_rfl) (by kernel_rfl) (fun _ _ _ h => h) (Or.inl ⟨by rfl, fun w' hS => ?_⟩) (by assumption) ?_
      · obtain ⟨c0, c1, c2⟩ := hS
        clear hHeld
        go_simp
      try simp only [Act.put, List.getElem_toArray, List.getElem_cons_succ, List.getElem_cons_zero, List.setIfInBounds_toArray, List.set_cons_zero, List.set_cons_succ]
      refine wpAnyH_take (i := 4) (v := .int .i64 kd) rfl (by kernel_rfl) (by kernel_rfl) (by kernel_rfl) (fun _ _ _ h => h) (Or.inl ⟨by rfl, fun w' hS => ?_⟩) (by assumption) ?_
      · obtain ⟨c0, c1, c2⟩ := hS
        clear hHeld
        go_simp
      try simp only [Act.put, List.getElem_toArray, List.getElem_cons_succ, List.getElem_cons_zero, List.setIfInBounds_toArray, List.set_cons_zero, List.set_cons_succ]
      refine wpAnyH_take (i := 5) (v := .pointer (some ⟨T8, 2, none⟩)) rfl (by kernel_rfl) (by kernel_rfl) (by kernel_rfl) (fun _ _ _ h => h) (Or.inl ⟨by rfl, fun w' hS => ?_⟩) (by assumption) ?_
      · obtain ⟨c0, c1, c2⟩ := hS
        clear hHeld
        go_simp
      try simp only [Act.put, List.getElem_toArray, List.getElem_cons_succ, List.getElem_cons_zero, List.setIfInBounds_toArray, List.set_cons_zero, List.set_cons_succ]
      refine wpAnyH_take (i := 6) (v := .slice ad nd md) rfl (by kernel_rfl) (by kernel_rfl) (by kernel_rfl) (fun _ _ _ h => h) (Or.inl ⟨by rfl, fun w' hS => ?_⟩) (by assumption) ?_
      · obtain ⟨c0, c1, c2⟩ := hS
        clear hHeld
        go_simp
      try simp only [Act.put, List.getElem_toArray, List.getElem_cons_succ, List.getElem_cons_zero, List.setIfInBounds_toArray, List.set_cons_zero, List.set_cons_succ]
      refine wpAnyH_ready (rs := [1, 7]) (by kernel_rfl) (by simp) ((AllReadyH.cons rfl (fun K hK => ?_) (AllReadyH.cons rfl (fun K hK => ?_) AllReadyH.nil)))
      · refine step_loadc (by rfl) 22 (.tmp 99) (by rfl) T6 13 (by first | rfl | simp) (.slice av nv cv) 98 Try.underlying22 (CY.out) ?_
        refine hK.out _ _ ⟨HB0.out.1, HB0.out.2.1, HB0.out.2.2⟩ (fun hHeld => ?_)
        clear hK K
        try simp only [Act.put, List.getElem_toArray, List.getElem_cons_succ, List.getElem_cons_zero, List.setIfInBounds_toArray, List.set_cons_zero, List.set_cons_succ]
        refine wpAnyH_ready (rs := [7]) (by kernel_rfl) (by simp) ((AllReadyH.cons rfl (fun K hK => ?_) AllReadyH.nil))
        go_simp
        go_at_call_of 48 (Value.slice ad nd md)
        refine (copied_calls _ d _ (HIDY.out.drew) (by omega)).mono ?_
        rintro e x9 ⟨f9, g9, j9, rfl, ho9, hg9⟩
        refine hK.out _ _ ⟨Gr.cell hg9 HB0.out.1, Gr.cell hg9 HB0.out.2.1, Gr.cell hg9 HB0.out.2.2⟩ (fun hHeld => ?_)
        clear hK K
        try simp only [Act.put, List.getElem_toArray, List.getElem_cons_succ, List.getElem_cons_zero, List.setIfInBounds_toArray, List.set_cons_zero, List.set_cons_succ]
        refine wpAnyH_take (i := 8) (v := .agg #[.int .i64 kd, .int .i64 0, .slice f9 g9 j9]) rfl (by kernel_rfl) (by kernel_rfl) (by kernel_rfl) (fun _ _ _ h => h) (Or.inl ⟨by rfl, fun w' hS => ?_⟩) (by assumption) ?_
        · obtain ⟨c0, c1, c2⟩ := hS
          clear hHeld
          go_simp
        try simp only [Act.put, List.getElem_toArray, List.getElem_cons_succ, List.getElem_cons_zero, List.setIfInBounds_toArray, List.set_cons_zero, List.set_cons_succ]
        refine wpAnyH_ready (rs := [9]) (by kernel_rfl) (by simp) ((AllReadyH.cons rfl (fun K hK => ?_) AllReadyH.nil))
        go_simp
        refine hK.out _ _ ⟨Gr.cell ((Gr.refl _).alloc _) (Gr.cell hg9 HB0.out.1), Gr.cell ((Gr.refl _).alloc _) (Gr.cell hg9 HB0.out.2.1), Gr.cell ((Gr.refl _).alloc _) (Gr.cell hg9 HB0.out.2.2)⟩ (fun hHeld => ?_)
        clear hK K
        try simp only [Act.put, List.getElem_toArray, List.getElem_cons_succ, List.getElem_cons_zero, List.setIfInBounds_toArray, List.set_cons_zero, List.set_cons_succ]
        refine wpAnyH_ready (rs := [10]) (by kernel_rfl) (by simp) ((AllReadyH.cons rfl (fun K hK => ?_) AllReadyH.nil))
        have hb9 : Y.heap.size ≤ x9.heap.size := hg9.size
        refine step_appR rfl (.tmp 100) (.tmp 108) 22 98 rfl Try.underlying22 _ 40 info_oI rfl (by omega) x11.heap.size T6 (.slice av nv cv) rs' (by first | rfl | simp [Act.eval]) ((HOY.out.gr ((Gr.refl Y).drew.trans hg9)).gr ((Gr.refl _).alloc _)) x9.heap.size 1 ⟨kd, 0, d⟩ (.slice f9 g9 j9) (by first | rfl | simp [Act.eval]) (box3 rfl _ _ _ _).1 (box3 rfl _ _ _ _).2.1 (box3 rfl _ _ _ _).2.2 (ho9.isB.gr ((Gr.refl _).alloc _)) (ho9.aside (show T6 < Y.heap.size by omega)) (fun k hk => ho9.aside (show k < Y.heap.size from (HOY.out.fresh k hk).2)) HRSL.out (by rw [World.size_alloc]; omega) ?_
        intro v4 w4 ho4 hg4 hat4
        obtain ⟨g4, n4, c4, rfl, hg41⟩ := ho4.slice_pos (by simp)
        have G4 := grownBy_step ((GWY.out.drew.trans hg9).alloc _) hg4 (fun k hk => .inl (by rw [rowW_size]; exact (HOY.out.fresh k hk).1))
        have k4b := World.grownBy.cell hg4 (a := ⟨T8, 0, none⟩) (Gr.cell ((Gr.refl _).alloc _) (Gr.cell hg9 HB0.out.1)) (fun e => neV.out _ e.symm rfl)
        have k4c := World.grownBy.cell hg4 (a := ⟨T8, 1, none⟩) (Gr.cell ((Gr.refl _).alloc _) (Gr.cell hg9 HB0.out.2.1)) (fun e => neV.out _ e.symm rfl)
        have k4d := World.grownBy.cell hg4 (a := ⟨T8, 2, none⟩) (Gr.cell ((Gr.refl _).alloc _) (Gr.cell hg9 HB0.out.2.2)) (fun e => neV.out _ e.symm rfl)
        obtain ⟨x4, gx4, dx4, rfl⟩ := Gr.unrow hdT G4
        have hfar4 := Lib.hid (fun k (hk : k < x11.heap.size) => ho9.aside (show k < Y.heap.size by omega))
        refine hK.out _ _ ⟨k4b, k4c, k4d⟩ (fun hHeld => ?_)
        clear hK K
        try simp only [Act.put, List.getElem_toArray, List.getElem_cons_succ, List.getElem_cons_zero, List.setIfInBounds_toArray, List.set_cons_zero, List.set_cons_succ]
        refine wpAnyH_take (i := 11) (v := .pointer (some ⟨T6, 13, none⟩)) rfl (by kernel_rfl) (by kernel_rfl) (by kernel_rfl) (fun _ _ _ h => h) (Or.inl ⟨by rfl, fun w' hS => ?_⟩) (by assumption) ?_
        · obtain ⟨c0, c1, c2⟩ := hS
          clear hHeld
          go_simp
        try simp only [Act.put, List.getElem_toArray, List.getElem_cons_succ, List.getElem_cons_zero, List.setIfInBounds_toArray, List.set_cons_zero, List.set_cons_succ]
        refine wpAnyH_ready (rs := [12]) (by kernel_rfl) (by simp) ((AllReadyH.cons rfl (fun K hK => ?_) AllReadyH.nil))
        go_simp
        refine hK.out _ _ ⟨rowW_swap neTT k4b, rowW_swap neTT k4c, rowW_swap neTT k4d⟩ (fun hHeld => ?_)
        clear hK K
        try simp only [Act.put, List.getElem_toArray, List.getElem_cons_succ, List.getElem_cons_zero, List.setIfInBounds_toArray, List.set_cons_zero, List.set_cons_succ]
        refine wpAnyH_done (by kernel_rfl) ?_ _
        go_wp2_with fail
        go_roundw
        case rel => exact ⟨k + 1, rs' ++ [(⟨kd, 0, d⟩, _)], x4, some ⟨g4, 0, none⟩, n4, c4, HLT.out, by go_num, rfl, dx4, gx4, ho4.reRow hdT, by rw [List.map_append, HRS'.out, opt_step HP.out, List.map_append, List.map_append]; rfl, fun p hp k hk => (List.mem_append.1 hp).elim (fun h => HFAR.out p h k hk) (fun h => by simp at h; subst h; exact hfar4.out k hk)⟩
        case measure => simp [intOf]; omega
      · go_simp
        go_at_call_of 48 (Value.slice ad nd md)
        refine (copied_calls _ d _ (HIDY.out.drew) (by omega)).mono ?_
        rintro e x9 ⟨f9, g9, j9, rfl, ho9, hg9⟩
        refine hK.out _ _ ⟨Gr.cell hg9 HB0.out.1, Gr.cell hg9 HB0.out.2.1, Gr.cell hg9 HB0.out.2.2⟩ (fun hHeld => ?_)
        clear hK K
        try simp only [Act.put, List.getElem_toArray, List.getElem_cons_succ, List.getElem_cons_zero, List.setIfInBounds_toArray, List.set_cons_zero, List.set_cons_succ]
        refine wpAnyH_take (i := 8) (v := .agg #[.int .i64 kd, .int .i64 0, .slice f9 g9 j9]) rfl (by kernel_rfl) (by kernel_rfl) (by kernel_rfl) (fun _ _ _ h => h) (Or.inl ⟨by rfl, fun w' hS => ?_⟩) (by assumption) ?_
        · obtain ⟨c0, c1, c2⟩ := hS
          clear hHeld
          go_simp
        try simp only [Act.put, List.getElem_toArray, List.getElem_cons_succ, List.getElem_cons_zero, List.setIfInBounds_toArray, List.set_cons_zero, List.set_cons_succ]
        refine wpAnyH_ready (rs := [1, 9]) (by kernel_rfl) (by simp) ((AllReadyH.cons rfl (fun K hK => ?_) (AllReadyH.cons rfl (fun K hK => ?_) AllReadyH.nil)))
        · refine step_loadc (by rfl) 22 (.tmp 99) (by rfl) T6 13 (by first | rfl | simp) (.slice av nv cv) 98 Try.underlying22 (Gr.cell hg9 CY.out) ?_
          refine hK.out _ _ ⟨Gr.cell hg9 HB0.out.1, Gr.cell hg9 HB0.out.2.1, Gr.cell hg9 HB0.out.2.2⟩ (fun hHeld => ?_)
          clear hK K
          try simp only [Act.put, List.getElem_toArray, List.getElem_cons_succ, List.getElem_cons_zero, List.setIfInBounds_toArray, List.set_cons_zero, List.set_cons_succ]
          refine wpAnyH_ready (rs := [9]) (by kernel_rfl) (by simp) ((AllReadyH.cons rfl (fun K hK => ?_) AllReadyH.nil))
          go_simp
          refine hK.out _ _ ⟨Gr.cell ((Gr.refl _).alloc _) (Gr.cell hg9 HB0.out.1), Gr.cell ((Gr.refl _).alloc _) (Gr.cell hg9 HB0.out.2.1), Gr.cell ((Gr.refl _).alloc _) (Gr.cell hg9 HB0.out.2.2)⟩ (fun hHeld => ?_)
          clear hK K
          try simp only [Act.put, List.getElem_toArray, List.getElem_cons_succ, List.getElem_cons_zero, List.setIfInBounds_toArray, List.set_cons_zero, List.set_cons_succ]
          refine wpAnyH_ready (rs := [10]) (by kernel_rfl) (by simp) ((AllReadyH.cons rfl (fun K hK => ?_) AllReadyH.nil))
          have hb9 : Y.heap.size ≤ x9.heap.size := hg9.size
          refine step_appR rfl (.tmp 100) (.tmp 108) 22 98 rfl Try.underlying22 _ 40 info_oI rfl (by omega) x11.heap.size T6 (.slice av nv cv) rs' (by first | rfl | simp [Act.eval]) ((HOY.out.gr ((Gr.refl Y).drew.trans hg9)).gr ((Gr.refl _).alloc _)) x9.heap.size 1 ⟨kd, 0, d⟩ (.slice f9 g9 j9) (by first | rfl | simp [Act.eval]) (box3 rfl _ _ _ _).1 (box3 rfl _ _ _ _).2.1 (box3 rfl _ _ _ _).2.2 (ho9.isB.gr ((Gr.refl _).alloc _)) (ho9.aside (show T6 < Y.heap.size by omega)) (fun k hk => ho9.aside (show k < Y.heap.size from (HOY.out.fresh k hk).2)) HRSL.out (by rw [World.size_alloc]; omega) ?_
          intro v4 w4 ho4 hg4 hat4
          obtain ⟨g4, n4, c4, rfl, hg41⟩ := ho4.slice_pos (by simp)
          have G4 := grownBy_step ((GWY.out.drew.trans hg9).alloc _) hg4 (fun k hk => .inl (by rw [rowW_size]; exact (HOY.out.fresh k hk).1))
          have k4b := World.grownBy.cell hg4 (a := ⟨T8, 0, none⟩) (Gr.cell ((Gr.refl _).alloc _) (Gr.cell hg9 HB0.out.1)) (fun e => neV.out _ e.symm rfl)
          have k4c := World.grownBy.cell hg4 (a := ⟨T8, 1, none⟩) (Gr.cell ((Gr.refl _).alloc _) (Gr.cell hg9 HB0.out.2.1)) (fun e => neV.out _ e.symm rfl)
          have k4d := World.grownBy.cell hg4 (a := ⟨T8, 2, none⟩) (Gr.cell ((Gr.refl _).alloc _) (Gr.cell hg9 HB0.out.2.2)) (fun e => neV.out _ e.symm rfl)
          obtain ⟨x4, gx4, dx4, rfl⟩ := Gr.unrow hdT G4
          have hfar4 := Lib.hid (fun k (hk : k < x11.heap.size) => ho9.aside (show k < Y.heap.size by omega))
          refine hK.out _ _ ⟨k4b, k4c, k4d⟩ (fun hHeld => ?_)
          clear hK K
          try simp only [Act.put, List.getElem_toArray, List.getElem_cons_succ, List.getElem_cons_zero, List.setIfInBounds_toArray, List.set_cons_zero, List.set_cons_succ]
          refine wpAnyH_take (i := 11) (v := .pointer (some ⟨T6, 13, none⟩)) rfl (by kernel_rfl) (by kernel_rfl) (by kernel_rfl) (fun _ _ _ h => h) (Or.inl ⟨by rfl, fun w' hS => ?_⟩) (by assumption) ?_
          · obtain ⟨c0, c1, c2⟩ := hS
            clear hHeld
            go_simp
          try simp only [Act.put, List.getElem_toArray, List.getElem_cons_succ, List.getElem_cons_zero, List.setIfInBounds_toArray, List.set_cons_zero, List.set_cons_succ]
          refine wpAnyH_ready (rs := [12]) (by kernel_rfl) (by simp) ((AllReadyH.cons rfl (fun K hK => ?_) AllReadyH.nil))
          go_simp
          refine hK.out _ _ ⟨rowW_swap neTT k4b, rowW_swap neTT k4c, rowW_swap neTT k4d⟩ (fun hHeld => ?_)
          clear hK K
          try simp only [Act.put, List.getElem_toArray, List.getElem_cons_succ, List.getElem_cons_zero, List.setIfInBounds_toArray, List.set_cons_zero, List.set_cons_succ]
          refine wpAnyH_done (by kernel_rfl) ?_ _
          go_wp2_with fail
          go_roundw
          case rel => exact ⟨k + 1, rs' ++ [(⟨kd, 0, d⟩, _)], x4, some ⟨g4, 0, none⟩, n4, c4, HLT.out, by go_num, rfl, dx4, gx4, ho4.reRow hdT, by rw [List.map_append, HRS'.out, opt_step HP.out, List.map_append, List.map_append]; rfl, fun p hp k hk => (List.mem_append.1 hp).elim (fun h => HFAR.out p h k hk) (fun h => by simp at h; subst h; exact hfar4.out k hk)⟩
          case measure => simp [intOf]; omega
        · go_simp
          refine hK.out _ _ ⟨Gr.cell ((Gr.refl _).alloc _) (Gr.cell hg9 HB0.out.1), Gr.cell ((Gr.refl _).alloc _) (Gr.cell hg9 HB0.out.2.1), Gr.cell ((Gr.refl _).alloc _) (Gr.cell hg9 HB0.out.2.2)⟩ (fun hHeld => ?_)
          clear hK K
          try simp only [Act.put, List.getElem_toArray, List.getElem_cons_succ, List.getElem_cons_zero, List.setIfInBounds_toArray, List.set_cons_zero, List.set_cons_succ]
          refine wpAnyH_ready (rs := [1]) (by kernel_rfl) (by simp) ((AllReadyH.cons rfl (fun K hK => ?_) AllReadyH.nil))
          refine step_loadc (by rfl) 22 (.tmp 99) (by rfl) T6 13 (by first | rfl | simp) (.slice av nv cv) 98 Try.underlying22 (Gr.cell ((Gr.refl _).alloc _) (Gr.cell hg9 CY.out)) ?_
          refine hK.out _ _ ⟨Gr.cell ((Gr.refl _).alloc _) (Gr.cell hg9 HB0.out.1), Gr.cell ((Gr.refl _).alloc _) (Gr.cell hg9 HB0.out.2.1), Gr.cell ((Gr.refl _).alloc _) (Gr.cell hg9 HB0.out.2.2)⟩ (fun hHeld => ?_)
          clear hK K
          try simp only [Act.put, List.getElem_toArray, List.getElem_cons_succ, List.getElem_cons_zero, List.setIfInBounds_toArray, List.set_cons_zero, List.set_cons_succ]
          refine wpAnyH_ready (rs := [10]) (by kernel_rfl) (by simp) ((AllReadyH.cons rfl (fun K hK => ?_) AllReadyH.nil))
          have hb9 : Y.heap.size ≤ x9.heap.size := hg9.size
          refine step_appR rfl (.tmp 100) (.tmp 108) 22 98 rfl Try.underlying22 _ 40 info_oI rfl (by omega) x11.heap.size T6 (.slice av nv cv) rs' (by first | rfl | simp [Act.eval]) ((HOY.out.gr ((Gr.refl Y).drew.trans hg9)).gr ((Gr.refl _).alloc _)) x9.heap.size 1 ⟨kd, 0, d⟩ (.slice f9 g9 j9) (by first | rfl | simp [Act.eval]) (box3 rfl _ _ _ _).1 (box3 rfl _ _ _ _).2.1 (box3 rfl _ _ _ _).2.2 (ho9.isB.gr ((Gr.refl _).alloc _)) (ho9.aside (show T6 < Y.heap.size by omega)) (fun k hk => ho9.aside (show k < Y.heap.size from (HOY.out.fresh k hk).2)) HRSL.out (by rw [World.size_alloc]; omega) ?_
          intro v4 w4 ho4 hg4 hat4
          obtain ⟨g4, n4, c4, rfl, hg41⟩ := ho4.slice_pos (by simp)
          have G4 := grownBy_step ((GWY.out.drew.trans hg9).alloc _) hg4 (fun k hk => .inl (by rw [rowW_size]; exact (HOY.out.fresh k hk).1))
          have k4b := World.grownBy.cell hg4 (a := ⟨T8, 0, none⟩) (Gr.cell ((Gr.refl _).alloc _) (Gr.cell hg9 HB0.out.1)) (fun e => neV.out _ e.symm rfl)
          have k4c := World.grownBy.cell hg4 (a := ⟨T8, 1, none⟩) (Gr.cell ((Gr.refl _).alloc _) (Gr.cell hg9 HB0.out.2.1)) (fun e => neV.out _ e.symm rfl)
          have k4d := World.grownBy.cell hg4 (a := ⟨T8, 2, none⟩) (Gr.cell ((Gr.refl _).alloc _) (Gr.cell hg9 HB0.out.2.2)) (fun e => neV.out _ e.symm rfl)
          obtain ⟨x4, gx4, dx4, rfl⟩ := Gr.unrow hdT G4
          have hfar4 := Lib.hid (fun k (hk : k < x11.heap.size) => ho9.aside (show k < Y.heap.size by omega))
          refine hK.out _ _ ⟨k4b, k4c, k4d⟩ (fun hHeld => ?_)
          clear hK K
          try simp only [Act.put, List.getElem_toArray, List.getElem_cons_succ, List.getElem_cons_zero, List.setIfInBounds_toArray, List.set_cons_zero, List.set_cons_succ]
          refine wpAnyH_take (i := 11) (v := .pointer (some ⟨T6, 13, none⟩)) rfl (by kernel_rfl) (by kernel_rfl) (by kernel_rfl) (fun _ _ _ h => h) (Or.inl ⟨by rfl, fun w' hS => ?_⟩) (by assumption) ?_
          · obtain ⟨c0, c1, c2⟩ := hS
            clear hHeld
            go_simp
          try simp only [Act.put, List.getElem_toArray, List.getElem_cons_succ, List.getElem_cons_zero, List.setIfInBounds_toArray, List.set_cons_zero, List.set_cons_succ]
          refine wpAnyH_ready (rs := [12]) (by kernel_rfl) (by simp) ((AllReadyH.cons rfl (fun K hK => ?_) AllReadyH.nil))
          go_simp
          refine hK.out _ _ ⟨rowW_swap neTT k4b, rowW_swap neTT k4c, rowW_swap neTT k4d⟩ (fun hHeld => ?_)
          clear hK K
          try simp only [Act.put, List.getElem_toArray, List.getElem_cons_succ, List.getElem_cons_zero, List.setIfInBounds_toArray, List.set_cons_zero, List.set_cons_succ]
          refine wpAnyH_done (by kernel_rfl) ?_ _
          go_wp2_with fail
          go_roundw
          case rel => exact ⟨k + 1, rs' ++ [(⟨kd, 0, d⟩, _)], x4, some ⟨g4, 0, none⟩, n4, c4, HLT.out, by go_num, rfl, dx4, gx4, ho4.reRow hdT, by rw [List.map_append, HRS'.out, opt_step HP.out, List.map_append, List.map_append]; rfl, fun p hp k hk => (List.mem_append.1 hp).elim (fun h => HFAR.out p h k hk) (fun h => by simp at h; subst h; exact hfar4.out k hk)⟩
          case measure => simp [intOf]; omega
    · obtain rfl : k = rs.length := by omega
      have hneD : w.heap.size + 1 ≠ T6 := fun e => neR e.symm
      have HGF := Lib.hid (show Gr w2 (rowW x T6 [.int .i64 (bt l 0), .int .i64 (bt l 1), .int .i64 (bt l 3), .int .i64 (bt l 4 * 16777216 + bt l 5 * 65536 + bt l 6 * 256 + bt l 7), .int .i64 (bt l 8 * 256 + bt l 9), .int .i64 (bt l 10 * 256 + bt l 11), .slice f5 g5 j5, .slice f6 g6 j6, .slice f7 g7 j7, .slice f8 g8 j8, .slice f9 g9 j9, .slice f10 g10 j10, .slice f11 g11 j11, .slice av nv cv] 50) from GX.out.row hT6)
      have FB5 := Lib.hid (show IsB (rowW x T6 [.int .i64 (bt l 0), .int .i64 (bt l 1), .int .i64 (bt l 3), .int .i64 (bt l 4 * 16777216 + bt l 5 * 65536 + bt l 6 * 256 + bt l 7), .int .i64 (bt l 8 * 256 + bt l 9), .int .i64 (bt l 10 * 256 + bt l 11), .slice f5 g5 j5, .slice f6 g6 j6, .slice f7 g7 j7, .slice f8 g8 j8, .slice f9 g9 j9, .slice f10 g10 j10, .slice f11 g11 j11, .slice av nv cv] 50) (.slice f5 g5 j5) ((l.take 16).drop 12) from (IB5.out.gr (gr_rows hdT HG.out)).keptE (rowW_rowW (n := 0)) (FR5.out _ (Nat.le_refl _)))
      have FB6 := Lib.hid (show IsB (rowW x T6 [.int .i64 (bt l 0), .int .i64 (bt l 1), .int .i64 (bt l 3), .int .i64 (bt l 4 * 16777216 + bt l 5 * 65536 + bt l 6 * 256 + bt l 7), .int .i64 (bt l 8 * 256 + bt l 9), .int .i64 (bt l 10 * 256 + bt l 11), .slice f5 g5 j5, .slice f6 g6 j6, .slice f7 g7 j7, .slice f8 g8 j8, .slice f9 g9 j9, .slice f10 g10 j10, .slice f11 g11 j11, .slice av nv cv] 50) (.slice f6 g6 j6) ((l.take 20).drop 16) from (IB6.out.gr (gr_rows hdT HG.out)).keptE (rowW_rowW (n := 0)) (FR6.out _ (Nat.le_refl _)))
      have FB7 := Lib.hid (show IsB (rowW x T6 [.int .i64 (bt l 0), .int .i64 (bt l 1), .int .i64 (bt l 3), .int .i64 (bt l 4 * 16777216 + bt l 5 * 65536 + bt l 6 * 256 + bt l 7), .int .i64 (bt l 8 * 256 + bt l 9), .int .i64 (bt l 10 * 256 + bt l 11), .slice f5 g5 j5, .slice f6 g6 j6, .slice f7 g7 j7, .slice f8 g8 j8, .slice f9 g9 j9, .slice f10 g10 j10, .slice f11 g11 j11, .slice av nv cv] 50) (.slice f7 g7 j7) ((l.take 24).drop 20) from (IB7.out.gr (gr_rows hdT HG.out)).keptE (rowW_rowW (n := 0)) (FR7.out _ (Nat.le_refl _)))
      have FB8 := Lib.hid (show IsB (rowW x T6 [.int .i64 (bt l 0), .int .i64 (bt l 1), .int .i64 (bt l 3), .int .i64 (bt l 4 * 16777216 + bt l 5 * 65536 + bt l 6 * 256 + bt l 7), .int .i64 (bt l 8 * 256 + bt l 9), .int .i64 (bt l 10 * 256 + bt l 11), .slice f5 g5 j5, .slice f6 g6 j6, .slice f7 g7 j7, .slice f8 g8 j8, .slice f9 g9 j9, .slice f10 g10 j10, .slice f11 g11 j11, .slice av nv cv] 50) (.slice f8 g8 j8) ((l.take 28).drop 24) from (IB8.out.gr (gr_rows hdT HG.out)).keptE (rowW_rowW (n := 0)) (FR8.out _ (Nat.le_refl _)))
      have FB9 := Lib.hid (show IsB (rowW x T6 [.int .i64 (bt l 0), .int .i64 (bt l 1), .int .i64 (bt l 3), .int .i64 (bt l 4 * 16777216 + bt l 5 * 65536 + bt l 6 * 256 + bt l 7), .int .i64 (bt l 8 * 256 + bt l 9), .int .i64 (bt l 10 * 256 + bt l 11), .slice f5 g5 j5, .slice f6 g6 j6, .slice f7 g7 j7, .slice f8 g8 j8, .slice f9 g9 j9, .slice f10 g10 j10, .slice f11 g11 j11, .slice av nv cv] 50) (.slice f9 g9 j9) ((l.take (28 + HL)).drop 28) from (IB9.out.gr (gr_rows hdT HG.out)).keptE (rowW_rowW (n := 0)) (FR9.out _ (Nat.le_refl _)))
      have FB10 := Lib.hid (show IsB (rowW x T6 [.int .i64 (bt l 0), .int .i64 (bt l 1), .int .i64 (bt l 3), .int .i64 (bt l 4 * 16777216 + bt l 5 * 65536 + bt l 6 * 256 + bt l 7), .int .i64 (bt l 8 * 256 + bt l 9), .int .i64 (bt l 10 * 256 + bt l 11), .slice f5 g5 j5, .slice f6 g6 j6, .slice f7 g7 j7, .slice f8 g8 j8, .slice f9 g9 j9, .slice f10 g10 j10, .slice f11 g11 j11, .slice av nv cv] 50) (.slice f10 g10 j10) ((l.take 108).drop 44) from (IB10.out.gr (gr_rows hdT HG.out)).keptE (rowW_rowW (n := 0)) (FR10.out _ (Nat.le_refl _)))
      have FB11 := Lib.hid (show IsB (rowW x T6 [.int .i64 (bt l 0), .int .i64 (bt l 1), .int .i64 (bt l 3), .int .i64 (bt l 4 * 16777216 + bt l 5 * 65536 + bt l 6 * 256 + bt l 7), .int .i64 (bt l 8 * 256 + bt l 9), .int .i64 (bt l 10 * 256 + bt l 11), .slice f5 g5 j5, .slice f6 g6 j6, .slice f7 g7 j7, .slice f8 g8 j8, .slice f9 g9 j9, .slice f10 g10 j10, .slice f11 g11 j11, .slice av nv cv] 50) (.slice f11 g11 j11) ((l.take 236).drop 108) from (IB11.out.gr (gr_rows hdT HG.out)).keptE (rowW_rowW (n := 0)) (FR11.out _ (Nat.le_refl _)))
      obtain ⟨cr, hcr, hrR⟩ := HasRow.gr HGF.out HR2.out
      obtain ⟨r0, r1, r2, r3, r4, r5, r6, r7, r8, r9, r10, r11, r12, r13, rfl⟩ := len14 hcr
      obtain ⟨z, hzR, hzT, hzz⟩ := two_rows (w' := rowW x T6 [.int .i64 (bt l 0), .int .i64 (bt l 1), .int .i64 (bt l 3), .int .i64 (bt l 4 * 16777216 + bt l 5 * 65536 + bt l 6 * 256 + bt l 7), .int .i64 (bt l 8 * 256 + bt l 9), .int .i64 (bt l 10 * 256 + bt l 11), .slice f5 g5 j5, .slice f6 g6 j6, .slice f7 g7 j7, .slice f8 g8 j8, .slice f9 g9 j9, .slice f10 g10 j10, .slice f11 g11 j11, .slice av nv cv] 50) (A := w.heap.size) (B := T6) hrR (rowW_heap hX) (Gr.refl _)
      have gAA : Gr w w2 := ((((Gr.refl w).alloc _).alloc _).trans hgA).step HG2.out (by omega)
      have GAA := Lib.hid (gAA.trans HGF.out)
      have hOF := Lib.hid (((HOw.out.other (D' := w.heap.size) (fun p hp => HFAR.out p hp _ (by have : T6 < x11.heap.size := hdT; omega)))))
      have e7 := HRS'.out
      rw [List.take_length, HRS.out, List.map_map] at e7
      have E7 := Lib.hid (show rs'.map Prod.fst = os.map outO by rw [e7]; rfl)
      have hneR : T6 ≠ w.heap.size := by omega
      have ltX : w.heap.size < x11.heap.size := by have : T6 < x11.heap.size := hdT; omega
      rw [hzz] at GAA hOF FB5 FB6 FB7 FB8 FB9 FB10 FB11 ⊢
      clear gAA hgA hoA e7 hzz hrR hcr hX
      go_wp2_with fail
      refine bodyPost_ret (v := .tuple #[.agg #[.int .i64 (bt l 0), .int .i64 (bt l 1), .int .i64 (bt l 3), .int .i64 (bt l 4 * 16777216 + bt l 5 * 65536 + bt l 6 * 256 + bt l 7), .int .i64 (bt l 8 * 256 + bt l 9), .int .i64 (bt l 10 * 256 + bt l 11), .slice f5 g5 j5, .slice f6 g6 j6, .slice f7 g7 j7, .slice f8 g8 j8, .slice f9 g9 j9, .slice f10 g10 j10, .slice f11 g11 j11, .slice av nv cv], .bool true]) (by simp [results, Try.results32, go_sem, hzR]) rfl ?_
      unfold DhcpData
      refine ⟨_, _, _, _, _, _, _, _, _, _, _, _, _, _, _, _, _, _, _, _, _, _, _, _, rfl, FB5.out.keptE (rowW_rowW (n := 0)) (FR5.out _ (Nat.le_of_lt ltT)), FB6.out.keptE (rowW_rowW (n := 0)) (FR6.out _ (Nat.le_of_lt ltT)), FB7.out.keptE (rowW_rowW (n := 0)) (FR7.out _ (Nat.le_of_lt ltT)), FB8.out.keptE (rowW_rowW (n := 0)) (FR8.out _ (Nat.le_of_lt ltT)), FB9.out.keptE (rowW_rowW (n := 0)) (FR9.out _ (Nat.le_of_lt ltT)), FB10.out.keptE (rowW_rowW (n := 0)) (FR10.out _ (Nat.le_of_lt ltT)), FB11.out.keptE (rowW_rowW (n := 0)) (FR11.out _ (Nat.le_of_lt ltT)), ?_, Gr.row GAA.out (Nat.le_refl _)⟩
      rw [← E7.out]
      refine OwnO.isOpts (base := x11.heap.size) (e := 98) (D := w.heap.size) (hOF.out.turn (rowW_rowW (n := 0)) ltX) (fun p hp => ?_)
      have hm : p.1 ∈ os.map outO := by rw [← E7.out]; exact List.mem_map_of_mem hp
      obtain ⟨y, hy, hye⟩ := List.mem_map.1 hm
      obtain ⟨⟨h1, h2⟩, -, -⟩ := HOK.out y hy
      rw [← hye]
      show (Lit.int .i64 y.kind).wf = true ∧ (Lit.int .i64 0).wf = true
      exact ⟨WalkArith.wf_i64 (by omega), by decide⟩
end Go.Proofs.Ytoopkfnkmaaieaa
