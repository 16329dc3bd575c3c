/-
  A header of the fourth version with options, as data.
-/
import Derived.Test.YtoopkfnkmaaieaaIP4G
import Derived.Test.YtoopkfnkmaaieaaRecs2
import Derived.Deep.DeepCutAuto
namespace Go.Proofs.Ytoopkfnkmaaieaa
open Go.RowKit

theorem info_oI : (Try.prog.info? 98).map (fun i => (i.zero, i.size, i.bytes)) = some (some (.agg #[.int .i64 0, .int .i64 0, .slice none 0 0]), 3, 40) := by kernel_rfl
theorem size_o4 : (Try.prog.info? 110).map (·.size) = some 3 := by kernel_rfl
theorem raw_mem : ∀ (os : List Opt) (x : Opt), x ∈ os → (optB x).length ≤ (optsRaw os).length
  | [], x, h => by cases h
  | y :: r, x, h => by
    have e : optsRaw (y :: r) = optB y ++ optsRaw r := by simp [optsRaw]
    rw [e, List.length_append]
    rcases List.mem_cons.1 h with rfl | h
    · omega
    · have := raw_mem r x h
      omega
theorem opt_rng {os : List Opt} (hok : ∀ x ∈ os, OkOpt x) (hraw : (optsRaw os).length ≤ 40) : ∀ x ∈ os ++ padO os, 0 ≤ x.kind ∧ x.kind ≤ 255 ∧ 0 ≤ x.len ∧ x.len ≤ 255 ∧ x.data.length ≤ 255 := by
  intro x hx
  rcases List.mem_append.1 hx with hx | hx
  · obtain ⟨h1, h2, h3⟩ := hok x hx
    rcases h1 with ⟨k1, k2, k3⟩ | ⟨k1, k2⟩
    · rw [k2, k3]; simp; omega
    · have h := raw_mem os x hx
      simp only [optB, if_neg k1, List.length_append, List.length_cons, List.length_nil] at h
      omega
  · unfold padO at hx
    split at hx
    · cases hx
    · simp at hx; subst hx; simp
/-- another block that the data lies aside from -/
theorem OwnO.other {q1 q2 : IntKind} {w : World} {base : Nat} {e : TypeId} {D D' : Nat} {v : Value} {rs : List (Opt × Value)} (h : OwnO q1 q2 w base e D v rs) (hD : ∀ p ∈ rs, Aside p.2 p.1.data D') : OwnO q1 q2 w base e D' v rs :=
  ⟨h.1, fun p hp => ⟨(h.2 p hp).1, hD p hp, (h.2 p hp).2.2⟩⟩
theorem opt_step {rs : List (Opt × Value)} {k : Nat} {p : Opt × Value} (h : rs[k]? = some p) : rs.take (k + 1) = rs.take k ++ [p] := by
  rw [List.take_add_one, h]; rfl

/-- what holds ahead of a round that copies an option -/
def CopyRel (wb : World) (T : Nat) (TI : TypeId) (rs : List (Opt × Value)) (c : Value → List Value) (i : Value) (wr : World) : Prop :=
  ∃ (k : Nat) (rs' : List (Opt × Value)) (x : World) (a : Option Addr) (n m : Nat), k ≤ rs.length ∧ i = .int .i64 k ∧ wr = rowW x T (c (.slice a n m)) TI ∧ Has x T ∧ Gr wb x ∧ OwnO .i64 .i64 wr wb.heap.size 98 T (.slice a n m) rs' ∧ rs'.map Prod.fst = (rs.take k).map Prod.fst ∧ ∀ p ∈ rs', ∀ k, k < wb.heap.size → Aside p.2 p.1.data k

/-- what a header is as data -/
def Ip4Data (w w' : World) (l L : List Int) (W M : Nat) (os : List Opt) (e : Ending) : Prop := ∃ a5 n5 m5 a6 n6 m6 ao no mo f9 g9 j9, e = .returned (.tuple #[.agg #[.int .i64 (W : Int), .int .i64 (bt l 1), .int .i64 (M : Int), .int .i64 (bt l 4 * 256 + bt l 5), .int .i64 ((bt l 6 * 256 + bt l 7) / 8192), .int .i64 ((bt l 6 * 256 + bt l 7) % 8192), .int .i64 (bt l 8), .int .i64 (bt l 9), .int .i64 (bt l 10 * 256 + bt l 11), .slice a5 n5 m5, .slice a6 n6 m6, .slice ao no mo], .slice f9 g9 j9, .bool true]) ∧
  IsB w' (.slice a5 n5 m5) ((l.take 16).drop 12) ∧ IsB w' (.slice a6 n6 m6) ((l.take 20).drop 16) ∧ IsOpts w' (.slice ao no mo) (os ++ padO os) ∧ IsB w' (.slice f9 g9 j9) (L.drop (4 * W)) ∧ Gr w w'

/-- the header as data, in a block of its own -/
def Ip4Mid (w2 : World) (l : List Int) (W M : Nat) (t6 : Value) (wx : World) : Prop := ∃ T6 f5 g5 j5 f6 g6 j6, t6 = .pointer (some ⟨T6, 0, none⟩) ∧ w2.heap.size ≤ T6 ∧ Gr w2 wx ∧ wx.heap[T6]? = some (.cells #[.int .i64 (W : Int), .int .i64 (bt l 1), .int .i64 (M : Int), .int .i64 (bt l 4 * 256 + bt l 5), .int .i64 ((bt l 6 * 256 + bt l 7) / 8192), .int .i64 ((bt l 6 * 256 + bt l 7) % 8192), .int .i64 (bt l 8), .int .i64 (bt l 9), .int .i64 (bt l 10 * 256 + bt l 11), .slice f5 g5 j5, .slice f6 g6 j6, .slice none 0 0] 39 (0, 0)) ∧
  IsB wx (.slice f5 g5 j5) ((l.take 16).drop 12) ∧ Aside (.slice f5 g5 j5) ((l.take 16).drop 12) T6 ∧ IsB wx (.slice f6 g6 j6) ((l.take 20).drop 16) ∧ Aside (.slice f6 g6 j6) ((l.take 20).drop 16) T6 ∧ (∀ k, k < w2.heap.size → Aside (.slice f5 g5 j5) ((l.take 16).drop 12) k ∧ Aside (.slice f6 g6 j6) ((l.take 20).drop 16) k)

set_option linter.unusedSimpArgs false in
set_option maxRecDepth 100000 in
set_option maxHeartbeats 4000000 in
theorem ip4Read_calls (v : Value) (l : List Int) (W M : Nat) (os : List Opt) (w : World) (h : IsB w v l) (hl : 20 ≤ l.length) (hW : bt l 0 % 16 = (W : Int)) (hW5 : 5 ≤ W) (hL : bt l 2 * 256 + bt l 3 = (M : Int)) (hWM : 4 * W ≤ M) (hM : M ≤ l.length) (hmx : l.length ≤ 1000000)
    (hO : ((l.take M).take (4 * W)).drop 20 = optsB os) (hok : ∀ x ∈ os, OkOpt x) (hbare : ∀ x ∈ os, x.kind ≠ 1 → x.data ≠ []) (hraw : (optsRaw os).length ≤ 40) :
    Calls Try.prog 27 #[v] w fun e w' => Ip4Data w w' l (l.take M) W M os e := by
  have H := Lib.hid h
  have HL := Lib.hid hL
  have HO := Lib.hid hO
  have HOK := Lib.hid hok
  have HBARE := Lib.hid hbare
  clear h hL hO hok hbare
  go_enter Try.func27, Try.ntmps27
  go_wp2_with fail
  refine (copied_calls _ l _ ?_ (by omega)).mono ?_
  · exact H.out.gr (((Gr.refl w).alloc _).alloc _)
  rintro e w1 ⟨a0, n0, m0, rfl, hoA, hgA⟩
  go_wp2_with fail
  refine (nilFeedback_calls _).mono ?_
  rintro e w2 ⟨rfl, rfl⟩
  go_wp2_with fail
  have hR := HasRow.gr hgA (HasRow.gr (World.grownBy_alloc _ (.cells #[.slice none 0 0, .slice none 0 0, .int .u8 0, .int .u8 0, .int .u8 0, .int .u16 0, .int .u16 0, .int .u8 0, .int .u16 0, .int .u8 0, .int .u8 0, .int .u16 0, .slice none 0 0, .slice none 0 0, .slice none 0 0, .slice none 0 0] 108) none) (HasRow.new w [.int .i64 0, .int .i64 0, .int .i64 0, .int .i64 0, .int .i64 0, .int .i64 0, .int .i64 0, .int .i64 0, .int .i64 0, .slice none 0 0, .slice none 0 0, .slice none 0 0] 39 12 rfl))
  have hD := heap_gr hgA (heap_alloc_new (w.alloc (.cells #[.int .i64 0, .int .i64 0, .int .i64 0, .int .i64 0, .int .i64 0, .int .i64 0, .int .i64 0, .int .i64 0, .int .i64 0, .slice none 0 0, .slice none 0 0, .slice none 0 0] 39)) (.cells #[.slice none 0 0, .slice none 0 0, .int .u8 0, .int .u8 0, .int .u8 0, .int .u16 0, .int .u16 0, .int .u8 0, .int .u16 0, .int .u8 0, .int .u8 0, .int .u16 0, .slice none 0 0, .slice none 0 0, .slice none 0 0, .slice none 0 0] 108))
  have hS := hgA.size
  simp only [World.size_alloc] at hD hS
  have HR := Lib.hid hR
  have HD := Lib.hid hD
  clear hR hD
  refine (ip4Decode_calls (w.heap.size + 1) _ _ _ l W M os w1 HD.out hoA.isB hl hW hW5 HL.out hWM hM hmx HO.out HOK.out HBARE.out hraw (hoA.other (by simp))).mono ?_
  rintro e w2 ⟨rfl, hgB, a5, n5, m5, a6, n6, m6, a7, n7, m7, a8, n8, m8, vo, pd, rs, hb5, hb6, hb8, hd2, how, hrs⟩
  have HR2 := Lib.hid (HasRow.grown HR.out hgB (by omega))
  have HG2 := Lib.hid hgB
  have HD2 := Lib.hid hd2
  have HOW := Lib.hid how
  have HRS := Lib.hid hrs
  clear hgB hd2 how hrs
  have k3 := cell_of_heap (cs := [_, _, _, _, _, _, _, _, _, _, _, _, _, _, _, _]) HD2.out 3 _ rfl
  have k4 := cell_of_heap (cs := [_, _, _, _, _, _, _, _, _, _, _, _, _, _, _, _]) HD2.out 4 _ rfl
  have k5 := cell_of_heap (cs := [_, _, _, _, _, _, _, _, _, _, _, _, _, _, _, _]) HD2.out 5 _ rfl
  have k6 := cell_of_heap (cs := [_, _, _, _, _, _, _, _, _, _, _, _, _, _, _, _]) HD2.out 6 _ rfl
  have k7 := cell_of_heap (cs := [_, _, _, _, _, _, _, _, _, _, _, _, _, _, _, _]) HD2.out 7 _ rfl
  have k8 := cell_of_heap (cs := [_, _, _, _, _, _, _, _, _, _, _, _, _, _, _, _]) HD2.out 8 _ rfl
  have k9 := cell_of_heap (cs := [_, _, _, _, _, _, _, _, _, _, _, _, _, _, _, _]) HD2.out 9 _ rfl
  have k10 := cell_of_heap (cs := [_, _, _, _, _, _, _, _, _, _, _, _, _, _, _, _]) HD2.out 10 _ rfl
  have k11 := cell_of_heap (cs := [_, _, _, _, _, _, _, _, _, _, _, _, _, _, _, _]) HD2.out 11 _ rfl
  have k12 := cell_of_heap (cs := [_, _, _, _, _, _, _, _, _, _, _, _, _, _, _, _]) HD2.out 12 _ rfl
  have k13 := cell_of_heap (cs := [_, _, _, _, _, _, _, _, _, _, _, _, _, _, _, _]) HD2.out 13 _ rfl
  have k14 := cell_of_heap (cs := [_, _, _, _, _, _, _, _, _, _, _, _, _, _, _, _]) HD2.out 14 _ rfl
  have k15 := cell_of_heap (cs := [_, _, _, _, _, _, _, _, _, _, _, _, _, _, _, _]) HD2.out 15 _ rfl
  have k1 := cell_of_heap (cs := [_, _, _, _, _, _, _, _, _, _, _, _, _, _, _, _]) HD2.out 1 _ rfl
  have p0 := hoA.bytes.bt0 0
  have q0 := hoA.bytes.bt1 0
  have p1 := hoA.bytes.bt0 1
  have q1 := hoA.bytes.bt1 1
  have p2 := hoA.bytes.bt0 2
  have q2 := hoA.bytes.bt1 2
  have p3 := hoA.bytes.bt0 3
  have q3 := hoA.bytes.bt1 3
  have p4 := hoA.bytes.bt0 4
  have q4 := hoA.bytes.bt1 4
  have p5 := hoA.bytes.bt0 5
  have q5 := hoA.bytes.bt1 5
  have p6 := hoA.bytes.bt0 6
  have q6 := hoA.bytes.bt1 6
  have p7 := hoA.bytes.bt0 7
  have q7 := hoA.bytes.bt1 7
  have p8 := hoA.bytes.bt0 8
  have q8 := hoA.bytes.bt1 8
  have p9 := hoA.bytes.bt0 9
  have q9 := hoA.bytes.bt1 9
  have p10 := hoA.bytes.bt0 10
  have q10 := hoA.bytes.bt1 10
  have p11 := hoA.bytes.bt0 11
  have q11 := hoA.bytes.bt1 11
  have hLL := HL.out
  have hW15 : W ≤ 15 := by omega
  have uw0 : IntKind.i64.wrap ((W : Int)) = (W : Int) := w64 (by omega) (by omega)
  have uw1 : IntKind.i64.wrap (bt l 1) = bt l 1 := w64 (by omega) (by omega)
  have uw2 : IntKind.i64.wrap ((M : Int)) = (M : Int) := w64 (by omega) (by omega)
  have uw3 : IntKind.i64.wrap (bt l 4 * 256 + bt l 5) = bt l 4 * 256 + bt l 5 := w64 (by omega) (by omega)
  have uw4 : IntKind.i64.wrap ((bt l 6 * 256 + bt l 7) / 8192) = (bt l 6 * 256 + bt l 7) / 8192 := w64 (by omega) (by omega)
  have uw5 : IntKind.i64.wrap ((bt l 6 * 256 + bt l 7) % 8192) = (bt l 6 * 256 + bt l 7) % 8192 := w64 (by omega) (by omega)
  have uw6 : IntKind.i64.wrap (bt l 8) = bt l 8 := w64 (by omega) (by omega)
  have uw7 : IntKind.i64.wrap (bt l 9) = bt l 9 := w64 (by omega) (by omega)
  have uw8 : IntKind.i64.wrap (bt l 10 * 256 + bt l 11) = bt l 10 * 256 + bt l 11 := w64 (by omega) (by omega)
  clear hLL
  have ltW : w.heap.size + 1 < w2.heap.size := by have := HG2.out.size; omega
  have neW : w.heap.size + 1 ≠ w2.heap.size := Nat.ne_of_lt ltW
  go_upto_region 4 with fail
  go_cut [6] (fun t6 wx => Ip4Mid w2 l W M t6 wx)
  case first =>
    go_region_held3 (fun w' => w'.cell? ⟨w.heap.size + 1, 3, none⟩ = some (.int .u8 (W : Int)) ∧ w'.cell? ⟨w.heap.size + 1, 4, none⟩ = some (.int .u8 (bt l 1)) ∧ w'.cell? ⟨w.heap.size + 1, 5, none⟩ = some (.int .u16 (M : Int)) ∧ w'.cell? ⟨w.heap.size + 1, 6, none⟩ = some (.int .u16 (bt l 4 * 256 + bt l 5)) ∧ w'.cell? ⟨w.heap.size + 1, 7, none⟩ = some (.int .u8 ((bt l 6 * 256 + bt l 7) / 8192)) ∧ w'.cell? ⟨w.heap.size + 1, 8, none⟩ = some (.int .u16 ((bt l 6 * 256 + bt l 7) % 8192)) ∧ w'.cell? ⟨w.heap.size + 1, 9, none⟩ = some (.int .u8 (bt l 8)) ∧ w'.cell? ⟨w.heap.size + 1, 10, none⟩ = some (.int .u8 (bt l 9)) ∧ w'.cell? ⟨w.heap.size + 1, 11, none⟩ = some (.int .u16 (bt l 10 * 256 + bt l 11)) ∧ w'.cell? ⟨w.heap.size + 1, 12, none⟩ = some (.slice a5 n5 m5) ∧ w'.cell? ⟨w.heap.size + 1, 13, none⟩ = some (.slice a6 n6 m6)) (first | exact ⟨k3, k4, k5, k6, k7, k8, k9, k10, k11, k12, k13⟩ | exact And.imp (Gr.cell (by assumption)) (And.imp (Gr.cell (by assumption)) (And.imp (Gr.cell (by assumption)) (And.imp (Gr.cell (by assumption)) (And.imp (Gr.cell (by assumption)) (And.imp (Gr.cell (by assumption)) (And.imp (Gr.cell (by assumption)) (And.imp (Gr.cell (by assumption)) (And.imp (Gr.cell (by assumption)) (And.imp (Gr.cell (by assumption)) (Gr.cell (by assumption))))))))))) (by assumption) | exact And.imp (Gr.cell ((Gr.refl _).alloc _)) (And.imp (Gr.cell ((Gr.refl _).alloc _)) (And.imp (Gr.cell ((Gr.refl _).alloc _)) (And.imp (Gr.cell ((Gr.refl _).alloc _)) (And.imp (Gr.cell ((Gr.refl _).alloc _)) (And.imp (Gr.cell ((Gr.refl _).alloc _)) (And.imp (Gr.cell ((Gr.refl _).alloc _)) (And.imp (Gr.cell ((Gr.refl _).alloc _)) (And.imp (Gr.cell ((Gr.refl _).alloc _)) (And.imp (Gr.cell ((Gr.refl _).alloc _)) (Gr.cell ((Gr.refl _).alloc _))))))))))) (by assumption) | exact And.imp (rowW_swap neW) (And.imp (rowW_swap neW) (And.imp (rowW_swap neW) (And.imp (rowW_swap neW) (And.imp (rowW_swap neW) (And.imp (rowW_swap neW) (And.imp (rowW_swap neW) (And.imp (rowW_swap neW) (And.imp (rowW_swap neW) (And.imp (rowW_swap neW) (rowW_swap neW)))))))))) (by assumption) | exact And.imp (rowW_swap ne5.out) (And.imp (rowW_swap ne5.out) (And.imp (rowW_swap ne5.out) (And.imp (rowW_swap ne5.out) (And.imp (rowW_swap ne5.out) (And.imp (rowW_swap ne5.out) (And.imp (rowW_swap ne5.out) (And.imp (rowW_swap ne5.out) (And.imp (rowW_swap ne5.out) (And.imp (rowW_swap ne5.out) (rowW_swap ne5.out)))))))))) (by assumption) | exact And.imp (Gr.cell (by (repeat (with_reducible first | exact Gr.refl _ | assumption | refine Gr.alloc ?_ _ | refine Gr.drew ?_ | refine Gr.drewN ?_ _ | refine Gr.trans ?_ (by assumption))); done)) (And.imp (Gr.cell (by (repeat (with_reducible first | exact Gr.refl _ | assumption | refine Gr.alloc ?_ _ | refine Gr.drew ?_ | refine Gr.drewN ?_ _ | refine Gr.trans ?_ (by assumption))); done)) (And.imp (Gr.cell (by (repeat (with_reducible first | exact Gr.refl _ | assumption | refine Gr.alloc ?_ _ | refine Gr.drew ?_ | refine Gr.drewN ?_ _ | refine Gr.trans ?_ (by assumption))); done)) (And.imp (Gr.cell (by (repeat (with_reducible first | exact Gr.refl _ | assumption | refine Gr.alloc ?_ _ | refine Gr.drew ?_ | refine Gr.drewN ?_ _ | refine Gr.trans ?_ (by assumption))); done)) (And.imp (Gr.cell (by (repeat (with_reducible first | exact Gr.refl _ | assumption | refine Gr.alloc ?_ _ | refine Gr.drew ?_ | refine Gr.drewN ?_ _ | refine Gr.trans ?_ (by assumption))); done)) (And.imp (Gr.cell (by (repeat (with_reducible first | exact Gr.refl _ | assumption | refine Gr.alloc ?_ _ | refine Gr.drew ?_ | refine Gr.drewN ?_ _ | refine Gr.trans ?_ (by assumption))); done)) (And.imp (Gr.cell (by (repeat (with_reducible first | exact Gr.refl _ | assumption | refine Gr.alloc ?_ _ | refine Gr.drew ?_ | refine Gr.drewN ?_ _ | refine Gr.trans ?_ (by assumption))); done)) (And.imp (Gr.cell (by (repeat (with_reducible first | exact Gr.refl _ | assumption | refine Gr.alloc ?_ _ | refine Gr.drew ?_ | refine Gr.drewN ?_ _ | refine Gr.trans ?_ (by assumption))); done)) (And.imp (Gr.cell (by (repeat (with_reducible first | exact Gr.refl _ | assumption | refine Gr.alloc ?_ _ | refine Gr.drew ?_ | refine Gr.drewN ?_ _ | refine Gr.trans ?_ (by assumption))); done)) (And.imp (Gr.cell (by (repeat (with_reducible first | exact Gr.refl _ | assumption | refine Gr.alloc ?_ _ | refine Gr.drew ?_ | refine Gr.drewN ?_ _ | refine Gr.trans ?_ (by assumption))); done)) (Gr.cell (by (repeat (with_reducible first | exact Gr.refl _ | assumption | refine Gr.alloc ?_ _ | refine Gr.drew ?_ | refine Gr.drewN ?_ _ | refine Gr.trans ?_ (by assumption))); done))))))))))) ⟨k3, k4, k5, k6, k7, k8, k9, k10, k11, k12, k13⟩ | go_keep) (first
      | (go_at_call_of 48 (Value.slice a5 n5 m5); refine (copied_calls _ ((l.take 16).drop 12) _ ?_ ?_).mono ?_; (exact IsB.gr hb5 (by (repeat (with_reducible first | exact Gr.refl _ | assumption | refine Gr.alloc ?_ _ | refine Gr.drew ?_ | refine Gr.drewN ?_ _ | refine Gr.trans ?_ (by assumption))); done)); (simp only [List.length_take, List.length_drop]; omega); rintro e x5 ⟨f5, g5, j5, rfl, ho5, hg5⟩; have s5 := hg5.size; (first | obtain ⟨y5, hy5, rfl⟩ := one_row (A := w2.heap.size) (heap_gr (w := w2.alloc (.cells #[.int .i64 0, .int .i64 0, .int .i64 0, .int .i64 0, .int .i64 0, .int .i64 0, .int .i64 0, .int .i64 0, .int .i64 0, .slice none 0 0, .slice none 0 0, .slice none 0 0] 39)) (Gr.refl _) (heap_alloc_new w2 _)) hg5 | obtain ⟨y5, hy5, rfl⟩ := one_row (A := w2.heap.size) (heap_gr (w := w2.alloc (.cells #[.int .i64 0, .int .i64 0, .int .i64 0, .int .i64 0, .int .i64 0, .int .i64 0, .int .i64 0, .int .i64 0, .int .i64 0, .slice none 0 0, .slice none 0 0, .slice none 0 0] 39)) (Gr.refl _).drew (heap_alloc_new w2 _)) hg5 | obtain ⟨y5, hy5, rfl⟩ := one_row (A := w2.heap.size) (heap_gr (w := w2.alloc (.cells #[.int .i64 0, .int .i64 0, .int .i64 0, .int .i64 0, .int .i64 0, .int .i64 0, .int .i64 0, .int .i64 0, .int .i64 0, .slice none 0 0, .slice none 0 0, .slice none 0 0] 39)) (Gr.refl _).drew.drew (heap_alloc_new w2 _)) hg5 | obtain ⟨y5, hy5, rfl⟩ := one_row (A := w2.heap.size) (heap_gr (w := w2.drew.alloc (.cells #[.int .i64 0, .int .i64 0, .int .i64 0, .int .i64 0, .int .i64 0, .int .i64 0, .int .i64 0, .int .i64 0, .int .i64 0, .slice none 0 0, .slice none 0 0, .slice none 0 0] 39)) (Gr.refl _) (heap_alloc_new w2.drew _)) hg5 | obtain ⟨y5, hy5, rfl⟩ := one_row (A := w2.heap.size) (heap_gr (w := w2.drew.alloc (.cells #[.int .i64 0, .int .i64 0, .int .i64 0, .int .i64 0, .int .i64 0, .int .i64 0, .int .i64 0, .int .i64 0, .int .i64 0, .slice none 0 0, .slice none 0 0, .slice none 0 0] 39)) (Gr.refl _).drew (heap_alloc_new w2.drew _)) hg5 | obtain ⟨y5, hy5, rfl⟩ := one_row (A := w2.heap.size) (heap_gr (w := w2.drew.alloc (.cells #[.int .i64 0, .int .i64 0, .int .i64 0, .int .i64 0, .int .i64 0, .int .i64 0, .int .i64 0, .int .i64 0, .int .i64 0, .slice none 0 0, .slice none 0 0, .slice none 0 0] 39)) (Gr.refl _).drew.drew (heap_alloc_new w2.drew _)) hg5 | have ne5 := Lib.hid (show w.heap.size + 1 ≠ x5.heap.size from Nat.ne_of_lt (Nat.lt_of_lt_of_le ltW s5))))
      | (go_at_call_of 48 (Value.slice a6 n6 m6); refine (copied_calls _ ((l.take 20).drop 16) _ ?_ ?_).mono ?_; (exact IsB.gr hb6 (by (repeat (with_reducible first | exact Gr.refl _ | assumption | refine Gr.alloc ?_ _ | refine Gr.drew ?_ | refine Gr.drewN ?_ _ | refine Gr.trans ?_ (by assumption))); done)); (simp only [List.length_take, List.length_drop]; omega); rintro e x6 ⟨f6, g6, j6, rfl, ho6, hg6⟩; have s6 := hg6.size; try (first | obtain ⟨y6, hy6, rfl⟩ := one_row (A := w2.heap.size) (rowW_heap hy5) hg6 | obtain ⟨y6, hy6, rfl⟩ := one_row (A := x5.heap.size) (heap_gr (w := x5.alloc (.cells #[.int .i64 0, .int .i64 0, .int .i64 0, .int .i64 0, .int .i64 0, .int .i64 0, .int .i64 0, .int .i64 0, .int .i64 0, .slice none 0 0, .slice none 0 0, .slice none 0 0] 39)) (Gr.refl _) (heap_alloc_new x5 _)) hg6 | obtain ⟨y6, hy6, rfl⟩ := one_row (A := x5.heap.size) (heap_gr (w := x5.alloc (.cells #[.int .i64 0, .int .i64 0, .int .i64 0, .int .i64 0, .int .i64 0, .int .i64 0, .int .i64 0, .int .i64 0, .int .i64 0, .slice none 0 0, .slice none 0 0, .slice none 0 0] 39)) (Gr.refl _).drew (heap_alloc_new x5 _)) hg6 | obtain ⟨y6, hy6, rfl⟩ := one_row (A := x5.heap.size) (heap_gr (w := x5.alloc (.cells #[.int .i64 0, .int .i64 0, .int .i64 0, .int .i64 0, .int .i64 0, .int .i64 0, .int .i64 0, .int .i64 0, .int .i64 0, .slice none 0 0, .slice none 0 0, .slice none 0 0] 39)) (Gr.refl _).drew.drew (heap_alloc_new x5 _)) hg6 | obtain ⟨y6, hy6, rfl⟩ := one_row (A := x5.heap.size) (heap_gr (w := x5.drew.alloc (.cells #[.int .i64 0, .int .i64 0, .int .i64 0, .int .i64 0, .int .i64 0, .int .i64 0, .int .i64 0, .int .i64 0, .int .i64 0, .slice none 0 0, .slice none 0 0, .slice none 0 0] 39)) (Gr.refl _) (heap_alloc_new x5.drew _)) hg6 | obtain ⟨y6, hy6, rfl⟩ := one_row (A := x5.heap.size) (heap_gr (w := x5.drew.alloc (.cells #[.int .i64 0, .int .i64 0, .int .i64 0, .int .i64 0, .int .i64 0, .int .i64 0, .int .i64 0, .int .i64 0, .int .i64 0, .slice none 0 0, .slice none 0 0, .slice none 0 0] 39)) (Gr.refl _).drew (heap_alloc_new x5.drew _)) hg6 | obtain ⟨y6, hy6, rfl⟩ := one_row (A := x5.heap.size) (heap_gr (w := x5.drew.alloc (.cells #[.int .i64 0, .int .i64 0, .int .i64 0, .int .i64 0, .int .i64 0, .int .i64 0, .int .i64 0, .int .i64 0, .int .i64 0, .slice none 0 0, .slice none 0 0, .slice none 0 0] 39)) (Gr.refl _).drew.drew (heap_alloc_new x5.drew _)) hg6)))
    all_goals (go_wp2_with fail; go_meet)
    all_goals (unfold Ip4Mid)
    · exact ⟨x6.heap.size, f5, g5, j5, f6, g6, j6, rfl, Nat.le_trans (show w2.heap.size ≤ x5.heap.size from s5) s6, (((Gr.refl w2).drew.trans hg5).trans hg6).alloc _, heap_alloc_new x6 _, (ho5.isB.gr hg6).gr ((Gr.refl _).alloc _), (ho5.isB.gr hg6).aside (Nat.le_refl _), ho6.isB.gr ((Gr.refl _).alloc _), ho6.isB.aside (Nat.le_refl _), fun k hk => ⟨ho5.aside hk, ho6.aside (Nat.lt_of_lt_of_le hk s5)⟩⟩
    · have a5 := ho5.isB.aside (Nat.le_refl _)
      have a6 := ho6.aside (k := x5.heap.size) (by rw [World.size_alloc]; omega)
      exact ⟨x5.heap.size, f5, g5, j5, f6, g6, j6, rfl, s5, ((((Gr.refl w2).drew.trans hg5).alloc _).trans hg6).row s5, rowW_heap hy6, ((ho5.isB.gr ((Gr.refl _).alloc _)).gr hg6).keptE (rowW_rowW (n := 0)) a5, a5, ho6.isB.keptE (rowW_rowW (n := 0)) a6, a6, fun k hk => ⟨ho5.aside hk, ho6.aside (by rw [World.size_alloc]; have : w2.heap.size ≤ x5.heap.size := s5; omega)⟩⟩
    · have a5 := ho5.aside (k := w2.heap.size) (by show _ < (w2.alloc _).heap.size; rw [World.size_alloc]; omega)
      have a6 := ho6.aside (k := w2.heap.size) (by rw [rowW_size]; exact hy5)
      exact ⟨w2.heap.size, f5, g5, j5, f6, g6, j6, rfl, Nat.le_refl _, ((((Gr.refl w2).alloc _).drew.trans hg5).trans hg6).row (Nat.le_refl _), rowW_heap hy6, (ho5.isB.gr hg6).keptE (rowW_rowW (n := 0)) a5, a5, ho6.isB.keptE (rowW_rowW (n := 0)) a6, a6, fun k hk => ⟨ho5.aside (by show _ < (w2.alloc _).heap.size; rw [World.size_alloc]; omega), ho6.aside (by rw [rowW_size]; have : w2.heap.size < y5.heap.size := hy5; omega)⟩⟩
  case rest =>
  unfold Ip4Mid at hcut
  obtain ⟨T6, f5, g5, j5, f6, g6, j6, rfl, hT6, hgC, hHC, hi5, ha5, hi6, ha6, hfar⟩ := hcut
  have k14 := hgC.cell (cell_of_heap (cs := [_, _, _, _, _, _, _, _, _, _, _, _, _, _, _, _]) HD2.out 14 _ rfl)
  have hlo0 := True.intro
  have hlo := fun ty => (HOW.out.len (P := Try.prog) 106 Try.underlying106 ty)
  have k1 := hgC.cell k1
  clear k3 k4 k5 k6 k7 k8 k9 k10 k11 k12 k13 k15
  have hdT : Has wc T6 := (Array.getElem?_eq_some_iff.1 hHC).1
  have HHC := Lib.hid hHC
  have HRNG := Lib.hid (show ∀ p ∈ rs, 0 ≤ p.1.kind ∧ p.1.kind ≤ 255 ∧ 0 ≤ p.1.len ∧ p.1.len ≤ 255 ∧ p.1.data.length ≤ 255 from fun p hp => opt_rng HOK.out hraw p.1 (by rw [← HRS.out]; exact List.mem_map_of_mem hp))
  have HRL := Lib.hid (show rs.length ≤ 1000 by have e := congrArg List.length HRS.out; rw [List.length_map, List.length_append] at e; have h40 := raw_len hraw; have h1 : (padO os).length ≤ 1 := (by unfold padO; split <;> simp); omega)
  have HFC := Lib.hid hfar
  have GC := Lib.hid hgC
  have gwc := hgC.size
  clear hHC hfar hlo0
  go_wp2_with fail
  clear uw0 uw1 uw2 uw3 uw4 uw5 uw6 uw7 uw8
  go_loopw [79] (CopyRel wc T6 39 rs (fun o => [.int .i64 (W : Int), .int .i64 (bt l 1), .int .i64 (M : Int), .int .i64 (bt l 4 * 256 + bt l 5), .int .i64 ((bt l 6 * 256 + bt l 7) / 8192), .int .i64 ((bt l 6 * 256 + bt l 7) % 8192), .int .i64 (bt l 8), .int .i64 (bt l 9), .int .i64 (bt l 10 * 256 + bt l 11), .slice f5 g5 j5, .slice f6 g6 j6, o])) (fun i _ => rs.length - (intOf i).toNat)
  case atStart => exact ⟨0, [], wc, none, 0, 0, Nat.zero_le _, rfl, (rowW_self HHC.out).symm, hdT, Gr.refl _, OwnO.nil, by simp, fun p hp => by cases hp⟩
  case round =>
    obtain ⟨k, rs', x, av, nv, cv, hk, rfl, rfl, hX, hG, hOw, hrs', hfar'⟩ := hrel
    have HOw := Lib.hid hOw
    have HRS' := Lib.hid hrs'
    have HFAR := Lib.hid hfar'
    have HG := Lib.hid hG
    have neR : T6 ≠ w.heap.size + 1 := by omega
    clear hOw hrs' hfar' hG
    by_cases hlt : k < rs.length
    · obtain ⟨p, hp⟩ : ∃ p, rs[k]? = some p := ⟨_, List.getElem?_eq_getElem hlt⟩
      obtain ⟨g, o, ix, c0, c1, c2, hI, hgl, -⟩ := HOW.out.idx (P := Try.prog) 106 Try.underlying106 size_o4 .i64 k p hp
      have hrg := HRNG.out p (List.mem_of_getElem? hp)
      have hrl := HRL.out
      obtain ⟨⟨kd, ln, d⟩, sv⟩ := p
      simp only at c0 c1 c2 hI hrg
      obtain ⟨ad, md, rfl, -⟩ := id hI
      obtain ⟨nd, hnd⟩ : ∃ nd, nd = d.length := ⟨_, rfl⟩
      rw [← hnd] at c2 hI
      have neG : g ≠ T6 := by omega
      have c0 := HG.out.cell (GC.out.cell c0)
      have c1 := HG.out.cell (GC.out.cell c1)
      have c2 := HG.out.cell (GC.out.cell c2)
      have HID := Lib.hid (show IsB (rowW x T6 [.int .i64 (W : Int), .int .i64 (bt l 1), .int .i64 (M : Int), .int .i64 (bt l 4 * 256 + bt l 5), .int .i64 ((bt l 6 * 256 + bt l 7) / 8192), .int .i64 ((bt l 6 * 256 + bt l 7) % 8192), .int .i64 (bt l 8), .int .i64 (bt l 9), .int .i64 (bt l 10 * 256 + bt l 11), .slice f5 g5 j5, .slice f6 g6 j6, .slice av nv cv] 39) (.slice ad nd md) d from IsB.keptE ((hI.gr GC.out).gr HG.out) (rowW_grown (some T6) rfl) (hI.aside hT6))
      have HP := Lib.hid hp
      have HLT := Lib.hid hlt
      have wk : IntKind.i64.wrap kd = kd := w64 (by omega) (by omega)
      have wl : IntKind.i64.wrap ln = ln := w64 (by omega) (by omega)
      have hdl : d.length ≤ 255 := hrg.2.2.2.2
      have HRSL := Lib.hid (show rs'.length ≤ 1000000000 by have e := congrArg List.length HRS'.out; rw [List.length_map, List.length_map, List.length_take] at e; omega)
      clear hp hI hlt hnd hrg
      go_wp2_with fail
      obtain ⟨Y, hY⟩ : ∃ Y, Y = ((rowW x T6 [.int .i64 (W : Int), .int .i64 (bt l 1), .int .i64 (M : Int), .int .i64 (bt l 4 * 256 + bt l 5), .int .i64 ((bt l 6 * 256 + bt l 7) / 8192), .int .i64 ((bt l 6 * 256 + bt l 7) % 8192), .int .i64 (bt l 8), .int .i64 (bt l 9), .int .i64 (bt l 10 * 256 + bt l 11), .slice f5 g5 j5, .slice f6 g6 j6, .slice av nv cv] 39).alloc (.cells #[.int .u8 kd, .int .u8 ln, .slice ad nd md] 110)) := ⟨_, rfl⟩
      rw [← hY]
      obtain ⟨T8, hT8⟩ : ∃ T8, T8 = x.heap.size := ⟨_, rfl⟩
      try rw [← hT8]
      have gY : Gr (rowW x T6 [.int .i64 (W : Int), .int .i64 (bt l 1), .int .i64 (M : Int), .int .i64 (bt l 4 * 256 + bt l 5), .int .i64 ((bt l 6 * 256 + bt l 7) / 8192), .int .i64 ((bt l 6 * 256 + bt l 7) % 8192), .int .i64 (bt l 8), .int .i64 (bt l 9), .int .i64 (bt l 10 * 256 + bt l 11), .slice f5 g5 j5, .slice f6 g6 j6, .slice av nv cv] 39) Y := by rw [hY]; exact (Gr.refl _).alloc _
      have bY := box3 (w := rowW x T6 [.int .i64 (W : Int), .int .i64 (bt l 1), .int .i64 (M : Int), .int .i64 (bt l 4 * 256 + bt l 5), .int .i64 ((bt l 6 * 256 + bt l 7) / 8192), .int .i64 ((bt l 6 * 256 + bt l 7) % 8192), .int .i64 (bt l 8), .int .i64 (bt l 9), .int .i64 (bt l 10 * 256 + bt l 11), .slice f5 g5 j5, .slice f6 g6 j6, .slice av nv cv] 39) (b := T8) (by rw [hT8, rowW_size]) (.int .u8 kd) (.int .u8 ln) (.slice ad nd md) 110
      rw [← hY] at bY
      obtain ⟨bY0, bY1, bY2⟩ := bY
      have cY := gY.cell (rowW_cell hX 11)
      have HOY := Lib.hid (HOw.out.gr gY)
      have GWY := Lib.hid ((gr_rows (cs := [.int .i64 (W : Int), .int .i64 (bt l 1), .int .i64 (M : Int), .int .i64 (bt l 4 * 256 + bt l 5), .int .i64 ((bt l 6 * 256 + bt l 7) / 8192), .int .i64 ((bt l 6 * 256 + bt l 7) % 8192), .int .i64 (bt l 8), .int .i64 (bt l 9), .int .i64 (bt l 10 * 256 + bt l 11), .slice f5 g5 j5, .slice f6 g6 j6, .slice av nv cv]) (e := 39) hdT HG.out).trans gY)
      have neV := Lib.hid (show ∀ k, (Value.slice av nv cv).ownBlock = some k → k ≠ T8 from fun k hk => by
        have h1 := (HOw.out.fresh k hk).2
        rw [rowW_size] at h1
        omega)
      have HIDY := Lib.hid ((HID.out.gr gY))
      have szY := gY.size
      have szW := HG.out.size
      rw [rowW_size] at szY
      have HB0 := Lib.hid (And.intro bY0 (And.intro bY1 bY2))
      have CY := Lib.hid cY
      have hTb : T6 < wc.heap.size := hdT
      have neTT : T8 ≠ T6 := by omega
      clear hY hT8 gY cY
      refine wp_region_held_drew (S := (fun w' => w'.cell? ⟨T8, 0, none⟩ = some (.int .u8 kd) ∧ w'.cell? ⟨T8, 1, none⟩ = some (.int .u8 ln) ∧ w'.cell? ⟨T8, 2, none⟩ = some (.slice ad nd md))) (by kernel_rfl) ⟨bY0, bY1, bY2⟩ (fun hHeld => ?_)
      refine wpAnyH_take (i := 0) (v := .pointer (some ⟨T6, 11, none⟩)) rfl (by kernel_rfl) (by kernel_rfl) (by kernel_rfl) (fun _ _ _ h => h) (Or.inl ⟨by rfl, fun w' hS => ?_⟩) (by assumption) ?_
      · obtain ⟨c0, c1, c2⟩ := hS
        clear hHeld
        go_simp
      try simp only [Act.put, List.getElem_toArray, List.getElem_cons_succ, List.getElem_cons_zero, List.setIfInBounds_toArray, List.set_cons_zero, List.set_cons_succ]
      refine wpAnyH_take (i := 2) (v := .pointer (some ⟨T8, 0, none⟩)) rfl (by kernel_rfl) (by kernel_rfl) (by kernel_rfl) (fun _ _ _ h => h) (Or.inl ⟨by rfl, fun w' hS => ?_⟩) (by assumption) ?_
      · obtain ⟨c0, c1, c2⟩ := hS
        clear hHeld
        go_simp
      try simp only [Act.put, List.getElem_toArray, List.getElem_cons_succ, List.getElem_cons_zero, List.setIfInBounds_toArray, List.set_cons_zero, List.set_cons_succ]
      refine wpAnyH_take (i := 3) (v := .int .u8 kd) rfl (by kernel_rfl) (by kernel_rfl) (by kernel_rfl) (fun _ _ _ h => h) (Or.inl ⟨by rfl, fun w' hS => ?_⟩) (by assumption) ?_
      · obtain ⟨c0, c1, c2⟩ := hS
        clear hHeld
        go_simp
      try simp only [Act.put, List.getElem_toArray, List.getElem_cons_succ, List.getElem_cons_zero, List.setIfInBounds_toArray, List.set_cons_zero, List.set_cons_succ]
      refine wpAnyH_take (i := 4) (v := .int .i64 kd) rfl (by kernel_rfl) (by kernel_rfl) (by kernel_rfl) (fun _ _ _ h => h) (Or.inl ⟨by rfl, fun w' hS => ?_⟩) (by assumption) ?_
      · obtain ⟨c0, c1, c2⟩ := hS
        clear hHeld
        go_simp
      try simp only [Act.put, List.getElem_toArray, List.getElem_cons_succ, List.getElem_cons_zero, List.setIfInBounds_toArray, List.set_cons_zero, List.set_cons_succ]
      refine wpAnyH_take (i := 5) (v := .pointer (some ⟨T8, 1, none⟩)) rfl (by kernel_rfl) (by kernel_rfl) (by kernel_rfl) (fun _ _ _ h => h) (Or.inl ⟨by rfl, fun w' hS => ?_⟩) (by assumption) ?_
      · obtain ⟨c0, c1, c2⟩ := hS
        clear hHeld
        go_simp
      try simp only [Act.put, List.getElem_toArray, List.getElem_cons_succ, List.getElem_cons_zero, List.setIfInBounds_toArray, List.set_cons_zero, List.set_cons_succ]
      refine wpAnyH_take (i := 6) (v := .int .u8 ln) rfl (by kernel_rfl) (by kernel_rfl) (by kernel_rfl) (fun _ _ _ h => h) (Or.inl ⟨by rfl, fun w' hS => ?_⟩) (by assumption) ?_
      · obtain ⟨c0, c1, c2⟩ := hS
        clear hHeld
        go_simp
      try simp only [Act.put, List.getElem_toArray, List.getElem_cons_succ, List.getElem_cons_zero, List.setIfInBounds_toArray, List.set_cons_zero, List.set_cons_succ]
      refine wpAnyH_take (i := 7) (v := .int .i64 ln) rfl (by kernel_rfl) (by kernel_rfl) (by kernel_rfl) (fun _ _ _ h => h) (Or.inl ⟨by rfl, fun w' hS => ?_⟩) (by assumption) ?_
      · obtain ⟨c0, c1, c2⟩ := hS
        clear hHeld
        go_simp
      try simp only [Act.put, List.getElem_toArray, List.getElem_cons_succ, List.getElem_cons_zero, List.setIfInBounds_toArray, List.set_cons_zero, List.set_cons_succ]
      refine wpAnyH_take (i := 8) (v := .pointer (some ⟨T8, 2, none⟩)) rfl (by kernel_rfl) (by kernel_rfl) (by kernel_rfl) (fun _ _ _ h => h) (Or.inl ⟨by rfl, fun w' hS => ?_⟩) (by assumption) ?_
      · obtain ⟨c0, c1, c2⟩ := hS
        clear hHeld
        go_simp
      try simp only [Act.put, List.getElem_toArray, List.getElem_cons_succ, List.getElem_cons_zero, List.setIfInBounds_toArray, List.set_cons_zero, List.set_cons_succ]
      refine wpAnyH_take (i := 9) (v := .slice ad nd md) rfl (by kernel_rfl) (by kernel_rfl) (by kernel_rfl) (fun _ _ _ h => h) (Or.inl ⟨by rfl, fun w' hS => ?_⟩) (by assumption) ?_
      · obtain ⟨c0, c1, c2⟩ := hS
        clear hHeld
        go_simp
      try simp only [Act.put, List.getElem_toArray, List.getElem_cons_succ, List.getElem_cons_zero, List.setIfInBounds_toArray, List.set_cons_zero, List.set_cons_succ]
      refine wpAnyH_ready (rs := [1, 10]) (by kernel_rfl) (by simp) ((AllReadyH.cons rfl (fun K hK => ?_) (AllReadyH.cons rfl (fun K hK => ?_) AllReadyH.nil)))
      · refine step_loadc (by rfl) 22 (.tmp 83) (by rfl) T6 11 (by first | rfl | simp) (.slice av nv cv) 98 Try.underlying22 (CY.out) ?_
        refine hK.out _ _ ⟨HB0.out.1, HB0.out.2.1, HB0.out.2.2⟩ (fun hHeld => ?_)
        clear hK K
        try simp only [Act.put, List.getElem_toArray, List.getElem_cons_succ, List.getElem_cons_zero, List.setIfInBounds_toArray, List.set_cons_zero, List.set_cons_succ]
        refine wpAnyH_ready (rs := [10]) (by kernel_rfl) (by simp) ((AllReadyH.cons rfl (fun K hK => ?_) AllReadyH.nil))
        go_simp
        go_at_call_of 48 (Value.slice ad nd md)
        refine (copied_calls _ d _ (HIDY.out.drew) (by omega)).mono ?_
        rintro e x9 ⟨f9, g9, j9, rfl, ho9, hg9⟩
        refine hK.out _ _ ⟨Gr.cell hg9 HB0.out.1, Gr.cell hg9 HB0.out.2.1, Gr.cell hg9 HB0.out.2.2⟩ (fun hHeld => ?_)
        clear hK K
        try simp only [Act.put, List.getElem_toArray, List.getElem_cons_succ, List.getElem_cons_zero, List.setIfInBounds_toArray, List.set_cons_zero, List.set_cons_succ]
        refine wpAnyH_take (i := 11) (v := .agg #[.int .i64 kd, .int .i64 ln, .slice f9 g9 j9]) rfl (by kernel_rfl) (by kernel_rfl) (by kernel_rfl) (fun _ _ _ h => h) (Or.inl ⟨by rfl, fun w' hS => ?_⟩) (by assumption) ?_
        · obtain ⟨c0, c1, c2⟩ := hS
          clear hHeld
          go_simp
        try simp only [Act.put, List.getElem_toArray, List.getElem_cons_succ, List.getElem_cons_zero, List.setIfInBounds_toArray, List.set_cons_zero, List.set_cons_succ]
        refine wpAnyH_ready (rs := [12]) (by kernel_rfl) (by simp) ((AllReadyH.cons rfl (fun K hK => ?_) AllReadyH.nil))
        go_simp
        refine hK.out _ _ ⟨Gr.cell ((Gr.refl _).alloc _) (Gr.cell hg9 HB0.out.1), Gr.cell ((Gr.refl _).alloc _) (Gr.cell hg9 HB0.out.2.1), Gr.cell ((Gr.refl _).alloc _) (Gr.cell hg9 HB0.out.2.2)⟩ (fun hHeld => ?_)
        clear hK K
        try simp only [Act.put, List.getElem_toArray, List.getElem_cons_succ, List.getElem_cons_zero, List.setIfInBounds_toArray, List.set_cons_zero, List.set_cons_succ]
        refine wpAnyH_ready (rs := [13]) (by kernel_rfl) (by simp) ((AllReadyH.cons rfl (fun K hK => ?_) AllReadyH.nil))
        have hb9 : Y.heap.size ≤ x9.heap.size := hg9.size
        refine step_appR rfl (.tmp 84) (.tmp 95) 22 98 rfl Try.underlying22 _ 40 info_oI rfl (by omega) wc.heap.size T6 (.slice av nv cv) rs' (by first | rfl | simp [Act.eval]) ((HOY.out.gr ((Gr.refl Y).drew.trans hg9)).gr ((Gr.refl _).alloc _)) x9.heap.size 1 ⟨kd, ln, d⟩ (.slice f9 g9 j9) (by first | rfl | simp [Act.eval]) (box3 rfl _ _ _ _).1 (box3 rfl _ _ _ _).2.1 (box3 rfl _ _ _ _).2.2 (ho9.isB.gr ((Gr.refl _).alloc _)) (ho9.aside (show T6 < Y.heap.size by omega)) (fun k hk => ho9.aside (show k < Y.heap.size from (HOY.out.fresh k hk).2)) HRSL.out (by rw [World.size_alloc]; omega) ?_
        intro v4 w4 ho4 hg4 hat4
        obtain ⟨g4, n4, c4, rfl, hg41⟩ := ho4.slice_pos (by simp)
        have G4 := grownBy_step ((GWY.out.drew.trans hg9).alloc _) hg4 (fun k hk => .inl (by rw [rowW_size]; exact (HOY.out.fresh k hk).1))
        have k4b := World.grownBy.cell hg4 (a := ⟨T8, 0, none⟩) (Gr.cell ((Gr.refl _).alloc _) (Gr.cell hg9 HB0.out.1)) (fun e => neV.out _ e.symm rfl)
        have k4c := World.grownBy.cell hg4 (a := ⟨T8, 1, none⟩) (Gr.cell ((Gr.refl _).alloc _) (Gr.cell hg9 HB0.out.2.1)) (fun e => neV.out _ e.symm rfl)
        have k4d := World.grownBy.cell hg4 (a := ⟨T8, 2, none⟩) (Gr.cell ((Gr.refl _).alloc _) (Gr.cell hg9 HB0.out.2.2)) (fun e => neV.out _ e.symm rfl)
        obtain ⟨x4, gx4, dx4, rfl⟩ := Gr.unrow hdT G4
        have hfar4 := Lib.hid (fun k (hk : k < wc.heap.size) => ho9.aside (show k < Y.heap.size by omega))
        refine hK.out _ _ ⟨k4b, k4c, k4d⟩ (fun hHeld => ?_)
        clear hK K
        try simp only [Act.put, List.getElem_toArray, List.getElem_cons_succ, List.getElem_cons_zero, List.setIfInBounds_toArray, List.set_cons_zero, List.set_cons_succ]
        refine wpAnyH_take (i := 14) (v := .pointer (some ⟨T6, 11, none⟩)) rfl (by kernel_rfl) (by kernel_rfl) (by kernel_rfl) (fun _ _ _ h => h) (Or.inl ⟨by rfl, fun w' hS => ?_⟩) (by assumption) ?_
        · obtain ⟨c0, c1, c2⟩ := hS
          clear hHeld
          go_simp
        try simp only [Act.put, List.getElem_toArray, List.getElem_cons_succ, List.getElem_cons_zero, List.setIfInBounds_toArray, List.set_cons_zero, List.set_cons_succ]
        refine wpAnyH_ready (rs := [15]) (by kernel_rfl) (by simp) ((AllReadyH.cons rfl (fun K hK => ?_) AllReadyH.nil))
        go_simp
        refine hK.out _ _ ⟨rowW_swap neTT k4b, rowW_swap neTT k4c, rowW_swap neTT k4d⟩ (fun hHeld => ?_)
        clear hK K
        try simp only [Act.put, List.getElem_toArray, List.getElem_cons_succ, List.getElem_cons_zero, List.setIfInBounds_toArray, List.set_cons_zero, List.set_cons_succ]
        refine wpAnyH_done (by kernel_rfl) ?_ _
        go_wp2_with fail
        go_roundw
        case rel => exact ⟨k + 1, rs' ++ [(⟨kd, ln, d⟩, _)], x4, some ⟨g4, 0, none⟩, n4, c4, HLT.out, by go_num, rfl, dx4, gx4, ho4.reRow hdT, by rw [List.map_append, HRS'.out, opt_step HP.out, List.map_append]; rfl, fun p hp k hk => (List.mem_append.1 hp).elim (fun h => HFAR.out p h k hk) (fun h => by simp at h; subst h; exact hfar4.out k hk)⟩
        case measure => simp [intOf]; omega
      · go_simp
        go_at_call_of 48 (Value.slice ad nd md)
        refine (copied_calls _ d _ (HIDY.out.drew) (by omega)).mono ?_
        rintro e x9 ⟨f9, g9, j9, rfl, ho9, hg9⟩
        refine hK.out _ _ ⟨Gr.cell hg9 HB0.out.1, Gr.cell hg9 HB0.out.2.1, Gr.cell hg9 HB0.out.2.2⟩ (fun hHeld => ?_)
        clear hK K
        try simp only [Act.put, List.getElem_toArray, List.getElem_cons_succ, List.getElem_cons_zero, List.setIfInBounds_toArray, List.set_cons_zero, List.set_cons_succ]
        refine wpAnyH_take (i := 11) (v := .agg #[.int .i64 kd, .int .i64 ln, .slice f9 g9 j9]) rfl (by kernel_rfl) (by kernel_rfl) (by kernel_rfl) (fun _ _ _ h => h) (Or.inl ⟨by rfl, fun w' hS => ?_⟩) (by assumption) ?_
        · obtain ⟨c0, c1, c2⟩ := hS
          clear hHeld
          go_simp
        try simp only [Act.put, List.getElem_toArray, List.getElem_cons_succ, List.getElem_cons_zero, List.setIfInBounds_toArray, List.set_cons_zero, List.set_cons_succ]
        refine wpAnyH_ready (rs := [1, 12]) (by kernel_rfl) (by simp) ((AllReadyH.cons rfl (fun K hK => ?_) (AllReadyH.cons rfl (fun K hK => ?_) AllReadyH.nil)))
        · refine step_loadc (by rfl) 22 (.tmp 83) (by rfl) T6 11 (by first | rfl | simp) (.slice av nv cv) 98 Try.underlying22 (Gr.cell hg9 CY.out) ?_
          refine hK.out _ _ ⟨Gr.cell hg9 HB0.out.1, Gr.cell hg9 HB0.out.2.1, Gr.cell hg9 HB0.out.2.2⟩ (fun hHeld => ?_)
          clear hK K
          try simp only [Act.put, List.getElem_toArray, List.getElem_cons_succ, List.getElem_cons_zero, List.setIfInBounds_toArray, List.set_cons_zero, List.set_cons_succ]
          refine wpAnyH_ready (rs := [12]) (by kernel_rfl) (by simp) ((AllReadyH.cons rfl (fun K hK => ?_) AllReadyH.nil))
          go_simp
          refine hK.out _ _ ⟨Gr.cell ((Gr.refl _).alloc _) (Gr.cell hg9 HB0.out.1), Gr.cell ((Gr.refl _).alloc _) (Gr.cell hg9 HB0.out.2.1), Gr.cell ((Gr.refl _).alloc _) (Gr.cell hg9 HB0.out.2.2)⟩ (fun hHeld => ?_)
          clear hK K
          try simp only [Act.put, List.getElem_toArray, List.getElem_cons_succ, List.getElem_cons_zero, List.setIfInBounds_toArray, List.set_cons_zero, List.set_cons_succ]
          refine wpAnyH_ready (rs := [13]) (by kernel_rfl) (by simp) ((AllReadyH.cons rfl (fun K hK => ?_) AllReadyH.nil))
          have hb9 : Y.heap.size ≤ x9.heap.size := hg9.size
          refine step_appR rfl (.tmp 84) (.tmp 95) 22 98 rfl Try.underlying22 _ 40 info_oI rfl (by omega) wc.heap.size T6 (.slice av nv cv) rs' (by first | rfl | simp [Act.eval]) ((HOY.out.gr ((Gr.refl Y).drew.trans hg9)).gr ((Gr.refl _).alloc _)) x9.heap.size 1 ⟨kd, ln, d⟩ (.slice f9 g9 j9) (by first | rfl | simp [Act.eval]) (box3 rfl _ _ _ _).1 (box3 rfl _ _ _ _).2.1 (box3 rfl _ _ _ _).2.2 (ho9.isB.gr ((Gr.refl _).alloc _)) (ho9.aside (show T6 < Y.heap.size by omega)) (fun k hk => ho9.aside (show k < Y.heap.size from (HOY.out.fresh k hk).2)) HRSL.out (by rw [World.size_alloc]; omega) ?_
          intro v4 w4 ho4 hg4 hat4
          obtain ⟨g4, n4, c4, rfl, hg41⟩ := ho4.slice_pos (by simp)
          have G4 := grownBy_step ((GWY.out.drew.trans hg9).alloc _) hg4 (fun k hk => .inl (by rw [rowW_size]; exact (HOY.out.fresh k hk).1))
          have k4b := World.grownBy.cell hg4 (a := ⟨T8, 0, none⟩) (Gr.cell ((Gr.refl _).alloc _) (Gr.cell hg9 HB0.out.1)) (fun e => neV.out _ e.symm rfl)
          have k4c := World.grownBy.cell hg4 (a := ⟨T8, 1, none⟩) (Gr.cell ((Gr.refl _).alloc _) (Gr.cell hg9 HB0.out.2.1)) (fun e => neV.out _ e.symm rfl)
          have k4d := World.grownBy.cell hg4 (a := ⟨T8, 2, none⟩) (Gr.cell ((Gr.refl _).alloc _) (Gr.cell hg9 HB0.out.2.2)) (fun e => neV.out _ e.symm rfl)
          obtain ⟨x4, gx4, dx4, rfl⟩ := Gr.unrow hdT G4
          have hfar4 := Lib.hid (fun k (hk : k < wc.heap.size) => ho9.aside (show k < Y.heap.size by omega))
          refine hK.out _ _ ⟨k4b, k4c, k4d⟩ (fun hHeld => ?_)
          clear hK K
          try simp only [Act.put, List.getElem_toArray, List.getElem_cons_succ, List.getElem_cons_zero, List.setIfInBounds_toArray, List.set_cons_zero, List.set_cons_succ]
          refine wpAnyH_take (i := 14) (v := .pointer (some ⟨T6, 11, none⟩)) rfl (by kernel_rfl) (by kernel_rfl) (by kernel_rfl) (fun _ _ _ h => h) (Or.inl ⟨by rfl, fun w' hS => ?_⟩) (by assumption) ?_
          · obtain ⟨c0, c1, c2⟩ := hS
            clear hHeld
            go_simp
          try simp only [Act.put, List.getElem_toArray, List.getElem_cons_succ, List.getElem_cons_zero, List.setIfInBounds_toArray, List.set_cons_zero, List.set_cons_succ]
          refine wpAnyH_ready (rs := [15]) (by kernel_rfl) (by simp) ((AllReadyH.cons rfl (fun K hK => ?_) AllReadyH.nil))
          go_simp
          refine hK.out _ _ ⟨rowW_swap neTT k4b, rowW_swap neTT k4c, rowW_swap neTT k4d⟩ (fun hHeld => ?_)
          clear hK K
          try simp only [Act.put, List.getElem_toArray, List.getElem_cons_succ, List.getElem_cons_zero, List.setIfInBounds_toArray, List.set_cons_zero, List.set_cons_succ]
          refine wpAnyH_done (by kernel_rfl) ?_ _
          go_wp2_with fail
          go_roundw
          case rel => exact ⟨k + 1, rs' ++ [(⟨kd, ln, d⟩, _)], x4, some ⟨g4, 0, none⟩, n4, c4, HLT.out, by go_num, rfl, dx4, gx4, ho4.reRow hdT, by rw [List.map_append, HRS'.out, opt_step HP.out, List.map_append]; rfl, fun p hp k hk => (List.mem_append.1 hp).elim (fun h => HFAR.out p h k hk) (fun h => by simp at h; subst h; exact hfar4.out k hk)⟩
          case measure => simp [intOf]; omega
        · go_simp
          refine hK.out _ _ ⟨Gr.cell ((Gr.refl _).alloc _) (Gr.cell hg9 HB0.out.1), Gr.cell ((Gr.refl _).alloc _) (Gr.cell hg9 HB0.out.2.1), Gr.cell ((Gr.refl _).alloc _) (Gr.cell hg9 HB0.out.2.2)⟩ (fun hHeld => ?_)
          clear hK K
          try simp only [Act.put, List.getElem_toArray, List.getElem_cons_succ, List.getElem_cons_zero, List.setIfInBounds_toArray, List.set_cons_zero, List.set_cons_succ]
          refine wpAnyH_ready (rs := [1]) (by kernel_rfl) (by simp) ((AllReadyH.cons rfl (fun K hK => ?_) AllReadyH.nil))
          refine step_loadc (by rfl) 22 (.tmp 83) (by rfl) T6 11 (by first | rfl | simp) (.slice av nv cv) 98 Try.underlying22 (Gr.cell ((Gr.refl _).alloc _) (Gr.cell hg9 CY.out)) ?_
          refine hK.out _ _ ⟨Gr.cell ((Gr.refl _).alloc _) (Gr.cell hg9 HB0.out.1), Gr.cell ((Gr.refl _).alloc _) (Gr.cell hg9 HB0.out.2.1), Gr.cell ((Gr.refl _).alloc _) (Gr.cell hg9 HB0.out.2.2)⟩ (fun hHeld => ?_)
          clear hK K
          try simp only [Act.put, List.getElem_toArray, List.getElem_cons_succ, List.getElem_cons_zero, List.setIfInBounds_toArray, List.set_cons_zero, List.set_cons_succ]
          refine wpAnyH_ready (rs := [13]) (by kernel_rfl) (by simp) ((AllReadyH.cons rfl (fun K hK => ?_) AllReadyH.nil))
          have hb9 : Y.heap.size ≤ x9.heap.size := hg9.size
          refine step_appR rfl (.tmp 84) (.tmp 95) 22 98 rfl Try.underlying22 _ 40 info_oI rfl (by omega) wc.heap.size T6 (.slice av nv cv) rs' (by first | rfl | simp [Act.eval]) ((HOY.out.gr ((Gr.refl Y).drew.trans hg9)).gr ((Gr.refl _).alloc _)) x9.heap.size 1 ⟨kd, ln, d⟩ (.slice f9 g9 j9) (by first | rfl | simp [Act.eval]) (box3 rfl _ _ _ _).1 (box3 rfl _ _ _ _).2.1 (box3 rfl _ _ _ _).2.2 (ho9.isB.gr ((Gr.refl _).alloc _)) (ho9.aside (show T6 < Y.heap.size by omega)) (fun k hk => ho9.aside (show k < Y.heap.size from (HOY.out.fresh k hk).2)) HRSL.out (by rw [World.size_alloc]; omega) ?_
          intro v4 w4 ho4 hg4 hat4
          obtain ⟨g4, n4, c4, rfl, hg41⟩ := ho4.slice_pos (by simp)
          have G4 := grownBy_step ((GWY.out.drew.trans hg9).alloc _) hg4 (fun k hk => .inl (by rw [rowW_size]; exact (HOY.out.fresh k hk).1))
          have k4b := World.grownBy.cell hg4 (a := ⟨T8, 0, none⟩) (Gr.cell ((Gr.refl _).alloc _) (Gr.cell hg9 HB0.out.1)) (fun e => neV.out _ e.symm rfl)
          have k4c := World.grownBy.cell hg4 (a := ⟨T8, 1, none⟩) (Gr.cell ((Gr.refl _).alloc _) (Gr.cell hg9 HB0.out.2.1)) (fun e => neV.out _ e.symm rfl)
          have k4d := World.grownBy.cell hg4 (a := ⟨T8, 2, none⟩) (Gr.cell ((Gr.refl _).alloc _) (Gr.cell hg9 HB0.out.2.2)) (fun e => neV.out _ e.symm rfl)
          obtain ⟨x4, gx4, dx4, rfl⟩ := Gr.unrow hdT G4
          have hfar4 := Lib.hid (fun k (hk : k < wc.heap.size) => ho9.aside (show k < Y.heap.size by omega))
          refine hK.out _ _ ⟨k4b, k4c, k4d⟩ (fun hHeld => ?_)
          clear hK K
          try simp only [Act.put, List.getElem_toArray, List.getElem_cons_succ, List.getElem_cons_zero, List.setIfInBounds_toArray, List.set_cons_zero, List.set_cons_succ]
          refine wpAnyH_take (i := 14) (v := .pointer (some ⟨T6, 11, none⟩)) rfl (by kernel_rfl) (by kernel_rfl) (by kernel_rfl) (fun _ _ _ h => h) (Or.inl ⟨by rfl, fun w' hS => ?_⟩) (by assumption) ?_
          · obtain ⟨c0, c1, c2⟩ := hS
            clear hHeld
            go_simp
          try simp only [Act.put, List.getElem_toArray, List.getElem_cons_succ, List.getElem_cons_zero, List.setIfInBounds_toArray, List.set_cons_zero, List.set_cons_succ]
          refine wpAnyH_ready (rs := [15]) (by kernel_rfl) (by simp) ((AllReadyH.cons rfl (fun K hK => ?_) AllReadyH.nil))
          go_simp
          refine hK.out _ _ ⟨rowW_swap neTT k4b, rowW_swap neTT k4c, rowW_swap neTT k4d⟩ (fun hHeld => ?_)
          clear hK K
          try simp only [Act.put, List.getElem_toArray, List.getElem_cons_succ, List.getElem_cons_zero, List.setIfInBounds_toArray, List.set_cons_zero, List.set_cons_succ]
          refine wpAnyH_done (by kernel_rfl) ?_ _
          go_wp2_with fail
          go_roundw
          case rel => exact ⟨k + 1, rs' ++ [(⟨kd, ln, d⟩, _)], x4, some ⟨g4, 0, none⟩, n4, c4, HLT.out, by go_num, rfl, dx4, gx4, ho4.reRow hdT, by rw [List.map_append, HRS'.out, opt_step HP.out, List.map_append]; rfl, fun p hp k hk => (List.mem_append.1 hp).elim (fun h => HFAR.out p h k hk) (fun h => by simp at h; subst h; exact hfar4.out k hk)⟩
          case measure => simp [intOf]; omega
    · obtain rfl : k = rs.length := by omega
      obtain ⟨FS, hFS⟩ : ∃ FS, FS = Value.slice av nv cv := ⟨_, rfl⟩
      have hFS := Lib.hid hFS
      have hneD : w.heap.size + 1 ≠ T6 := fun e => neR e.symm
      have hGF : Gr w2 (rowW x T6 [.int .i64 (W : Int), .int .i64 (bt l 1), .int .i64 (M : Int), .int .i64 (bt l 4 * 256 + bt l 5), .int .i64 ((bt l 6 * 256 + bt l 7) / 8192), .int .i64 ((bt l 6 * 256 + bt l 7) % 8192), .int .i64 (bt l 8), .int .i64 (bt l 9), .int .i64 (bt l 10 * 256 + bt l 11), .slice f5 g5 j5, .slice f6 g6 j6, .slice av nv cv] 39) := (GC.out.trans HG.out).step (rowW_grown (some T6) rfl) hT6
      have HGF := Lib.hid hGF
      have x1 := (HG.out.cell k1)
      have HB5 := Lib.hid ((hi5.gr HG.out).keptE (rowW_grown (cs := [.int .i64 (W : Int), .int .i64 (bt l 1), .int .i64 (M : Int), .int .i64 (bt l 4 * 256 + bt l 5), .int .i64 ((bt l 6 * 256 + bt l 7) / 8192), .int .i64 ((bt l 6 * 256 + bt l 7) % 8192), .int .i64 (bt l 8), .int .i64 (bt l 9), .int .i64 (bt l 10 * 256 + bt l 11), .slice f5 g5 j5, .slice f6 g6 j6, .slice av nv cv]) (e := 39) (some T6) rfl) ha5)
      have HB6 := Lib.hid ((hi6.gr HG.out).keptE (rowW_grown (cs := [.int .i64 (W : Int), .int .i64 (bt l 1), .int .i64 (M : Int), .int .i64 (bt l 4 * 256 + bt l 5), .int .i64 ((bt l 6 * 256 + bt l 7) / 8192), .int .i64 ((bt l 6 * 256 + bt l 7) % 8192), .int .i64 (bt l 8), .int .i64 (bt l 9), .int .i64 (bt l 10 * 256 + bt l 11), .slice f5 g5 j5, .slice f6 g6 j6, .slice av nv cv]) (e := 39) (some T6) rfl) ha6)
      have hR6 := HasRow.gr HGF.out HR2.out
      have HR6 := Lib.hid hR6
      have HBP := Lib.hid (hb8.gr HGF.out)
      have gAA : Gr w w2 := ((((Gr.refl w).alloc _).alloc _).trans hgA).step HG2.out (by omega)
      have GAA := Lib.hid gAA
      have z0 : w.heap.size < T6 := by omega
      have hneR : T6 ≠ w.heap.size := by omega
      have hneD2 : w.heap.size + 1 ≠ w.heap.size := by omega
      have szw2 := HGF.out.size
      clear hGF hgA hoA hR6 gAA hi5 hi6 hb5 hb6 hb8 k1 ha5 ha6
      go_wp2_with fail
      go_region_held3 (fun w' => w'.cell? ⟨w.heap.size + 1, 1, none⟩ = some (.slice a8 n8 m8) ∧ w'.cell? ⟨T6, 0, none⟩ = some (.int .i64 (W : Int)) ∧ w'.cell? ⟨T6, 1, none⟩ = some (.int .i64 (bt l 1)) ∧ w'.cell? ⟨T6, 2, none⟩ = some (.int .i64 (M : Int)) ∧ w'.cell? ⟨T6, 3, none⟩ = some (.int .i64 (bt l 4 * 256 + bt l 5)) ∧ w'.cell? ⟨T6, 4, none⟩ = some (.int .i64 ((bt l 6 * 256 + bt l 7) / 8192)) ∧ w'.cell? ⟨T6, 5, none⟩ = some (.int .i64 ((bt l 6 * 256 + bt l 7) % 8192)) ∧ w'.cell? ⟨T6, 6, none⟩ = some (.int .i64 (bt l 8)) ∧ w'.cell? ⟨T6, 7, none⟩ = some (.int .i64 (bt l 9)) ∧ w'.cell? ⟨T6, 8, none⟩ = some (.int .i64 (bt l 10 * 256 + bt l 11)) ∧ w'.cell? ⟨T6, 9, none⟩ = some (.slice f5 g5 j5) ∧ w'.cell? ⟨T6, 10, none⟩ = some (.slice f6 g6 j6) ∧ w'.cell? ⟨T6, 11, none⟩ = some (.slice av nv cv)) (first | exact ⟨(rowW_cell_other hneD).trans x1, rowW_cell (show Has x.drew T6 from hX) 0, rowW_cell (show Has x.drew T6 from hX) 1, rowW_cell (show Has x.drew T6 from hX) 2, rowW_cell (show Has x.drew T6 from hX) 3, rowW_cell (show Has x.drew T6 from hX) 4, rowW_cell (show Has x.drew T6 from hX) 5, rowW_cell (show Has x.drew T6 from hX) 6, rowW_cell (show Has x.drew T6 from hX) 7, rowW_cell (show Has x.drew T6 from hX) 8, rowW_cell (show Has x.drew T6 from hX) 9, rowW_cell (show Has x.drew T6 from hX) 10, rowW_cell (show Has x.drew T6 from hX) 11⟩ | exact And.imp (Gr.cell (by assumption)) (And.imp (Gr.cell (by assumption)) (And.imp (Gr.cell (by assumption)) (And.imp (Gr.cell (by assumption)) (And.imp (Gr.cell (by assumption)) (And.imp (Gr.cell (by assumption)) (And.imp (Gr.cell (by assumption)) (And.imp (Gr.cell (by assumption)) (And.imp (Gr.cell (by assumption)) (And.imp (Gr.cell (by assumption)) (And.imp (Gr.cell (by assumption)) (And.imp (Gr.cell (by assumption)) (Gr.cell (by assumption))))))))))))) (by assumption) | exact And.imp (rowW_swap hneD2) (And.imp (rowW_swap hneR) (And.imp (rowW_swap hneR) (And.imp (rowW_swap hneR) (And.imp (rowW_swap hneR) (And.imp (rowW_swap hneR) (And.imp (rowW_swap hneR) (And.imp (rowW_swap hneR) (And.imp (rowW_swap hneR) (And.imp (rowW_swap hneR) (And.imp (rowW_swap hneR) (And.imp (rowW_swap hneR) (rowW_swap hneR)))))))))))) (by assumption) | go_keep) (first
        | (go_at_call 48; refine (copied_calls _ ((l.take M).drop (4 * W)) _ ?_ ?_).mono ?_; (exact IsB.drew HBP.out); (rw [List.length_drop, List.length_take]; omega); rintro e x9 ⟨f9, g9, j9, rfl, ho9, hg9⟩; obtain ⟨u9, rs9, hrs9, hR9, rfl⟩ := (HasRow.gr hg9 (HR6.out.drew)).w0; obtain ⟨r9x0, r9x1, r9x2, r9x3, r9x4, r9x5, r9x6, r9x7, r9x8, r9x9, r9x10, r9x11, rfl⟩ := len12 hrs9))
      go_wp2
      have t9 := (GAA.out.trans HGF.out).drew.trans hg9
      have hwc : w.heap.size < w2.heap.size := by omega
      refine bodyPost_ret (v := .tuple #[.agg #[.int .i64 (W : Int), .int .i64 (bt l 1), .int .i64 (M : Int), .int .i64 (bt l 4 * 256 + bt l 5), .int .i64 ((bt l 6 * 256 + bt l 7) / 8192), .int .i64 ((bt l 6 * 256 + bt l 7) % 8192), .int .i64 (bt l 8), .int .i64 (bt l 9), .int .i64 (bt l 10 * 256 + bt l 11), .slice f5 g5 j5, .slice f6 g6 j6, .slice av nv cv], .slice f9 g9 j9, .bool true]) (by simp [results, Try.results27, go_sem, hR9]) rfl ?_
      unfold Ip4Data
      refine ⟨_, _, _, _, _, _, _, _, _, _, _, _, rfl, ?_, ?_, ?_, ?_, Gr.row t9 (Nat.le_refl _)⟩
      · exact ((HB5.out.drew).gr hg9).keptE (rowW_rowW (n := 0)) (HFC.out _ hwc).1
      · exact ((HB6.out.drew).gr hg9).keptE (rowW_rowW (n := 0)) (HFC.out _ hwc).2
      · have e := HRS'.out
        rw [List.take_length] at e
        rw [← HRS.out, ← e]
        refine OwnO.isOpts (base := wc.heap.size) (e := 98) (D := w.heap.size) (OwnO.turn (((HOw.out.gr ((Gr.refl _).drew.trans hg9)).other (D' := w.heap.size) (fun p hp => HFAR.out p hp _ (by omega)))) (rowW_rowW (n := 0)) (by omega)) (fun p hp => ?_)
        have hm : p.1 ∈ rs.map Prod.fst := by rw [← e]; exact List.mem_map_of_mem hp
        obtain ⟨q, hq, hqe⟩ := List.mem_map.1 hm
        have := HRNG.out q hq
        rw [hqe] at this
        exact ⟨WalkArith.wf_i64 (by omega), WalkArith.wf_i64 (by omega)⟩
      · exact IsB.reRow ho9.isB (ho9.other (show w.heap.size < (rowW x T6 [.int .i64 (W : Int), .int .i64 (bt l 1), .int .i64 (M : Int), .int .i64 (bt l 4 * 256 + bt l 5), .int .i64 ((bt l 6 * 256 + bt l 7) / 8192), .int .i64 ((bt l 6 * 256 + bt l 7) % 8192), .int .i64 (bt l 8), .int .i64 (bt l 9), .int .i64 (bt l 10 * 256 + bt l 11), .slice f5 g5 j5, .slice f6 g6 j6, .slice av nv cv] 39).heap.size by omega))
end Go.Proofs.Ytoopkfnkmaaieaa
