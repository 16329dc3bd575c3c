/-
  Messages of the discovery of neighbors, as data.
-/
import Derived.Test.YtoopkfnkmaaieaaNbDec
import Derived.Deep.DeepCutAuto
namespace Go.Proofs.Ytoopkfnkmaaieaa
open Go.RowKit

/-- another block that the data lies aside from -/
theorem OwnO.otherU {q1 q2 : IntKind} {w : World} {base : Nat} {e : TypeId} {D D' : Nat} {v : Value} {rs : List (Opt × Value)} (h : OwnO q1 q2 w base e D v rs) (hD : ∀ p ∈ rs, Aside p.2 p.1.data D') : OwnO q1 q2 w base e D' v rs :=
  ⟨h.1, fun p hp => ⟨(h.2 p hp).1, hD p hp, (h.2 p hp).2.2⟩⟩

set_option linter.unusedVariables false in
/-- what a message of this kind is as data -/
def DataRS (w w' : World) (l : List Int) (os : List Opt) (e : Ending) : Prop := ∃  a8 n8 m8, e = .returned (.tuple #[.agg #[.int .i64 133, .int .i64 0, .int .i64 0, .int .i64 0, .int .i64 0, .int .i64 0, .slice none 0 0, .slice none 0 0, .slice a8 n8 m8], .bool true]) ∧ (∃ base rs8, w.heap.size ≤ base ∧ OwnO .i64 .i64 w' base 98 w.heap.size (.slice a8 n8 m8) rs8 ∧ rs8.map Prod.fst = os.map outU ∧ ∀ p ∈ rs8, ∀ k, k < w.heap.size → Aside p.2 p.1.data k) ∧ Gr w w'

set_option linter.unusedSimpArgs false in
set_option maxRecDepth 100000 in
set_option maxHeartbeats 4000000 in
theorem readRS_calls (v : Value) (l : List Int) (os : List Opt) (w : World) (h : IsB w v l) (hl : 4 ≤ l.length) (hO : l.drop 4 = unitsB os) (hok : ∀ x ∈ os, UOk x) (hn : os.length ≤ 20) (hm : l.length ≤ 100000) :
    Calls Try.prog 38 #[.int .i64 133, v] w fun e w' => DataRS w w' l os e := by
  have H := Lib.hid h
  have HO := Lib.hid hO
  have HOK := Lib.hid hok
  have HM := Lib.hid hm
  clear h hO hok
  go_enter Try.func38, Try.ntmps38
  go_wp2_with (go_at_call 49; refine (nilFeedback_calls _).mono ?_; rintro e wN ⟨rfl, rfl⟩)
  refine (copied_calls _ l _ ?_ (by omega)).mono ?_
  · exact H.out.gr ((((Gr.refl w).alloc _).alloc _).alloc _)
  rintro e w1 ⟨a0, n0, m0, rfl, hoA, hgA⟩
  go_wp2_with fail
  have hR := heap_gr hgA (heap_gr ((Gr.refl _).alloc (.cells #[.slice none 0 0, .slice none 0 0, .slice none 0 0] 136)) (heap_gr ((Gr.refl _).alloc (.cells #[.int .i64 133, .int .i64 0, .int .i64 0, .int .i64 0, .int .i64 0, .int .i64 0, .slice none 0 0, .slice none 0 0, .slice none 0 0] 60)) (heap_alloc_new w (.cells #[.int .i64 0, .int .i64 0, .int .i64 0, .int .i64 0, .int .i64 0, .int .i64 0, .slice none 0 0, .slice none 0 0, .slice none 0 0] 60))))
  have hT := heap_gr hgA (heap_gr ((Gr.refl _).alloc (.cells #[.slice none 0 0, .slice none 0 0, .slice none 0 0] 136)) (heap_alloc_new (w.alloc (.cells #[.int .i64 0, .int .i64 0, .int .i64 0, .int .i64 0, .int .i64 0, .int .i64 0, .slice none 0 0, .slice none 0 0, .slice none 0 0] 60)) (.cells #[.int .i64 133, .int .i64 0, .int .i64 0, .int .i64 0, .int .i64 0, .int .i64 0, .slice none 0 0, .slice none 0 0, .slice none 0 0] 60)))
  have hD := heap_gr hgA (heap_alloc_new ((w.alloc (.cells #[.int .i64 0, .int .i64 0, .int .i64 0, .int .i64 0, .int .i64 0, .int .i64 0, .slice none 0 0, .slice none 0 0, .slice none 0 0] 60)).alloc (.cells #[.int .i64 133, .int .i64 0, .int .i64 0, .int .i64 0, .int .i64 0, .int .i64 0, .slice none 0 0, .slice none 0 0, .slice none 0 0] 60)) (.cells #[.slice none 0 0, .slice none 0 0, .slice none 0 0] 136))
  have hS := hgA.size
  have gA := ((((Gr.refl w).alloc _).alloc _).alloc _).trans hgA
  simp only [World.size_alloc] at hT hD hS
  have HR := Lib.hid hR
  have HT := Lib.hid hT
  have HD := Lib.hid hD
  have GA := Lib.hid gA
  clear hR hT hD hgA gA
  refine (decRS_calls (w.heap.size + 1 + 1) _ _ _ l os w1 HD.out hoA.isB hl HO.out HOK.out hn (hoA.other (by simp))).mono ?_
  rintro e w2 hpost
  unfold PostRS at hpost
  obtain ⟨rfl, hgB, a, n, m, rs, hd2, how, hrs, hob⟩ := hpost
  have hR2 : w2.heap[w.heap.size]? = _ := (hgB.block _ (by omega) (by simp; omega)).trans HR.out
  have hT2 : w2.heap[w.heap.size + 1]? = _ := (hgB.block _ (by omega) (by simp)).trans HT.out
  have G2 := Lib.hid (GA.out.step hgB (by omega))
  have hs2 := hgB.size
  obtain ⟨DD, hDe⟩ : ∃ DD, DD = w.heap.size + 1 + 1 := ⟨_, rfl⟩
  rw [← hDe] at hgB hd2 how ⊢
  obtain ⟨T6, hT6⟩ : ∃ T6, T6 = w.heap.size + 1 := ⟨_, rfl⟩
  have t1 : T6 < w2.heap.size := by omega
  have HNT := Lib.hid (show (Value.slice a0 n0 m0).ownBlock ≠ some T6 from hoA.other (by simp; omega))
  have HBT := Lib.hid (show T6 < w1.heap.size by omega)
  have t2 : w.heap.size < T6 := by omega
  have t3 : DD ≠ T6 := by omega
  rw [← hT6] at hT2
  have k0 := cell_of_heap (cs := [_, _, _]) hd2 0 _ rfl
  have k1 := cell_of_heap (cs := [_, _, _]) hd2 1 _ rfl
  have k2 := cell_of_heap (cs := [_, _, _]) hd2 2 _ rfl
  have HRNG := Lib.hid (show ∀ p ∈ rs, (0 ≤ p.1.kind ∧ p.1.kind ≤ 255) ∧ p.1.data.length ≤ 1000 from fun p hp => by
    have hmm : p.1 ∈ os.map outU := by rw [← hrs]; exact List.mem_map_of_mem hp
    obtain ⟨y, hy, hye⟩ := List.mem_map.1 hmm
    obtain ⟨h1, -, h3⟩ := HOK.out y hy
    rw [← hye]
    exact ⟨h1, (by show y.data.length ≤ 1000; omega)⟩)
  have hrl : rs.length ≤ 1000 := by have e := congrArg List.length hrs; rw [List.length_map, List.length_map] at e; omega
  have HRS := Lib.hid hrs
  have HOB := Lib.hid hob
  have HOW := Lib.hid how
  have HR2 := Lib.hid hR2
  clear hR2 how hrs hob hd2 hgB 
  obtain ⟨x0, dx0, rfl⟩ := one_row hT2 (Gr.refl w2)
  rw [rowW_size] at t1
  have x0' := (rowW_cell_other t3).symm.trans k0
  have x1' := (rowW_cell_other t3).symm.trans k1
  have x2' := (rowW_cell_other t3).symm.trans k2
  rw [← hT6]
  clear hT2 hT6 hDe hs2 hS hoA
  go_upto_region 30 with (go_at_call 65; refine (unitsFrom_calls _ rs _ _ T6 _ (HOW.out.gr (Gr.refl _)) HRNG.out hrl (by rw [rowW_size]; exact t1)).mono ?_; rintro e y8 ⟨a8, n8, m8, rs8, rfl, hg8, ow8, hm8, far8⟩; obtain ⟨x8, gx8, dx8, rfl⟩ := Gr.unrow (dx0) hg8)
  have hneR : w.heap.size ≠ T6 := by omega
  have hneR' : T6 ≠ w.heap.size := by omega
  have CH := Lib.hid (show Gr (rowW x0 T6 [.int .i64 133, .int .i64 0, .int .i64 0, .int .i64 0, .int .i64 0, .int .i64 0, .slice none 0 0, .slice none 0 0, .slice none 0 0] 60) (rowW x8 T6 [.int .i64 133, .int .i64 0, .int .i64 0, .int .i64 0, .int .i64 0, .int .i64 0, .slice none 0 0, .slice none 0 0, .slice none 0 0] 60) from hg8)
  have tB : T6 < x8.heap.size := dx8
  have GF := Lib.hid ((G2.out.trans CH.out).row (cs' := [.int .i64 133, .int .i64 0, .int .i64 0, .int .i64 0, .int .i64 0, .int .i64 0, .slice none 0 0, .slice none 0 0, .slice a8 n8 m8]) (Nat.le_of_lt t2))
  have hRF : (rowW x8 T6 [.int .i64 133, .int .i64 0, .int .i64 0, .int .i64 0, .int .i64 0, .int .i64 0, .slice none 0 0, .slice none 0 0, .slice a8 n8 m8] 60).heap[w.heap.size]? = _ := (rowW_other hneR).trans ((rowW_other hneR).symm.trans (heap_gr CH.out HR2.out))
  have ltB := Lib.hid (show T6 < (rowW x0 T6 [.int .i64 133, .int .i64 0, .int .i64 0, .int .i64 0, .int .i64 0, .int .i64 0, .slice none 0 0, .slice none 0 0, .slice none 0 0] 60).heap.size by rw [rowW_size]; exact dx0)
  have OF := Lib.hid ((ow8.reRow (cs' := [.int .i64 133, .int .i64 0, .int .i64 0, .int .i64 0, .int .i64 0, .int .i64 0, .slice none 0 0, .slice none 0 0, .slice a8 n8 m8]) ltB.out).otherU (D' := w.heap.size) (fun p hp => far8 p hp _ (Nat.lt_trans t2 ltB.out)))
  obtain ⟨zz, zR, zT, hzz⟩ := two_rows (w' := rowW x8 T6 [.int .i64 133, .int .i64 0, .int .i64 0, .int .i64 0, .int .i64 0, .int .i64 0, .slice none 0 0, .slice none 0 0, .slice a8 n8 m8] 60) (A := w.heap.size) (B := T6) hRF (rowW_heap dx8) (Gr.refl _)
  have E7 := Lib.hid (show rs8.map Prod.fst = os.map outU by rw [hm8, HRS.out, List.map_map]; rfl)
  rw [hzz] at GF OF  ⊢
  clear hzz hRF dx8 
  go_wp2_with fail
  refine bodyPost_ret (v := .tuple #[.agg #[.int .i64 133, .int .i64 0, .int .i64 0, .int .i64 0, .int .i64 0, .int .i64 0, .slice none 0 0, .slice none 0 0, .slice a8 n8 m8], .bool true]) (by simp [results, Try.results38, go_sem, zR]) rfl ?_
  unfold DataRS
  exact ⟨_, _, _, rfl, ⟨(rowW x0 T6 [.int .i64 133, .int .i64 0, .int .i64 0, .int .i64 0, .int .i64 0, .int .i64 0, .slice none 0 0, .slice none 0 0, .slice none 0 0] 60).heap.size, rs8, Nat.le_of_lt (Nat.lt_trans t2 ltB.out), OF.out.turn (rowW_rowW (n := 0)) (Nat.lt_trans t2 ltB.out), E7.out, fun p hp k hk => far8 p hp k (Nat.lt_trans hk (Nat.lt_trans t2 ltB.out))⟩, Gr.row GF.out (Nat.le_refl _)⟩

set_option linter.unusedVariables false in
/-- what a message of this kind is as data -/
def DataRA (w w' : World) (l : List Int) (os : List Opt) (e : Ending) : Prop := ∃  a8 n8 m8, e = .returned (.tuple #[.agg #[.int .i64 134, .int .i64 (bt l 0), .int .i64 (bt l 1), .int .i64 (bt l 2 * 256 + bt l 3), .int .i64 (bt l 4 * 16777216 + bt l 5 * 65536 + bt l 6 * 256 + bt l 7), .int .i64 (bt l 8 * 16777216 + bt l 9 * 65536 + bt l 10 * 256 + bt l 11), .slice none 0 0, .slice none 0 0, .slice a8 n8 m8], .bool true]) ∧ (∃ base rs8, w.heap.size ≤ base ∧ OwnO .i64 .i64 w' base 98 w.heap.size (.slice a8 n8 m8) rs8 ∧ rs8.map Prod.fst = os.map outU ∧ ∀ p ∈ rs8, ∀ k, k < w.heap.size → Aside p.2 p.1.data k) ∧ Gr w w'

set_option linter.unusedSimpArgs false in
set_option maxRecDepth 100000 in
set_option maxHeartbeats 4000000 in
theorem readRA_calls (v : Value) (l : List Int) (os : List Opt) (w : World) (h : IsB w v l) (hl : 12 ≤ l.length) (hO : l.drop 12 = unitsB os) (hok : ∀ x ∈ os, UOk x) (hn : os.length ≤ 20) (hm : l.length ≤ 100000) :
    Calls Try.prog 38 #[.int .i64 134, v] w fun e w' => DataRA w w' l os e := by
  have H := Lib.hid h
  have HO := Lib.hid hO
  have HOK := Lib.hid hok
  have HM := Lib.hid hm
  clear h hO hok
  go_enter Try.func38, Try.ntmps38
  go_wp2_with (go_at_call 49; refine (nilFeedback_calls _).mono ?_; rintro e wN ⟨rfl, rfl⟩)
  refine (copied_calls _ l _ ?_ (by omega)).mono ?_
  · exact H.out.gr ((((Gr.refl w).alloc _).alloc _).alloc _)
  rintro e w1 ⟨a0, n0, m0, rfl, hoA, hgA⟩
  go_wp2_with fail
  have hR := heap_gr hgA (heap_gr ((Gr.refl _).alloc (.cells #[.slice none 0 0, .slice none 0 0, .int .u8 0, .int .u8 0, .int .u16 0, .int .u32 0, .int .u32 0, .slice none 0 0] 140)) (heap_gr ((Gr.refl _).alloc (.cells #[.int .i64 134, .int .i64 0, .int .i64 0, .int .i64 0, .int .i64 0, .int .i64 0, .slice none 0 0, .slice none 0 0, .slice none 0 0] 60)) (heap_alloc_new w (.cells #[.int .i64 0, .int .i64 0, .int .i64 0, .int .i64 0, .int .i64 0, .int .i64 0, .slice none 0 0, .slice none 0 0, .slice none 0 0] 60))))
  have hT := heap_gr hgA (heap_gr ((Gr.refl _).alloc (.cells #[.slice none 0 0, .slice none 0 0, .int .u8 0, .int .u8 0, .int .u16 0, .int .u32 0, .int .u32 0, .slice none 0 0] 140)) (heap_alloc_new (w.alloc (.cells #[.int .i64 0, .int .i64 0, .int .i64 0, .int .i64 0, .int .i64 0, .int .i64 0, .slice none 0 0, .slice none 0 0, .slice none 0 0] 60)) (.cells #[.int .i64 134, .int .i64 0, .int .i64 0, .int .i64 0, .int .i64 0, .int .i64 0, .slice none 0 0, .slice none 0 0, .slice none 0 0] 60)))
  have hD := heap_gr hgA (heap_alloc_new ((w.alloc (.cells #[.int .i64 0, .int .i64 0, .int .i64 0, .int .i64 0, .int .i64 0, .int .i64 0, .slice none 0 0, .slice none 0 0, .slice none 0 0] 60)).alloc (.cells #[.int .i64 134, .int .i64 0, .int .i64 0, .int .i64 0, .int .i64 0, .int .i64 0, .slice none 0 0, .slice none 0 0, .slice none 0 0] 60)) (.cells #[.slice none 0 0, .slice none 0 0, .int .u8 0, .int .u8 0, .int .u16 0, .int .u32 0, .int .u32 0, .slice none 0 0] 140))
  have hS := hgA.size
  have gA := ((((Gr.refl w).alloc _).alloc _).alloc _).trans hgA
  simp only [World.size_alloc] at hT hD hS
  have HR := Lib.hid hR
  have HT := Lib.hid hT
  have HD := Lib.hid hD
  have GA := Lib.hid gA
  clear hR hT hD hgA gA
  refine (decRA_calls (w.heap.size + 1 + 1) _ _ _ l os w1 HD.out hoA.isB hl HO.out HOK.out hn (hoA.other (by simp))).mono ?_
  rintro e w2 hpost
  unfold PostRA at hpost
  obtain ⟨rfl, hgB, a, n, m, rs, hd2, how, hrs, hob⟩ := hpost
  have hR2 : w2.heap[w.heap.size]? = _ := (hgB.block _ (by omega) (by simp; omega)).trans HR.out
  have hT2 : w2.heap[w.heap.size + 1]? = _ := (hgB.block _ (by omega) (by simp)).trans HT.out
  have G2 := Lib.hid (GA.out.step hgB (by omega))
  have hs2 := hgB.size
  obtain ⟨DD, hDe⟩ : ∃ DD, DD = w.heap.size + 1 + 1 := ⟨_, rfl⟩
  rw [← hDe] at hgB hd2 how ⊢
  obtain ⟨T6, hT6⟩ : ∃ T6, T6 = w.heap.size + 1 := ⟨_, rfl⟩
  have t1 : T6 < w2.heap.size := by omega
  have HNT := Lib.hid (show (Value.slice a0 n0 m0).ownBlock ≠ some T6 from hoA.other (by simp; omega))
  have HBT := Lib.hid (show T6 < w1.heap.size by omega)
  have t2 : w.heap.size < T6 := by omega
  have t3 : DD ≠ T6 := by omega
  rw [← hT6] at hT2
  have k0 := cell_of_heap (cs := [_, _, _, _, _, _, _, _]) hd2 0 _ rfl
  have k1 := cell_of_heap (cs := [_, _, _, _, _, _, _, _]) hd2 1 _ rfl
  have k2 := cell_of_heap (cs := [_, _, _, _, _, _, _, _]) hd2 2 _ rfl
  have k3 := cell_of_heap (cs := [_, _, _, _, _, _, _, _]) hd2 3 _ rfl
  have k4 := cell_of_heap (cs := [_, _, _, _, _, _, _, _]) hd2 4 _ rfl
  have k5 := cell_of_heap (cs := [_, _, _, _, _, _, _, _]) hd2 5 _ rfl
  have k6 := cell_of_heap (cs := [_, _, _, _, _, _, _, _]) hd2 6 _ rfl
  have k7 := cell_of_heap (cs := [_, _, _, _, _, _, _, _]) hd2 7 _ rfl
  have HRNG := Lib.hid (show ∀ p ∈ rs, (0 ≤ p.1.kind ∧ p.1.kind ≤ 255) ∧ p.1.data.length ≤ 1000 from fun p hp => by
    have hmm : p.1 ∈ os.map outU := by rw [← hrs]; exact List.mem_map_of_mem hp
    obtain ⟨y, hy, hye⟩ := List.mem_map.1 hmm
    obtain ⟨h1, -, h3⟩ := HOK.out y hy
    rw [← hye]
    exact ⟨h1, (by show y.data.length ≤ 1000; omega)⟩)
  have hrl : rs.length ≤ 1000 := by have e := congrArg List.length hrs; rw [List.length_map, List.length_map] at e; omega
  have HRS := Lib.hid hrs
  have HOB := Lib.hid hob
  have HOW := Lib.hid how
  have HR2 := Lib.hid hR2
  have p0 := hoA.bytes.bt0 0
  have q0 := hoA.bytes.bt1 0
  have p1 := hoA.bytes.bt0 1
  have q1 := hoA.bytes.bt1 1
  have p2 := hoA.bytes.bt0 2
  have q2 := hoA.bytes.bt1 2
  have p3 := hoA.bytes.bt0 3
  have q3 := hoA.bytes.bt1 3
  have p4 := hoA.bytes.bt0 4
  have q4 := hoA.bytes.bt1 4
  have p5 := hoA.bytes.bt0 5
  have q5 := hoA.bytes.bt1 5
  have p6 := hoA.bytes.bt0 6
  have q6 := hoA.bytes.bt1 6
  have p7 := hoA.bytes.bt0 7
  have q7 := hoA.bytes.bt1 7
  have p8 := hoA.bytes.bt0 8
  have q8 := hoA.bytes.bt1 8
  have p9 := hoA.bytes.bt0 9
  have q9 := hoA.bytes.bt1 9
  have p10 := hoA.bytes.bt0 10
  have q10 := hoA.bytes.bt1 10
  have p11 := hoA.bytes.bt0 11
  have q11 := hoA.bytes.bt1 11
  have uw0 : IntKind.i64.wrap (bt l 0) = bt l 0 := w64 (by omega) (by omega)
  have uw1 : IntKind.i64.wrap (bt l 1) = bt l 1 := w64 (by omega) (by omega)
  have uw2 : IntKind.i64.wrap (bt l 2 * 256 + bt l 3) = bt l 2 * 256 + bt l 3 := w64 (by omega) (by omega)
  have uw3 : IntKind.i64.wrap (bt l 4 * 16777216 + bt l 5 * 65536 + bt l 6 * 256 + bt l 7) = bt l 4 * 16777216 + bt l 5 * 65536 + bt l 6 * 256 + bt l 7 := w64 (by omega) (by omega)
  have uw4 : IntKind.i64.wrap (bt l 8 * 16777216 + bt l 9 * 65536 + bt l 10 * 256 + bt l 11) = bt l 8 * 16777216 + bt l 9 * 65536 + bt l 10 * 256 + bt l 11 := w64 (by omega) (by omega)
  clear hR2 how hrs hob hd2 hgB 
  obtain ⟨x0, dx0, rfl⟩ := one_row hT2 (Gr.refl w2)
  rw [rowW_size] at t1
  have x0' := (rowW_cell_other t3).symm.trans k0
  have x1' := (rowW_cell_other t3).symm.trans k1
  have x2' := (rowW_cell_other t3).symm.trans k2
  have x3' := (rowW_cell_other t3).symm.trans k3
  have x4' := (rowW_cell_other t3).symm.trans k4
  have x5' := (rowW_cell_other t3).symm.trans k5
  have x6' := (rowW_cell_other t3).symm.trans k6
  have x7' := (rowW_cell_other t3).symm.trans k7
  rw [← hT6]
  clear hT2 hT6 hDe hs2 hS hoA
  go_wp2_with fail
  go_region_held3 (fun w' => w'.cell? ⟨DD, 2, none⟩ = some (.int .u8 (bt l 0)) ∧ w'.cell? ⟨DD, 3, none⟩ = some (.int .u8 (bt l 1)) ∧ w'.cell? ⟨DD, 4, none⟩ = some (.int .u16 (bt l 2 * 256 + bt l 3))) (first | exact ⟨k2, k3, k4⟩ | exact And.imp (rowW_swap t3) (And.imp (rowW_swap t3) (rowW_swap t3)) (by assumption) | go_keep) (fail)
  go_wp2_with fail
  have kk5 := (rowW_cell_other (cs := [.int .i64 134, .int .i64 (bt l 0), .int .i64 (bt l 1), .int .i64 (bt l 2 * 256 + bt l 3), .int .i64 0, .int .i64 0, .slice none 0 0, .slice none 0 0, .slice none 0 0]) (e := 60) t3).trans x5'
  have kk6 := (rowW_cell_other (cs := [.int .i64 134, .int .i64 (bt l 0), .int .i64 (bt l 1), .int .i64 (bt l 2 * 256 + bt l 3), .int .i64 0, .int .i64 0, .slice none 0 0, .slice none 0 0, .slice none 0 0]) (e := 60) t3).trans x6'
  have kk7 := (rowW_cell_other (cs := [.int .i64 134, .int .i64 (bt l 0), .int .i64 (bt l 1), .int .i64 (bt l 2 * 256 + bt l 3), .int .i64 0, .int .i64 0, .slice none 0 0, .slice none 0 0, .slice none 0 0]) (e := 60) t3).trans x7'
  have HW1 := Lib.hid ((HOW.out.other (D' := T6) (fun p hp => .inr (by rw [HOB.out p hp]; exact HNT.out))).turn (w' := rowW x0 T6 [.int .i64 134, .int .i64 (bt l 0), .int .i64 (bt l 1), .int .i64 (bt l 2 * 256 + bt l 3), .int .i64 0, .int .i64 0, .slice none 0 0, .slice none 0 0, .slice none 0 0] 60) (rowW_rowW (n := 0)) HBT.out)
  go_region_held3 (fun w' => w'.cell? ⟨DD, 5, none⟩ = some (.int .u32 (bt l 4 * 16777216 + bt l 5 * 65536 + bt l 6 * 256 + bt l 7)) ∧ w'.cell? ⟨DD, 6, none⟩ = some (.int .u32 (bt l 8 * 16777216 + bt l 9 * 65536 + bt l 10 * 256 + bt l 11)) ∧ w'.cell? ⟨DD, 7, none⟩ = some (.slice a n m)) (first | exact ⟨kk5, kk6, kk7⟩ | exact And.imp (Gr.cell hg8) (And.imp (Gr.cell hg8) (Gr.cell hg8)) (by assumption) | exact And.imp (rowW_swap t3) (And.imp (rowW_swap t3) (rowW_swap t3)) (by assumption) | go_keep) (first
    | (go_at_call 65; refine (unitsFrom_calls _ rs _ _ T6 _ (HW1.out.gr ((show Gr (rowW x0 T6 [.int .i64 134, .int .i64 (bt l 0), .int .i64 (bt l 1), .int .i64 (bt l 2 * 256 + bt l 3), .int .i64 0, .int .i64 0, .slice none 0 0, .slice none 0 0, .slice none 0 0] 60) (rowW x0 T6 [.int .i64 134, .int .i64 (bt l 0), .int .i64 (bt l 1), .int .i64 (bt l 2 * 256 + bt l 3), .int .i64 0, .int .i64 0, .slice none 0 0, .slice none 0 0, .slice none 0 0] 60).drew.drew from ((Gr.refl _).drew).drew))) HRNG.out hrl (by show T6 < (rowW x0 T6 _ _).heap.size; rw [rowW_size]; exact t1)).mono ?_; rintro e y8 ⟨a8, n8, m8, rs8, rfl, hg8, ow8, hm8, far8⟩; obtain ⟨x8, gx8, dx8, rfl⟩ := Gr.unrow (show Has x0.drew.drew T6 from dx0) hg8))
  go_upto_region 30 with fail
  have hneR : w.heap.size ≠ T6 := by omega
  have hneR' : T6 ≠ w.heap.size := by omega
  have CH := Lib.hid (show Gr (rowW x0 T6 [.int .i64 134, .int .i64 (bt l 0), .int .i64 (bt l 1), .int .i64 (bt l 2 * 256 + bt l 3), .int .i64 0, .int .i64 0, .slice none 0 0, .slice none 0 0, .slice none 0 0] 60) (rowW x8 T6 [.int .i64 134, .int .i64 (bt l 0), .int .i64 (bt l 1), .int .i64 (bt l 2 * 256 + bt l 3), .int .i64 0, .int .i64 0, .slice none 0 0, .slice none 0 0, .slice none 0 0] 60) from ((((show Gr (rowW x0 T6 [.int .i64 134, .int .i64 (bt l 0), .int .i64 (bt l 1), .int .i64 (bt l 2 * 256 + bt l 3), .int .i64 0, .int .i64 0, .slice none 0 0, .slice none 0 0, .slice none 0 0] 60) (rowW x0 T6 [.int .i64 134, .int .i64 (bt l 0), .int .i64 (bt l 1), .int .i64 (bt l 2 * 256 + bt l 3), .int .i64 0, .int .i64 0, .slice none 0 0, .slice none 0 0, .slice none 0 0] 60).drew.drew from ((Gr.refl _).drew).drew))).trans hg8))
  have tB : T6 < x8.heap.size := dx8
  have GF := Lib.hid (((G2.out.row (cs' := [.int .i64 134, .int .i64 (bt l 0), .int .i64 (bt l 1), .int .i64 (bt l 2 * 256 + bt l 3), .int .i64 0, .int .i64 0, .slice none 0 0, .slice none 0 0, .slice none 0 0]) (Nat.le_of_lt t2)).trans CH.out).row (cs' := [.int .i64 134, .int .i64 (bt l 0), .int .i64 (bt l 1), .int .i64 (bt l 2 * 256 + bt l 3), .int .i64 (bt l 4 * 16777216 + bt l 5 * 65536 + bt l 6 * 256 + bt l 7), .int .i64 (bt l 8 * 16777216 + bt l 9 * 65536 + bt l 10 * 256 + bt l 11), .slice none 0 0, .slice none 0 0, .slice a8 n8 m8]) (Nat.le_of_lt t2))
  have hRF : (rowW x8 T6 [.int .i64 134, .int .i64 (bt l 0), .int .i64 (bt l 1), .int .i64 (bt l 2 * 256 + bt l 3), .int .i64 (bt l 4 * 16777216 + bt l 5 * 65536 + bt l 6 * 256 + bt l 7), .int .i64 (bt l 8 * 16777216 + bt l 9 * 65536 + bt l 10 * 256 + bt l 11), .slice none 0 0, .slice none 0 0, .slice a8 n8 m8] 60).heap[w.heap.size]? = _ := (rowW_other hneR).trans ((rowW_other hneR).symm.trans (heap_gr CH.out ((rowW_other hneR).trans ((rowW_other hneR).symm.trans HR2.out))))
  have ltB := Lib.hid (show T6 < (rowW x0.drew.drew T6 [.int .i64 134, .int .i64 (bt l 0), .int .i64 (bt l 1), .int .i64 (bt l 2 * 256 + bt l 3), .int .i64 0, .int .i64 0, .slice none 0 0, .slice none 0 0, .slice none 0 0] 60).heap.size by rw [rowW_size]; exact dx0)
  have OF := Lib.hid ((ow8.reRow (cs' := [.int .i64 134, .int .i64 (bt l 0), .int .i64 (bt l 1), .int .i64 (bt l 2 * 256 + bt l 3), .int .i64 (bt l 4 * 16777216 + bt l 5 * 65536 + bt l 6 * 256 + bt l 7), .int .i64 (bt l 8 * 16777216 + bt l 9 * 65536 + bt l 10 * 256 + bt l 11), .slice none 0 0, .slice none 0 0, .slice a8 n8 m8]) ltB.out).otherU (D' := w.heap.size) (fun p hp => far8 p hp _ (Nat.lt_trans t2 ltB.out)))
  obtain ⟨zz, zR, zT, hzz⟩ := two_rows (w' := rowW x8 T6 [.int .i64 134, .int .i64 (bt l 0), .int .i64 (bt l 1), .int .i64 (bt l 2 * 256 + bt l 3), .int .i64 (bt l 4 * 16777216 + bt l 5 * 65536 + bt l 6 * 256 + bt l 7), .int .i64 (bt l 8 * 16777216 + bt l 9 * 65536 + bt l 10 * 256 + bt l 11), .slice none 0 0, .slice none 0 0, .slice a8 n8 m8] 60) (A := w.heap.size) (B := T6) hRF (rowW_heap dx8) (Gr.refl _)
  have E7 := Lib.hid (show rs8.map Prod.fst = os.map outU by rw [hm8, HRS.out, List.map_map]; rfl)
  rw [hzz] at GF OF  ⊢
  clear hzz hRF dx8 
  go_wp2_with fail
  refine bodyPost_ret (v := .tuple #[.agg #[.int .i64 134, .int .i64 (bt l 0), .int .i64 (bt l 1), .int .i64 (bt l 2 * 256 + bt l 3), .int .i64 (bt l 4 * 16777216 + bt l 5 * 65536 + bt l 6 * 256 + bt l 7), .int .i64 (bt l 8 * 16777216 + bt l 9 * 65536 + bt l 10 * 256 + bt l 11), .slice none 0 0, .slice none 0 0, .slice a8 n8 m8], .bool true]) (by simp [results, Try.results38, go_sem, zR]) rfl ?_
  unfold DataRA
  exact ⟨_, _, _, rfl, ⟨(rowW x0.drew.drew T6 [.int .i64 134, .int .i64 (bt l 0), .int .i64 (bt l 1), .int .i64 (bt l 2 * 256 + bt l 3), .int .i64 0, .int .i64 0, .slice none 0 0, .slice none 0 0, .slice none 0 0] 60).heap.size, rs8, Nat.le_of_lt (Nat.lt_trans t2 ltB.out), OF.out.turn (rowW_rowW (n := 0)) (Nat.lt_trans t2 ltB.out), E7.out, fun p hp k hk => far8 p hp k (Nat.lt_trans hk (Nat.lt_trans t2 ltB.out))⟩, Gr.row GF.out (Nat.le_refl _)⟩

set_option linter.unusedVariables false in
/-- what a message of this kind is as data -/
def DataNS (w w' : World) (l : List Int) (os : List Opt) (e : Ending) : Prop := ∃ f5 g5 j5 a8 n8 m8, e = .returned (.tuple #[.agg #[.int .i64 135, .int .i64 0, .int .i64 0, .int .i64 0, .int .i64 0, .int .i64 0, .slice f5 g5 j5, .slice none 0 0, .slice a8 n8 m8], .bool true]) ∧ IsB w' (.slice f5 g5 j5) ((l.take 20).drop 4) ∧ (∀ k, k < w.heap.size → Aside (.slice f5 g5 j5) ((l.take 20).drop 4) k) ∧ (∃ base rs8, w.heap.size ≤ base ∧ OwnO .i64 .i64 w' base 98 w.heap.size (.slice a8 n8 m8) rs8 ∧ rs8.map Prod.fst = os.map outU ∧ ∀ p ∈ rs8, ∀ k, k < w.heap.size → Aside p.2 p.1.data k) ∧ Gr w w'

set_option linter.unusedSimpArgs false in
set_option maxRecDepth 100000 in
set_option maxHeartbeats 4000000 in
theorem readNS_calls (v : Value) (l : List Int) (os : List Opt) (w : World) (h : IsB w v l) (hl : 20 ≤ l.length) (hO : l.drop 20 = unitsB os) (hok : ∀ x ∈ os, UOk x) (hn : os.length ≤ 20) (hm : l.length ≤ 100000) :
    Calls Try.prog 38 #[.int .i64 135, v] w fun e w' => DataNS w w' l os e := by
  have H := Lib.hid h
  have HO := Lib.hid hO
  have HOK := Lib.hid hok
  have HM := Lib.hid hm
  clear h hO hok
  go_enter Try.func38, Try.ntmps38
  go_wp2_with (go_at_call 49; refine (nilFeedback_calls _).mono ?_; rintro e wN ⟨rfl, rfl⟩)
  refine (copied_calls _ l _ ?_ (by omega)).mono ?_
  · exact H.out.gr ((((Gr.refl w).alloc _).alloc _).alloc _)
  rintro e w1 ⟨a0, n0, m0, rfl, hoA, hgA⟩
  go_wp2_with fail
  have hR := heap_gr hgA (heap_gr ((Gr.refl _).alloc (.cells #[.slice none 0 0, .slice none 0 0, .slice none 0 0, .slice none 0 0] 143)) (heap_gr ((Gr.refl _).alloc (.cells #[.int .i64 135, .int .i64 0, .int .i64 0, .int .i64 0, .int .i64 0, .int .i64 0, .slice none 0 0, .slice none 0 0, .slice none 0 0] 60)) (heap_alloc_new w (.cells #[.int .i64 0, .int .i64 0, .int .i64 0, .int .i64 0, .int .i64 0, .int .i64 0, .slice none 0 0, .slice none 0 0, .slice none 0 0] 60))))
  have hT := heap_gr hgA (heap_gr ((Gr.refl _).alloc (.cells #[.slice none 0 0, .slice none 0 0, .slice none 0 0, .slice none 0 0] 143)) (heap_alloc_new (w.alloc (.cells #[.int .i64 0, .int .i64 0, .int .i64 0, .int .i64 0, .int .i64 0, .int .i64 0, .slice none 0 0, .slice none 0 0, .slice none 0 0] 60)) (.cells #[.int .i64 135, .int .i64 0, .int .i64 0, .int .i64 0, .int .i64 0, .int .i64 0, .slice none 0 0, .slice none 0 0, .slice none 0 0] 60)))
  have hD := heap_gr hgA (heap_alloc_new ((w.alloc (.cells #[.int .i64 0, .int .i64 0, .int .i64 0, .int .i64 0, .int .i64 0, .int .i64 0, .slice none 0 0, .slice none 0 0, .slice none 0 0] 60)).alloc (.cells #[.int .i64 135, .int .i64 0, .int .i64 0, .int .i64 0, .int .i64 0, .int .i64 0, .slice none 0 0, .slice none 0 0, .slice none 0 0] 60)) (.cells #[.slice none 0 0, .slice none 0 0, .slice none 0 0, .slice none 0 0] 143))
  have hS := hgA.size
  have gA := ((((Gr.refl w).alloc _).alloc _).alloc _).trans hgA
  simp only [World.size_alloc] at hT hD hS
  have HR := Lib.hid hR
  have HT := Lib.hid hT
  have HD := Lib.hid hD
  have GA := Lib.hid gA
  clear hR hT hD hgA gA
  refine (decNS_calls (w.heap.size + 1 + 1) _ _ _ l os w1 HD.out hoA.isB hl HO.out HOK.out hn (hoA.other (by simp))).mono ?_
  rintro e w2 hpost
  unfold PostNS at hpost
  obtain ⟨rfl, hgB, a5, n5, m5, a, n, m, rs, hb5, hx5, hd2, how, hrs, hob⟩ := hpost
  have hR2 : w2.heap[w.heap.size]? = _ := (hgB.block _ (by omega) (by simp; omega)).trans HR.out
  have hT2 : w2.heap[w.heap.size + 1]? = _ := (hgB.block _ (by omega) (by simp)).trans HT.out
  have G2 := Lib.hid (GA.out.step hgB (by omega))
  have hs2 := hgB.size
  obtain ⟨DD, hDe⟩ : ∃ DD, DD = w.heap.size + 1 + 1 := ⟨_, rfl⟩
  rw [← hDe] at hgB hd2 how ⊢
  obtain ⟨T6, hT6⟩ : ∃ T6, T6 = w.heap.size + 1 := ⟨_, rfl⟩
  have t1 : T6 < w2.heap.size := by omega
  have HNT := Lib.hid (show (Value.slice a0 n0 m0).ownBlock ≠ some T6 from hoA.other (by simp; omega))
  have HBT := Lib.hid (show T6 < w1.heap.size by omega)
  have t2 : w.heap.size < T6 := by omega
  have t3 : DD ≠ T6 := by omega
  rw [← hT6] at hT2
  have k0 := cell_of_heap (cs := [_, _, _, _]) hd2 0 _ rfl
  have k1 := cell_of_heap (cs := [_, _, _, _]) hd2 1 _ rfl
  have k2 := cell_of_heap (cs := [_, _, _, _]) hd2 2 _ rfl
  have k3 := cell_of_heap (cs := [_, _, _, _]) hd2 3 _ rfl
  have HRNG := Lib.hid (show ∀ p ∈ rs, (0 ≤ p.1.kind ∧ p.1.kind ≤ 255) ∧ p.1.data.length ≤ 1000 from fun p hp => by
    have hmm : p.1 ∈ os.map outU := by rw [← hrs]; exact List.mem_map_of_mem hp
    obtain ⟨y, hy, hye⟩ := List.mem_map.1 hmm
    obtain ⟨h1, -, h3⟩ := HOK.out y hy
    rw [← hye]
    exact ⟨h1, (by show y.data.length ≤ 1000; omega)⟩)
  have hrl : rs.length ≤ 1000 := by have e := congrArg List.length hrs; rw [List.length_map, List.length_map] at e; omega
  have HRS := Lib.hid hrs
  have HOB := Lib.hid hob
  have HOW := Lib.hid how
  have HR2 := Lib.hid hR2
  have HB5 := Lib.hid hb5
  clear hR2 how hrs hob hd2 hgB hb5
  obtain ⟨x0, dx0, rfl⟩ := one_row hT2 (Gr.refl w2)
  rw [rowW_size] at t1
  have x0' := (rowW_cell_other t3).symm.trans k0
  have x1' := (rowW_cell_other t3).symm.trans k1
  have x2' := (rowW_cell_other t3).symm.trans k2
  have x3' := (rowW_cell_other t3).symm.trans k3
  rw [← hT6]
  clear hT2 hT6 hDe hs2 hS hoA
  go_wp2_with fail
  go_region_held3 (fun w' => w'.cell? ⟨DD, 2, none⟩ = some (.slice a5 n5 m5) ∧ w'.cell? ⟨DD, 3, none⟩ = some (.slice a n m)) (first | exact ⟨k2, k3⟩ | exact And.imp (Gr.cell hg8) (Gr.cell hg8) (by assumption) | exact And.imp (Gr.cell hg5) (Gr.cell hg5) (by assumption) | exact And.imp (rowW_swap t3) (rowW_swap t3) (by assumption) | go_keep) (first
    | (go_at_call_of 48 (Value.slice a5 n5 m5); refine (copied_calls _ ((l.take 20).drop 4) _ (HB5.out.gr ((Gr.refl _).drew)) (by simp only [List.length_take, List.length_drop]; have := HM.out; omega)).mono ?_; rintro e y5 ⟨f5, g5, j5, rfl, ho5, hg5⟩; obtain ⟨x5, gx5, dx5, rfl⟩ := Gr.unrow (show Has x0.drew T6 from dx0) hg5)
    | (go_at_call 65; refine (unitsFrom_calls _ rs _ _ T6 _ (HOW.out.gr ((Gr.refl _).drew.trans hg5)) HRNG.out hrl (by rw [rowW_size]; exact dx5)).mono ?_; rintro e y8 ⟨a8, n8, m8, rs8, rfl, hg8, ow8, hm8, far8⟩; obtain ⟨x8, gx8, dx8, rfl⟩ := Gr.unrow (dx5) hg8))
  go_upto_region 30 with fail
  have hneR : w.heap.size ≠ T6 := by omega
  have hneR' : T6 ≠ w.heap.size := by omega
  have CH := Lib.hid (show Gr (rowW x0 T6 [.int .i64 135, .int .i64 0, .int .i64 0, .int .i64 0, .int .i64 0, .int .i64 0, .slice none 0 0, .slice none 0 0, .slice none 0 0] 60) (rowW x8 T6 [.int .i64 135, .int .i64 0, .int .i64 0, .int .i64 0, .int .i64 0, .int .i64 0, .slice none 0 0, .slice none 0 0, .slice none 0 0] 60) from ((Gr.refl _).drew.trans (hg5.trans hg8)))
  have tB : T6 < x8.heap.size := dx8
  have GF := Lib.hid ((G2.out.trans CH.out).row (cs' := [.int .i64 135, .int .i64 0, .int .i64 0, .int .i64 0, .int .i64 0, .int .i64 0, .slice f5 g5 j5, .slice none 0 0, .slice a8 n8 m8]) (Nat.le_of_lt t2))
  have hRF : (rowW x8 T6 [.int .i64 135, .int .i64 0, .int .i64 0, .int .i64 0, .int .i64 0, .int .i64 0, .slice f5 g5 j5, .slice none 0 0, .slice a8 n8 m8] 60).heap[w.heap.size]? = _ := (rowW_other hneR).trans ((rowW_other hneR).symm.trans (heap_gr CH.out HR2.out))
  have ltB := Lib.hid (show T6 < (rowW x5 T6 [.int .i64 135, .int .i64 0, .int .i64 0, .int .i64 0, .int .i64 0, .int .i64 0, .slice none 0 0, .slice none 0 0, .slice none 0 0] 60).heap.size by rw [rowW_size]; exact dx5)
  have OF := Lib.hid ((ow8.reRow (cs' := [.int .i64 135, .int .i64 0, .int .i64 0, .int .i64 0, .int .i64 0, .int .i64 0, .slice f5 g5 j5, .slice none 0 0, .slice a8 n8 m8]) ltB.out).otherU (D' := w.heap.size) (fun p hp => far8 p hp _ (Nat.lt_trans t2 ltB.out)))
  have FR5 := Lib.hid (show ∀ k, k ≤ T6 → Aside (.slice f5 g5 j5) ((l.take 20).drop 4) k from fun k hk => ho5.aside (Nat.lt_of_le_of_lt hk (by first | (rw [rowW_size]; exact (show Has x0.drew T6 from dx0)) | (show T6 < (rowW x0 T6 _ _).heap.size; rw [rowW_size]; exact dx0))))
  have IB5 := Lib.hid (show IsB (rowW x8 T6 [.int .i64 135, .int .i64 0, .int .i64 0, .int .i64 0, .int .i64 0, .int .i64 0, .slice f5 g5 j5, .slice none 0 0, .slice a8 n8 m8] 60) (.slice f5 g5 j5) ((l.take 20).drop 4) from (ho5.isB.gr (hg8)).keptE (rowW_rowW (n := 0)) (FR5.out _ (Nat.le_refl _)))
  obtain ⟨zz, zR, zT, hzz⟩ := two_rows (w' := rowW x8 T6 [.int .i64 135, .int .i64 0, .int .i64 0, .int .i64 0, .int .i64 0, .int .i64 0, .slice f5 g5 j5, .slice none 0 0, .slice a8 n8 m8] 60) (A := w.heap.size) (B := T6) hRF (rowW_heap dx8) (Gr.refl _)
  have E7 := Lib.hid (show rs8.map Prod.fst = os.map outU by rw [hm8, HRS.out, List.map_map]; rfl)
  rw [hzz] at GF OF IB5 ⊢
  clear hzz hRF dx8 
  go_wp2_with fail
  refine bodyPost_ret (v := .tuple #[.agg #[.int .i64 135, .int .i64 0, .int .i64 0, .int .i64 0, .int .i64 0, .int .i64 0, .slice f5 g5 j5, .slice none 0 0, .slice a8 n8 m8], .bool true]) (by simp [results, Try.results38, go_sem, zR]) rfl ?_
  unfold DataNS
  exact ⟨_, _, _, _, _, _, rfl, IB5.out.keptE (rowW_rowW (n := 0)) (FR5.out _ (Nat.le_of_lt t2)), fun k hk => FR5.out k (Nat.le_of_lt (Nat.lt_trans hk t2)), ⟨(rowW x5 T6 [.int .i64 135, .int .i64 0, .int .i64 0, .int .i64 0, .int .i64 0, .int .i64 0, .slice none 0 0, .slice none 0 0, .slice none 0 0] 60).heap.size, rs8, Nat.le_of_lt (Nat.lt_trans t2 ltB.out), OF.out.turn (rowW_rowW (n := 0)) (Nat.lt_trans t2 ltB.out), E7.out, fun p hp k hk => far8 p hp k (Nat.lt_trans hk (Nat.lt_trans t2 ltB.out))⟩, Gr.row GF.out (Nat.le_refl _)⟩

set_option linter.unusedVariables false in
/-- what a message of this kind is as data -/
def DataNA (w w' : World) (l : List Int) (os : List Opt) (e : Ending) : Prop := ∃ f5 g5 j5 a8 n8 m8, e = .returned (.tuple #[.agg #[.int .i64 136, .int .i64 0, .int .i64 (bt l 0), .int .i64 0, .int .i64 0, .int .i64 0, .slice f5 g5 j5, .slice none 0 0, .slice a8 n8 m8], .bool true]) ∧ IsB w' (.slice f5 g5 j5) ((l.take 20).drop 4) ∧ (∀ k, k < w.heap.size → Aside (.slice f5 g5 j5) ((l.take 20).drop 4) k) ∧ (∃ base rs8, w.heap.size ≤ base ∧ OwnO .i64 .i64 w' base 98 w.heap.size (.slice a8 n8 m8) rs8 ∧ rs8.map Prod.fst = os.map outU ∧ ∀ p ∈ rs8, ∀ k, k < w.heap.size → Aside p.2 p.1.data k) ∧ Gr w w'

set_option linter.unusedSimpArgs false in
set_option maxRecDepth 100000 in
set_option maxHeartbeats 4000000 in
theorem readNA_calls (v : Value) (l : List Int) (os : List Opt) (w : World) (h : IsB w v l) (hl : 20 ≤ l.length) (hO : l.drop 20 = unitsB os) (hok : ∀ x ∈ os, UOk x) (hn : os.length ≤ 20) (hm : l.length ≤ 100000) :
    Calls Try.prog 38 #[.int .i64 136, v] w fun e w' => DataNA w w' l os e := by
  have H := Lib.hid h
  have HO := Lib.hid hO
  have HOK := Lib.hid hok
  have HM := Lib.hid hm
  clear h hO hok
  go_enter Try.func38, Try.ntmps38
  go_wp2_with (go_at_call 49; refine (nilFeedback_calls _).mono ?_; rintro e wN ⟨rfl, rfl⟩)
  refine (copied_calls _ l _ ?_ (by omega)).mono ?_
  · exact H.out.gr ((((Gr.refl w).alloc _).alloc _).alloc _)
  rintro e w1 ⟨a0, n0, m0, rfl, hoA, hgA⟩
  go_wp2_with fail
  have hR := heap_gr hgA (heap_gr ((Gr.refl _).alloc (.cells #[.slice none 0 0, .slice none 0 0, .int .u8 0, .slice none 0 0, .slice none 0 0] 146)) (heap_gr ((Gr.refl _).alloc (.cells #[.int .i64 136, .int .i64 0, .int .i64 0, .int .i64 0, .int .i64 0, .int .i64 0, .slice none 0 0, .slice none 0 0, .slice none 0 0] 60)) (heap_alloc_new w (.cells #[.int .i64 0, .int .i64 0, .int .i64 0, .int .i64 0, .int .i64 0, .int .i64 0, .slice none 0 0, .slice none 0 0, .slice none 0 0] 60))))
  have hT := heap_gr hgA (heap_gr ((Gr.refl _).alloc (.cells #[.slice none 0 0, .slice none 0 0, .int .u8 0, .slice none 0 0, .slice none 0 0] 146)) (heap_alloc_new (w.alloc (.cells #[.int .i64 0, .int .i64 0, .int .i64 0, .int .i64 0, .int .i64 0, .int .i64 0, .slice none 0 0, .slice none 0 0, .slice none 0 0] 60)) (.cells #[.int .i64 136, .int .i64 0, .int .i64 0, .int .i64 0, .int .i64 0, .int .i64 0, .slice none 0 0, .slice none 0 0, .slice none 0 0] 60)))
  have hD := heap_gr hgA (heap_alloc_new ((w.alloc (.cells #[.int .i64 0, .int .i64 0, .int .i64 0, .int .i64 0, .int .i64 0, .int .i64 0, .slice none 0 0, .slice none 0 0, .slice none 0 0] 60)).alloc (.cells #[.int .i64 136, .int .i64 0, .int .i64 0, .int .i64 0, .int .i64 0, .int .i64 0, .slice none 0 0, .slice none 0 0, .slice none 0 0] 60)) (.cells #[.slice none 0 0, .slice none 0 0, .int .u8 0, .slice none 0 0, .slice none 0 0] 146))
  have hS := hgA.size
  have gA := ((((Gr.refl w).alloc _).alloc _).alloc _).trans hgA
  simp only [World.size_alloc] at hT hD hS
  have HR := Lib.hid hR
  have HT := Lib.hid hT
  have HD := Lib.hid hD
  have GA := Lib.hid gA
  clear hR hT hD hgA gA
  refine (decNA_calls (w.heap.size + 1 + 1) _ _ _ l os w1 HD.out hoA.isB hl HO.out HOK.out hn (hoA.other (by simp))).mono ?_
  rintro e w2 hpost
  unfold PostNA at hpost
  obtain ⟨rfl, hgB, a5, n5, m5, a, n, m, rs, hb5, hx5, hd2, how, hrs, hob⟩ := hpost
  have hR2 : w2.heap[w.heap.size]? = _ := (hgB.block _ (by omega) (by simp; omega)).trans HR.out
  have hT2 : w2.heap[w.heap.size + 1]? = _ := (hgB.block _ (by omega) (by simp)).trans HT.out
  have G2 := Lib.hid (GA.out.step hgB (by omega))
  have hs2 := hgB.size
  obtain ⟨DD, hDe⟩ : ∃ DD, DD = w.heap.size + 1 + 1 := ⟨_, rfl⟩
  rw [← hDe] at hgB hd2 how ⊢
  obtain ⟨T6, hT6⟩ : ∃ T6, T6 = w.heap.size + 1 := ⟨_, rfl⟩
  have t1 : T6 < w2.heap.size := by omega
  have HNT := Lib.hid (show (Value.slice a0 n0 m0).ownBlock ≠ some T6 from hoA.other (by simp; omega))
  have HBT := Lib.hid (show T6 < w1.heap.size by omega)
  have t2 : w.heap.size < T6 := by omega
  have t3 : DD ≠ T6 := by omega
  rw [← hT6] at hT2
  have k0 := cell_of_heap (cs := [_, _, _, _, _]) hd2 0 _ rfl
  have k1 := cell_of_heap (cs := [_, _, _, _, _]) hd2 1 _ rfl
  have k2 := cell_of_heap (cs := [_, _, _, _, _]) hd2 2 _ rfl
  have k3 := cell_of_heap (cs := [_, _, _, _, _]) hd2 3 _ rfl
  have k4 := cell_of_heap (cs := [_, _, _, _, _]) hd2 4 _ rfl
  have HRNG := Lib.hid (show ∀ p ∈ rs, (0 ≤ p.1.kind ∧ p.1.kind ≤ 255) ∧ p.1.data.length ≤ 1000 from fun p hp => by
    have hmm : p.1 ∈ os.map outU := by rw [← hrs]; exact List.mem_map_of_mem hp
    obtain ⟨y, hy, hye⟩ := List.mem_map.1 hmm
    obtain ⟨h1, -, h3⟩ := HOK.out y hy
    rw [← hye]
    exact ⟨h1, (by show y.data.length ≤ 1000; omega)⟩)
  have hrl : rs.length ≤ 1000 := by have e := congrArg List.length hrs; rw [List.length_map, List.length_map] at e; omega
  have HRS := Lib.hid hrs
  have HOB := Lib.hid hob
  have HOW := Lib.hid how
  have HR2 := Lib.hid hR2
  have HB5 := Lib.hid hb5
  have p0 := hoA.bytes.bt0 0
  have q0 := hoA.bytes.bt1 0
  have uw0 : IntKind.i64.wrap (bt l 0) = bt l 0 := w64 (by omega) (by omega)
  clear hR2 how hrs hob hd2 hgB hb5
  obtain ⟨x0, dx0, rfl⟩ := one_row hT2 (Gr.refl w2)
  rw [rowW_size] at t1
  have x0' := (rowW_cell_other t3).symm.trans k0
  have x1' := (rowW_cell_other t3).symm.trans k1
  have x2' := (rowW_cell_other t3).symm.trans k2
  have x3' := (rowW_cell_other t3).symm.trans k3
  have x4' := (rowW_cell_other t3).symm.trans k4
  rw [← hT6]
  clear hT2 hT6 hDe hs2 hS hoA
  go_wp2_with fail
  go_region_held3 (fun w' => w'.cell? ⟨DD, 2, none⟩ = some (.int .u8 (bt l 0)) ∧ w'.cell? ⟨DD, 3, none⟩ = some (.slice a5 n5 m5) ∧ w'.cell? ⟨DD, 4, none⟩ = some (.slice a n m)) (first | exact ⟨k2, k3, k4⟩ | exact And.imp (Gr.cell hg8) (And.imp (Gr.cell hg8) (Gr.cell hg8)) (by assumption) | exact And.imp (Gr.cell hg5) (And.imp (Gr.cell hg5) (Gr.cell hg5)) (by assumption) | exact And.imp (rowW_swap t3) (And.imp (rowW_swap t3) (rowW_swap t3)) (by assumption) | go_keep) (first
    | (go_at_call_of 48 (Value.slice a5 n5 m5); refine (copied_calls _ ((l.take 20).drop 4) _ (HB5.out.gr ((Gr.refl _).drew)) (by simp only [List.length_take, List.length_drop]; have := HM.out; omega)).mono ?_; rintro e y5 ⟨f5, g5, j5, rfl, ho5, hg5⟩; obtain ⟨x5, gx5, dx5, rfl⟩ := Gr.unrow (show Has x0.drew T6 from dx0) hg5)
    | (go_at_call 65; refine (unitsFrom_calls _ rs _ _ T6 _ (HOW.out.gr ((Gr.refl _).drew.trans hg5)) HRNG.out hrl (by rw [rowW_size]; exact dx5)).mono ?_; rintro e y8 ⟨a8, n8, m8, rs8, rfl, hg8, ow8, hm8, far8⟩; obtain ⟨x8, gx8, dx8, rfl⟩ := Gr.unrow (dx5) hg8))
  go_upto_region 30 with fail
  have hneR : w.heap.size ≠ T6 := by omega
  have hneR' : T6 ≠ w.heap.size := by omega
  have CH := Lib.hid (show Gr (rowW x0 T6 [.int .i64 136, .int .i64 0, .int .i64 0, .int .i64 0, .int .i64 0, .int .i64 0, .slice none 0 0, .slice none 0 0, .slice none 0 0] 60) (rowW x8 T6 [.int .i64 136, .int .i64 0, .int .i64 0, .int .i64 0, .int .i64 0, .int .i64 0, .slice none 0 0, .slice none 0 0, .slice none 0 0] 60) from ((Gr.refl _).drew.trans (hg5.trans hg8)))
  have tB : T6 < x8.heap.size := dx8
  have GF := Lib.hid ((G2.out.trans CH.out).row (cs' := [.int .i64 136, .int .i64 0, .int .i64 (bt l 0), .int .i64 0, .int .i64 0, .int .i64 0, .slice f5 g5 j5, .slice none 0 0, .slice a8 n8 m8]) (Nat.le_of_lt t2))
  have hRF : (rowW x8 T6 [.int .i64 136, .int .i64 0, .int .i64 (bt l 0), .int .i64 0, .int .i64 0, .int .i64 0, .slice f5 g5 j5, .slice none 0 0, .slice a8 n8 m8] 60).heap[w.heap.size]? = _ := (rowW_other hneR).trans ((rowW_other hneR).symm.trans (heap_gr CH.out HR2.out))
  have ltB := Lib.hid (show T6 < (rowW x5 T6 [.int .i64 136, .int .i64 0, .int .i64 0, .int .i64 0, .int .i64 0, .int .i64 0, .slice none 0 0, .slice none 0 0, .slice none 0 0] 60).heap.size by rw [rowW_size]; exact dx5)
  have OF := Lib.hid ((ow8.reRow (cs' := [.int .i64 136, .int .i64 0, .int .i64 (bt l 0), .int .i64 0, .int .i64 0, .int .i64 0, .slice f5 g5 j5, .slice none 0 0, .slice a8 n8 m8]) ltB.out).otherU (D' := w.heap.size) (fun p hp => far8 p hp _ (Nat.lt_trans t2 ltB.out)))
  have FR5 := Lib.hid (show ∀ k, k ≤ T6 → Aside (.slice f5 g5 j5) ((l.take 20).drop 4) k from fun k hk => ho5.aside (Nat.lt_of_le_of_lt hk (by first | (rw [rowW_size]; exact (show Has x0.drew T6 from dx0)) | (show T6 < (rowW x0 T6 _ _).heap.size; rw [rowW_size]; exact dx0))))
  have IB5 := Lib.hid (show IsB (rowW x8 T6 [.int .i64 136, .int .i64 0, .int .i64 (bt l 0), .int .i64 0, .int .i64 0, .int .i64 0, .slice f5 g5 j5, .slice none 0 0, .slice a8 n8 m8] 60) (.slice f5 g5 j5) ((l.take 20).drop 4) from (ho5.isB.gr (hg8)).keptE (rowW_rowW (n := 0)) (FR5.out _ (Nat.le_refl _)))
  obtain ⟨zz, zR, zT, hzz⟩ := two_rows (w' := rowW x8 T6 [.int .i64 136, .int .i64 0, .int .i64 (bt l 0), .int .i64 0, .int .i64 0, .int .i64 0, .slice f5 g5 j5, .slice none 0 0, .slice a8 n8 m8] 60) (A := w.heap.size) (B := T6) hRF (rowW_heap dx8) (Gr.refl _)
  have E7 := Lib.hid (show rs8.map Prod.fst = os.map outU by rw [hm8, HRS.out, List.map_map]; rfl)
  rw [hzz] at GF OF IB5 ⊢
  clear hzz hRF dx8 
  go_wp2_with fail
  refine bodyPost_ret (v := .tuple #[.agg #[.int .i64 136, .int .i64 0, .int .i64 (bt l 0), .int .i64 0, .int .i64 0, .int .i64 0, .slice f5 g5 j5, .slice none 0 0, .slice a8 n8 m8], .bool true]) (by simp [results, Try.results38, go_sem, zR]) rfl ?_
  unfold DataNA
  exact ⟨_, _, _, _, _, _, rfl, IB5.out.keptE (rowW_rowW (n := 0)) (FR5.out _ (Nat.le_of_lt t2)), fun k hk => FR5.out k (Nat.le_of_lt (Nat.lt_trans hk t2)), ⟨(rowW x5 T6 [.int .i64 136, .int .i64 0, .int .i64 0, .int .i64 0, .int .i64 0, .int .i64 0, .slice none 0 0, .slice none 0 0, .slice none 0 0] 60).heap.size, rs8, Nat.le_of_lt (Nat.lt_trans t2 ltB.out), OF.out.turn (rowW_rowW (n := 0)) (Nat.lt_trans t2 ltB.out), E7.out, fun p hp k hk => far8 p hp k (Nat.lt_trans hk (Nat.lt_trans t2 ltB.out))⟩, Gr.row GF.out (Nat.le_refl _)⟩

set_option linter.unusedVariables false in
/-- what a message of this kind is as data -/
def DataRD (w w' : World) (l : List Int) (os : List Opt) (e : Ending) : Prop := ∃ f5 g5 j5 f6 g6 j6 a8 n8 m8, e = .returned (.tuple #[.agg #[.int .i64 137, .int .i64 0, .int .i64 0, .int .i64 0, .int .i64 0, .int .i64 0, .slice f5 g5 j5, .slice f6 g6 j6, .slice a8 n8 m8], .bool true]) ∧ IsB w' (.slice f5 g5 j5) ((l.take 20).drop 4) ∧ (∀ k, k < w.heap.size → Aside (.slice f5 g5 j5) ((l.take 20).drop 4) k) ∧ IsB w' (.slice f6 g6 j6) ((l.take 36).drop 20) ∧ (∀ k, k < w.heap.size → Aside (.slice f6 g6 j6) ((l.take 36).drop 20) k) ∧ (∃ base rs8, w.heap.size ≤ base ∧ OwnO .i64 .i64 w' base 98 w.heap.size (.slice a8 n8 m8) rs8 ∧ rs8.map Prod.fst = os.map outU ∧ ∀ p ∈ rs8, ∀ k, k < w.heap.size → Aside p.2 p.1.data k) ∧ Gr w w'

set_option linter.unusedSimpArgs false in
set_option maxRecDepth 100000 in
set_option maxHeartbeats 4000000 in
theorem readRD_calls (v : Value) (l : List Int) (os : List Opt) (w : World) (h : IsB w v l) (hl : 36 ≤ l.length) (hO : l.drop 36 = unitsB os) (hok : ∀ x ∈ os, UOk x) (hn : os.length ≤ 20) (hm : l.length ≤ 100000) :
    Calls Try.prog 38 #[.int .i64 137, v] w fun e w' => DataRD w w' l os e := by
  have H := Lib.hid h
  have HO := Lib.hid hO
  have HOK := Lib.hid hok
  have HM := Lib.hid hm
  clear h hO hok
  go_enter Try.func38, Try.ntmps38
  go_wp2_with (go_at_call 49; refine (nilFeedback_calls _).mono ?_; rintro e wN ⟨rfl, rfl⟩)
  refine (copied_calls _ l _ ?_ (by omega)).mono ?_
  · exact H.out.gr ((((Gr.refl w).alloc _).alloc _).alloc _)
  rintro e w1 ⟨a0, n0, m0, rfl, hoA, hgA⟩
  go_wp2_with fail
  have hR := heap_gr hgA (heap_gr ((Gr.refl _).alloc (.cells #[.slice none 0 0, .slice none 0 0, .slice none 0 0, .slice none 0 0, .slice none 0 0] 149)) (heap_gr ((Gr.refl _).alloc (.cells #[.int .i64 137, .int .i64 0, .int .i64 0, .int .i64 0, .int .i64 0, .int .i64 0, .slice none 0 0, .slice none 0 0, .slice none 0 0] 60)) (heap_alloc_new w (.cells #[.int .i64 0, .int .i64 0, .int .i64 0, .int .i64 0, .int .i64 0, .int .i64 0, .slice none 0 0, .slice none 0 0, .slice none 0 0] 60))))
  have hT := heap_gr hgA (heap_gr ((Gr.refl _).alloc (.cells #[.slice none 0 0, .slice none 0 0, .slice none 0 0, .slice none 0 0, .slice none 0 0] 149)) (heap_alloc_new (w.alloc (.cells #[.int .i64 0, .int .i64 0, .int .i64 0, .int .i64 0, .int .i64 0, .int .i64 0, .slice none 0 0, .slice none 0 0, .slice none 0 0] 60)) (.cells #[.int .i64 137, .int .i64 0, .int .i64 0, .int .i64 0, .int .i64 0, .int .i64 0, .slice none 0 0, .slice none 0 0, .slice none 0 0] 60)))
  have hD := heap_gr hgA (heap_alloc_new ((w.alloc (.cells #[.int .i64 0, .int .i64 0, .int .i64 0, .int .i64 0, .int .i64 0, .int .i64 0, .slice none 0 0, .slice none 0 0, .slice none 0 0] 60)).alloc (.cells #[.int .i64 137, .int .i64 0, .int .i64 0, .int .i64 0, .int .i64 0, .int .i64 0, .slice none 0 0, .slice none 0 0, .slice none 0 0] 60)) (.cells #[.slice none 0 0, .slice none 0 0, .slice none 0 0, .slice none 0 0, .slice none 0 0] 149))
  have hS := hgA.size
  have gA := ((((Gr.refl w).alloc _).alloc _).alloc _).trans hgA
  simp only [World.size_alloc] at hT hD hS
  have HR := Lib.hid hR
  have HT := Lib.hid hT
  have HD := Lib.hid hD
  have GA := Lib.hid gA
  clear hR hT hD hgA gA
  refine (decRD_calls (w.heap.size + 1 + 1) _ _ _ l os w1 HD.out hoA.isB hl HO.out HOK.out hn (hoA.other (by simp))).mono ?_
  rintro e w2 hpost
  unfold PostRD at hpost
  obtain ⟨rfl, hgB, a5, n5, m5, a6, n6, m6, a, n, m, rs, hb5, hx5, hb6, hx6, hd2, how, hrs, hob⟩ := hpost
  have hR2 : w2.heap[w.heap.size]? = _ := (hgB.block _ (by omega) (by simp; omega)).trans HR.out
  have hT2 : w2.heap[w.heap.size + 1]? = _ := (hgB.block _ (by omega) (by simp)).trans HT.out
  have G2 := Lib.hid (GA.out.step hgB (by omega))
  have hs2 := hgB.size
  obtain ⟨DD, hDe⟩ : ∃ DD, DD = w.heap.size + 1 + 1 := ⟨_, rfl⟩
  rw [← hDe] at hgB hd2 how ⊢
  obtain ⟨T6, hT6⟩ : ∃ T6, T6 = w.heap.size + 1 := ⟨_, rfl⟩
  have t1 : T6 < w2.heap.size := by omega
  have HNT := Lib.hid (show (Value.slice a0 n0 m0).ownBlock ≠ some T6 from hoA.other (by simp; omega))
  have HBT := Lib.hid (show T6 < w1.heap.size by omega)
  have t2 : w.heap.size < T6 := by omega
  have t3 : DD ≠ T6 := by omega
  rw [← hT6] at hT2
  have k0 := cell_of_heap (cs := [_, _, _, _, _]) hd2 0 _ rfl
  have k1 := cell_of_heap (cs := [_, _, _, _, _]) hd2 1 _ rfl
  have k2 := cell_of_heap (cs := [_, _, _, _, _]) hd2 2 _ rfl
  have k3 := cell_of_heap (cs := [_, _, _, _, _]) hd2 3 _ rfl
  have k4 := cell_of_heap (cs := [_, _, _, _, _]) hd2 4 _ rfl
  have HRNG := Lib.hid (show ∀ p ∈ rs, (0 ≤ p.1.kind ∧ p.1.kind ≤ 255) ∧ p.1.data.length ≤ 1000 from fun p hp => by
    have hmm : p.1 ∈ os.map outU := by rw [← hrs]; exact List.mem_map_of_mem hp
    obtain ⟨y, hy, hye⟩ := List.mem_map.1 hmm
    obtain ⟨h1, -, h3⟩ := HOK.out y hy
    rw [← hye]
    exact ⟨h1, (by show y.data.length ≤ 1000; omega)⟩)
  have hrl : rs.length ≤ 1000 := by have e := congrArg List.length hrs; rw [List.length_map, List.length_map] at e; omega
  have HRS := Lib.hid hrs
  have HOB := Lib.hid hob
  have HOW := Lib.hid how
  have HR2 := Lib.hid hR2
  have HB5 := Lib.hid hb5
  have HB6 := Lib.hid hb6
  clear hR2 how hrs hob hd2 hgB hb5 hb6
  obtain ⟨x0, dx0, rfl⟩ := one_row hT2 (Gr.refl w2)
  rw [rowW_size] at t1
  have x0' := (rowW_cell_other t3).symm.trans k0
  have x1' := (rowW_cell_other t3).symm.trans k1
  have x2' := (rowW_cell_other t3).symm.trans k2
  have x3' := (rowW_cell_other t3).symm.trans k3
  have x4' := (rowW_cell_other t3).symm.trans k4
  rw [← hT6]
  clear hT2 hT6 hDe hs2 hS hoA
  go_wp2_with fail
  go_region_held3 (fun w' => w'.cell? ⟨DD, 2, none⟩ = some (.slice a5 n5 m5) ∧ w'.cell? ⟨DD, 3, none⟩ = some (.slice a6 n6 m6) ∧ w'.cell? ⟨DD, 4, none⟩ = some (.slice a n m)) (first | exact ⟨k2, k3, k4⟩ | exact And.imp (Gr.cell hg8) (And.imp (Gr.cell hg8) (Gr.cell hg8)) (by assumption) | exact And.imp (Gr.cell hg6) (And.imp (Gr.cell hg6) (Gr.cell hg6)) (by assumption) | exact And.imp (Gr.cell hg5) (And.imp (Gr.cell hg5) (Gr.cell hg5)) (by assumption) | exact And.imp (rowW_swap t3) (And.imp (rowW_swap t3) (rowW_swap t3)) (by assumption) | go_keep) (first
    | (go_at_call_of 48 (Value.slice a5 n5 m5); refine (copied_calls _ ((l.take 20).drop 4) _ (HB5.out.gr ((Gr.refl _).drew)) (by simp only [List.length_take, List.length_drop]; have := HM.out; omega)).mono ?_; rintro e y5 ⟨f5, g5, j5, rfl, ho5, hg5⟩; obtain ⟨x5, gx5, dx5, rfl⟩ := Gr.unrow (show Has x0.drew T6 from dx0) hg5)
    | (go_at_call_of 48 (Value.slice a6 n6 m6); refine (copied_calls _ ((l.take 36).drop 20) _ (HB6.out.gr ((Gr.refl _).drew.trans hg5)) (by simp only [List.length_take, List.length_drop]; have := HM.out; omega)).mono ?_; rintro e y6 ⟨f6, g6, j6, rfl, ho6, hg6⟩; obtain ⟨x6, gx6, dx6, rfl⟩ := Gr.unrow (dx5) hg6)
    | (go_at_call 65; refine (unitsFrom_calls _ rs _ _ T6 _ (HOW.out.gr ((Gr.refl _).drew.trans (hg5.trans hg6))) HRNG.out hrl (by rw [rowW_size]; exact dx6)).mono ?_; rintro e y8 ⟨a8, n8, m8, rs8, rfl, hg8, ow8, hm8, far8⟩; obtain ⟨x8, gx8, dx8, rfl⟩ := Gr.unrow (dx6) hg8))
  go_upto_region 30 with fail
  have hneR : w.heap.size ≠ T6 := by omega
  have hneR' : T6 ≠ w.heap.size := by omega
  have CH := Lib.hid (show Gr (rowW x0 T6 [.int .i64 137, .int .i64 0, .int .i64 0, .int .i64 0, .int .i64 0, .int .i64 0, .slice none 0 0, .slice none 0 0, .slice none 0 0] 60) (rowW x8 T6 [.int .i64 137, .int .i64 0, .int .i64 0, .int .i64 0, .int .i64 0, .int .i64 0, .slice none 0 0, .slice none 0 0, .slice none 0 0] 60) from ((Gr.refl _).drew.trans (hg5.trans (hg6.trans hg8))))
  have tB : T6 < x8.heap.size := dx8
  have GF := Lib.hid ((G2.out.trans CH.out).row (cs' := [.int .i64 137, .int .i64 0, .int .i64 0, .int .i64 0, .int .i64 0, .int .i64 0, .slice f5 g5 j5, .slice f6 g6 j6, .slice a8 n8 m8]) (Nat.le_of_lt t2))
  have hRF : (rowW x8 T6 [.int .i64 137, .int .i64 0, .int .i64 0, .int .i64 0, .int .i64 0, .int .i64 0, .slice f5 g5 j5, .slice f6 g6 j6, .slice a8 n8 m8] 60).heap[w.heap.size]? = _ := (rowW_other hneR).trans ((rowW_other hneR).symm.trans (heap_gr CH.out HR2.out))
  have ltB := Lib.hid (show T6 < (rowW x6 T6 [.int .i64 137, .int .i64 0, .int .i64 0, .int .i64 0, .int .i64 0, .int .i64 0, .slice none 0 0, .slice none 0 0, .slice none 0 0] 60).heap.size by rw [rowW_size]; exact dx6)
  have OF := Lib.hid ((ow8.reRow (cs' := [.int .i64 137, .int .i64 0, .int .i64 0, .int .i64 0, .int .i64 0, .int .i64 0, .slice f5 g5 j5, .slice f6 g6 j6, .slice a8 n8 m8]) ltB.out).otherU (D' := w.heap.size) (fun p hp => far8 p hp _ (Nat.lt_trans t2 ltB.out)))
  have FR5 := Lib.hid (show ∀ k, k ≤ T6 → Aside (.slice f5 g5 j5) ((l.take 20).drop 4) k from fun k hk => ho5.aside (Nat.lt_of_le_of_lt hk (by first | (rw [rowW_size]; exact (show Has x0.drew T6 from dx0)) | (show T6 < (rowW x0 T6 _ _).heap.size; rw [rowW_size]; exact dx0))))
  have IB5 := Lib.hid (show IsB (rowW x8 T6 [.int .i64 137, .int .i64 0, .int .i64 0, .int .i64 0, .int .i64 0, .int .i64 0, .slice f5 g5 j5, .slice f6 g6 j6, .slice a8 n8 m8] 60) (.slice f5 g5 j5) ((l.take 20).drop 4) from (ho5.isB.gr (hg6.trans hg8)).keptE (rowW_rowW (n := 0)) (FR5.out _ (Nat.le_refl _)))
  have FR6 := Lib.hid (show ∀ k, k ≤ T6 → Aside (.slice f6 g6 j6) ((l.take 36).drop 20) k from fun k hk => ho6.aside (Nat.lt_of_le_of_lt hk (by first | (rw [rowW_size]; exact dx5) | (show T6 < (rowW x0 T6 _ _).heap.size; rw [rowW_size]; exact dx0))))
  have IB6 := Lib.hid (show IsB (rowW x8 T6 [.int .i64 137, .int .i64 0, .int .i64 0, .int .i64 0, .int .i64 0, .int .i64 0, .slice f5 g5 j5, .slice f6 g6 j6, .slice a8 n8 m8] 60) (.slice f6 g6 j6) ((l.take 36).drop 20) from (ho6.isB.gr (hg8)).keptE (rowW_rowW (n := 0)) (FR6.out _ (Nat.le_refl _)))
  obtain ⟨zz, zR, zT, hzz⟩ := two_rows (w' := rowW x8 T6 [.int .i64 137, .int .i64 0, .int .i64 0, .int .i64 0, .int .i64 0, .int .i64 0, .slice f5 g5 j5, .slice f6 g6 j6, .slice a8 n8 m8] 60) (A := w.heap.size) (B := T6) hRF (rowW_heap dx8) (Gr.refl _)
  have E7 := Lib.hid (show rs8.map Prod.fst = os.map outU by rw [hm8, HRS.out, List.map_map]; rfl)
  rw [hzz] at GF OF IB5 IB6 ⊢
  clear hzz hRF dx8 
  go_wp2_with fail
  refine bodyPost_ret (v := .tuple #[.agg #[.int .i64 137, .int .i64 0, .int .i64 0, .int .i64 0, .int .i64 0, .int .i64 0, .slice f5 g5 j5, .slice f6 g6 j6, .slice a8 n8 m8], .bool true]) (by simp [results, Try.results38, go_sem, zR]) rfl ?_
  unfold DataRD
  exact ⟨_, _, _, _, _, _, _, _, _, rfl, IB5.out.keptE (rowW_rowW (n := 0)) (FR5.out _ (Nat.le_of_lt t2)), fun k hk => FR5.out k (Nat.le_of_lt (Nat.lt_trans hk t2)), IB6.out.keptE (rowW_rowW (n := 0)) (FR6.out _ (Nat.le_of_lt t2)), fun k hk => FR6.out k (Nat.le_of_lt (Nat.lt_trans hk t2)), ⟨(rowW x6 T6 [.int .i64 137, .int .i64 0, .int .i64 0, .int .i64 0, .int .i64 0, .int .i64 0, .slice none 0 0, .slice none 0 0, .slice none 0 0] 60).heap.size, rs8, Nat.le_of_lt (Nat.lt_trans t2 ltB.out), OF.out.turn (rowW_rowW (n := 0)) (Nat.lt_trans t2 ltB.out), E7.out, fun p hp k hk => far8 p hp k (Nat.lt_trans hk (Nat.lt_trans t2 ltB.out))⟩, Gr.row GF.out (Nat.le_refl _)⟩

end Go.Proofs.Ytoopkfnkmaaieaa
