/-
  A message with one question for the root as the reference lays it.
-/
import Derived.Test.YtdhilikbmeffkaaDoorAppB
import Derived.Test.YtdhilikbmeffkaaDoorRecsD
import Derived.Test.YtdhilikbmeffkaaDoorLib3
import Derived.BigQuiet
import Derived.Deep.DeepCutAuto
namespace Go.Proofs.YtdhilikbmeffkaaDoor
open Go.RowKit

/-- an 'append' to the writer's bytes: the writer's row stays -/
theorem own_row {wb x : World} {V : Nat} {C : List Value} {t : TypeId} {base : Nat} {v : Value} {l : List Int} {X w4 : World} (hd : Has wb V) (hG : Gr wb x) (hb : wb.heap.size ≤ base) (hO : Own (rowW x V C t) base v l) (hX : Gr (rowW x V C t) X) (hg : X.grownBy w4 v.ownBlock) : ∃ x4, Gr wb x4 ∧ Has x4 V ∧ w4 = rowW x4 V C t := by
  have h1 : Gr (rowW wb V C t) (rowW x V C t) := by
    refine ⟨hG.os, hG.tape, hG.output, by rw [rowW_size, rowW_size]; exact hG.size, fun k hk hr => ?_⟩
    rw [rowW_size] at hk
    by_cases e : k = V
    · subst e
      rw [rowW_heap hd, rowW_heap (show k < x.heap.size from Nat.lt_of_lt_of_le hd hG.size)]
    · rw [rowW_other e, rowW_other e]
      exact hG.block k hk hr
  exact Gr.unrow hd (grownBy_step (h1.trans hX) hg (fun k hk => .inl (by rw [rowW_size]; have := hO.fresh k hk; omega)))
theorem own_slice {w : World} {b : Nat} {v : Value} {l : List Int} (h : Own w b v l) : ∃ a n c, v = .slice a n c := by
  obtain ⟨a, c, e, -⟩ := h.isB
  exact ⟨a, _, c, e⟩
theorem gr_rowB {wb x : World} {V : Nat} {C : List Value} {t : TypeId} (hd : Has wb V) (hG : Gr wb x) : Gr (rowW wb V C t) (rowW x V C t) := by
  refine ⟨hG.os, hG.tape, hG.output, by rw [rowW_size, rowW_size]; exact hG.size, fun k hk hr => ?_⟩
  rw [rowW_size] at hk
  by_cases e : k = V
  · subst e
    rw [rowW_heap hd, rowW_heap (show k < x.heap.size from Nat.lt_of_lt_of_le hd hG.size)]
  · rw [rowW_other e, rowW_other e]
    exact hG.block k hk hr
theorem Own.reRow {w : World} {V : Nat} {C C' : List Value} {t : TypeId} {base : Nat} {v : Value} {l : List Int} (h : Own (rowW w V C t) base v l) (hV : V < base) : Own (rowW w V C' t) base v l := by
  refine ⟨h.1.kept (rowW_rowW (n := 0) (cs' := C')) ?_, h.2⟩
  right
  intro e
  have := h.fresh V e
  omega

set_option maxRecDepth 100000 in
theorem labels0_calls (w : World) : Calls Tryd.prog 30 #[.string ⟨#[]⟩] w fun e w' => e = .returned (.slice none 0 0) ∧ w' = w := by
  go_enter Tryd.func30, Tryd.ntmps30
  go_wp2_with fail
  go_ret
  exact ⟨rfl, rfl⟩

set_option linter.unusedSimpArgs false in
set_option maxRecDepth 100000 in
set_option maxHeartbeats 2000000 in
/-- the root is written -/
theorem domain0_calls (V : Nat) (p : Bool) (m a : _) (n c : Nat) (l : List Int) (base : Nat) (wb x : World) (hd : Has wb V) (hG : Gr wb x) (hX : Has x V) (hb : wb.heap.size ≤ base) (hbx : base ≤ x.heap.size) (hO : Own (rowW x V [.slice a n c, .bool p, .map m] 51) base (.slice a n c) l) (hl : l.length ≤ 1000000) :
    Calls Tryd.prog 21 #[.pointer (some ⟨V, 0, none⟩), .string ⟨#[]⟩] (rowW x V [.slice a n c, .bool p, .map m] 51) fun e w' => e = .returned (.tuple #[]) ∧ ∃ x4 a4 n4 c4, Gr wb x4 ∧ Has x4 V ∧ w' = rowW x4 V [.slice a4 n4 c4, .bool p, .map m] 51 ∧ Own w' base (.slice a4 n4 c4) (l ++ [0]) ∧ ∀ k, k < x.heap.size → (Value.slice a n c).ownBlock ≠ some k → k ≠ V → x4.heap[k]? = x.heap[k]? ∧ (Value.slice a4 n4 c4).ownBlock ≠ some k := by
  have HO := Lib.hid hO
  have HG := Lib.hid hG
  have hVb : V < base := Nat.lt_of_lt_of_le hd hb
  clear hO hG
  go_enter Tryd.func21, Tryd.ntmps21
  go_wp2_with (go_at_call 30; refine (labels0_calls _).mono ?_; rintro e w9 ⟨rfl, rfl⟩)
  refine wp_loop_rounds 1 ?_
  rw [rounds_succ]
  go_wp2_with (at_builtin; refine wpList_appB2 rfl (.tmp 90) (.tmp 91) 27 rfl Tryd.underlying27 info_u8 base (.slice a n c) (.slice (some ⟨x.heap.size, 0, none⟩) 1 1) l [0] (by simp [Act.eval]) (HO.out.gr ((Gr.refl _).alloc _)) (by simp [Act.eval]) (lit1_at _ _ _ (rowW_size (w := x)).symm (by omega)) (by simp; omega) (by simp only [World.size_alloc, rowW_size]; omega) ?_; intro v4 w4 ho4 hg4 hat4; obtain ⟨a4, c4, rfl, -⟩ := id ho4.isB; obtain ⟨x4, gx4, dx4, rfl⟩ := own_row hd HG.out hb HO.out ((Gr.refl _).alloc _) hg4)
  exact bodyPost_end (v := .tuple #[]) (by simp [results, Tryd.results21, go_sem]) rfl ⟨rfl, _, _, _, _, gx4, dx4, rfl, (by have h9 := Own.reRow (C' := [.slice a4 (l.length + 1) c4, .bool p, .map m]) ho4 hVb; simpa using h9), fun k hk hne hkV => ⟨by have e1 := hg4.block k (by rw [World.size_alloc, rowW_size]; omega) (fun e => hne e.symm); rw [rowW_other hkV] at e1; rw [e1, ((Gr.refl (rowW x V [.slice a n c, .bool p, .map m] 51)).alloc (.cells #[.int .u8 0] 5)).block k (by rw [rowW_size]; exact hk) (by simp), rowW_other hkV], own_far (by simpa using hat4) hne (by rw [rowW_size]; omega)⟩⟩

theorem take_sh {k : Nat} (h : k < 4) : (([1, 0, 0, 0] : List Int).take (k + 1) |>.map sh).flatten = (([1, 0, 0, 0] : List Int).take k |>.map sh).flatten ++ sh (([1, 0, 0, 0] : List Int).getD k 0) := by
  match k, h with
  | 0, _ => rfl
  | 1, _ => rfl
  | 2, _ => rfl
  | 3, _ => rfl
/-- .. ahead of a round that writes a count -/
def LpRel (wb : World) (V : Nat) (m : Option Nat) (base L : Nat) (arr : List Value) (l0 : List Int) (ns : List Int) (i : Value) (wr : World) : Prop := ∃ k x a n c, k ≤ 4 ∧ i = .int .i64 (k : Nat) ∧ wr = rowW x V [.slice a n c, .bool false, .map m] 51 ∧ Has x V ∧ Gr wb x ∧ base ≤ x.heap.size ∧ Own wr base (.slice a n c) (l0 ++ ((ns.take k).map sh).flatten) ∧
  (Value.slice a n c).ownBlock ≠ some L ∧ L < x.heap.size ∧ ∀ (j : Nat) (u : Value), arr[j]? = some u → x.cell? ⟨L, j, none⟩ = some u
/-- the writer's bytes -/
def WrRel (wb : World) (V : Nat) (m : Option Nat) (base : Nat) (l : List Int) (wx : World) : Prop := ∃ x a n c, wx = rowW x V [.slice a n c, .bool false, .map m] 51 ∧ Has x V ∧ Gr wb x ∧ base ≤ x.heap.size ∧ Own wx base (.slice a n c) l
theorem cell_ltY {w : World} {g o : Nat} {u : Value} (h : w.cell? ⟨g, o, none⟩ = some u) : g < w.heap.size := by
  rcases Nat.lt_or_ge g w.heap.size with h1 | h1
  · exact h1
  · have : w.heap[g]? = none := Array.getElem?_eq_none h1
    simp [World.cell?, this] at h

set_option linter.unusedSimpArgs false in
set_option linter.unusedVariables false in
set_option maxRecDepth 100000 in
set_option maxHeartbeats 8000000 in
theorem dnsBytes1_calls (idn kd cl : Int) (gq : Nat) (w : World) (h0 : w.cell? ⟨gq, 0, none⟩ = some (.string ⟨#[]⟩)) (h1 : w.cell? ⟨gq, 1, none⟩ = some (.int .i64 kd)) (h2 : w.cell? ⟨gq, 2, none⟩ = some (.int .i64 cl)) :
    Calls Tryd.prog 9 #[.agg #[.int .i64 idn, .bool false, .int .i64 0, .bool false, .bool false, .bool false, .bool false, .int .i64 0, .int .i64 0, .slice (some ⟨gq, 0, none⟩) 1 1, .slice none 0 0, .slice none 0 0, .slice none 0 0], .bool false] w (RetB w ([sh idn, sh 0, sh 1, sh 0, sh 0, sh 0, [0], sh kd, sh cl].flatten)) := by
  obtain ⟨R, hR⟩ : ∃ R, R = [sh idn, sh 0, sh 1, sh 0, sh 0, sh 0, [0], sh kd, sh cl].flatten := ⟨_, rfl⟩
  rw [← hR]
  have HRR := Lib.hid hR
  clear hR
  have hmm := @run_makeMap Tryd.prog
  have hbif : bi false = 0 := rfl
  have or0 : bits .or .i64 0 0 = 0 := by decide
  go_enter Tryd.func9, Tryd.ntmps9
  go_wp2_with fail
  obtain ⟨B0, hB0⟩ : ∃ B0, B0 = w.heap.size := ⟨_, rfl⟩
  obtain ⟨Y, hY⟩ : ∃ Y : World, Y = ((w.alloc (.cells [.int .i64 idn, .bool false, .int .i64 0, .bool false, .bool false, .bool false, .bool false, .int .i64 0, .int .i64 0, .slice (some ⟨gq, 0, none⟩) 1 1, .slice none 0 0, .slice none 0 0, .slice none 0 0].toArray 25)).alloc (.map #[] 0)).alloc (.cells [.slice none 0 0, .bool false, .map (some (w.heap.size + 1))].toArray 51) := ⟨_, rfl⟩
  rw [← hY, ← hB0]
  obtain ⟨V, hV⟩ : ∃ V, V = w.heap.size + 1 + 1 := ⟨_, rfl⟩
  rw [hB0] at *
  rw [← hV]
  have gY : Gr w Y := by rw [hY]; exact (((Gr.refl w).alloc _).alloc _).alloc _
  have rV : Y.heap[V]? = some (.cells [.slice none 0 0, .bool false, .map (some (w.heap.size + 1))].toArray 51 (0, 0)) := by
    have e := heap_alloc_new ((w.alloc (.cells [.int .i64 idn, .bool false, .int .i64 0, .bool false, .bool false, .bool false, .bool false, .int .i64 0, .int .i64 0, .slice (some ⟨gq, 0, none⟩) 1 1, .slice none 0 0, .slice none 0 0, .slice none 0 0].toArray 25)).alloc (.map #[] 0)) (.cells [.slice none 0 0, .bool false, .map (some (w.heap.size + 1))].toArray 51)
    simp only [World.size_alloc] at e
    rw [hY, hV]; exact e
  have rB : ∀ (j : Nat) (u : Value), ([.int .i64 idn, .bool false, .int .i64 0, .bool false, .bool false, .bool false, .bool false, .int .i64 0, .int .i64 0, .slice (some ⟨gq, 0, none⟩) 1 1, .slice none 0 0, .slice none 0 0, .slice none 0 0] : List Value)[j]? = some u → Y.cell? ⟨w.heap.size, j, none⟩ = some u := by
    intro j u hj
    rw [hY]
    exact Gr.cell (((Gr.refl _).alloc _).alloc _) (cell_of_heap (heap_alloc_new w (.cells [.int .i64 idn, .bool false, .int .i64 0, .bool false, .bool false, .bool false, .bool false, .int .i64 0, .int .i64 0, .slice (some ⟨gq, 0, none⟩) 1 1, .slice none 0 0, .slice none 0 0, .slice none 0 0].toArray 25)) j u hj)
  have sY : Y.heap.size = V + 1 := by rw [hY, hV]; simp only [World.size_alloc]
  clear hY
  obtain ⟨wb, hd, rfl⟩ := one_row rV (Gr.refl Y)
  rw [rowW_size] at sY
  have neB : w.heap.size ≠ V := by omega
  have glt : gq < w.heap.size := cell_ltY h0
  have neG : gq ≠ V := by omega
  have kB0 := (rowW_cell_other neB).symm.trans (rB 0 _ rfl)
  have kB1 := (rowW_cell_other neB).symm.trans (rB 1 _ rfl)
  have kB2 := (rowW_cell_other neB).symm.trans (rB 2 _ rfl)
  have kB3 := (rowW_cell_other neB).symm.trans (rB 3 _ rfl)
  have kB4 := (rowW_cell_other neB).symm.trans (rB 4 _ rfl)
  have kB5 := (rowW_cell_other neB).symm.trans (rB 5 _ rfl)
  have kB6 := (rowW_cell_other neB).symm.trans (rB 6 _ rfl)
  have kB7 := (rowW_cell_other neB).symm.trans (rB 7 _ rfl)
  have kB8 := (rowW_cell_other neB).symm.trans (rB 8 _ rfl)
  have kB9 := (rowW_cell_other neB).symm.trans (rB 9 _ rfl)
  have kB10 := (rowW_cell_other neB).symm.trans (rB 10 _ rfl)
  have kB11 := (rowW_cell_other neB).symm.trans (rB 11 _ rfl)
  have kB12 := (rowW_cell_other neB).symm.trans (rB 12 _ rfl)
  have KB := Lib.hid (And.intro kB0 (And.intro kB9 (And.intro kB10 (And.intro kB11 kB12))))
  have KQ := Lib.hid (And.intro ((rowW_cell_other neG).symm.trans (gY.cell h0)) (And.intro ((rowW_cell_other neG).symm.trans (gY.cell h1)) ((rowW_cell_other neG).symm.trans (gY.cell h2))))
  have GY := Lib.hid gY
  have HV := Lib.hid hV
  obtain ⟨mp, hmp⟩ : ∃ mp, mp = w.heap.size + 1 := ⟨_, rfl⟩
  rw [← hmp]
  have HMP := Lib.hid hmp
  clear h0 h1 h2 gY rV rB hV hB0 hmp
  go_region_held3 (fun w' => w'.cell? ⟨w.heap.size, 1, none⟩ = some (.bool false) ∧ w'.cell? ⟨w.heap.size, 2, none⟩ = some (.int .i64 0) ∧ w'.cell? ⟨w.heap.size, 3, none⟩ = some (.bool false) ∧ w'.cell? ⟨w.heap.size, 4, none⟩ = some (.bool false) ∧ w'.cell? ⟨w.heap.size, 5, none⟩ = some (.bool false) ∧ w'.cell? ⟨w.heap.size, 6, none⟩ = some (.bool false) ∧ w'.cell? ⟨w.heap.size, 7, none⟩ = some (.int .i64 0) ∧ w'.cell? ⟨w.heap.size, 8, none⟩ = some (.int .i64 0)) (first | exact ⟨(rowW_cell_other neB).trans kB1, (rowW_cell_other neB).trans kB2, (rowW_cell_other neB).trans kB3, (rowW_cell_other neB).trans kB4, (rowW_cell_other neB).trans kB5, (rowW_cell_other neB).trans kB6, (rowW_cell_other neB).trans kB7, (rowW_cell_other neB).trans kB8⟩ | assumption | go_keep) (first | (go_at_call 19; refine (bit_calls _ _).mono ?_; rintro e w9 ⟨rfl, rfl⟩; rw [hbif]))
  have hlo : w.heap.size < wb.heap.size := by have := HV.out; omega
  have hVb : V < wb.heap.size := hd
  have hbl : wb.heap.size ≤ wb.heap.size := Nat.le_refl _
  obtain ⟨x, hxe⟩ : ∃ x : World, x = wb.drew := ⟨_, rfl⟩
  rw [← hxe]
  have HG := Lib.hid (show Gr wb x by rw [hxe]; exact (Gr.refl wb).drew)
  have hX : Has x V := by rw [hxe]; exact hd
  have hbx0 : wb.heap.size ≤ x.heap.size := by rw [hxe]; exact Nat.le_refl _
  have HO := Lib.hid (show Own (rowW x V [.slice none 0 0, .bool false, .map (some mp)] 51) wb.heap.size (.slice none 0 0) [] from ⟨World.ownsRow_nil _ _ _ _, allB_nil⟩)
  have HLL := Lib.hid (show ([] : List Int).length ≤ 1000 by simp)
  clear hxe
  go_upto_region 3 with fail
  go_cut [] (fun wx => WrRel wb V (some mp) wb.heap.size (sh idn ++ sh 0) wx)
  case first =>
    refine wp_region_held_drew (S := (fun w' => w'.cell? ⟨w.heap.size, 0, none⟩ = some (.int .i64 idn))) (by kernel_rfl) ((rowW_cell_other neB).trans (HG.out.cell KB.out.1)) (fun hHeld => ?_)
    refine wpAnyH_take (i := 0) (v := .pointer (some ⟨V, 0, none⟩)) rfl (by kernel_rfl) (by kernel_rfl) (by kernel_rfl) (fun _ _ _ h => h) (Or.inl ⟨by rfl, fun w' hS => ?_⟩) (by assumption) ?_
    · obtain c0 := hS
      clear hHeld
      go_simp
    try simp only [Act.put, List.getElem_toArray, List.getElem_cons_succ, List.getElem_cons_zero, List.setIfInBounds_toArray, List.set_cons_zero, List.set_cons_succ]
    refine wpAnyH_take (i := 1) (v := .pointer (some ⟨V, 0, none⟩)) rfl (by kernel_rfl) (by kernel_rfl) (by kernel_rfl) (fun _ _ _ h => h) (Or.inl ⟨by rfl, fun w' hS => ?_⟩) (by assumption) ?_
    · obtain c0 := hS
      clear hHeld
      go_simp
    try simp only [Act.put, List.getElem_toArray, List.getElem_cons_succ, List.getElem_cons_zero, List.setIfInBounds_toArray, List.set_cons_zero, List.set_cons_succ]
    refine wpAnyH_take (i := 2) (v := .pointer (some ⟨V, 0, none⟩)) rfl (by kernel_rfl) (by kernel_rfl) (by kernel_rfl) (fun _ _ _ h => h) (Or.inl ⟨by rfl, fun w' hS => ?_⟩) (by assumption) ?_
    · obtain c0 := hS
      clear hHeld
      go_simp
    try simp only [Act.put, List.getElem_toArray, List.getElem_cons_succ, List.getElem_cons_zero, List.setIfInBounds_toArray, List.set_cons_zero, List.set_cons_succ]
    refine wpAnyH_take (i := 3) (v := .pointer (some ⟨V, 0, none⟩)) rfl (by kernel_rfl) (by kernel_rfl) (by kernel_rfl) (fun _ _ _ h => h) (Or.inl ⟨by rfl, fun w' hS => ?_⟩) (by assumption) ?_
    · obtain c0 := hS
      clear hHeld
      go_simp
    try simp only [Act.put, List.getElem_toArray, List.getElem_cons_succ, List.getElem_cons_zero, List.setIfInBounds_toArray, List.set_cons_zero, List.set_cons_succ]
    refine wpAnyH_take (i := 5) (v := .pointer (some ⟨w.heap.size, 0, none⟩)) rfl (by kernel_rfl) (by kernel_rfl) (by kernel_rfl) (fun _ _ _ h => h) (Or.inl ⟨by rfl, fun w' hS => ?_⟩) (by assumption) ?_
    · obtain c0 := hS
      clear hHeld
      go_simp
    try simp only [Act.put, List.getElem_toArray, List.getElem_cons_succ, List.getElem_cons_zero, List.setIfInBounds_toArray, List.set_cons_zero, List.set_cons_succ]
    refine wpAnyH_take (i := 6) (v := .int .i64 idn) rfl (by kernel_rfl) (by kernel_rfl) (by kernel_rfl) (fun _ _ _ h => h) (Or.inl ⟨by rfl, fun w' hS => ?_⟩) (by assumption) ?_
    · obtain c0 := hS
      clear hHeld
      go_simp
    try simp only [Act.put, List.getElem_toArray, List.getElem_cons_succ, List.getElem_cons_zero, List.setIfInBounds_toArray, List.set_cons_zero, List.set_cons_succ]
    refine wpAnyH_take (i := 9) (v := .int .i64 0) rfl (by kernel_rfl) (by kernel_rfl) (by kernel_rfl) (fun _ _ _ h => h) (Or.inl ⟨by rfl, fun w' hS => ?_⟩) (by assumption) ?_
    · obtain c0 := hS
      clear hHeld
      go_simp
    try simp only [Act.put, List.getElem_toArray, List.getElem_cons_succ, List.getElem_cons_zero, List.setIfInBounds_toArray, List.set_cons_zero, List.set_cons_succ]
    refine wpAnyH_ready (rs := [4, 7]) (by kernel_rfl) (by simp) ((AllReadyH.cons rfl (fun K hK => ?_) (AllReadyH.cons rfl (fun K hK => ?_) AllReadyH.nil)))
    · have sC : (rowW x V [.slice none 0 0, .bool false, .map (some mp)] 51).cell? ⟨w.heap.size, 0, none⟩ = some (.int .i64 idn) := ((rowW_cell_other neB).trans (HG.out.cell KB.out.1))
      refine step_loadc (by rfl) 27 (.tmp 57) (by rfl) V 0 (by first | rfl | simp) (.slice none 0 0) 5 Tryd.underlying27 (rowW_cell (cs := [.slice none 0 0, .bool false, .map (some mp)]) (e := 51) hX 0) ?_
      refine hK.out _ _ sC (fun hHeld => ?_)
      clear hK K
      try simp only [Act.put, List.getElem_toArray, List.getElem_cons_succ, List.getElem_cons_zero, List.setIfInBounds_toArray, List.set_cons_zero, List.set_cons_succ]
      refine wpAnyH_ready (rs := [7]) (by kernel_rfl) (by simp) ((AllReadyH.cons rfl (fun K hK => ?_) AllReadyH.nil))
      go_simp
      go_at_call 20
      refine (short_calls _ _).mono ?_
      rintro e w0 ⟨p0, q0, r0, rfl, hs0, hg0⟩
      obtain ⟨y0, gy0, dy0, rfl⟩ := Gr.unrow (show Has x.drew V from hX) hg0
      have G0 : Gr wb y0 := (HG.out.drew).trans gy0
      have O0 := Own.gr (show Own (rowW x.drew V [.slice none 0 0, .bool false, .map (some mp)] 51) wb.heap.size (.slice none 0 0) ([]) from HO.out) hg0
      have I0 := hs0.isB
      have sC := Gr.cell hg0 sC
      have b0 : wb.heap.size ≤ y0.heap.size := Nat.le_trans hbx0 gy0.size
      refine hK.out _ _ sC (fun hHeld => ?_)
      clear hK K
      try simp only [Act.put, List.getElem_toArray, List.getElem_cons_succ, List.getElem_cons_zero, List.setIfInBounds_toArray, List.set_cons_zero, List.set_cons_succ]
      refine wpAnyH_ready (rs := [8]) (by kernel_rfl) (by simp) ((AllReadyH.cons rfl (fun K hK => ?_) AllReadyH.nil))
      refine step_appB rfl (.tmp 58) (.tmp 61) 27 rfl Tryd.underlying27 info_u8 wb.heap.size (.slice none 0 0) (.slice p0 q0 r0) ([]) (sh idn) (by first | rfl | simp [Act.eval]) O0 (by first | rfl | simp [Act.eval]) I0 (by have := HLL.out; simp [sh] <;> omega) (by rw [rowW_size]; exact b0) ?_
      intro v0 u0 ha0 hh0 hat0
      obtain ⟨a0, n0, c0, rfl⟩ := own_slice ha0
      obtain ⟨z0, gz0, dz0, rfl⟩ := own_row hd G0 hbl O0 (Gr.refl _) hh0
      have sC := World.grownBy.cell hh0 sC (fun e => by have h9 : wb.heap.size ≤ w.heap.size := O0.fresh _ e.symm; omega)
      have hbx1 : wb.heap.size ≤ z0.heap.size := by have h1 := hh0.size; rw [rowW_size, rowW_size] at h1; exact Nat.le_trans b0 h1
      refine hK.out _ _ sC (fun hHeld => ?_)
      clear hK K
      try simp only [Act.put, List.getElem_toArray, List.getElem_cons_succ, List.getElem_cons_zero, List.setIfInBounds_toArray, List.set_cons_zero, List.set_cons_succ]
      refine wpAnyH_ready (rs := [10]) (by kernel_rfl) (by simp) ((AllReadyH.cons rfl (fun K hK => ?_) AllReadyH.nil))
      go_simp
      go_at_call 20
      refine (short_calls _ _).mono ?_
      rintro e w1 ⟨p1, q1, r1, rfl, hs1, hg1⟩
      obtain ⟨y1, gy1, dy1, rfl⟩ := Gr.unrow (show Has z0 V from dz0) hg1
      have G1 : Gr wb y1 := (gz0).trans gy1
      have O1 := Own.gr (show Own (rowW z0 V [.slice none 0 0, .bool false, .map (some mp)] 51) wb.heap.size (.slice a0 n0 c0) (([]) ++ sh idn) from ha0) hg1
      have I1 := hs1.isB
      have sC := Gr.cell hg1 sC
      have b1 : wb.heap.size ≤ y1.heap.size := Nat.le_trans hbx1 gy1.size
      refine hK.out _ _ sC (fun hHeld => ?_)
      clear hK K
      try simp only [Act.put, List.getElem_toArray, List.getElem_cons_succ, List.getElem_cons_zero, List.setIfInBounds_toArray, List.set_cons_zero, List.set_cons_succ]
      refine wpAnyH_ready (rs := [11]) (by kernel_rfl) (by simp) ((AllReadyH.cons rfl (fun K hK => ?_) AllReadyH.nil))
      refine step_appB rfl (.tmp 62) (.tmp 64) 27 rfl Tryd.underlying27 info_u8 wb.heap.size (.slice a0 n0 c0) (.slice p1 q1 r1) (([]) ++ sh idn) (sh 0) (by first | rfl | simp [Act.eval]) O1 (by first | rfl | simp [Act.eval]) I1 (by have := HLL.out; simp [sh] <;> omega) (by rw [rowW_size]; exact b1) ?_
      intro v1 u1 ha1 hh1 hat1
      obtain ⟨a1, n1, c1, rfl⟩ := own_slice ha1
      obtain ⟨z1, gz1, dz1, rfl⟩ := own_row hd G1 hbl O1 (Gr.refl _) hh1
      have sC := World.grownBy.cell hh1 sC (fun e => by have h9 : wb.heap.size ≤ w.heap.size := O1.fresh _ e.symm; omega)
      have hbx2 : wb.heap.size ≤ z1.heap.size := by have h1 := hh1.size; rw [rowW_size, rowW_size] at h1; exact Nat.le_trans b1 h1
      refine hK.out _ _ sC (fun hHeld => ?_)
      clear hK K
      try simp only [Act.put, List.getElem_toArray, List.getElem_cons_succ, List.getElem_cons_zero, List.setIfInBounds_toArray, List.set_cons_zero, List.set_cons_succ]
      refine wpAnyH_take (i := 12) (v := .pointer (some ⟨V, 0, none⟩)) rfl (by kernel_rfl) (by kernel_rfl) (by kernel_rfl) (fun _ _ _ h => h) (Or.inl ⟨by rfl, fun w' hS => ?_⟩) (by assumption) ?_
      · obtain c0 := hS
        clear hHeld
        go_simp
      try simp only [Act.put, List.getElem_toArray, List.getElem_cons_succ, List.getElem_cons_zero, List.setIfInBounds_toArray, List.set_cons_zero, List.set_cons_succ]
      refine wpAnyH_take (i := 13) (v := .pointer (some ⟨V, 0, none⟩)) rfl (by kernel_rfl) (by kernel_rfl) (by kernel_rfl) (fun _ _ _ h => h) (Or.inl ⟨by rfl, fun w' hS => ?_⟩) (by assumption) ?_
      · obtain c0 := hS
        clear hHeld
        go_simp
      try simp only [Act.put, List.getElem_toArray, List.getElem_cons_succ, List.getElem_cons_zero, List.setIfInBounds_toArray, List.set_cons_zero, List.set_cons_succ]
      refine wpAnyH_ready (rs := [14]) (by kernel_rfl) (by simp) ((AllReadyH.cons rfl (fun K hK => ?_) AllReadyH.nil))
      go_simp
      have sC : (rowW z1 V [.slice a1 n1 c1, .bool false, .map (some mp)] 51).cell? ⟨w.heap.size, 0, none⟩ = some (.int .i64 idn) := rowW_swap neB sC
      refine hK.out _ _ sC (fun hHeld => ?_)
      clear hK K
      try simp only [Act.put, List.getElem_toArray, List.getElem_cons_succ, List.getElem_cons_zero, List.setIfInBounds_toArray, List.set_cons_zero, List.set_cons_succ]
      refine wpAnyH_done (by kernel_rfl) ?_ _
      clear hHeld
      have hOE := Own.reRow (C' := [.slice a1 n1 c1, .bool false, .map (some mp)]) (t := 51) (show Own (rowW z1 V [.slice none 0 0, .bool false, .map (some mp)] 51) wb.heap.size (.slice a1 n1 c1) ((([]) ++ sh idn) ++ sh 0) from ha1) hVb
      go_wp2_with fail
      go_meet
      unfold WrRel
      exact ⟨z1, _, _, _, rfl, dz1, gz1, by assumption, by simpa using hOE⟩
    · have sC : (rowW x V [.slice none 0 0, .bool false, .map (some mp)] 51).cell? ⟨w.heap.size, 0, none⟩ = some (.int .i64 idn) := ((rowW_cell_other neB).trans (HG.out.cell KB.out.1))
      go_simp
      go_at_call 20
      refine (short_calls _ _).mono ?_
      rintro e w0 ⟨p0, q0, r0, rfl, hs0, hg0⟩
      obtain ⟨y0, gy0, dy0, rfl⟩ := Gr.unrow (show Has x.drew V from hX) hg0
      have G0 : Gr wb y0 := (HG.out.drew).trans gy0
      have O0 := Own.gr (show Own (rowW x.drew V [.slice none 0 0, .bool false, .map (some mp)] 51) wb.heap.size (.slice none 0 0) ([]) from HO.out) hg0
      have I0 := hs0.isB
      have sC := Gr.cell hg0 sC
      have b0 : wb.heap.size ≤ y0.heap.size := Nat.le_trans hbx0 gy0.size
      refine hK.out _ _ sC (fun hHeld => ?_)
      clear hK K
      try simp only [Act.put, List.getElem_toArray, List.getElem_cons_succ, List.getElem_cons_zero, List.setIfInBounds_toArray, List.set_cons_zero, List.set_cons_succ]
      refine wpAnyH_ready (rs := [4]) (by kernel_rfl) (by simp) ((AllReadyH.cons rfl (fun K hK => ?_) AllReadyH.nil))
      refine step_loadc (by rfl) 27 (.tmp 57) (by rfl) V 0 (by first | rfl | simp) (.slice none 0 0) 5 Tryd.underlying27 (rowW_cell (cs := [.slice none 0 0, .bool false, .map (some mp)]) (e := 51) dy0 0) ?_
      refine hK.out _ _ sC (fun hHeld => ?_)
      clear hK K
      try simp only [Act.put, List.getElem_toArray, List.getElem_cons_succ, List.getElem_cons_zero, List.setIfInBounds_toArray, List.set_cons_zero, List.set_cons_succ]
      refine wpAnyH_ready (rs := [8]) (by kernel_rfl) (by simp) ((AllReadyH.cons rfl (fun K hK => ?_) AllReadyH.nil))
      refine step_appB rfl (.tmp 58) (.tmp 61) 27 rfl Tryd.underlying27 info_u8 wb.heap.size (.slice none 0 0) (.slice p0 q0 r0) ([]) (sh idn) (by first | rfl | simp [Act.eval]) O0 (by first | rfl | simp [Act.eval]) I0 (by have := HLL.out; simp [sh] <;> omega) (by rw [rowW_size]; exact b0) ?_
      intro v0 u0 ha0 hh0 hat0
      obtain ⟨a0, n0, c0, rfl⟩ := own_slice ha0
      obtain ⟨z0, gz0, dz0, rfl⟩ := own_row hd G0 hbl O0 (Gr.refl _) hh0
      have sC := World.grownBy.cell hh0 sC (fun e => by have h9 : wb.heap.size ≤ w.heap.size := O0.fresh _ e.symm; omega)
      have hbx1 : wb.heap.size ≤ z0.heap.size := by have h1 := hh0.size; rw [rowW_size, rowW_size] at h1; exact Nat.le_trans b0 h1
      refine hK.out _ _ sC (fun hHeld => ?_)
      clear hK K
      try simp only [Act.put, List.getElem_toArray, List.getElem_cons_succ, List.getElem_cons_zero, List.setIfInBounds_toArray, List.set_cons_zero, List.set_cons_succ]
      refine wpAnyH_ready (rs := [10]) (by kernel_rfl) (by simp) ((AllReadyH.cons rfl (fun K hK => ?_) AllReadyH.nil))
      go_simp
      go_at_call 20
      refine (short_calls _ _).mono ?_
      rintro e w1 ⟨p1, q1, r1, rfl, hs1, hg1⟩
      obtain ⟨y1, gy1, dy1, rfl⟩ := Gr.unrow (show Has z0 V from dz0) hg1
      have G1 : Gr wb y1 := (gz0).trans gy1
      have O1 := Own.gr (show Own (rowW z0 V [.slice none 0 0, .bool false, .map (some mp)] 51) wb.heap.size (.slice a0 n0 c0) (([]) ++ sh idn) from ha0) hg1
      have I1 := hs1.isB
      have sC := Gr.cell hg1 sC
      have b1 : wb.heap.size ≤ y1.heap.size := Nat.le_trans hbx1 gy1.size
      refine hK.out _ _ sC (fun hHeld => ?_)
      clear hK K
      try simp only [Act.put, List.getElem_toArray, List.getElem_cons_succ, List.getElem_cons_zero, List.setIfInBounds_toArray, List.set_cons_zero, List.set_cons_succ]
      refine wpAnyH_ready (rs := [11]) (by kernel_rfl) (by simp) ((AllReadyH.cons rfl (fun K hK => ?_) AllReadyH.nil))
      refine step_appB rfl (.tmp 62) (.tmp 64) 27 rfl Tryd.underlying27 info_u8 wb.heap.size (.slice a0 n0 c0) (.slice p1 q1 r1) (([]) ++ sh idn) (sh 0) (by first | rfl | simp [Act.eval]) O1 (by first | rfl | simp [Act.eval]) I1 (by have := HLL.out; simp [sh] <;> omega) (by rw [rowW_size]; exact b1) ?_
      intro v1 u1 ha1 hh1 hat1
      obtain ⟨a1, n1, c1, rfl⟩ := own_slice ha1
      obtain ⟨z1, gz1, dz1, rfl⟩ := own_row hd G1 hbl O1 (Gr.refl _) hh1
      have sC := World.grownBy.cell hh1 sC (fun e => by have h9 : wb.heap.size ≤ w.heap.size := O1.fresh _ e.symm; omega)
      have hbx2 : wb.heap.size ≤ z1.heap.size := by have h1 := hh1.size; rw [rowW_size, rowW_size] at h1; exact Nat.le_trans b1 h1
      refine hK.out _ _ sC (fun hHeld => ?_)
      clear hK K
      try simp only [Act.put, List.getElem_toArray, List.getElem_cons_succ, List.getElem_cons_zero, List.setIfInBounds_toArray, List.set_cons_zero, List.set_cons_succ]
      refine wpAnyH_take (i := 12) (v := .pointer (some ⟨V, 0, none⟩)) rfl (by kernel_rfl) (by kernel_rfl) (by kernel_rfl) (fun _ _ _ h => h) (Or.inl ⟨by rfl, fun w' hS => ?_⟩) (by assumption) ?_
      · obtain c0 := hS
        clear hHeld
        go_simp
      try simp only [Act.put, List.getElem_toArray, List.getElem_cons_succ, List.getElem_cons_zero, List.setIfInBounds_toArray, List.set_cons_zero, List.set_cons_succ]
      refine wpAnyH_take (i := 13) (v := .pointer (some ⟨V, 0, none⟩)) rfl (by kernel_rfl) (by kernel_rfl) (by kernel_rfl) (fun _ _ _ h => h) (Or.inl ⟨by rfl, fun w' hS => ?_⟩) (by assumption) ?_
      · obtain c0 := hS
        clear hHeld
        go_simp
      try simp only [Act.put, List.getElem_toArray, List.getElem_cons_succ, List.getElem_cons_zero, List.setIfInBounds_toArray, List.set_cons_zero, List.set_cons_succ]
      refine wpAnyH_ready (rs := [14]) (by kernel_rfl) (by simp) ((AllReadyH.cons rfl (fun K hK => ?_) AllReadyH.nil))
      go_simp
      have sC : (rowW z1 V [.slice a1 n1 c1, .bool false, .map (some mp)] 51).cell? ⟨w.heap.size, 0, none⟩ = some (.int .i64 idn) := rowW_swap neB sC
      refine hK.out _ _ sC (fun hHeld => ?_)
      clear hK K
      try simp only [Act.put, List.getElem_toArray, List.getElem_cons_succ, List.getElem_cons_zero, List.setIfInBounds_toArray, List.set_cons_zero, List.set_cons_succ]
      refine wpAnyH_done (by kernel_rfl) ?_ _
      clear hHeld
      have hOE := Own.reRow (C' := [.slice a1 n1 c1, .bool false, .map (some mp)]) (t := 51) (show Own (rowW z1 V [.slice none 0 0, .bool false, .map (some mp)] 51) wb.heap.size (.slice a1 n1 c1) ((([]) ++ sh idn) ++ sh 0) from ha1) hVb
      go_wp2_with fail
      go_meet
      unfold WrRel
      exact ⟨z1, _, _, _, rfl, dz1, gz1, by assumption, by simpa using hOE⟩
  case rest =>
  unfold WrRel at hcut
  obtain ⟨x1, a, n, c, rfl, hX1, hG1, hbx1, hO1⟩ := hcut
  have jB9 := hG1.cell kB9
  have jB10 := hG1.cell kB10
  have jB11 := hG1.cell kB11
  have jB12 := hG1.cell kB12
  clear HG HO hX hbx0 x kB1 kB2 kB3 kB4 kB5 kB6 kB7 kB8
  go_wp2_with fail
  obtain ⟨L4, hL4⟩ : ∃ L4, L4 = x1.heap.size := ⟨_, rfl⟩
  obtain ⟨Y, hY⟩ : ∃ Y, Y = (rowW x1 V [.slice a n c, .bool false, .map (some mp)] 51).alloc (.cells #[.int .i64 1, .int .i64 0, .int .i64 0, .int .i64 0] 3) := ⟨_, rfl⟩
  have gY : Gr (rowW x1 V [.slice a n c, .bool false, .map (some mp)] 51) Y := by rw [hY]; exact (Gr.refl _).alloc _
  have bL : ∀ (j : Nat) (u : Value), ([.int .i64 1, .int .i64 0, .int .i64 0, .int .i64 0] : List Value)[j]? = some u → Y.cell? ⟨L4, j, none⟩ = some u := by
    intro j u hj
    have e := heap_alloc_new (rowW x1 V [.slice a n c, .bool false, .map (some mp)] 51) (.cells [.int .i64 1, .int .i64 0, .int .i64 0, .int .i64 0].toArray 3)
    rw [rowW_size, ← hL4] at e
    rw [hY]
    exact cell_of_heap e j u hj
  have sY : Y.heap.size = L4 + 1 := by rw [hY, World.size_alloc, rowW_size, hL4]
  rw [← hY, ← hL4]
  have nfar : (Value.slice a n c).ownBlock ≠ some L4 := by rw [hL4]; exact hO1.below (by rw [rowW_size]; exact Nat.le_refl _)
  have hltV : V < x1.heap.size := hX1
  have neL : L4 ≠ V := by omega
  have HOY := Lib.hid (hO1.gr gY)
  clear hY hL4
  obtain ⟨x2, gx2, hX2, rfl⟩ := Gr.unrow hX1 gY
  rw [rowW_size] at sY
  have HOK := Lib.hid (show LpRel wb V (some mp) wb.heap.size L4 [.int .i64 1, .int .i64 0, .int .i64 0, .int .i64 0] (sh idn ++ sh 0) [1, 0, 0, 0] (.int .i64 0) (rowW x2 V [.slice a n c, .bool false, .map (some mp)] 51) from ⟨0, x2, a, n, c, by omega, rfl, rfl, hX2, hG1.trans gx2, by have h1 := gx2.size; omega, by simpa using HOY.out, nfar, by omega, fun j u hj => (rowW_cell_other neL).symm.trans (bL j u hj)⟩)
  clear HOY gY bL nfar sY hO1 hbx1 jB9 jB10 jB11 jB12
  go_loopw [82] (LpRel wb V (some mp) wb.heap.size L4 [.int .i64 1, .int .i64 0, .int .i64 0, .int .i64 0] (sh idn ++ sh 0) [1, 0, 0, 0]) (fun i _ => 4 - (intOf i).toNat)
  case atStart => exact HOK.out
  case round =>
    unfold LpRel at hrel
    obtain ⟨k, x, a, n, c, hk, rfl, rfl, hX, hG, hbx0, hO, nfar, hLx, hAr⟩ := hrel
    by_cases hlt : k < 4
    · obtain ⟨nk, hnk⟩ : ∃ nk, nk = ([1, 0, 0, 0] : List Int).getD k 0 := ⟨_, rfl⟩
      have ck : x.cell? ⟨L4, k, none⟩ = some (.int .i64 nk) := hAr k _ (by rw [hnk]; match k, hlt with | 0, _ => rfl | 1, _ => rfl | 2, _ => rfl | 3, _ => rfl)
      have k0 : (0 : Int) ≤ (k : Int) := by omega
      have k4 : (k : Int) < 4 := by omega
      have HNK := Lib.hid hnk
      have HG := Lib.hid hG
      have HO := Lib.hid hO
      have HAR := Lib.hid hAr
      have HNF := Lib.hid nfar
      have HFT := Lib.hid hLx
      have HLL := Lib.hid (show ((sh idn ++ sh 0) ++ (([1, 0, 0, 0] : List Int).take k |>.map sh).flatten).length ≤ 1000 by
        match k, hlt with
        | 0, _ => simp [sh]
        | 1, _ => simp [sh]
        | 2, _ => simp [sh]
        | 3, _ => simp [sh])
      obtain ⟨l1, hl1⟩ : ∃ l1, l1 = (sh idn ++ sh 0) ++ (([1, 0, 0, 0] : List Int).take k |>.map sh).flatten := ⟨_, rfl⟩
      rw [← hl1] at HO HLL
      have HL1 := Lib.hid hl1
      clear hnk hG hO hAr nfar hl1
      go_wp2_with fail
      refine wp_region_held_drew (S := (fun w' => ∀ (j : Nat) (u : Value), ([.int .i64 1, .int .i64 0, .int .i64 0, .int .i64 0] : List Value)[j]? = some u → w'.cell? ⟨L4, j, none⟩ = some u)) (by kernel_rfl) (fun j u hj => (rowW_cell_other neL).trans (HAR.out j u hj)) (fun hHeld => ?_)
      refine wpAnyH_take (i := 0) (v := .pointer (some ⟨V, 0, none⟩)) rfl (by kernel_rfl) (by kernel_rfl) (by kernel_rfl) (fun _ _ _ h => h) (Or.inl ⟨by rfl, fun w' hS => ?_⟩) (by assumption) ?_
      · obtain c0 := hS
        clear hHeld
        go_simp
      try simp only [Act.put, List.getElem_toArray, List.getElem_cons_succ, List.getElem_cons_zero, List.setIfInBounds_toArray, List.set_cons_zero, List.set_cons_succ]
      refine wpAnyH_take (i := 1) (v := .pointer (some ⟨V, 0, none⟩)) rfl (by kernel_rfl) (by kernel_rfl) (by kernel_rfl) (fun _ _ _ h => h) (Or.inl ⟨by rfl, fun w' hS => ?_⟩) (by assumption) ?_
      · obtain c0 := hS
        clear hHeld
        go_simp
      try simp only [Act.put, List.getElem_toArray, List.getElem_cons_succ, List.getElem_cons_zero, List.setIfInBounds_toArray, List.set_cons_zero, List.set_cons_succ]
      refine wpAnyH_take (i := 2) (v := .pointer (some ⟨V, 0, none⟩)) rfl (by kernel_rfl) (by kernel_rfl) (by kernel_rfl) (fun _ _ _ h => h) (Or.inl ⟨by rfl, fun w' hS => ?_⟩) (by assumption) ?_
      · obtain c0 := hS
        clear hHeld
        go_simp
      try simp only [Act.put, List.getElem_toArray, List.getElem_cons_succ, List.getElem_cons_zero, List.setIfInBounds_toArray, List.set_cons_zero, List.set_cons_succ]
      refine wpAnyH_take (i := 3) (v := .pointer (some ⟨V, 0, none⟩)) rfl (by kernel_rfl) (by kernel_rfl) (by kernel_rfl) (fun _ _ _ h => h) (Or.inl ⟨by rfl, fun w' hS => ?_⟩) (by assumption) ?_
      · obtain c0 := hS
        clear hHeld
        go_simp
      try simp only [Act.put, List.getElem_toArray, List.getElem_cons_succ, List.getElem_cons_zero, List.setIfInBounds_toArray, List.set_cons_zero, List.set_cons_succ]
      refine wpAnyH_take (i := 5) (v := .int .i64 nk) rfl (by kernel_rfl) (by kernel_rfl) (by kernel_rfl) (fun _ _ _ h => h) (Or.inl ⟨by rfl, fun w' hS => ?_⟩) (by assumption) ?_
      · obtain c0 := hS
        clear hHeld
        go_simp
      try simp only [Act.put, List.getElem_toArray, List.getElem_cons_succ, List.getElem_cons_zero, List.setIfInBounds_toArray, List.set_cons_zero, List.set_cons_succ]
      refine wpAnyH_ready (rs := [4, 6]) (by kernel_rfl) (by simp) ((AllReadyH.cons rfl (fun K hK => ?_) (AllReadyH.cons rfl (fun K hK => ?_) AllReadyH.nil)))
      · have sC : ∀ (j : Nat) (u : Value), ([.int .i64 1, .int .i64 0, .int .i64 0, .int .i64 0] : List Value)[j]? = some u → (rowW x V [.slice a n c, .bool false, .map (some mp)] 51).cell? ⟨L4, j, none⟩ = some u := (fun j u hj => (rowW_cell_other neL).trans (HAR.out j u hj))
        have nf0 := HNF.out
        have ft0 := HFT.out
        refine step_loadc (by rfl) 27 (.tmp 89) (by rfl) V 0 (by first | rfl | simp) (.slice a n c) 5 Tryd.underlying27 (rowW_cell (cs := [.slice a n c, .bool false, .map (some mp)]) (e := 51) hX 0) ?_
        refine hK.out _ _ sC (fun hHeld => ?_)
        clear hK K
        try simp only [Act.put, List.getElem_toArray, List.getElem_cons_succ, List.getElem_cons_zero, List.setIfInBounds_toArray, List.set_cons_zero, List.set_cons_succ]
        refine wpAnyH_ready (rs := [6]) (by kernel_rfl) (by simp) ((AllReadyH.cons rfl (fun K hK => ?_) AllReadyH.nil))
        go_simp
        go_at_call 20
        refine (short_calls _ _).mono ?_
        rintro e w0 ⟨p0, q0, r0, rfl, hs0, hg0⟩
        obtain ⟨y0, gy0, dy0, rfl⟩ := Gr.unrow (show Has x.drew V from hX) hg0
        have G0 : Gr wb y0 := (HG.out.drew).trans gy0
        have O0 := Own.gr (show Own (rowW x.drew V [.slice a n c, .bool false, .map (some mp)] 51) wb.heap.size (.slice a n c) (l1) from HO.out) hg0
        have I0 := hs0.isB
        have sC := fun j u hj => Gr.cell hg0 (sC j u hj)
        have b0 : wb.heap.size ≤ y0.heap.size := Nat.le_trans hbx0 gy0.size
        have fy0 : L4 < y0.heap.size := Nat.lt_of_lt_of_le ft0 gy0.size
        refine hK.out _ _ sC (fun hHeld => ?_)
        clear hK K
        try simp only [Act.put, List.getElem_toArray, List.getElem_cons_succ, List.getElem_cons_zero, List.setIfInBounds_toArray, List.set_cons_zero, List.set_cons_succ]
        refine wpAnyH_ready (rs := [7]) (by kernel_rfl) (by simp) ((AllReadyH.cons rfl (fun K hK => ?_) AllReadyH.nil))
        refine step_appB rfl (.tmp 90) (.tmp 92) 27 rfl Tryd.underlying27 info_u8 wb.heap.size (.slice a n c) (.slice p0 q0 r0) (l1) (sh nk) (by first | rfl | simp [Act.eval]) O0 (by first | rfl | simp [Act.eval]) I0 (by have := HLL.out; simp [sh] <;> omega) (by rw [rowW_size]; exact b0) ?_
        intro v0 u0 ha0 hh0 hat0
        obtain ⟨a0, n0, c0, rfl⟩ := own_slice ha0
        obtain ⟨z0, gz0, dz0, rfl⟩ := own_row hd G0 hbl O0 (Gr.refl _) hh0
        have sC := fun j u hj => World.grownBy.cell hh0 (sC j u hj) (fun e => nf0 e.symm)
        have hbx1 : wb.heap.size ≤ z0.heap.size := by have h1 := hh0.size; rw [rowW_size, rowW_size] at h1; exact Nat.le_trans b0 h1
        have nf1 := own_far hat0 nf0 (by rw [rowW_size]; omega)
        have ft1 : L4 < z0.heap.size := by have h1 := hh0.size; rw [rowW_size, rowW_size] at h1; exact Nat.lt_of_lt_of_le fy0 h1
        refine hK.out _ _ sC (fun hHeld => ?_)
        clear hK K
        try simp only [Act.put, List.getElem_toArray, List.getElem_cons_succ, List.getElem_cons_zero, List.setIfInBounds_toArray, List.set_cons_zero, List.set_cons_succ]
        refine wpAnyH_take (i := 8) (v := .pointer (some ⟨V, 0, none⟩)) rfl (by kernel_rfl) (by kernel_rfl) (by kernel_rfl) (fun _ _ _ h => h) (Or.inl ⟨by rfl, fun w' hS => ?_⟩) (by assumption) ?_
        · obtain c0 := hS
          clear hHeld
          go_simp
        try simp only [Act.put, List.getElem_toArray, List.getElem_cons_succ, List.getElem_cons_zero, List.setIfInBounds_toArray, List.set_cons_zero, List.set_cons_succ]
        refine wpAnyH_take (i := 9) (v := .pointer (some ⟨V, 0, none⟩)) rfl (by kernel_rfl) (by kernel_rfl) (by kernel_rfl) (fun _ _ _ h => h) (Or.inl ⟨by rfl, fun w' hS => ?_⟩) (by assumption) ?_
        · obtain c0 := hS
          clear hHeld
          go_simp
        try simp only [Act.put, List.getElem_toArray, List.getElem_cons_succ, List.getElem_cons_zero, List.setIfInBounds_toArray, List.set_cons_zero, List.set_cons_succ]
        refine wpAnyH_ready (rs := [10]) (by kernel_rfl) (by simp) ((AllReadyH.cons rfl (fun K hK => ?_) AllReadyH.nil))
        go_simp
        have sC : ∀ (j : Nat) (u : Value), ([.int .i64 1, .int .i64 0, .int .i64 0, .int .i64 0] : List Value)[j]? = some u → (rowW z0 V [.slice a0 n0 c0, .bool false, .map (some mp)] 51).cell? ⟨L4, j, none⟩ = some u := fun j u hj => rowW_swap neL (sC j u hj)
        refine hK.out _ _ sC (fun hHeld => ?_)
        clear hK K
        try simp only [Act.put, List.getElem_toArray, List.getElem_cons_succ, List.getElem_cons_zero, List.setIfInBounds_toArray, List.set_cons_zero, List.set_cons_succ]
        refine wpAnyH_done (by kernel_rfl) ?_ _
        clear hHeld
        have hOE := Own.reRow (C' := [.slice a0 n0 c0, .bool false, .map (some mp)]) (t := 51) (show Own (rowW z0 V [.slice a n c, .bool false, .map (some mp)] 51) wb.heap.size (.slice a0 n0 c0) ((l1) ++ sh nk) from ha0) hVb
        go_wp2_with fail
        go_roundw
        case rel =>
          exact ⟨k + 1, z0, _, _, _, by omega, by go_num, rfl, dz0, gz0, by assumption, by rw [take_sh hlt, ← List.append_assoc, ← HL1.out, ← HNK.out]; exact hOE, nf1, ft1, fun j u hj => (rowW_cell_other neL).symm.trans (sC j u hj)⟩
        case measure => simp [intOf]; omega
      · have sC : ∀ (j : Nat) (u : Value), ([.int .i64 1, .int .i64 0, .int .i64 0, .int .i64 0] : List Value)[j]? = some u → (rowW x V [.slice a n c, .bool false, .map (some mp)] 51).cell? ⟨L4, j, none⟩ = some u := (fun j u hj => (rowW_cell_other neL).trans (HAR.out j u hj))
        have nf0 := HNF.out
        have ft0 := HFT.out
        go_simp
        go_at_call 20
        refine (short_calls _ _).mono ?_
        rintro e w0 ⟨p0, q0, r0, rfl, hs0, hg0⟩
        obtain ⟨y0, gy0, dy0, rfl⟩ := Gr.unrow (show Has x.drew V from hX) hg0
        have G0 : Gr wb y0 := (HG.out.drew).trans gy0
        have O0 := Own.gr (show Own (rowW x.drew V [.slice a n c, .bool false, .map (some mp)] 51) wb.heap.size (.slice a n c) (l1) from HO.out) hg0
        have I0 := hs0.isB
        have sC := fun j u hj => Gr.cell hg0 (sC j u hj)
        have b0 : wb.heap.size ≤ y0.heap.size := Nat.le_trans hbx0 gy0.size
        have fy0 : L4 < y0.heap.size := Nat.lt_of_lt_of_le ft0 gy0.size
        refine hK.out _ _ sC (fun hHeld => ?_)
        clear hK K
        try simp only [Act.put, List.getElem_toArray, List.getElem_cons_succ, List.getElem_cons_zero, List.setIfInBounds_toArray, List.set_cons_zero, List.set_cons_succ]
        refine wpAnyH_ready (rs := [4]) (by kernel_rfl) (by simp) ((AllReadyH.cons rfl (fun K hK => ?_) AllReadyH.nil))
        refine step_loadc (by rfl) 27 (.tmp 89) (by rfl) V 0 (by first | rfl | simp) (.slice a n c) 5 Tryd.underlying27 (rowW_cell (cs := [.slice a n c, .bool false, .map (some mp)]) (e := 51) dy0 0) ?_
        refine hK.out _ _ sC (fun hHeld => ?_)
        clear hK K
        try simp only [Act.put, List.getElem_toArray, List.getElem_cons_succ, List.getElem_cons_zero, List.setIfInBounds_toArray, List.set_cons_zero, List.set_cons_succ]
        refine wpAnyH_ready (rs := [7]) (by kernel_rfl) (by simp) ((AllReadyH.cons rfl (fun K hK => ?_) AllReadyH.nil))
        refine step_appB rfl (.tmp 90) (.tmp 92) 27 rfl Tryd.underlying27 info_u8 wb.heap.size (.slice a n c) (.slice p0 q0 r0) (l1) (sh nk) (by first | rfl | simp [Act.eval]) O0 (by first | rfl | simp [Act.eval]) I0 (by have := HLL.out; simp [sh] <;> omega) (by rw [rowW_size]; exact b0) ?_
        intro v0 u0 ha0 hh0 hat0
        obtain ⟨a0, n0, c0, rfl⟩ := own_slice ha0
        obtain ⟨z0, gz0, dz0, rfl⟩ := own_row hd G0 hbl O0 (Gr.refl _) hh0
        have sC := fun j u hj => World.grownBy.cell hh0 (sC j u hj) (fun e => nf0 e.symm)
        have hbx1 : wb.heap.size ≤ z0.heap.size := by have h1 := hh0.size; rw [rowW_size, rowW_size] at h1; exact Nat.le_trans b0 h1
        have nf1 := own_far hat0 nf0 (by rw [rowW_size]; omega)
        have ft1 : L4 < z0.heap.size := by have h1 := hh0.size; rw [rowW_size, rowW_size] at h1; exact Nat.lt_of_lt_of_le fy0 h1
        refine hK.out _ _ sC (fun hHeld => ?_)
        clear hK K
        try simp only [Act.put, List.getElem_toArray, List.getElem_cons_succ, List.getElem_cons_zero, List.setIfInBounds_toArray, List.set_cons_zero, List.set_cons_succ]
        refine wpAnyH_take (i := 8) (v := .pointer (some ⟨V, 0, none⟩)) rfl (by kernel_rfl) (by kernel_rfl) (by kernel_rfl) (fun _ _ _ h => h) (Or.inl ⟨by rfl, fun w' hS => ?_⟩) (by assumption) ?_
        · obtain c0 := hS
          clear hHeld
          go_simp
        try simp only [Act.put, List.getElem_toArray, List.getElem_cons_succ, List.getElem_cons_zero, List.setIfInBounds_toArray, List.set_cons_zero, List.set_cons_succ]
        refine wpAnyH_take (i := 9) (v := .pointer (some ⟨V, 0, none⟩)) rfl (by kernel_rfl) (by kernel_rfl) (by kernel_rfl) (fun _ _ _ h => h) (Or.inl ⟨by rfl, fun w' hS => ?_⟩) (by assumption) ?_
        · obtain c0 := hS
          clear hHeld
          go_simp
        try simp only [Act.put, List.getElem_toArray, List.getElem_cons_succ, List.getElem_cons_zero, List.setIfInBounds_toArray, List.set_cons_zero, List.set_cons_succ]
        refine wpAnyH_ready (rs := [10]) (by kernel_rfl) (by simp) ((AllReadyH.cons rfl (fun K hK => ?_) AllReadyH.nil))
        go_simp
        have sC : ∀ (j : Nat) (u : Value), ([.int .i64 1, .int .i64 0, .int .i64 0, .int .i64 0] : List Value)[j]? = some u → (rowW z0 V [.slice a0 n0 c0, .bool false, .map (some mp)] 51).cell? ⟨L4, j, none⟩ = some u := fun j u hj => rowW_swap neL (sC j u hj)
        refine hK.out _ _ sC (fun hHeld => ?_)
        clear hK K
        try simp only [Act.put, List.getElem_toArray, List.getElem_cons_succ, List.getElem_cons_zero, List.setIfInBounds_toArray, List.set_cons_zero, List.set_cons_succ]
        refine wpAnyH_done (by kernel_rfl) ?_ _
        clear hHeld
        have hOE := Own.reRow (C' := [.slice a0 n0 c0, .bool false, .map (some mp)]) (t := 51) (show Own (rowW z0 V [.slice a n c, .bool false, .map (some mp)] 51) wb.heap.size (.slice a0 n0 c0) ((l1) ++ sh nk) from ha0) hVb
        go_wp2_with fail
        go_roundw
        case rel =>
          exact ⟨k + 1, z0, _, _, _, by omega, by go_num, rfl, dz0, gz0, by assumption, by rw [take_sh hlt, ← List.append_assoc, ← HL1.out, ← HNK.out]; exact hOE, nf1, ft1, fun j u hj => (rowW_cell_other neL).symm.trans (sC j u hj)⟩
        case measure => simp [intOf]; omega
    · obtain rfl : k = 4 := by omega
      obtain ⟨l2, hl2⟩ : ∃ l2, l2 = [sh idn, sh 0, sh 1, sh 0, sh 0, sh 0].flatten := ⟨_, rfl⟩
      have e2 : (sh idn ++ sh 0) ++ (([1, 0, 0, 0] : List Int).take 4 |>.map sh).flatten = l2 := by rw [hl2]; simp
      rw [e2] at hO
      have HL2 := Lib.hid hl2
      have HLL := Lib.hid (show l2.length ≤ 1000 by rw [hl2]; simp [sh])
      have jB9 := hG.cell kB9
      have jq0 := hG.cell KQ.out.1
      have jq1 := hG.cell KQ.out.2.1
      have jq2 := hG.cell KQ.out.2.2
      clear e2 hl2 hAr nfar hLx
      go_wp2_with fail
      refine wp_loop_rounds 2 ?_
      rw [rounds_succ]
      go_upto_region 12 with fail
      obtain ⟨T, hT⟩ : ∃ T, T = x.heap.size := ⟨_, rfl⟩
      obtain ⟨Y, hY⟩ : ∃ Y, Y = (rowW x V [.slice a n c, .bool false, .map (some mp)] 51).alloc (.cells #[.string ⟨#[]⟩, .int .i64 kd, .int .i64 cl] 34) := ⟨_, rfl⟩
      have gY : Gr (rowW x V [.slice a n c, .bool false, .map (some mp)] 51) Y := by rw [hY]; exact (Gr.refl _).alloc _
      have bT : ∀ (j : Nat) (u : Value), ([.string ⟨#[]⟩, .int .i64 kd, .int .i64 cl] : List Value)[j]? = some u → Y.cell? ⟨T, j, none⟩ = some u := by
        intro j u hj
        have e := heap_alloc_new (rowW x V [.slice a n c, .bool false, .map (some mp)] 51) (.cells #[.string ⟨#[]⟩, .int .i64 kd, .int .i64 cl] 34)
        rw [rowW_size, ← hT] at e
        rw [hY]
        exact cell_of_heap (cs := [.string ⟨#[]⟩, .int .i64 kd, .int .i64 cl]) e j u hj
      have sY : Y.heap.size = T + 1 := by rw [hY, World.size_alloc, rowW_size, hT]
      rw [← hY, ← hT]
      have nfar : (Value.slice a n c).ownBlock ≠ some T := by rw [hT]; exact hO.below (by rw [rowW_size]; exact Nat.le_refl _)
      have hltV : V < x.heap.size := hX
      have neT : T ≠ V := by omega
      have HOY := Lib.hid (hO.gr gY)
      obtain ⟨x5, gx5, hX5, rfl⟩ := Gr.unrow hX gY
      rw [rowW_size] at sY
      have hbx5 : wb.heap.size ≤ x5.heap.size := Nat.le_trans hbx0 gx5.size
      have t0 := (rowW_cell_other neT).symm.trans (bT 0 _ rfl)
      have t1 := (rowW_cell_other neT).symm.trans (bT 1 _ rfl)
      have t2 := (rowW_cell_other neT).symm.trans (bT 2 _ rfl)
      have HG5 := Lib.hid (hG.trans gx5)
      have HT5 := Lib.hid (show T < x5.heap.size by omega)
      have HNF5 := Lib.hid nfar
      clear hY hT gY bT sY nfar hO jB9 jq0 jq1 jq2 hG gx5
      go_wp2_with (go_at_call 21; refine (domain0_calls V false (some mp) a n c l2 wb.heap.size wb x5 hd HG5.out hX5 hbl hbx5 HOY.out (by have := HLL.out; omega)).mono ?_; rintro e w9 ⟨rfl, x, a, n, c, gx6, hX6, rfl, ho6, hfar6⟩)
      have hf := hfar6 T HT5.out HNF5.out neT
      have u1 : x.cell? ⟨T, 1, none⟩ = some (.int .i64 kd) := by rw [← t1]; simp [World.cell?, hf.1]
      have u2 : x.cell? ⟨T, 2, none⟩ = some (.int .i64 cl) := by rw [← t2]; simp [World.cell?, hf.1]
      have HU := Lib.hid (And.intro u1 u2)
      have HFT := Lib.hid (cell_ltY u1)
      have HNF := Lib.hid hf.2
      have HG := Lib.hid gx6
      have hX := hX6
      have hbx0 : wb.heap.size ≤ x.heap.size := gx6.size
      obtain ⟨l3, hl3⟩ : ∃ l3, l3 = l2 ++ [0] := ⟨_, rfl⟩
      rw [← hl3] at ho6
      have HO := Lib.hid ho6
      have HLL := Lib.hid (show l3.length ≤ 1000 by rw [hl3, HL2.out]; simp [sh])
      have HL3 := Lib.hid hl3
      clear hf u1 u2 t0 t1 t2 hfar6 hl3 ho6 gx6 hbx5 hX6
      refine wp_region_held_drew (S := (fun w' => w'.cell? ⟨T, 1, none⟩ = some (.int .i64 kd) ∧ w'.cell? ⟨T, 2, none⟩ = some (.int .i64 cl))) (by kernel_rfl) ⟨(rowW_cell_other neT).trans HU.out.1, (rowW_cell_other neT).trans HU.out.2⟩ (fun hHeld => ?_)
      refine wpAnyH_take (i := 0) (v := .pointer (some ⟨V, 0, none⟩)) rfl (by kernel_rfl) (by kernel_rfl) (by kernel_rfl) (fun _ _ _ h => h) (Or.inl ⟨by rfl, fun w' hS => ?_⟩) (by assumption) ?_
      · obtain ⟨c0, c1⟩ := hS
        clear hHeld
        go_simp
      try simp only [Act.put, List.getElem_toArray, List.getElem_cons_succ, List.getElem_cons_zero, List.setIfInBounds_toArray, List.set_cons_zero, List.set_cons_succ]
      refine wpAnyH_take (i := 1) (v := .pointer (some ⟨V, 0, none⟩)) rfl (by kernel_rfl) (by kernel_rfl) (by kernel_rfl) (fun _ _ _ h => h) (Or.inl ⟨by rfl, fun w' hS => ?_⟩) (by assumption) ?_
      · obtain ⟨c0, c1⟩ := hS
        clear hHeld
        go_simp
      try simp only [Act.put, List.getElem_toArray, List.getElem_cons_succ, List.getElem_cons_zero, List.setIfInBounds_toArray, List.set_cons_zero, List.set_cons_succ]
      refine wpAnyH_take (i := 2) (v := .pointer (some ⟨V, 0, none⟩)) rfl (by kernel_rfl) (by kernel_rfl) (by kernel_rfl) (fun _ _ _ h => h) (Or.inl ⟨by rfl, fun w' hS => ?_⟩) (by assumption) ?_
      · obtain ⟨c0, c1⟩ := hS
        clear hHeld
        go_simp
      try simp only [Act.put, List.getElem_toArray, List.getElem_cons_succ, List.getElem_cons_zero, List.setIfInBounds_toArray, List.set_cons_zero, List.set_cons_succ]
      refine wpAnyH_take (i := 3) (v := .pointer (some ⟨V, 0, none⟩)) rfl (by kernel_rfl) (by kernel_rfl) (by kernel_rfl) (fun _ _ _ h => h) (Or.inl ⟨by rfl, fun w' hS => ?_⟩) (by assumption) ?_
      · obtain ⟨c0, c1⟩ := hS
        clear hHeld
        go_simp
      try simp only [Act.put, List.getElem_toArray, List.getElem_cons_succ, List.getElem_cons_zero, List.setIfInBounds_toArray, List.set_cons_zero, List.set_cons_succ]
      refine wpAnyH_take (i := 5) (v := .pointer (some ⟨T, 1, none⟩)) rfl (by kernel_rfl) (by kernel_rfl) (by kernel_rfl) (fun _ _ _ h => h) (Or.inl ⟨by rfl, fun w' hS => ?_⟩) (by assumption) ?_
      · obtain ⟨c0, c1⟩ := hS
        clear hHeld
        go_simp
      try simp only [Act.put, List.getElem_toArray, List.getElem_cons_succ, List.getElem_cons_zero, List.setIfInBounds_toArray, List.set_cons_zero, List.set_cons_succ]
      refine wpAnyH_take (i := 6) (v := .int .i64 kd) rfl (by kernel_rfl) (by kernel_rfl) (by kernel_rfl) (fun _ _ _ h => h) (Or.inl ⟨by rfl, fun w' hS => ?_⟩) (by assumption) ?_
      · obtain ⟨c0, c1⟩ := hS
        clear hHeld
        go_simp
      try simp only [Act.put, List.getElem_toArray, List.getElem_cons_succ, List.getElem_cons_zero, List.setIfInBounds_toArray, List.set_cons_zero, List.set_cons_succ]
      refine wpAnyH_take (i := 9) (v := .pointer (some ⟨T, 2, none⟩)) rfl (by kernel_rfl) (by kernel_rfl) (by kernel_rfl) (fun _ _ _ h => h) (Or.inl ⟨by rfl, fun w' hS => ?_⟩) (by assumption) ?_
      · obtain ⟨c0, c1⟩ := hS
        clear hHeld
        go_simp
      try simp only [Act.put, List.getElem_toArray, List.getElem_cons_succ, List.getElem_cons_zero, List.setIfInBounds_toArray, List.set_cons_zero, List.set_cons_succ]
      refine wpAnyH_take (i := 10) (v := .int .i64 cl) rfl (by kernel_rfl) (by kernel_rfl) (by kernel_rfl) (fun _ _ _ h => h) (Or.inl ⟨by rfl, fun w' hS => ?_⟩) (by assumption) ?_
      · obtain ⟨c0, c1⟩ := hS
        clear hHeld
        go_simp
      try simp only [Act.put, List.getElem_toArray, List.getElem_cons_succ, List.getElem_cons_zero, List.setIfInBounds_toArray, List.set_cons_zero, List.set_cons_succ]
      refine wpAnyH_ready (rs := [4, 7]) (by kernel_rfl) (by simp) ((AllReadyH.cons rfl (fun K hK => ?_) (AllReadyH.cons rfl (fun K hK => ?_) AllReadyH.nil)))
      · have sC : (rowW x V [.slice a n c, .bool false, .map (some mp)] 51).cell? ⟨T, 1, none⟩ = some (.int .i64 kd) ∧ (rowW x V [.slice a n c, .bool false, .map (some mp)] 51).cell? ⟨T, 2, none⟩ = some (.int .i64 cl) := ⟨(rowW_cell_other neT).trans HU.out.1, (rowW_cell_other neT).trans HU.out.2⟩
        have nf0 := HNF.out
        have ft0 := HFT.out
        refine step_loadc (by rfl) 27 (.tmp 111) (by rfl) V 0 (by first | rfl | simp) (.slice a n c) 5 Tryd.underlying27 (rowW_cell (cs := [.slice a n c, .bool false, .map (some mp)]) (e := 51) hX 0) ?_
        refine hK.out _ _ sC (fun hHeld => ?_)
        clear hK K
        try simp only [Act.put, List.getElem_toArray, List.getElem_cons_succ, List.getElem_cons_zero, List.setIfInBounds_toArray, List.set_cons_zero, List.set_cons_succ]
        refine wpAnyH_ready (rs := [7]) (by kernel_rfl) (by simp) ((AllReadyH.cons rfl (fun K hK => ?_) AllReadyH.nil))
        go_simp
        go_at_call 20
        refine (short_calls _ _).mono ?_
        rintro e w0 ⟨p0, q0, r0, rfl, hs0, hg0⟩
        obtain ⟨y0, gy0, dy0, rfl⟩ := Gr.unrow (show Has x.drew V from hX) hg0
        have G0 : Gr wb y0 := (HG.out.drew).trans gy0
        have O0 := Own.gr (show Own (rowW x.drew V [.slice a n c, .bool false, .map (some mp)] 51) wb.heap.size (.slice a n c) (l3) from HO.out) hg0
        have I0 := hs0.isB
        have sC := And.intro (Gr.cell hg0 sC.1) (Gr.cell hg0 sC.2)
        have b0 : wb.heap.size ≤ y0.heap.size := Nat.le_trans hbx0 gy0.size
        have fy0 : T < y0.heap.size := Nat.lt_of_lt_of_le ft0 gy0.size
        refine hK.out _ _ sC (fun hHeld => ?_)
        clear hK K
        try simp only [Act.put, List.getElem_toArray, List.getElem_cons_succ, List.getElem_cons_zero, List.setIfInBounds_toArray, List.set_cons_zero, List.set_cons_succ]
        refine wpAnyH_ready (rs := [8]) (by kernel_rfl) (by simp) ((AllReadyH.cons rfl (fun K hK => ?_) AllReadyH.nil))
        refine step_appB rfl (.tmp 112) (.tmp 115) 27 rfl Tryd.underlying27 info_u8 wb.heap.size (.slice a n c) (.slice p0 q0 r0) (l3) (sh kd) (by first | rfl | simp [Act.eval]) O0 (by first | rfl | simp [Act.eval]) I0 (by have := HLL.out; simp [sh] <;> omega) (by rw [rowW_size]; exact b0) ?_
        intro v0 u0 ha0 hh0 hat0
        obtain ⟨a0, n0, c0, rfl⟩ := own_slice ha0
        obtain ⟨z0, gz0, dz0, rfl⟩ := own_row hd G0 hbl O0 (Gr.refl _) hh0
        have sC := And.intro (World.grownBy.cell hh0 sC.1 (fun e => nf0 e.symm)) (World.grownBy.cell hh0 sC.2 (fun e => nf0 e.symm))
        have hbx1 : wb.heap.size ≤ z0.heap.size := by have h1 := hh0.size; rw [rowW_size, rowW_size] at h1; exact Nat.le_trans b0 h1
        have nf1 := own_far hat0 nf0 (by rw [rowW_size]; omega)
        have ft1 : T < z0.heap.size := by have h1 := hh0.size; rw [rowW_size, rowW_size] at h1; exact Nat.lt_of_lt_of_le fy0 h1
        refine hK.out _ _ sC (fun hHeld => ?_)
        clear hK K
        try simp only [Act.put, List.getElem_toArray, List.getElem_cons_succ, List.getElem_cons_zero, List.setIfInBounds_toArray, List.set_cons_zero, List.set_cons_succ]
        refine wpAnyH_ready (rs := [11]) (by kernel_rfl) (by simp) ((AllReadyH.cons rfl (fun K hK => ?_) AllReadyH.nil))
        go_simp
        go_at_call 20
        refine (short_calls _ _).mono ?_
        rintro e w1 ⟨p1, q1, r1, rfl, hs1, hg1⟩
        obtain ⟨y1, gy1, dy1, rfl⟩ := Gr.unrow (show Has z0 V from dz0) hg1
        have G1 : Gr wb y1 := (gz0).trans gy1
        have O1 := Own.gr (show Own (rowW z0 V [.slice a n c, .bool false, .map (some mp)] 51) wb.heap.size (.slice a0 n0 c0) ((l3) ++ sh kd) from ha0) hg1
        have I1 := hs1.isB
        have sC := And.intro (Gr.cell hg1 sC.1) (Gr.cell hg1 sC.2)
        have b1 : wb.heap.size ≤ y1.heap.size := Nat.le_trans hbx1 gy1.size
        have fy1 : T < y1.heap.size := Nat.lt_of_lt_of_le ft1 gy1.size
        refine hK.out _ _ sC (fun hHeld => ?_)
        clear hK K
        try simp only [Act.put, List.getElem_toArray, List.getElem_cons_succ, List.getElem_cons_zero, List.setIfInBounds_toArray, List.set_cons_zero, List.set_cons_succ]
        refine wpAnyH_ready (rs := [12]) (by kernel_rfl) (by simp) ((AllReadyH.cons rfl (fun K hK => ?_) AllReadyH.nil))
        refine step_appB rfl (.tmp 116) (.tmp 119) 27 rfl Tryd.underlying27 info_u8 wb.heap.size (.slice a0 n0 c0) (.slice p1 q1 r1) ((l3) ++ sh kd) (sh cl) (by first | rfl | simp [Act.eval]) O1 (by first | rfl | simp [Act.eval]) I1 (by have := HLL.out; simp [sh] <;> omega) (by rw [rowW_size]; exact b1) ?_
        intro v1 u1 ha1 hh1 hat1
        obtain ⟨a1, n1, c1, rfl⟩ := own_slice ha1
        obtain ⟨z1, gz1, dz1, rfl⟩ := own_row hd G1 hbl O1 (Gr.refl _) hh1
        have sC := And.intro (World.grownBy.cell hh1 sC.1 (fun e => nf1 e.symm)) (World.grownBy.cell hh1 sC.2 (fun e => nf1 e.symm))
        have hbx2 : wb.heap.size ≤ z1.heap.size := by have h1 := hh1.size; rw [rowW_size, rowW_size] at h1; exact Nat.le_trans b1 h1
        have nf2 := own_far hat1 nf1 (by rw [rowW_size]; omega)
        have ft2 : T < z1.heap.size := by have h1 := hh1.size; rw [rowW_size, rowW_size] at h1; exact Nat.lt_of_lt_of_le fy1 h1
        refine hK.out _ _ sC (fun hHeld => ?_)
        clear hK K
        try simp only [Act.put, List.getElem_toArray, List.getElem_cons_succ, List.getElem_cons_zero, List.setIfInBounds_toArray, List.set_cons_zero, List.set_cons_succ]
        refine wpAnyH_take (i := 13) (v := .pointer (some ⟨V, 0, none⟩)) rfl (by kernel_rfl) (by kernel_rfl) (by kernel_rfl) (fun _ _ _ h => h) (Or.inl ⟨by rfl, fun w' hS => ?_⟩) (by assumption) ?_
        · obtain ⟨c0, c1⟩ := hS
          clear hHeld
          go_simp
        try simp only [Act.put, List.getElem_toArray, List.getElem_cons_succ, List.getElem_cons_zero, List.setIfInBounds_toArray, List.set_cons_zero, List.set_cons_succ]
        refine wpAnyH_take (i := 14) (v := .pointer (some ⟨V, 0, none⟩)) rfl (by kernel_rfl) (by kernel_rfl) (by kernel_rfl) (fun _ _ _ h => h) (Or.inl ⟨by rfl, fun w' hS => ?_⟩) (by assumption) ?_
        · obtain ⟨c0, c1⟩ := hS
          clear hHeld
          go_simp
        try simp only [Act.put, List.getElem_toArray, List.getElem_cons_succ, List.getElem_cons_zero, List.setIfInBounds_toArray, List.set_cons_zero, List.set_cons_succ]
        refine wpAnyH_ready (rs := [15]) (by kernel_rfl) (by simp) ((AllReadyH.cons rfl (fun K hK => ?_) AllReadyH.nil))
        go_simp
        have sC : (rowW z1 V [.slice a1 n1 c1, .bool false, .map (some mp)] 51).cell? ⟨T, 1, none⟩ = some (.int .i64 kd) ∧ (rowW z1 V [.slice a1 n1 c1, .bool false, .map (some mp)] 51).cell? ⟨T, 2, none⟩ = some (.int .i64 cl) := And.intro (rowW_swap neT sC.1) (rowW_swap neT sC.2)
        refine hK.out _ _ sC (fun hHeld => ?_)
        clear hK K
        try simp only [Act.put, List.getElem_toArray, List.getElem_cons_succ, List.getElem_cons_zero, List.setIfInBounds_toArray, List.set_cons_zero, List.set_cons_succ]
        refine wpAnyH_done (by kernel_rfl) ?_ _
        clear hHeld
        have hOE := Own.reRow (C' := [.slice a1 n1 c1, .bool false, .map (some mp)]) (t := 51) (show Own (rowW z1 V [.slice a n c, .bool false, .map (some mp)] 51) wb.heap.size (.slice a1 n1 c1) (((l3) ++ sh kd) ++ sh cl) from ha1) hVb
        have jB10 := Gr.cell gz1 kB10
        have jB11 := Gr.cell gz1 kB11
        have jB12 := Gr.cell gz1 kB12
        have HO7 := Lib.hid hOE
        have HG7 := Lib.hid gz1
        have hX7 : Has z1 V := dz1
        clear hOE sC HG HO hX hbx0
        go_wp2_with fail
        rw [rounds_succ]
        go_wp2_with fail
        obtain ⟨L5, hL5⟩ : ∃ L5, L5 = z1.heap.size := ⟨_, rfl⟩
        obtain ⟨Y, hY⟩ : ∃ Y, Y = (rowW z1 V [.slice a1 n1 c1, .bool false, .map (some mp)] 51).alloc (.cells #[.slice none 0 0, .slice none 0 0, .slice none 0 0] 23) := ⟨_, rfl⟩
        have gY : Gr (rowW z1 V [.slice a1 n1 c1, .bool false, .map (some mp)] 51) Y := by rw [hY]; exact (Gr.refl _).alloc _
        have bR : ∀ (j : Nat) (u : Value), ([.slice none 0 0, .slice none 0 0, .slice none 0 0] : List Value)[j]? = some u → Y.cell? ⟨L5, j, none⟩ = some u := by
          intro j u hj
          have e := heap_alloc_new (rowW z1 V [.slice a1 n1 c1, .bool false, .map (some mp)] 51) (.cells #[.slice none 0 0, .slice none 0 0, .slice none 0 0] 23)
          rw [rowW_size, ← hL5] at e
          rw [hY]
          exact cell_of_heap (cs := [.slice none 0 0, .slice none 0 0, .slice none 0 0]) e j u hj
        rw [← hY, ← hL5]
        have hltV : V < z1.heap.size := hX7
        have neR : L5 ≠ V := by omega
        have HO8 := Lib.hid (HO7.out.gr gY)
        clear hY hL5
        obtain ⟨x8, gx8, hX8, rfl⟩ := Gr.unrow hX7 gY
        have r0 := (rowW_cell_other neR).symm.trans (bR 0 _ rfl)
        have r1 := (rowW_cell_other neR).symm.trans (bR 1 _ rfl)
        have r2 := (rowW_cell_other neR).symm.trans (bR 2 _ rfl)
        have HG8 := Lib.hid (HG7.out.trans gx8)
        clear gY bR gx8 hltV
        refine wp_loop_rounds 4 ?_
        rw [rounds_succ]
        go_wp2_with fail
        refine wp_loop_rounds 1 ?_
        rw [rounds_succ]
        go_wp2_with fail
        rw [rounds_succ]
        go_wp2_with fail
        refine wp_loop_rounds 1 ?_
        rw [rounds_succ]
        go_wp2_with fail
        rw [rounds_succ]
        go_wp2_with fail
        refine wp_loop_rounds 1 ?_
        rw [rounds_succ]
        go_wp2_with fail
        rw [rounds_succ]
        go_wp2_with fail
        go_ret
        refine ⟨_, _, _, rfl, ?_, (GY.out.trans (gr_rowB hd HG8.out)).row (by have := HV.out; omega)⟩
        have e : R = l3 ++ sh kd ++ sh cl := by rw [HRR.out, HL3.out, HL2.out]; simp
        rw [e]
        exact HO8.out.mono (by omega)
      · have sC : (rowW x V [.slice a n c, .bool false, .map (some mp)] 51).cell? ⟨T, 1, none⟩ = some (.int .i64 kd) ∧ (rowW x V [.slice a n c, .bool false, .map (some mp)] 51).cell? ⟨T, 2, none⟩ = some (.int .i64 cl) := ⟨(rowW_cell_other neT).trans HU.out.1, (rowW_cell_other neT).trans HU.out.2⟩
        have nf0 := HNF.out
        have ft0 := HFT.out
        go_simp
        go_at_call 20
        refine (short_calls _ _).mono ?_
        rintro e w0 ⟨p0, q0, r0, rfl, hs0, hg0⟩
        obtain ⟨y0, gy0, dy0, rfl⟩ := Gr.unrow (show Has x.drew V from hX) hg0
        have G0 : Gr wb y0 := (HG.out.drew).trans gy0
        have O0 := Own.gr (show Own (rowW x.drew V [.slice a n c, .bool false, .map (some mp)] 51) wb.heap.size (.slice a n c) (l3) from HO.out) hg0
        have I0 := hs0.isB
        have sC := And.intro (Gr.cell hg0 sC.1) (Gr.cell hg0 sC.2)
        have b0 : wb.heap.size ≤ y0.heap.size := Nat.le_trans hbx0 gy0.size
        have fy0 : T < y0.heap.size := Nat.lt_of_lt_of_le ft0 gy0.size
        refine hK.out _ _ sC (fun hHeld => ?_)
        clear hK K
        try simp only [Act.put, List.getElem_toArray, List.getElem_cons_succ, List.getElem_cons_zero, List.setIfInBounds_toArray, List.set_cons_zero, List.set_cons_succ]
        refine wpAnyH_ready (rs := [4]) (by kernel_rfl) (by simp) ((AllReadyH.cons rfl (fun K hK => ?_) AllReadyH.nil))
        refine step_loadc (by rfl) 27 (.tmp 111) (by rfl) V 0 (by first | rfl | simp) (.slice a n c) 5 Tryd.underlying27 (rowW_cell (cs := [.slice a n c, .bool false, .map (some mp)]) (e := 51) dy0 0) ?_
        refine hK.out _ _ sC (fun hHeld => ?_)
        clear hK K
        try simp only [Act.put, List.getElem_toArray, List.getElem_cons_succ, List.getElem_cons_zero, List.setIfInBounds_toArray, List.set_cons_zero, List.set_cons_succ]
        refine wpAnyH_ready (rs := [8]) (by kernel_rfl) (by simp) ((AllReadyH.cons rfl (fun K hK => ?_) AllReadyH.nil))
        refine step_appB rfl (.tmp 112) (.tmp 115) 27 rfl Tryd.underlying27 info_u8 wb.heap.size (.slice a n c) (.slice p0 q0 r0) (l3) (sh kd) (by first | rfl | simp [Act.eval]) O0 (by first | rfl | simp [Act.eval]) I0 (by have := HLL.out; simp [sh] <;> omega) (by rw [rowW_size]; exact b0) ?_
        intro v0 u0 ha0 hh0 hat0
        obtain ⟨a0, n0, c0, rfl⟩ := own_slice ha0
        obtain ⟨z0, gz0, dz0, rfl⟩ := own_row hd G0 hbl O0 (Gr.refl _) hh0
        have sC := And.intro (World.grownBy.cell hh0 sC.1 (fun e => nf0 e.symm)) (World.grownBy.cell hh0 sC.2 (fun e => nf0 e.symm))
        have hbx1 : wb.heap.size ≤ z0.heap.size := by have h1 := hh0.size; rw [rowW_size, rowW_size] at h1; exact Nat.le_trans b0 h1
        have nf1 := own_far hat0 nf0 (by rw [rowW_size]; omega)
        have ft1 : T < z0.heap.size := by have h1 := hh0.size; rw [rowW_size, rowW_size] at h1; exact Nat.lt_of_lt_of_le fy0 h1
        refine hK.out _ _ sC (fun hHeld => ?_)
        clear hK K
        try simp only [Act.put, List.getElem_toArray, List.getElem_cons_succ, List.getElem_cons_zero, List.setIfInBounds_toArray, List.set_cons_zero, List.set_cons_succ]
        refine wpAnyH_ready (rs := [11]) (by kernel_rfl) (by simp) ((AllReadyH.cons rfl (fun K hK => ?_) AllReadyH.nil))
        go_simp
        go_at_call 20
        refine (short_calls _ _).mono ?_
        rintro e w1 ⟨p1, q1, r1, rfl, hs1, hg1⟩
        obtain ⟨y1, gy1, dy1, rfl⟩ := Gr.unrow (show Has z0 V from dz0) hg1
        have G1 : Gr wb y1 := (gz0).trans gy1
        have O1 := Own.gr (show Own (rowW z0 V [.slice a n c, .bool false, .map (some mp)] 51) wb.heap.size (.slice a0 n0 c0) ((l3) ++ sh kd) from ha0) hg1
        have I1 := hs1.isB
        have sC := And.intro (Gr.cell hg1 sC.1) (Gr.cell hg1 sC.2)
        have b1 : wb.heap.size ≤ y1.heap.size := Nat.le_trans hbx1 gy1.size
        have fy1 : T < y1.heap.size := Nat.lt_of_lt_of_le ft1 gy1.size
        refine hK.out _ _ sC (fun hHeld => ?_)
        clear hK K
        try simp only [Act.put, List.getElem_toArray, List.getElem_cons_succ, List.getElem_cons_zero, List.setIfInBounds_toArray, List.set_cons_zero, List.set_cons_succ]
        refine wpAnyH_ready (rs := [12]) (by kernel_rfl) (by simp) ((AllReadyH.cons rfl (fun K hK => ?_) AllReadyH.nil))
        refine step_appB rfl (.tmp 116) (.tmp 119) 27 rfl Tryd.underlying27 info_u8 wb.heap.size (.slice a0 n0 c0) (.slice p1 q1 r1) ((l3) ++ sh kd) (sh cl) (by first | rfl | simp [Act.eval]) O1 (by first | rfl | simp [Act.eval]) I1 (by have := HLL.out; simp [sh] <;> omega) (by rw [rowW_size]; exact b1) ?_
        intro v1 u1 ha1 hh1 hat1
        obtain ⟨a1, n1, c1, rfl⟩ := own_slice ha1
        obtain ⟨z1, gz1, dz1, rfl⟩ := own_row hd G1 hbl O1 (Gr.refl _) hh1
        have sC := And.intro (World.grownBy.cell hh1 sC.1 (fun e => nf1 e.symm)) (World.grownBy.cell hh1 sC.2 (fun e => nf1 e.symm))
        have hbx2 : wb.heap.size ≤ z1.heap.size := by have h1 := hh1.size; rw [rowW_size, rowW_size] at h1; exact Nat.le_trans b1 h1
        have nf2 := own_far hat1 nf1 (by rw [rowW_size]; omega)
        have ft2 : T < z1.heap.size := by have h1 := hh1.size; rw [rowW_size, rowW_size] at h1; exact Nat.lt_of_lt_of_le fy1 h1
        refine hK.out _ _ sC (fun hHeld => ?_)
        clear hK K
        try simp only [Act.put, List.getElem_toArray, List.getElem_cons_succ, List.getElem_cons_zero, List.setIfInBounds_toArray, List.set_cons_zero, List.set_cons_succ]
        refine wpAnyH_take (i := 13) (v := .pointer (some ⟨V, 0, none⟩)) rfl (by kernel_rfl) (by kernel_rfl) (by kernel_rfl) (fun _ _ _ h => h) (Or.inl ⟨by rfl, fun w' hS => ?_⟩) (by assumption) ?_
        · obtain ⟨c0, c1⟩ := hS
          clear hHeld
          go_simp
        try simp only [Act.put, List.getElem_toArray, List.getElem_cons_succ, List.getElem_cons_zero, List.setIfInBounds_toArray, List.set_cons_zero, List.set_cons_succ]
        refine wpAnyH_take (i := 14) (v := .pointer (some ⟨V, 0, none⟩)) rfl (by kernel_rfl) (by kernel_rfl) (by kernel_rfl) (fun _ _ _ h => h) (Or.inl ⟨by rfl, fun w' hS => ?_⟩) (by assumption) ?_
        · obtain ⟨c0, c1⟩ := hS
          clear hHeld
          go_simp
        try simp only [Act.put, List.getElem_toArray, List.getElem_cons_succ, List.getElem_cons_zero, List.setIfInBounds_toArray, List.set_cons_zero, List.set_cons_succ]
        refine wpAnyH_ready (rs := [15]) (by kernel_rfl) (by simp) ((AllReadyH.cons rfl (fun K hK => ?_) AllReadyH.nil))
        go_simp
        have sC : (rowW z1 V [.slice a1 n1 c1, .bool false, .map (some mp)] 51).cell? ⟨T, 1, none⟩ = some (.int .i64 kd) ∧ (rowW z1 V [.slice a1 n1 c1, .bool false, .map (some mp)] 51).cell? ⟨T, 2, none⟩ = some (.int .i64 cl) := And.intro (rowW_swap neT sC.1) (rowW_swap neT sC.2)
        refine hK.out _ _ sC (fun hHeld => ?_)
        clear hK K
        try simp only [Act.put, List.getElem_toArray, List.getElem_cons_succ, List.getElem_cons_zero, List.setIfInBounds_toArray, List.set_cons_zero, List.set_cons_succ]
        refine wpAnyH_done (by kernel_rfl) ?_ _
        clear hHeld
        have hOE := Own.reRow (C' := [.slice a1 n1 c1, .bool false, .map (some mp)]) (t := 51) (show Own (rowW z1 V [.slice a n c, .bool false, .map (some mp)] 51) wb.heap.size (.slice a1 n1 c1) (((l3) ++ sh kd) ++ sh cl) from ha1) hVb
        have jB10 := Gr.cell gz1 kB10
        have jB11 := Gr.cell gz1 kB11
        have jB12 := Gr.cell gz1 kB12
        have HO7 := Lib.hid hOE
        have HG7 := Lib.hid gz1
        have hX7 : Has z1 V := dz1
        clear hOE sC HG HO hX hbx0
        go_wp2_with fail
        rw [rounds_succ]
        go_wp2_with fail
        obtain ⟨L5, hL5⟩ : ∃ L5, L5 = z1.heap.size := ⟨_, rfl⟩
        obtain ⟨Y, hY⟩ : ∃ Y, Y = (rowW z1 V [.slice a1 n1 c1, .bool false, .map (some mp)] 51).alloc (.cells #[.slice none 0 0, .slice none 0 0, .slice none 0 0] 23) := ⟨_, rfl⟩
        have gY : Gr (rowW z1 V [.slice a1 n1 c1, .bool false, .map (some mp)] 51) Y := by rw [hY]; exact (Gr.refl _).alloc _
        have bR : ∀ (j : Nat) (u : Value), ([.slice none 0 0, .slice none 0 0, .slice none 0 0] : List Value)[j]? = some u → Y.cell? ⟨L5, j, none⟩ = some u := by
          intro j u hj
          have e := heap_alloc_new (rowW z1 V [.slice a1 n1 c1, .bool false, .map (some mp)] 51) (.cells #[.slice none 0 0, .slice none 0 0, .slice none 0 0] 23)
          rw [rowW_size, ← hL5] at e
          rw [hY]
          exact cell_of_heap (cs := [.slice none 0 0, .slice none 0 0, .slice none 0 0]) e j u hj
        rw [← hY, ← hL5]
        have hltV : V < z1.heap.size := hX7
        have neR : L5 ≠ V := by omega
        have HO8 := Lib.hid (HO7.out.gr gY)
        clear hY hL5
        obtain ⟨x8, gx8, hX8, rfl⟩ := Gr.unrow hX7 gY
        have r0 := (rowW_cell_other neR).symm.trans (bR 0 _ rfl)
        have r1 := (rowW_cell_other neR).symm.trans (bR 1 _ rfl)
        have r2 := (rowW_cell_other neR).symm.trans (bR 2 _ rfl)
        have HG8 := Lib.hid (HG7.out.trans gx8)
        clear gY bR gx8 hltV
        refine wp_loop_rounds 4 ?_
        rw [rounds_succ]
        go_wp2_with fail
        refine wp_loop_rounds 1 ?_
        rw [rounds_succ]
        go_wp2_with fail
        rw [rounds_succ]
        go_wp2_with fail
        refine wp_loop_rounds 1 ?_
        rw [rounds_succ]
        go_wp2_with fail
        rw [rounds_succ]
        go_wp2_with fail
        refine wp_loop_rounds 1 ?_
        rw [rounds_succ]
        go_wp2_with fail
        rw [rounds_succ]
        go_wp2_with fail
        go_ret
        refine ⟨_, _, _, rfl, ?_, (GY.out.trans (gr_rowB hd HG8.out)).row (by have := HV.out; omega)⟩
        have e : R = l3 ++ sh kd ++ sh cl := by rw [HRR.out, HL3.out, HL2.out]; simp
        rw [e]
        exact HO8.out.mono (by omega)

end Go.Proofs.YtdhilikbmeffkaaDoor
