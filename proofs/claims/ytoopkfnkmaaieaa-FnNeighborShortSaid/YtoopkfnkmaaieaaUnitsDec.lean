/-
  Options in units of eight bytes: decoding.
-/
import Derived.Test.YtoopkfnkmaaieaaUnitsFrom
namespace Go.Proofs.Ytoopkfnkmaaieaa
open Go.RowKit

/-- an option that fills its units, as a law -/
def UOk (x : Opt) : Prop := (0 ≤ x.kind ∧ x.kind ≤ 255) ∧ (x.data.length + 2) % 8 = 0 ∧ x.data.length ≤ 500
theorem units_cons {os : List Opt} {k : Nat} (h : k < os.length) : unitsB (os.drop k) = unitB (os.getD k Opt.zero) ++ unitsB (os.drop (k + 1)) := by
  unfold unitsB
  rw [List.drop_eq_getElem_cons h, List.map_cons, List.flatten_cons, List.getD_eq_getElem?_getD, List.getElem?_eq_getElem h]
  rfl
/-- what is read ahead of a round -/
def URel (w1 : World) (D c : Nat) (cs : List Value) (TD : TypeId) (os : List Opt) (B : Option Nat) (dv : Value) (wr : World) : Prop :=
  ∃ k rs x a n m a0 n0 m0, k ≤ os.length ∧ dv = .slice a0 n0 m0 ∧ IsB w1 (.slice a0 n0 m0) (unitsB (os.drop k)) ∧ (Value.slice a0 n0 m0).ownBlock ≠ some D ∧ wr = rowW x D (cs.set c (.slice a n m)) TD ∧ Has x D ∧ Gr w1 x ∧ OwnG rcU 2 wr w1.heap.size 173 D (.slice a n m) rs ∧ rs.map Prod.fst = (os.take k).map outU ∧ (Value.slice a0 n0 m0).ownBlock = B ∧ ∀ p ∈ rs, p.2.ownBlock = B

set_option linter.unusedSimpArgs false in
set_option maxRecDepth 100000 in
set_option maxHeartbeats 4000000 in
theorem unitsDecode_calls (D c : Nat) (cs : List Value) (TD : TypeId) (hc : c < cs.length) (av : Option Addr) (nv cv : Nat) (os : List Opt) (w : World) (hd : Has w D) (h : IsB w (.slice av nv cv) (unitsB os)) (hok : ∀ x ∈ os, UOk x) (hn : os.length ≤ 20) (hne : (Value.slice av nv cv).ownBlock ≠ some D) :
    Calls Try.prog 82 #[.pointer (some ⟨D, c, none⟩), .slice av nv cv, .iface 156 (.agg #[])] (rowW w D (cs.set c (.slice none 0 0)) TD) fun e w' => e = .returned .nilIface ∧ ∃ x a n m rs, w' = rowW x D (cs.set c (.slice a n m)) TD ∧ Has x D ∧ Gr w x ∧ OwnG rcU 2 w' w.heap.size 173 D (.slice a n m) rs ∧ rs.map Prod.fst = os.map outU ∧ ∀ p ∈ rs, p.2.ownBlock = (Value.slice av nv cv).ownBlock := by
  obtain ⟨w1, rfl⟩ : ∃ w1 : World, w = w1.drewN 0 := ⟨w, rfl⟩
  have hI0 : IsB w1 (.slice av nv cv) (unitsB os) := h
  have hd : Has w1 D := hd
  obtain ⟨i, hi, hz0, hz1, hz2⟩ := info_parts info_u8
  have hset : ∀ v, (cs.set c v)[c]? = some v := fun v => by rw [List.getElem?_set_self hc]
  have hss : ∀ a b, (cs.set c a).set c b = cs.set c b := fun a b => List.set_set _
  have HOK := Lib.hid hok
  have HI0 := Lib.hid hI0
  have HNE := Lib.hid hne
  clear h hI0 hok hne
  go_enter Try.func82, Try.ntmps82
  go_wp2_with fail
  go_loopw [1, 7] (fun dv _ wr => URel w1 D c cs TD os (Value.slice av nv cv).ownBlock dv wr) (fun dv _ _ => match dv with | .slice _ n _ => n | _ => 0)
  case atStart => exact ⟨0, [], w1.drewN _, none, 0, 0, av, nv, cv, Nat.zero_le _, rfl, HI0.out, HNE.out, rfl, hd, (Gr.refl w1).drewN _, OwnG.nil, by simp, rfl, fun p hp => by cases hp⟩
  case round =>
    obtain ⟨k, rs, x, a, n, m, a0, n0, m0, hk, rfl, hI, hneA, rfl, hX, hG, hOw, hrs, hB0, hBr⟩ := hrel
    have HBB := Lib.hid (And.intro hB0 hBr)
    clear hB0 hBr
    have hlen := fun ty => hI.len (P := Try.prog) 25 ty 5 Try.underlying25
    have hcn : n0 = (unitsB (os.drop k)).length := hI.count
    have HRS := Lib.hid hrs
    have HG := Lib.hid hG
    have HOw := Lib.hid hOw
    have hszx := hG.size
    have hrl : rs.length ≤ 20 := by have e := congrArg List.length hrs; rw [List.length_map, List.length_map, List.length_take] at e; omega
    have HRSL := Lib.hid (show rs.length ≤ 1000000000 by omega)
    rw [← hcn] at hlen
    clear hrs hG hOw
    by_cases hlt : k < os.length
    · obtain ⟨R, hR⟩ : ∃ R, R = unitsB (os.drop k) := ⟨_, rfl⟩
      rw [← hR] at hI hcn
      rw [units_cons hlt] at hR
      have hmem : os.getD k Opt.zero ∈ os := by rw [List.getD_eq_getElem?_getD, List.getElem?_eq_getElem hlt]; exact List.getElem_mem hlt
      have htk := opt_take hlt
      obtain ⟨xo, hxo⟩ : ∃ xo, xo = os.getD k Opt.zero := ⟨_, rfl⟩
      rw [← hxo] at hR hmem htk
      obtain ⟨⟨hk0, hk1⟩, hd8, hd5⟩ := HOK.out xo hmem
      have HTK := Lib.hid htk
      have HLT := Lib.hid hlt
      obtain ⟨kd, ln, d⟩ := xo
      simp only at hk0 hk1 hd8 hd5
      obtain ⟨U, hU⟩ : ∃ U : Nat, d.length + 2 = 8 * U := ⟨(d.length + 2) / 8, by omega⟩
      obtain ⟨R', hR'⟩ : ∃ R', R' = unitsB (os.drop (k + 1)) := ⟨_, rfl⟩
      rw [← hR'] at hR
      have hRe : R = kd :: (U : Int) :: (d ++ R') := by
        rw [hR]
        have h1 : kd % 256 = kd := by omega
        have h2 : ((d.length : Int) + 2) / 8 % 256 = (U : Int) := by omega
        simp [unitB, h1, h2]
      have b0 : bt R 0 = kd := by rw [hRe]; rfl
      have b1 : bt R 1 = (U : Int) := by rw [hRe]; rfl
      have hRl : n0 = 8 * U + R'.length := by rw [hcn, hRe]; simp; omega
      obtain ⟨bi, oi, ii, ci, zi⟩ := hI.idx (P := Try.prog) 25 5 i Try.underlying25 hi hz1 .i64 0 0 rfl (by omega)
      obtain ⟨bj, oj, ij, cj, zj⟩ := hI.idx (P := Try.prog) 25 5 i Try.underlying25 hi hz1 .i64 1 1 rfl (by omega)
      obtain ⟨a', n', m', hI', hbI', si⟩ := hI.cutL (P := Try.prog) 25 5 i Try.underlying25 hi hz1 ((U : Int) * 8) (8 * U) (by omega) (by omega)
      obtain ⟨ad, nd, md, hID, hbD, sd⟩ := hI.cutLH (P := Try.prog) 25 5 i Try.underlying25 hi hz1 2 ((U : Int) * 8) 2 (8 * U) rfl (by omega) (by omega) (by omega)
      have ei : bi ≠ D := by rintro rfl; exact hneA zi
      have ej : bj ≠ D := by rintro rfl; exact hneA zj
      rw [b0] at ci
      rw [b1] at cj
      have e3 : R.drop (8 * U) = R' := by rw [hRe, ← hU]; simp
      have e4 : (R.take (8 * U)).drop 2 = d := by rw [hRe, ← hU]; simp
      rw [e3, hR'] at hI'
      rw [e4] at hID
      have cj := HG.out.cell cj
      have ci := HG.out.cell ci
      have ci' : (rowW x D (cs.set c (.slice a n m)) TD).cell? ⟨bi, oi, none⟩ = some (.int .u8 kd) := (rowW_cell_other ei).trans ci
      have n1 : decide ((0 : Int) < (n0 : Int)) = true := decide_eq_true (by omega)
      have hn1 : 0 < n0 := by omega
      have n2 : decide ((n0 : Int) < 2) = false := by simp; omega
      have n3 : IntKind.i64.wrap (U : Int) = (U : Int) := w64 (by omega) (by omega)
      have n4 : IntKind.i64.wrap ((U : Int) * 8) = (U : Int) * 8 := w64 (by omega) (by omega)
      have n5 : ((U : Int) * 8 == 0) = false := by simp; omega
      have n6 : decide ((n0 : Int) < (U : Int) * 8) = false := by simp; omega
      have hRD : R ≠ [] := by rw [hRe]; simp
      have HIR := Lib.hid (show IsB w1 (.slice a' n' m') (unitsB (os.drop (k + 1))) from hI')
      have HRL := Lib.hid (show n' < n0 by have e := hI'.count; rw [← hR'] at e; omega)
      have HNE' := Lib.hid (show (Value.slice a' n' m').ownBlock ≠ some D by rw [hbI']; exact hneA)
      have HND := Lib.hid (show (Value.slice ad nd md).ownBlock ≠ some D by rw [hbD]; exact hneA)
      have HNT := Lib.hid (show ∀ k, w1.heap.size ≤ k → (Value.slice ad nd md).ownBlock ≠ some k from fun k hk => by rw [hbD]; exact (hI.aside hk).resolve_left hRD)
      have HID := Lib.hid hID
      have HBd := Lib.hid (hbD.trans HBB.out.1)
      have HBi := Lib.hid (hbI'.trans HBB.out.1)
      clear hI hI' hID hbI' hbD hR hR' hRe hcn b0 b1 e3 e4 hneA zi zj hk0 hk1 hd8 hd5 hRl hlt hmem htk hxo hRD
      go_wp2_with fail
      go_region_held3 (fun w' => w'.cell? ⟨bi, oi, none⟩ = some (.int .u8 kd)) (first | exact ci' | exact Gr.cell ((Gr.refl _).alloc _) (by assumption) | go_keep) (fail)
      go_wp2_with fail
      obtain ⟨Y, hYd⟩ : ∃ Y, Y = ((rowW x.drew D (cs.set c (.slice a n m)) TD).alloc (.cells #[.int .u8 kd, .slice ad nd md] 173)) := ⟨_, rfl⟩
      rw [← hYd]
      have gY : Gr (rowW x D (cs.set c (.slice a n m)) TD) Y := by rw [hYd]; exact (show Gr (rowW x D (cs.set c (.slice a n m)) TD) ((rowW x D (cs.set c (.slice a n m)) TD).drew.alloc _) from ((Gr.refl _).drew).alloc _)
      have bY0 : Y.cell? ⟨x.heap.size, 0, none⟩ = some (.int .u8 kd) := by rw [hYd]; exact box2 (b := x.heap.size) (rowW_size (w := x.drew)).symm (.int .u8 kd) (.slice ad nd md) 173 0 _ rfl
      have bY1 : Y.cell? ⟨x.heap.size, 1, none⟩ = some (.slice ad nd md) := by rw [hYd]; exact box2 (b := x.heap.size) (rowW_size (w := x.drew)).symm (.int .u8 kd) (.slice ad nd md) 173 1 _ rfl
      obtain ⟨T, hTe⟩ : ∃ T, T = x.heap.size := ⟨_, rfl⟩
      rw [← hTe] at bY0 bY1 ⊢
      have hTD : T ≠ D := by have : D < x.heap.size := hX; omega
      have neTD := hTD
      have neV := Lib.hid (show ∀ k, (Value.slice a n m).ownBlock = some k → k ≠ T from fun k hk => by
        have h1 := (HOw.out.fresh k hk).2
        rw [rowW_size] at h1
        omega)
      obtain ⟨x2, gx2, dx2, hW⟩ := Gr.unrow hX gY
      rw [hW] at bY0 bY1 ⊢
      have HOw := Lib.hid (HOw.out.gr (show Gr (rowW x D (cs.set c (.slice a n m)) TD) (rowW x2 D (cs.set c (.slice a n m)) TD) from gr_rowsU hX gx2))
      have HG := Lib.hid (HG.out.trans gx2)
      have hX := dx2
      have szY := HG.out.size
      have HDT := Lib.hid (show IsB (rowW x2 D (cs.set c (.slice a n m)) TD) (.slice ad nd md) d from (HID.out.gr HG.out).rowW HND.out)
      have HNV := Lib.hid (show ∀ k, (Value.slice a n m).ownBlock = some k → Aside (.slice ad nd md) d k from fun k hk => .inr (HNT.out k (HOw.out.fresh k hk).1))
      have HB0 := Lib.hid (And.intro bY0 bY1)
      have CY := Lib.hid (show (rowW x2 D (cs.set c (.slice a n m)) TD).cell? ⟨D, c, none⟩ = some (.slice a n m) from (rowW_cell hX c).trans (hset _))
      have GWY := Lib.hid (gr_rowsU (cs := (cs.set c (.slice a n m))) (e := TD) hd HG.out)
      clear hYd gY hW gx2 dx2 hTe ci ci' cj ii ij si sd
      refine wp_region_held_drew (S := (fun w' => w'.cell? ⟨T, 0, none⟩ = some (.int .u8 kd) ∧ w'.cell? ⟨T, 1, none⟩ = some (.slice ad nd md))) (by kernel_rfl) ⟨bY0, bY1⟩ (fun hHeld => ?_)
      refine wpAnyH_take (i := 0) (v := .pointer (some ⟨D, c, none⟩)) rfl (by kernel_rfl) (by kernel_rfl) (by kernel_rfl) (fun _ _ _ h => h) (Or.inl ⟨by rfl, fun w' hS => ?_⟩) (by assumption) ?_
      · obtain ⟨c0, c1⟩ := hS
        clear hHeld
        go_simp
      try simp only [Act.put, List.getElem_toArray, List.getElem_cons_succ, List.getElem_cons_zero, List.setIfInBounds_toArray, List.set_cons_zero, List.set_cons_succ]
      refine wpAnyH_take (i := 1) (v := .pointer (some ⟨D, c, none⟩)) rfl (by kernel_rfl) (by kernel_rfl) (by kernel_rfl) (fun _ _ _ h => h) (Or.inl ⟨by rfl, fun w' hS => ?_⟩) (by assumption) ?_
      · obtain ⟨c0, c1⟩ := hS
        clear hHeld
        go_simp
      try simp only [Act.put, List.getElem_toArray, List.getElem_cons_succ, List.getElem_cons_zero, List.setIfInBounds_toArray, List.set_cons_zero, List.set_cons_succ]
      refine wpAnyH_take (i := 2) (v := .pointer (some ⟨D, c, none⟩)) rfl (by kernel_rfl) (by kernel_rfl) (by kernel_rfl) (fun _ _ _ h => h) (Or.inl ⟨by rfl, fun w' hS => ?_⟩) (by assumption) ?_
      · obtain ⟨c0, c1⟩ := hS
        clear hHeld
        go_simp
      try simp only [Act.put, List.getElem_toArray, List.getElem_cons_succ, List.getElem_cons_zero, List.setIfInBounds_toArray, List.set_cons_zero, List.set_cons_succ]
      refine wpAnyH_take (i := 4) (v := .agg #[.int .u8 kd, .slice ad nd md]) rfl (by kernel_rfl) (by kernel_rfl) (by kernel_rfl) (fun _ _ _ h => h) (Or.inl ⟨by rfl, fun w' hS => ?_⟩) (by assumption) ?_
      · obtain ⟨c0, c1⟩ := hS
        clear hHeld
        go_simp
      try simp only [Act.put, List.getElem_toArray, List.getElem_cons_succ, List.getElem_cons_zero, List.setIfInBounds_toArray, List.set_cons_zero, List.set_cons_succ]
      refine wpAnyH_ready (rs := [3, 5]) (by kernel_rfl) (by simp) ((AllReadyH.cons rfl (fun K hK => ?_) (AllReadyH.cons rfl (fun K hK => ?_) AllReadyH.nil)))
      · refine step_loadc (by rfl) 134 (.tmp 47) (by rfl) D c (by first | rfl | simp) (.slice a n m) 173 Try.underlying134 (CY.out) ?_
        refine hK.out _ _ ⟨HB0.out.1, HB0.out.2⟩ (fun hHeld => ?_)
        clear hK K
        try simp only [Act.put, List.getElem_toArray, List.getElem_cons_succ, List.getElem_cons_zero, List.setIfInBounds_toArray, List.set_cons_zero, List.set_cons_succ]
        refine wpAnyH_ready (rs := [5]) (by kernel_rfl) (by simp) ((AllReadyH.cons rfl (fun K hK => ?_) AllReadyH.nil))
        go_simp
        refine hK.out _ _ ⟨Gr.cell (((Gr.refl _).drew).alloc _) HB0.out.1, Gr.cell (((Gr.refl _).drew).alloc _) HB0.out.2⟩ (fun hHeld => ?_)
        clear hK K
        try simp only [Act.put, List.getElem_toArray, List.getElem_cons_succ, List.getElem_cons_zero, List.setIfInBounds_toArray, List.set_cons_zero, List.set_cons_succ]
        refine wpAnyH_ready (rs := [6]) (by kernel_rfl) (by simp) ((AllReadyH.cons rfl (fun K hK => ?_) AllReadyH.nil))
        refine step_appG rfl (.tmp 48) (.tmp 50) 134 173 rfl Try.underlying134 _ 32 info_un rfl (by decide) rcU_len (by omega) w1.heap.size D (.slice a n m) rs (by first | rfl | simp [Act.eval]) (HOw.out.gr (((Gr.refl (rowW x2 D (cs.set c (.slice a n m)) TD)).drew).alloc _)) x2.heap.size 1 ⟨kd, 0, d⟩ (.slice ad nd md) (by first | rfl | simp [Act.eval]) (box2 (rowW_size (w := x2)).symm _ _ _) (by intro u hu; simp [rcU] at hu; rcases hu with rfl | rfl <;> rfl) (HDT.out.gr (((Gr.refl (rowW x2 D (cs.set c (.slice a n m)) TD)).drew).alloc _)) (.inr HND.out) HNV.out HRSL.out (by show w1.heap.size ≤ (World.alloc _ _).heap.size; rw [World.size_alloc]; show w1.heap.size ≤ (rowW x2 D (cs.set c (.slice a n m)) TD).heap.size + 1; rw [rowW_size]; omega) ?_
        intro v4 w4 ho4 hg4 hat4
        obtain ⟨g4, n4, c4, rfl, hg41⟩ := ho4.slice_pos (by simp)
        have G4 := grownBy_step ((GWY.out.drew).alloc _) hg4 (fun k hk => .inl (by rw [rowW_size]; exact (HOw.out.fresh k hk).1))
        have k4b := World.grownBy.cell hg4 (a := ⟨T, 0, none⟩) (Gr.cell (((Gr.refl _).drew).alloc _) HB0.out.1) (fun e => neV.out _ e.symm rfl)
        have k4c := World.grownBy.cell hg4 (a := ⟨T, 1, none⟩) (Gr.cell (((Gr.refl _).drew).alloc _) HB0.out.2) (fun e => neV.out _ e.symm rfl)
        obtain ⟨x4, gx4, dx4, rfl⟩ := Gr.unrow hd G4
        refine hK.out _ _ ⟨k4b, k4c⟩ (fun hHeld => ?_)
        clear hK K
        try simp only [Act.put, List.getElem_toArray, List.getElem_cons_succ, List.getElem_cons_zero, List.setIfInBounds_toArray, List.set_cons_zero, List.set_cons_succ]
        refine wpAnyH_take (i := 7) (v := .pointer (some ⟨D, c, none⟩)) rfl (by kernel_rfl) (by kernel_rfl) (by kernel_rfl) (fun _ _ _ h => h) (Or.inl ⟨by rfl, fun w' hS => ?_⟩) (by assumption) ?_
        · obtain ⟨c0, c1⟩ := hS
          clear hHeld
          go_simp
        try simp only [Act.put, List.getElem_toArray, List.getElem_cons_succ, List.getElem_cons_zero, List.setIfInBounds_toArray, List.set_cons_zero, List.set_cons_succ]
        refine wpAnyH_ready (rs := [8]) (by kernel_rfl) (by simp) ((AllReadyH.cons rfl (fun K hK => ?_) AllReadyH.nil))
        go_simp
        refine hK.out _ _ ⟨rowW_swap neTD k4b, rowW_swap neTD k4c⟩ (fun hHeld => ?_)
        clear hK K
        try simp only [Act.put, List.getElem_toArray, List.getElem_cons_succ, List.getElem_cons_zero, List.setIfInBounds_toArray, List.set_cons_zero, List.set_cons_succ]
        refine wpAnyH_done (by kernel_rfl) ?_ _
        go_wp2_with fail
        go_roundw
        case rel => exact ⟨k + 1, rs ++ [(⟨kd, 0, d⟩, .slice ad nd md)], x4, some ⟨g4, 0, none⟩, n4, c4, a', n', m', HLT.out, rfl, HIR.out, HNE'.out, rfl, dx4, gx4, ho4.reRow hd, by rw [List.map_append, HRS.out, HTK.out, List.map_append]; rfl, HBi.out, fun p hp => (List.mem_append.1 hp).elim (fun h => HBB.out.2 p h) (fun h => by simp at h; subst h; exact HBd.out)⟩
        case measure => have := HRL.out; show n' < n0; omega
      · go_simp
        refine hK.out _ _ ⟨Gr.cell (((Gr.refl _).drew).alloc _) HB0.out.1, Gr.cell (((Gr.refl _).drew).alloc _) HB0.out.2⟩ (fun hHeld => ?_)
        clear hK K
        try simp only [Act.put, List.getElem_toArray, List.getElem_cons_succ, List.getElem_cons_zero, List.setIfInBounds_toArray, List.set_cons_zero, List.set_cons_succ]
        refine wpAnyH_ready (rs := [3]) (by kernel_rfl) (by simp) ((AllReadyH.cons rfl (fun K hK => ?_) AllReadyH.nil))
        refine step_loadc (by rfl) 134 (.tmp 47) (by rfl) D c (by first | rfl | simp) (.slice a n m) 173 Try.underlying134 (Gr.cell (((Gr.refl _).drew).alloc _) CY.out) ?_
        refine hK.out _ _ ⟨Gr.cell (((Gr.refl _).drew).alloc _) HB0.out.1, Gr.cell (((Gr.refl _).drew).alloc _) HB0.out.2⟩ (fun hHeld => ?_)
        clear hK K
        try simp only [Act.put, List.getElem_toArray, List.getElem_cons_succ, List.getElem_cons_zero, List.setIfInBounds_toArray, List.set_cons_zero, List.set_cons_succ]
        refine wpAnyH_ready (rs := [6]) (by kernel_rfl) (by simp) ((AllReadyH.cons rfl (fun K hK => ?_) AllReadyH.nil))
        refine step_appG rfl (.tmp 48) (.tmp 50) 134 173 rfl Try.underlying134 _ 32 info_un rfl (by decide) rcU_len (by omega) w1.heap.size D (.slice a n m) rs (by first | rfl | simp [Act.eval]) (HOw.out.gr (((Gr.refl (rowW x2 D (cs.set c (.slice a n m)) TD)).drew).alloc _)) x2.heap.size 1 ⟨kd, 0, d⟩ (.slice ad nd md) (by first | rfl | simp [Act.eval]) (box2 (rowW_size (w := x2)).symm _ _ _) (by intro u hu; simp [rcU] at hu; rcases hu with rfl | rfl <;> rfl) (HDT.out.gr (((Gr.refl (rowW x2 D (cs.set c (.slice a n m)) TD)).drew).alloc _)) (.inr HND.out) HNV.out HRSL.out (by show w1.heap.size ≤ (World.alloc _ _).heap.size; rw [World.size_alloc]; show w1.heap.size ≤ (rowW x2 D (cs.set c (.slice a n m)) TD).heap.size + 1; rw [rowW_size]; omega) ?_
        intro v4 w4 ho4 hg4 hat4
        obtain ⟨g4, n4, c4, rfl, hg41⟩ := ho4.slice_pos (by simp)
        have G4 := grownBy_step ((GWY.out.drew).alloc _) hg4 (fun k hk => .inl (by rw [rowW_size]; exact (HOw.out.fresh k hk).1))
        have k4b := World.grownBy.cell hg4 (a := ⟨T, 0, none⟩) (Gr.cell (((Gr.refl _).drew).alloc _) HB0.out.1) (fun e => neV.out _ e.symm rfl)
        have k4c := World.grownBy.cell hg4 (a := ⟨T, 1, none⟩) (Gr.cell (((Gr.refl _).drew).alloc _) HB0.out.2) (fun e => neV.out _ e.symm rfl)
        obtain ⟨x4, gx4, dx4, rfl⟩ := Gr.unrow hd G4
        refine hK.out _ _ ⟨k4b, k4c⟩ (fun hHeld => ?_)
        clear hK K
        try simp only [Act.put, List.getElem_toArray, List.getElem_cons_succ, List.getElem_cons_zero, List.setIfInBounds_toArray, List.set_cons_zero, List.set_cons_succ]
        refine wpAnyH_take (i := 7) (v := .pointer (some ⟨D, c, none⟩)) rfl (by kernel_rfl) (by kernel_rfl) (by kernel_rfl) (fun _ _ _ h => h) (Or.inl ⟨by rfl, fun w' hS => ?_⟩) (by assumption) ?_
        · obtain ⟨c0, c1⟩ := hS
          clear hHeld
          go_simp
        try simp only [Act.put, List.getElem_toArray, List.getElem_cons_succ, List.getElem_cons_zero, List.setIfInBounds_toArray, List.set_cons_zero, List.set_cons_succ]
        refine wpAnyH_ready (rs := [8]) (by kernel_rfl) (by simp) ((AllReadyH.cons rfl (fun K hK => ?_) AllReadyH.nil))
        go_simp
        refine hK.out _ _ ⟨rowW_swap neTD k4b, rowW_swap neTD k4c⟩ (fun hHeld => ?_)
        clear hK K
        try simp only [Act.put, List.getElem_toArray, List.getElem_cons_succ, List.getElem_cons_zero, List.setIfInBounds_toArray, List.set_cons_zero, List.set_cons_succ]
        refine wpAnyH_done (by kernel_rfl) ?_ _
        go_wp2_with fail
        go_roundw
        case rel => exact ⟨k + 1, rs ++ [(⟨kd, 0, d⟩, .slice ad nd md)], x4, some ⟨g4, 0, none⟩, n4, c4, a', n', m', HLT.out, rfl, HIR.out, HNE'.out, rfl, dx4, gx4, ho4.reRow hd, by rw [List.map_append, HRS.out, HTK.out, List.map_append]; rfl, HBi.out, fun p hp => (List.mem_append.1 hp).elim (fun h => HBB.out.2 p h) (fun h => by simp at h; subst h; exact HBd.out)⟩
        case measure => have := HRL.out; show n' < n0; omega
    · obtain rfl : k = os.length := by omega
      have hn0 : n0 = 0 := by rw [hcn]; simp [unitsB]
      subst hn0
      have hrs := HRS.out
      rw [List.take_length] at hrs
      clear hI hcn
      go_wp2_with fail
      go_ret
      exact ⟨rfl, x, a, n, m, rs, rfl, hX, HG.out, HOw.out, hrs, HBB.out.2⟩
end Go.Proofs.Ytoopkfnkmaaieaa
