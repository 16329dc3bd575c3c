/-
  The law FnDNSLoop.
-/
import Derived.Test.YtdhilikbmeffkaaDoorDNSRd
import Derived.Test.YtdhilikbmeffkaaDoorDNSBy
import Derived.Test.YtdhilikbmeffkaaDoorDoorVars
namespace Go.Proofs.YtdhilikbmeffkaaDoor
open Go.RowKit

theorem zrow2 (X : World) (A L : Obj) (z : Array Value) (t : TypeId) : (((X.alloc A).alloc L).alloc (.cells z t)).heap[X.heap.size + 1 + 1]? = some (.cells z t (0, 0)) := by
  have e := heap_alloc_new ((X.alloc A).alloc L) (.cells z t)
  simpa only [World.size_alloc] using e
theorem zrow1 (X : World) (A L : Obj) (z : Array Value) (t : TypeId) : (((X.alloc A).alloc (.cells z t)).alloc L).heap[X.heap.size + 1]? = some (.cells z t (0, 0)) := by
  have e := heap_alloc_new (X.alloc A) (.cells z t)
  rw [World.size_alloc] at e
  exact heap_gr ((Gr.refl _).alloc L) e
theorem zrow0 (X : World) (A L : Obj) (z : Array Value) (t : TypeId) : (((X.alloc (.cells z t)).alloc A).alloc L).heap[X.heap.size]? = some (.cells z t (0, 0)) :=
  heap_gr (((Gr.refl _).alloc A).alloc L) (heap_alloc_new X (.cells z t))
theorem isBsGr {w w' : World} {v : Value} {ls : List (List Int)} (h : IsBs w v ls) (hg : Gr w w') : IsBs w' v ls := by
  obtain ⟨b, o, c, vs, e, hb⟩ := h
  exact ⟨b, o, c, vs, e, fun i hi => ⟨hg.cell (hb i hi).1, (hb i hi).2.gr hg⟩⟩
theorem isBsDrew {w : World} {v : Value} {ls : List (List Int)} (h : IsBs w v ls) : IsBs w.drew v ls := h
set_option linter.unusedSimpArgs false in
set_option linter.unusedVariables false in
set_option maxRecDepth 100000 in
set_option maxHeartbeats 4000000 in
theorem lawDNSLoopIn_calls (a b c : Int) (w : World) (hH : Door.Held w) (c0 : decide (a < 0) = false) (c1 : decide (65535 < a) = false) (c2 : decide (b < 0) = false) (c3 : decide (65535 < b) = false) (c4 : decide (c < 0) = false) (c5 : decide (65535 < c) = false) :
    Calls Tryd.prog 4 #[.int .i64 a, .int .i64 b, .int .i64 c] w fun e w' => e = .returned (.bool true) ∧ Gr w w' := by
  obtain ⟨ad, hm⟩ := hH 6 (by omega)
  have HM := Lib.hid hm
  obtain ⟨BY, hBY⟩ : ∃ BY, BY = [sh a, sh 0, sh 1, sh 0, sh 0, sh 0, [0], sh b, sh c].flatten := ⟨_, rfl⟩
  have hln : BY.length = 17 := by rw [hBY]; simp [sh]
  have q4 : bt BY 4 * 256 + bt BY 5 = 1 := by rw [hBY]; rfl
  have q6 : bt BY 6 * 256 + bt BY 7 = 0 := by rw [hBY]; rfl
  have q8 : bt BY 8 * 256 + bt BY 9 = 0 := by rw [hBY]; rfl
  have q10 : bt BY 10 * 256 + bt BY 11 = 0 := by rw [hBY]; rfl
  have q12 : bt BY 12 = 0 := by rw [hBY]; rfl
  have hlf : [BY.take 12, [192, 12], BY.drop 13].flatten.length = 18 := by simp; omega
  have p4 : bt [BY.take 12, [192, 12], BY.drop 13].flatten 4 * 256 + bt [BY.take 12, [192, 12], BY.drop 13].flatten 5 = 1 := by rw [hBY]; rfl
  have p6 : bt [BY.take 12, [192, 12], BY.drop 13].flatten 6 * 256 + bt [BY.take 12, [192, 12], BY.drop 13].flatten 7 = 0 := by rw [hBY]; rfl
  have p8 : bt [BY.take 12, [192, 12], BY.drop 13].flatten 8 * 256 + bt [BY.take 12, [192, 12], BY.drop 13].flatten 9 = 0 := by rw [hBY]; rfl
  have p10 : bt [BY.take 12, [192, 12], BY.drop 13].flatten 10 * 256 + bt [BY.take 12, [192, 12], BY.drop 13].flatten 11 = 0 := by rw [hBY]; rfl
  have p12 : bt [BY.take 12, [192, 12], BY.drop 13].flatten 12 = 192 := by rw [hBY]; rfl
  have p13 : bt [BY.take 12, [192, 12], BY.drop 13].flatten 13 = 12 := by rw [hBY]; rfl
  have XB := Lib.hid hBY
  have XQ := Lib.hid (And.intro hln (And.intro q4 (And.intro q6 (And.intro q8 (And.intro q10 q12)))))
  have XP := Lib.hid (And.intro hlf (And.intro p4 (And.intro p6 (And.intro p8 (And.intro p10 (And.intro p12 p13))))))
  obtain ⟨i, hi, hz0, hz1, hz2⟩ := info_parts info_u8
  have XI := Lib.hid (And.intro hi hz1)
  clear hm hBY hln q4 q6 q8 q10 q12 hlf p4 p6 p8 p10 p12 p13 hi hz0 hz1 hz2 hH
  go_enter Tryd.func4, Tryd.ntmps4
  go_wp2_with (go_at_call 9; refine (dnsBytes1_calls a b c w.heap.size _ (Gr.cell ((Gr.refl _).alloc _) (boxQ rfl _ _ _ _ 0 _ rfl)) (Gr.cell ((Gr.refl _).alloc _) (boxQ rfl _ _ _ _ 1 _ rfl)) (Gr.cell ((Gr.refl _).alloc _) (boxQ rfl _ _ _ _ 2 _ rfl))).mono ?_; rintro e w9 ⟨ae, ne, ce, rfl, ho9, hg9⟩; have hb9 := ho9.isB; rw [← XB.out] at hb9; clear ho9; obtain ⟨a1, n1, m1, hv1, -, s1⟩ := hb9.cutH (P := Tryd.prog) 27 5 i Tryd.underlying27 XI.out.1 XI.out.2 12 12 rfl (by have := XQ.out.1; omega); obtain ⟨a2, n2, m2, hv2, -, s2⟩ := hb9.cutL (P := Tryd.prog) 27 5 i Tryd.underlying27 XI.out.1 XI.out.2 13 13 rfl (by have := XQ.out.1; omega))
  refine wp_region_held_drew (S := (fun _ => True)) (by kernel_rfl) trivial (fun hHeld => ?_)
  refine wpAnyH_take (i := 0) (v := .slice ae ne ce) rfl (by kernel_rfl) (by kernel_rfl) (by kernel_rfl) (fun _ _ _ h => h) (Or.inl ⟨by rfl, fun w' hS => ?_⟩) (by assumption) ?_
  · clear hS hHeld
    go_simp
  try simp only [Act.put, List.getElem_toArray, List.getElem_cons_succ, List.getElem_cons_zero, List.setIfInBounds_toArray, List.set_cons_zero, List.set_cons_succ]
  refine wpAnyH_take (i := 1) (v := .slice a1 n1 m1) rfl (by kernel_rfl) (by kernel_rfl) (by kernel_rfl) (fun _ _ _ h => h) (Or.inl ⟨by rfl, fun w' hS => ?_⟩) (by assumption) ?_
  · clear hS hHeld
    go_simp
  try simp only [Act.put, List.getElem_toArray, List.getElem_cons_succ, List.getElem_cons_zero, List.setIfInBounds_toArray, List.set_cons_zero, List.set_cons_succ]
  refine wpAnyH_take (i := 3) (v := .slice ae ne ce) rfl (by kernel_rfl) (by kernel_rfl) (by kernel_rfl) (fun _ _ _ h => h) (Or.inl ⟨by rfl, fun w' hS => ?_⟩) (by assumption) ?_
  · clear hS hHeld
    go_simp
  try simp only [Act.put, List.getElem_toArray, List.getElem_cons_succ, List.getElem_cons_zero, List.setIfInBounds_toArray, List.set_cons_zero, List.set_cons_succ]
  refine wpAnyH_take (i := 4) (v := .slice a2 n2 m2) rfl (by kernel_rfl) (by kernel_rfl) (by kernel_rfl) (fun _ _ _ h => h) (Or.inl ⟨by rfl, fun w' hS => ?_⟩) (by assumption) ?_
  · clear hS hHeld
    go_simp
  try simp only [Act.put, List.getElem_toArray, List.getElem_cons_succ, List.getElem_cons_zero, List.setIfInBounds_toArray, List.set_cons_zero, List.set_cons_succ]
  refine wpAnyH_ready (rs := [2, 11]) (by kernel_rfl) (by simp) ((AllReadyH.cons rfl (fun K hK => ?_) (AllReadyH.cons rfl (fun K hK => ?_) AllReadyH.nil)))
  · go_simp
    refine hK.out _ _ trivial (fun hHeld => ?_)
    clear hK K
    try simp only [Act.put, List.getElem_toArray, List.getElem_cons_succ, List.getElem_cons_zero, List.setIfInBounds_toArray, List.set_cons_zero, List.set_cons_succ]
    refine wpAnyH_ready (rs := [5, 11]) (by kernel_rfl) (by simp) ((AllReadyH.cons rfl (fun K hK => ?_) (AllReadyH.cons rfl (fun K hK => ?_) AllReadyH.nil)))
    · go_simp
      refine hK.out _ _ trivial (fun hHeld => ?_)
      clear hK K
      try simp only [Act.put, List.getElem_toArray, List.getElem_cons_succ, List.getElem_cons_zero, List.setIfInBounds_toArray, List.set_cons_zero, List.set_cons_succ]
      refine wpAnyH_ready (rs := [6, 11]) (by kernel_rfl) (by simp) ((AllReadyH.cons rfl (fun K hK => ?_) (AllReadyH.cons rfl (fun K hK => ?_) AllReadyH.nil)))
      · go_simp
        go_at_call 12
        refine (joined_calls _ [BY.take 12, [192, 12], BY.drop 13] _ (by first | exact isBs_at _ _ [BY.take 12, [192, 12], BY.drop 13] _ (Reads.cons (IsB.gr hv1 (by (repeat (with_reducible first | exact Gr.refl _ | assumption | refine Gr.alloc ?_ _ | refine Gr.drew ?_ | refine Gr.drewN ?_ _ | refine Gr.trans ?_ (by assumption))); done)) (Reads.cons (lit2_gr (by (repeat (with_reducible first | exact Gr.refl _ | assumption | refine Gr.alloc ?_ _ | refine Gr.drew ?_ | refine Gr.drewN ?_ _ | refine Gr.trans ?_ (by assumption))); done) (by first | rfl | simp) (by omega) (by omega)) (Reads.cons (IsB.gr hv2 (by (repeat (with_reducible first | exact Gr.refl _ | assumption | refine Gr.alloc ?_ _ | refine Gr.drew ?_ | refine Gr.drewN ?_ _ | refine Gr.trans ?_ (by assumption))); done)) (Reads.nil _)))) _ rfl _ (by simp) | exact isBsDrew (isBs_at _ _ [BY.take 12, [192, 12], BY.drop 13] _ (Reads.cons (IsB.gr hv1 (by (repeat (with_reducible first | exact Gr.refl _ | assumption | refine Gr.alloc ?_ _ | refine Gr.drew ?_ | refine Gr.drewN ?_ _ | refine Gr.trans ?_ (by assumption))); done)) (Reads.cons (lit2_gr (by (repeat (with_reducible first | exact Gr.refl _ | assumption | refine Gr.alloc ?_ _ | refine Gr.drew ?_ | refine Gr.drewN ?_ _ | refine Gr.trans ?_ (by assumption))); done) (by first | rfl | simp) (by omega) (by omega)) (Reads.cons (IsB.gr hv2 (by (repeat (with_reducible first | exact Gr.refl _ | assumption | refine Gr.alloc ?_ _ | refine Gr.drew ?_ | refine Gr.drewN ?_ _ | refine Gr.trans ?_ (by assumption))); done)) (Reads.nil _)))) _ rfl _ (by simp))) (by rw [XP.out.1]; omega) (by simp)).mono ?_
        rintro e w8 ⟨aj, nj, cj, rfl, ho8, hg8⟩
        have hb8 := ho8.isB
        clear ho8
        refine hK.out _ _ trivial (fun hHeld => ?_)
        clear hK K
        try simp only [Act.put, List.getElem_toArray, List.getElem_cons_succ, List.getElem_cons_zero, List.setIfInBounds_toArray, List.set_cons_zero, List.set_cons_succ]
        refine wpAnyH_ready (rs := [7, 11]) (by kernel_rfl) (by simp) ((AllReadyH.cons rfl (fun K hK => ?_) (AllReadyH.cons rfl (fun K hK => ?_) AllReadyH.nil)))
        · go_simp
          go_at_call 11
          refine (dnsReadSelf_calls _ [BY.take 12, [192, 12], BY.drop 13].flatten ad _ (IsB.gr hb8 (by (repeat (with_reducible first | exact Gr.refl _ | assumption | refine Gr.alloc ?_ _ | refine Gr.drew ?_ | refine Gr.drewN ?_ _ | refine Gr.trans ?_ (by assumption))); done)) (by rw [XP.out.1]; omega) (by rw [XP.out.1]; omega) XP.out.2.1 XP.out.2.2.1 XP.out.2.2.2.1 XP.out.2.2.2.2.1 XP.out.2.2.2.2.2.1 XP.out.2.2.2.2.2.2 (Gr.cell (by (repeat (with_reducible first | exact Gr.refl _ | assumption | refine Gr.alloc ?_ _ | refine Gr.drew ?_ | refine Gr.drewN ?_ _ | refine Gr.trans ?_ (by assumption))); done) HM.out)).mono ?_
          rintro e w7 ⟨rfl, hg7⟩
          refine hK.out _ _ trivial (fun hHeld => ?_)
          clear hK K
          try simp only [Act.put, List.getElem_toArray, List.getElem_cons_succ, List.getElem_cons_zero, List.setIfInBounds_toArray, List.set_cons_zero, List.set_cons_succ]
          refine wpAnyH_take (i := 8) (v := .tuple #[.agg #[.int .i64 0, .bool false, .int .i64 0, .bool false, .bool false, .bool false, .bool false, .int .i64 0, .int .i64 0, .slice none 0 0, .slice none 0 0, .slice none 0 0, .slice none 0 0], .bool false]) rfl (by kernel_rfl) (by kernel_rfl) (by kernel_rfl) (fun _ _ _ h => h) (Or.inl ⟨by rfl, fun w' hS => ?_⟩) (by assumption) ?_
          · clear hS hHeld
            go_simp
          try simp only [Act.put, List.getElem_toArray, List.getElem_cons_succ, List.getElem_cons_zero, List.setIfInBounds_toArray, List.set_cons_zero, List.set_cons_succ]
          refine wpAnyH_take (i := 9) (v := .agg #[.int .i64 0, .bool false, .int .i64 0, .bool false, .bool false, .bool false, .bool false, .int .i64 0, .int .i64 0, .slice none 0 0, .slice none 0 0, .slice none 0 0, .slice none 0 0]) rfl (by kernel_rfl) (by kernel_rfl) (by kernel_rfl) (fun _ _ _ h => h) (Or.inl ⟨by rfl, fun w' hS => ?_⟩) (by assumption) ?_
          · clear hS hHeld
            go_simp
          try simp only [Act.put, List.getElem_toArray, List.getElem_cons_succ, List.getElem_cons_zero, List.setIfInBounds_toArray, List.set_cons_zero, List.set_cons_succ]
          refine wpAnyH_take (i := 10) (v := .bool false) rfl (by kernel_rfl) (by kernel_rfl) (by kernel_rfl) (fun _ _ _ h => h) (Or.inl ⟨by rfl, fun w' hS => ?_⟩) (by assumption) ?_
          · clear hS hHeld
            go_simp
          try simp only [Act.put, List.getElem_toArray, List.getElem_cons_succ, List.getElem_cons_zero, List.setIfInBounds_toArray, List.set_cons_zero, List.set_cons_succ]
          refine wpAnyH_ready (rs := [11]) (by kernel_rfl) (by simp) ((AllReadyH.cons rfl (fun K hK => ?_) AllReadyH.nil))
          go_simp
          refine hK.out _ _ trivial (fun hHeld => ?_)
          clear hK K
          try simp only [Act.put, List.getElem_toArray, List.getElem_cons_succ, List.getElem_cons_zero, List.setIfInBounds_toArray, List.set_cons_zero, List.set_cons_succ]
          refine wpAnyH_ready (rs := [12]) (by kernel_rfl) (by simp) ((AllReadyH.cons rfl (fun K hK => ?_) AllReadyH.nil))
          go_simp
          refine hK.out _ _ trivial (fun hHeld => ?_)
          clear hK K
          try simp only [Act.put, List.getElem_toArray, List.getElem_cons_succ, List.getElem_cons_zero, List.setIfInBounds_toArray, List.set_cons_zero, List.set_cons_succ]
          refine wpAnyH_take (i := 13) (v := .bool false) rfl (by kernel_rfl) (by kernel_rfl) (by kernel_rfl) (fun _ _ _ h => h) (Or.inl ⟨by rfl, fun w' hS => ?_⟩) (by assumption) ?_
          · clear hS hHeld
            go_simp
          try simp only [Act.put, List.getElem_toArray, List.getElem_cons_succ, List.getElem_cons_zero, List.setIfInBounds_toArray, List.set_cons_zero, List.set_cons_succ]
          refine wpAnyH_done (by kernel_rfl) ?_ _
          clear hHeld
          go_wp2_with (go_at_call 11; refine (dnsReadRoot_calls _ BY _ (IsB.gr hb9 (by (repeat (with_reducible first | exact Gr.refl _ | assumption | refine Gr.alloc ?_ _ | refine Gr.drew ?_ | refine Gr.drewN ?_ _ | refine Gr.trans ?_ (by assumption))); done)) (by rw [XQ.out.1]; omega) (by rw [XQ.out.1]; omega) XQ.out.2.1 XQ.out.2.2.1 XQ.out.2.2.2.1 XQ.out.2.2.2.2.1 XQ.out.2.2.2.2.2).mono ?_; rintro e w6 ⟨⟨z0, z1, z2, z3, z4, z5, z6, z7, z8, g5, c5, b1, b2, b3, rfl⟩, hg6⟩)
          go_ret
          exact ⟨by simp, (by (repeat (with_reducible first | exact Gr.refl _ | assumption | refine Gr.alloc ?_ _ | refine Gr.drew ?_ | refine Gr.drewN ?_ _ | refine Gr.trans ?_ (by assumption))); done)⟩
        · go_simp
          refine hK.out _ _ trivial (fun hHeld => ?_)
          clear hK K
          try simp only [Act.put, List.getElem_toArray, List.getElem_cons_succ, List.getElem_cons_zero, List.setIfInBounds_toArray, List.set_cons_zero, List.set_cons_succ]
          refine wpAnyH_ready (rs := [7]) (by kernel_rfl) (by simp) ((AllReadyH.cons rfl (fun K hK => ?_) AllReadyH.nil))
          go_simp
          go_at_call 11
          refine (dnsReadSelf_calls _ [BY.take 12, [192, 12], BY.drop 13].flatten ad _ (IsB.gr hb8 (by (repeat (with_reducible first | exact Gr.refl _ | assumption | refine Gr.alloc ?_ _ | refine Gr.drew ?_ | refine Gr.drewN ?_ _ | refine Gr.trans ?_ (by assumption))); done)) (by rw [XP.out.1]; omega) (by rw [XP.out.1]; omega) XP.out.2.1 XP.out.2.2.1 XP.out.2.2.2.1 XP.out.2.2.2.2.1 XP.out.2.2.2.2.2.1 XP.out.2.2.2.2.2.2 (Gr.cell (by (repeat (with_reducible first | exact Gr.refl _ | assumption | refine Gr.alloc ?_ _ | refine Gr.drew ?_ | refine Gr.drewN ?_ _ | refine Gr.trans ?_ (by assumption))); done) HM.out)).mono ?_
          rintro e w7 ⟨rfl, hg7⟩
          obtain ⟨y7, hy7, rfl⟩ := one_row (ca := [.int .i64 0, .bool false, .int .i64 0, .bool false, .bool false, .bool false, .bool false, .int .i64 0, .int .i64 0, .slice none 0 0, .slice none 0 0, .slice none 0 0, .slice none 0 0]) (ta := 25) (A := w8.heap.size) (by exact heap_alloc_new w8 _) hg7
          refine hK.out _ _ trivial (fun hHeld => ?_)
          clear hK K
          try simp only [Act.put, List.getElem_toArray, List.getElem_cons_succ, List.getElem_cons_zero, List.setIfInBounds_toArray, List.set_cons_zero, List.set_cons_succ]
          refine wpAnyH_take (i := 8) (v := .tuple #[.agg #[.int .i64 0, .bool false, .int .i64 0, .bool false, .bool false, .bool false, .bool false, .int .i64 0, .int .i64 0, .slice none 0 0, .slice none 0 0, .slice none 0 0, .slice none 0 0], .bool false]) rfl (by kernel_rfl) (by kernel_rfl) (by kernel_rfl) (fun _ _ _ h => h) (Or.inl ⟨by rfl, fun w' hS => ?_⟩) (by assumption) ?_
          · clear hS hHeld
            go_simp
          try simp only [Act.put, List.getElem_toArray, List.getElem_cons_succ, List.getElem_cons_zero, List.setIfInBounds_toArray, List.set_cons_zero, List.set_cons_succ]
          refine wpAnyH_take (i := 9) (v := .agg #[.int .i64 0, .bool false, .int .i64 0, .bool false, .bool false, .bool false, .bool false, .int .i64 0, .int .i64 0, .slice none 0 0, .slice none 0 0, .slice none 0 0, .slice none 0 0]) rfl (by kernel_rfl) (by kernel_rfl) (by kernel_rfl) (fun _ _ _ h => h) (Or.inl ⟨by rfl, fun w' hS => ?_⟩) (by assumption) ?_
          · clear hS hHeld
            go_simp
          try simp only [Act.put, List.getElem_toArray, List.getElem_cons_succ, List.getElem_cons_zero, List.setIfInBounds_toArray, List.set_cons_zero, List.set_cons_succ]
          refine wpAnyH_take (i := 10) (v := .bool false) rfl (by kernel_rfl) (by kernel_rfl) (by kernel_rfl) (fun _ _ _ h => h) (Or.inl ⟨by rfl, fun w' hS => ?_⟩) (by assumption) ?_
          · clear hS hHeld
            go_simp
          try simp only [Act.put, List.getElem_toArray, List.getElem_cons_succ, List.getElem_cons_zero, List.setIfInBounds_toArray, List.set_cons_zero, List.set_cons_succ]
          refine wpAnyH_ready (rs := [12]) (by kernel_rfl) (by simp) ((AllReadyH.cons rfl (fun K hK => ?_) AllReadyH.nil))
          go_simp
          refine hK.out _ _ trivial (fun hHeld => ?_)
          clear hK K
          try simp only [Act.put, List.getElem_toArray, List.getElem_cons_succ, List.getElem_cons_zero, List.setIfInBounds_toArray, List.set_cons_zero, List.set_cons_succ]
          refine wpAnyH_take (i := 13) (v := .bool false) rfl (by kernel_rfl) (by kernel_rfl) (by kernel_rfl) (fun _ _ _ h => h) (Or.inl ⟨by rfl, fun w' hS => ?_⟩) (by assumption) ?_
          · clear hS hHeld
            go_simp
          try simp only [Act.put, List.getElem_toArray, List.getElem_cons_succ, List.getElem_cons_zero, List.setIfInBounds_toArray, List.set_cons_zero, List.set_cons_succ]
          refine wpAnyH_done (by kernel_rfl) ?_ _
          clear hHeld
          go_wp2_with (go_at_call 11; refine (dnsReadRoot_calls _ BY _ (IsB.gr hb9 (by (repeat (with_reducible first | exact Gr.refl _ | assumption | refine Gr.alloc ?_ _ | refine Gr.drew ?_ | refine Gr.drewN ?_ _ | refine Gr.trans ?_ (by assumption))); done)) (by rw [XQ.out.1]; omega) (by rw [XQ.out.1]; omega) XQ.out.2.1 XQ.out.2.2.1 XQ.out.2.2.2.1 XQ.out.2.2.2.2.1 XQ.out.2.2.2.2.2).mono ?_; rintro e w6 ⟨⟨z0, z1, z2, z3, z4, z5, z6, z7, z8, g5, c5, b1, b2, b3, rfl⟩, hg6⟩)
          go_ret
          exact ⟨by simp, (by (repeat (with_reducible first | exact Gr.refl _ | assumption | refine Gr.alloc ?_ _ | refine Gr.drew ?_ | refine Gr.drewN ?_ _ | refine Gr.trans ?_ (by assumption))); done)⟩
      · go_simp
        refine hK.out _ _ trivial (fun hHeld => ?_)
        clear hK K
        try simp only [Act.put, List.getElem_toArray, List.getElem_cons_succ, List.getElem_cons_zero, List.setIfInBounds_toArray, List.set_cons_zero, List.set_cons_succ]
        refine wpAnyH_ready (rs := [6]) (by kernel_rfl) (by simp) ((AllReadyH.cons rfl (fun K hK => ?_) AllReadyH.nil))
        go_simp
        go_at_call 12
        refine (joined_calls _ [BY.take 12, [192, 12], BY.drop 13] _ (by first | exact isBsGr (isBs_at (w9.alloc (.cells #[.int .u8 192, .int .u8 12] 5)) _ [BY.take 12, [192, 12], BY.drop 13] _ (Reads.cons (IsB.gr hv1 (by (repeat (with_reducible first | exact Gr.refl _ | assumption | refine Gr.alloc ?_ _ | refine Gr.drew ?_ | refine Gr.drewN ?_ _ | refine Gr.trans ?_ (by assumption))); done)) (Reads.cons (lit2_gr (by (repeat (with_reducible first | exact Gr.refl _ | assumption | refine Gr.alloc ?_ _ | refine Gr.drew ?_ | refine Gr.drewN ?_ _ | refine Gr.trans ?_ (by assumption))); done) (by first | rfl | simp) (by omega) (by omega)) (Reads.cons (IsB.gr hv2 (by (repeat (with_reducible first | exact Gr.refl _ | assumption | refine Gr.alloc ?_ _ | refine Gr.drew ?_ | refine Gr.drewN ?_ _ | refine Gr.trans ?_ (by assumption))); done)) (Reads.nil _)))) _ rfl _ (by simp)) (by (repeat (with_reducible first | exact Gr.refl _ | assumption | refine Gr.alloc ?_ _ | refine Gr.drew ?_ | refine Gr.drewN ?_ _ | refine Gr.trans ?_ (by assumption))); done) | exact isBsDrew (isBsGr (isBs_at (w9.alloc (.cells #[.int .u8 192, .int .u8 12] 5)) _ [BY.take 12, [192, 12], BY.drop 13] _ (Reads.cons (IsB.gr hv1 (by (repeat (with_reducible first | exact Gr.refl _ | assumption | refine Gr.alloc ?_ _ | refine Gr.drew ?_ | refine Gr.drewN ?_ _ | refine Gr.trans ?_ (by assumption))); done)) (Reads.cons (lit2_gr (by (repeat (with_reducible first | exact Gr.refl _ | assumption | refine Gr.alloc ?_ _ | refine Gr.drew ?_ | refine Gr.drewN ?_ _ | refine Gr.trans ?_ (by assumption))); done) (by first | rfl | simp) (by omega) (by omega)) (Reads.cons (IsB.gr hv2 (by (repeat (with_reducible first | exact Gr.refl _ | assumption | refine Gr.alloc ?_ _ | refine Gr.drew ?_ | refine Gr.drewN ?_ _ | refine Gr.trans ?_ (by assumption))); done)) (Reads.nil _)))) _ rfl _ (by simp)) (by (repeat (with_reducible first | exact Gr.refl _ | assumption | refine Gr.alloc ?_ _ | refine Gr.drew ?_ | refine Gr.drewN ?_ _ | refine Gr.trans ?_ (by assumption))); done))) (by rw [XP.out.1]; omega) (by simp)).mono ?_
        rintro e w8 ⟨aj, nj, cj, rfl, ho8, hg8⟩
        have hb8 := ho8.isB
        clear ho8
        obtain ⟨y8, hy8, rfl⟩ := one_row (ca := [.int .i64 0, .bool false, .int .i64 0, .bool false, .bool false, .bool false, .bool false, .int .i64 0, .int .i64 0, .slice none 0 0, .slice none 0 0, .slice none 0 0, .slice none 0 0]) (ta := 25) (A := w9.heap.size + 1 + 1) (by exact zrow2 _ _ _ _ _) hg8
        refine hK.out _ _ trivial (fun hHeld => ?_)
        clear hK K
        try simp only [Act.put, List.getElem_toArray, List.getElem_cons_succ, List.getElem_cons_zero, List.setIfInBounds_toArray, List.set_cons_zero, List.set_cons_succ]
        refine wpAnyH_ready (rs := [7]) (by kernel_rfl) (by simp) ((AllReadyH.cons rfl (fun K hK => ?_) AllReadyH.nil))
        go_simp
        go_at_call 11
        refine (dnsReadSelf_calls _ [BY.take 12, [192, 12], BY.drop 13].flatten ad _ (IsB.gr hb8 (by (repeat (with_reducible first | exact Gr.refl _ | assumption | refine Gr.alloc ?_ _ | refine Gr.drew ?_ | refine Gr.drewN ?_ _ | refine Gr.trans ?_ (by assumption))); done)) (by rw [XP.out.1]; omega) (by rw [XP.out.1]; omega) XP.out.2.1 XP.out.2.2.1 XP.out.2.2.2.1 XP.out.2.2.2.2.1 XP.out.2.2.2.2.2.1 XP.out.2.2.2.2.2.2 (Gr.cell (by (repeat (with_reducible first | exact Gr.refl _ | assumption | refine Gr.alloc ?_ _ | refine Gr.drew ?_ | refine Gr.drewN ?_ _ | refine Gr.trans ?_ (by assumption))); done) HM.out)).mono ?_
        rintro e w7 ⟨rfl, hg7⟩
        obtain ⟨y7, hy7, rfl⟩ := one_row (rowW_heap hy8) hg7
        refine hK.out _ _ trivial (fun hHeld => ?_)
        clear hK K
        try simp only [Act.put, List.getElem_toArray, List.getElem_cons_succ, List.getElem_cons_zero, List.setIfInBounds_toArray, List.set_cons_zero, List.set_cons_succ]
        refine wpAnyH_take (i := 8) (v := .tuple #[.agg #[.int .i64 0, .bool false, .int .i64 0, .bool false, .bool false, .bool false, .bool false, .int .i64 0, .int .i64 0, .slice none 0 0, .slice none 0 0, .slice none 0 0, .slice none 0 0], .bool false]) rfl (by kernel_rfl) (by kernel_rfl) (by kernel_rfl) (fun _ _ _ h => h) (Or.inl ⟨by rfl, fun w' hS => ?_⟩) (by assumption) ?_
        · clear hS hHeld
          go_simp
        try simp only [Act.put, List.getElem_toArray, List.getElem_cons_succ, List.getElem_cons_zero, List.setIfInBounds_toArray, List.set_cons_zero, List.set_cons_succ]
        refine wpAnyH_take (i := 9) (v := .agg #[.int .i64 0, .bool false, .int .i64 0, .bool false, .bool false, .bool false, .bool false, .int .i64 0, .int .i64 0, .slice none 0 0, .slice none 0 0, .slice none 0 0, .slice none 0 0]) rfl (by kernel_rfl) (by kernel_rfl) (by kernel_rfl) (fun _ _ _ h => h) (Or.inl ⟨by rfl, fun w' hS => ?_⟩) (by assumption) ?_
        · clear hS hHeld
          go_simp
        try simp only [Act.put, List.getElem_toArray, List.getElem_cons_succ, List.getElem_cons_zero, List.setIfInBounds_toArray, List.set_cons_zero, List.set_cons_succ]
        refine wpAnyH_take (i := 10) (v := .bool false) rfl (by kernel_rfl) (by kernel_rfl) (by kernel_rfl) (fun _ _ _ h => h) (Or.inl ⟨by rfl, fun w' hS => ?_⟩) (by assumption) ?_
        · clear hS hHeld
          go_simp
        try simp only [Act.put, List.getElem_toArray, List.getElem_cons_succ, List.getElem_cons_zero, List.setIfInBounds_toArray, List.set_cons_zero, List.set_cons_succ]
        refine wpAnyH_ready (rs := [12]) (by kernel_rfl) (by simp) ((AllReadyH.cons rfl (fun K hK => ?_) AllReadyH.nil))
        go_simp
        refine hK.out _ _ trivial (fun hHeld => ?_)
        clear hK K
        try simp only [Act.put, List.getElem_toArray, List.getElem_cons_succ, List.getElem_cons_zero, List.setIfInBounds_toArray, List.set_cons_zero, List.set_cons_succ]
        refine wpAnyH_take (i := 13) (v := .bool false) rfl (by kernel_rfl) (by kernel_rfl) (by kernel_rfl) (fun _ _ _ h => h) (Or.inl ⟨by rfl, fun w' hS => ?_⟩) (by assumption) ?_
        · clear hS hHeld
          go_simp
        try simp only [Act.put, List.getElem_toArray, List.getElem_cons_succ, List.getElem_cons_zero, List.setIfInBounds_toArray, List.set_cons_zero, List.set_cons_succ]
        refine wpAnyH_done (by kernel_rfl) ?_ _
        clear hHeld
        go_wp2_with (go_at_call 11; refine (dnsReadRoot_calls _ BY _ (IsB.gr hb9 (by (repeat (with_reducible first | exact Gr.refl _ | assumption | refine Gr.alloc ?_ _ | refine Gr.drew ?_ | refine Gr.drewN ?_ _ | refine Gr.trans ?_ (by assumption))); done)) (by rw [XQ.out.1]; omega) (by rw [XQ.out.1]; omega) XQ.out.2.1 XQ.out.2.2.1 XQ.out.2.2.2.1 XQ.out.2.2.2.2.1 XQ.out.2.2.2.2.2).mono ?_; rintro e w6 ⟨⟨z0, z1, z2, z3, z4, z5, z6, z7, z8, g5, c5, b1, b2, b3, rfl⟩, hg6⟩)
        go_ret
        exact ⟨by simp, (by (repeat (with_reducible first | exact Gr.refl _ | assumption | refine Gr.alloc ?_ _ | refine Gr.drew ?_ | refine Gr.drewN ?_ _ | refine Gr.trans ?_ (by assumption))); done)⟩
    · go_simp
      refine hK.out _ _ trivial (fun hHeld => ?_)
      clear hK K
      try simp only [Act.put, List.getElem_toArray, List.getElem_cons_succ, List.getElem_cons_zero, List.setIfInBounds_toArray, List.set_cons_zero, List.set_cons_succ]
      refine wpAnyH_ready (rs := [5]) (by kernel_rfl) (by simp) ((AllReadyH.cons rfl (fun K hK => ?_) AllReadyH.nil))
      go_simp
      refine hK.out _ _ trivial (fun hHeld => ?_)
      clear hK K
      try simp only [Act.put, List.getElem_toArray, List.getElem_cons_succ, List.getElem_cons_zero, List.setIfInBounds_toArray, List.set_cons_zero, List.set_cons_succ]
      refine wpAnyH_ready (rs := [6]) (by kernel_rfl) (by simp) ((AllReadyH.cons rfl (fun K hK => ?_) AllReadyH.nil))
      go_simp
      go_at_call 12
      refine (joined_calls _ [BY.take 12, [192, 12], BY.drop 13] _ (by first | exact isBs_at _ _ [BY.take 12, [192, 12], BY.drop 13] _ (Reads.cons (IsB.gr hv1 (by (repeat (with_reducible first | exact Gr.refl _ | assumption | refine Gr.alloc ?_ _ | refine Gr.drew ?_ | refine Gr.drewN ?_ _ | refine Gr.trans ?_ (by assumption))); done)) (Reads.cons (lit2_gr (by (repeat (with_reducible first | exact Gr.refl _ | assumption | refine Gr.alloc ?_ _ | refine Gr.drew ?_ | refine Gr.drewN ?_ _ | refine Gr.trans ?_ (by assumption))); done) (by first | rfl | simp) (by omega) (by omega)) (Reads.cons (IsB.gr hv2 (by (repeat (with_reducible first | exact Gr.refl _ | assumption | refine Gr.alloc ?_ _ | refine Gr.drew ?_ | refine Gr.drewN ?_ _ | refine Gr.trans ?_ (by assumption))); done)) (Reads.nil _)))) _ rfl _ (by simp) | exact isBsDrew (isBs_at _ _ [BY.take 12, [192, 12], BY.drop 13] _ (Reads.cons (IsB.gr hv1 (by (repeat (with_reducible first | exact Gr.refl _ | assumption | refine Gr.alloc ?_ _ | refine Gr.drew ?_ | refine Gr.drewN ?_ _ | refine Gr.trans ?_ (by assumption))); done)) (Reads.cons (lit2_gr (by (repeat (with_reducible first | exact Gr.refl _ | assumption | refine Gr.alloc ?_ _ | refine Gr.drew ?_ | refine Gr.drewN ?_ _ | refine Gr.trans ?_ (by assumption))); done) (by first | rfl | simp) (by omega) (by omega)) (Reads.cons (IsB.gr hv2 (by (repeat (with_reducible first | exact Gr.refl _ | assumption | refine Gr.alloc ?_ _ | refine Gr.drew ?_ | refine Gr.drewN ?_ _ | refine Gr.trans ?_ (by assumption))); done)) (Reads.nil _)))) _ rfl _ (by simp))) (by rw [XP.out.1]; omega) (by simp)).mono ?_
      rintro e w8 ⟨aj, nj, cj, rfl, ho8, hg8⟩
      have hb8 := ho8.isB
      clear ho8
      obtain ⟨y8, hy8, rfl⟩ := one_row (ca := [.int .i64 0, .bool false, .int .i64 0, .bool false, .bool false, .bool false, .bool false, .int .i64 0, .int .i64 0, .slice none 0 0, .slice none 0 0, .slice none 0 0, .slice none 0 0]) (ta := 25) (A := w9.heap.size + 1) (by exact zrow1 _ _ _ _ _) hg8
      refine hK.out _ _ trivial (fun hHeld => ?_)
      clear hK K
      try simp only [Act.put, List.getElem_toArray, List.getElem_cons_succ, List.getElem_cons_zero, List.setIfInBounds_toArray, List.set_cons_zero, List.set_cons_succ]
      refine wpAnyH_ready (rs := [7]) (by kernel_rfl) (by simp) ((AllReadyH.cons rfl (fun K hK => ?_) AllReadyH.nil))
      go_simp
      go_at_call 11
      refine (dnsReadSelf_calls _ [BY.take 12, [192, 12], BY.drop 13].flatten ad _ (IsB.gr hb8 (by (repeat (with_reducible first | exact Gr.refl _ | assumption | refine Gr.alloc ?_ _ | refine Gr.drew ?_ | refine Gr.drewN ?_ _ | refine Gr.trans ?_ (by assumption))); done)) (by rw [XP.out.1]; omega) (by rw [XP.out.1]; omega) XP.out.2.1 XP.out.2.2.1 XP.out.2.2.2.1 XP.out.2.2.2.2.1 XP.out.2.2.2.2.2.1 XP.out.2.2.2.2.2.2 (Gr.cell (by (repeat (with_reducible first | exact Gr.refl _ | assumption | refine Gr.alloc ?_ _ | refine Gr.drew ?_ | refine Gr.drewN ?_ _ | refine Gr.trans ?_ (by assumption))); done) HM.out)).mono ?_
      rintro e w7 ⟨rfl, hg7⟩
      obtain ⟨y7, hy7, rfl⟩ := one_row (rowW_heap hy8) hg7
      refine hK.out _ _ trivial (fun hHeld => ?_)
      clear hK K
      try simp only [Act.put, List.getElem_toArray, List.getElem_cons_succ, List.getElem_cons_zero, List.setIfInBounds_toArray, List.set_cons_zero, List.set_cons_succ]
      refine wpAnyH_take (i := 8) (v := .tuple #[.agg #[.int .i64 0, .bool false, .int .i64 0, .bool false, .bool false, .bool false, .bool false, .int .i64 0, .int .i64 0, .slice none 0 0, .slice none 0 0, .slice none 0 0, .slice none 0 0], .bool false]) rfl (by kernel_rfl) (by kernel_rfl) (by kernel_rfl) (fun _ _ _ h => h) (Or.inl ⟨by rfl, fun w' hS => ?_⟩) (by assumption) ?_
      · clear hS hHeld
        go_simp
      try simp only [Act.put, List.getElem_toArray, List.getElem_cons_succ, List.getElem_cons_zero, List.setIfInBounds_toArray, List.set_cons_zero, List.set_cons_succ]
      refine wpAnyH_take (i := 9) (v := .agg #[.int .i64 0, .bool false, .int .i64 0, .bool false, .bool false, .bool false, .bool false, .int .i64 0, .int .i64 0, .slice none 0 0, .slice none 0 0, .slice none 0 0, .slice none 0 0]) rfl (by kernel_rfl) (by kernel_rfl) (by kernel_rfl) (fun _ _ _ h => h) (Or.inl ⟨by rfl, fun w' hS => ?_⟩) (by assumption) ?_
      · clear hS hHeld
        go_simp
      try simp only [Act.put, List.getElem_toArray, List.getElem_cons_succ, List.getElem_cons_zero, List.setIfInBounds_toArray, List.set_cons_zero, List.set_cons_succ]
      refine wpAnyH_take (i := 10) (v := .bool false) rfl (by kernel_rfl) (by kernel_rfl) (by kernel_rfl) (fun _ _ _ h => h) (Or.inl ⟨by rfl, fun w' hS => ?_⟩) (by assumption) ?_
      · clear hS hHeld
        go_simp
      try simp only [Act.put, List.getElem_toArray, List.getElem_cons_succ, List.getElem_cons_zero, List.setIfInBounds_toArray, List.set_cons_zero, List.set_cons_succ]
      refine wpAnyH_ready (rs := [12]) (by kernel_rfl) (by simp) ((AllReadyH.cons rfl (fun K hK => ?_) AllReadyH.nil))
      go_simp
      refine hK.out _ _ trivial (fun hHeld => ?_)
      clear hK K
      try simp only [Act.put, List.getElem_toArray, List.getElem_cons_succ, List.getElem_cons_zero, List.setIfInBounds_toArray, List.set_cons_zero, List.set_cons_succ]
      refine wpAnyH_take (i := 13) (v := .bool false) rfl (by kernel_rfl) (by kernel_rfl) (by kernel_rfl) (fun _ _ _ h => h) (Or.inl ⟨by rfl, fun w' hS => ?_⟩) (by assumption) ?_
      · clear hS hHeld
        go_simp
      try simp only [Act.put, List.getElem_toArray, List.getElem_cons_succ, List.getElem_cons_zero, List.setIfInBounds_toArray, List.set_cons_zero, List.set_cons_succ]
      refine wpAnyH_done (by kernel_rfl) ?_ _
      clear hHeld
      go_wp2_with (go_at_call 11; refine (dnsReadRoot_calls _ BY _ (IsB.gr hb9 (by (repeat (with_reducible first | exact Gr.refl _ | assumption | refine Gr.alloc ?_ _ | refine Gr.drew ?_ | refine Gr.drewN ?_ _ | refine Gr.trans ?_ (by assumption))); done)) (by rw [XQ.out.1]; omega) (by rw [XQ.out.1]; omega) XQ.out.2.1 XQ.out.2.2.1 XQ.out.2.2.2.1 XQ.out.2.2.2.2.1 XQ.out.2.2.2.2.2).mono ?_; rintro e w6 ⟨⟨z0, z1, z2, z3, z4, z5, z6, z7, z8, g5, c5, b1, b2, b3, rfl⟩, hg6⟩)
      go_ret
      exact ⟨by simp, (by (repeat (with_reducible first | exact Gr.refl _ | assumption | refine Gr.alloc ?_ _ | refine Gr.drew ?_ | refine Gr.drewN ?_ _ | refine Gr.trans ?_ (by assumption))); done)⟩
  · go_simp
    refine hK.out _ _ trivial (fun hHeld => ?_)
    clear hK K
    try simp only [Act.put, List.getElem_toArray, List.getElem_cons_succ, List.getElem_cons_zero, List.setIfInBounds_toArray, List.set_cons_zero, List.set_cons_succ]
    refine wpAnyH_ready (rs := [2]) (by kernel_rfl) (by simp) ((AllReadyH.cons rfl (fun K hK => ?_) AllReadyH.nil))
    go_simp
    refine hK.out _ _ trivial (fun hHeld => ?_)
    clear hK K
    try simp only [Act.put, List.getElem_toArray, List.getElem_cons_succ, List.getElem_cons_zero, List.setIfInBounds_toArray, List.set_cons_zero, List.set_cons_succ]
    refine wpAnyH_ready (rs := [5]) (by kernel_rfl) (by simp) ((AllReadyH.cons rfl (fun K hK => ?_) AllReadyH.nil))
    go_simp
    refine hK.out _ _ trivial (fun hHeld => ?_)
    clear hK K
    try simp only [Act.put, List.getElem_toArray, List.getElem_cons_succ, List.getElem_cons_zero, List.setIfInBounds_toArray, List.set_cons_zero, List.set_cons_succ]
    refine wpAnyH_ready (rs := [6]) (by kernel_rfl) (by simp) ((AllReadyH.cons rfl (fun K hK => ?_) AllReadyH.nil))
    go_simp
    go_at_call 12
    refine (joined_calls _ [BY.take 12, [192, 12], BY.drop 13] _ (by first | exact isBs_at _ _ [BY.take 12, [192, 12], BY.drop 13] _ (Reads.cons (IsB.gr hv1 (by (repeat (with_reducible first | exact Gr.refl _ | assumption | refine Gr.alloc ?_ _ | refine Gr.drew ?_ | refine Gr.drewN ?_ _ | refine Gr.trans ?_ (by assumption))); done)) (Reads.cons (lit2_gr (by (repeat (with_reducible first | exact Gr.refl _ | assumption | refine Gr.alloc ?_ _ | refine Gr.drew ?_ | refine Gr.drewN ?_ _ | refine Gr.trans ?_ (by assumption))); done) (by first | rfl | simp) (by omega) (by omega)) (Reads.cons (IsB.gr hv2 (by (repeat (with_reducible first | exact Gr.refl _ | assumption | refine Gr.alloc ?_ _ | refine Gr.drew ?_ | refine Gr.drewN ?_ _ | refine Gr.trans ?_ (by assumption))); done)) (Reads.nil _)))) _ rfl _ (by simp) | exact isBsDrew (isBs_at _ _ [BY.take 12, [192, 12], BY.drop 13] _ (Reads.cons (IsB.gr hv1 (by (repeat (with_reducible first | exact Gr.refl _ | assumption | refine Gr.alloc ?_ _ | refine Gr.drew ?_ | refine Gr.drewN ?_ _ | refine Gr.trans ?_ (by assumption))); done)) (Reads.cons (lit2_gr (by (repeat (with_reducible first | exact Gr.refl _ | assumption | refine Gr.alloc ?_ _ | refine Gr.drew ?_ | refine Gr.drewN ?_ _ | refine Gr.trans ?_ (by assumption))); done) (by first | rfl | simp) (by omega) (by omega)) (Reads.cons (IsB.gr hv2 (by (repeat (with_reducible first | exact Gr.refl _ | assumption | refine Gr.alloc ?_ _ | refine Gr.drew ?_ | refine Gr.drewN ?_ _ | refine Gr.trans ?_ (by assumption))); done)) (Reads.nil _)))) _ rfl _ (by simp))) (by rw [XP.out.1]; omega) (by simp)).mono ?_
    rintro e w8 ⟨aj, nj, cj, rfl, ho8, hg8⟩
    have hb8 := ho8.isB
    clear ho8
    obtain ⟨y8, hy8, rfl⟩ := one_row (ca := [.int .i64 0, .bool false, .int .i64 0, .bool false, .bool false, .bool false, .bool false, .int .i64 0, .int .i64 0, .slice none 0 0, .slice none 0 0, .slice none 0 0, .slice none 0 0]) (ta := 25) (A := w9.heap.size) (by exact zrow0 _ _ _ _ _) hg8
    refine hK.out _ _ trivial (fun hHeld => ?_)
    clear hK K
    try simp only [Act.put, List.getElem_toArray, List.getElem_cons_succ, List.getElem_cons_zero, List.setIfInBounds_toArray, List.set_cons_zero, List.set_cons_succ]
    refine wpAnyH_ready (rs := [7]) (by kernel_rfl) (by simp) ((AllReadyH.cons rfl (fun K hK => ?_) AllReadyH.nil))
    go_simp
    go_at_call 11
    refine (dnsReadSelf_calls _ [BY.take 12, [192, 12], BY.drop 13].flatten ad _ (IsB.gr hb8 (by (repeat (with_reducible first | exact Gr.refl _ | assumption | refine Gr.alloc ?_ _ | refine Gr.drew ?_ | refine Gr.drewN ?_ _ | refine Gr.trans ?_ (by assumption))); done)) (by rw [XP.out.1]; omega) (by rw [XP.out.1]; omega) XP.out.2.1 XP.out.2.2.1 XP.out.2.2.2.1 XP.out.2.2.2.2.1 XP.out.2.2.2.2.2.1 XP.out.2.2.2.2.2.2 (Gr.cell (by (repeat (with_reducible first | exact Gr.refl _ | assumption | refine Gr.alloc ?_ _ | refine Gr.drew ?_ | refine Gr.drewN ?_ _ | refine Gr.trans ?_ (by assumption))); done) HM.out)).mono ?_
    rintro e w7 ⟨rfl, hg7⟩
    obtain ⟨y7, hy7, rfl⟩ := one_row (rowW_heap hy8) hg7
    refine hK.out _ _ trivial (fun hHeld => ?_)
    clear hK K
    try simp only [Act.put, List.getElem_toArray, List.getElem_cons_succ, List.getElem_cons_zero, List.setIfInBounds_toArray, List.set_cons_zero, List.set_cons_succ]
    refine wpAnyH_take (i := 8) (v := .tuple #[.agg #[.int .i64 0, .bool false, .int .i64 0, .bool false, .bool false, .bool false, .bool false, .int .i64 0, .int .i64 0, .slice none 0 0, .slice none 0 0, .slice none 0 0, .slice none 0 0], .bool false]) rfl (by kernel_rfl) (by kernel_rfl) (by kernel_rfl) (fun _ _ _ h => h) (Or.inl ⟨by rfl, fun w' hS => ?_⟩) (by assumption) ?_
    · clear hS hHeld
      go_simp
    try simp only [Act.put, List.getElem_toArray, List.getElem_cons_succ, List.getElem_cons_zero, List.setIfInBounds_toArray, List.set_cons_zero, List.set_cons_succ]
    refine wpAnyH_take (i := 9) (v := .agg #[.int .i64 0, .bool false, .int .i64 0, .bool false, .bool false, .bool false, .bool false, .int .i64 0, .int .i64 0, .slice none 0 0, .slice none 0 0, .slice none 0 0, .slice none 0 0]) rfl (by kernel_rfl) (by kernel_rfl) (by kernel_rfl) (fun _ _ _ h => h) (Or.inl ⟨by rfl, fun w' hS => ?_⟩) (by assumption) ?_
    · clear hS hHeld
      go_simp
    try simp only [Act.put, List.getElem_toArray, List.getElem_cons_succ, List.getElem_cons_zero, List.setIfInBounds_toArray, List.set_cons_zero, List.set_cons_succ]
    refine wpAnyH_take (i := 10) (v := .bool false) rfl (by kernel_rfl) (by kernel_rfl) (by kernel_rfl) (fun _ _ _ h => h) (Or.inl ⟨by rfl, fun w' hS => ?_⟩) (by assumption) ?_
    · clear hS hHeld
      go_simp
    try simp only [Act.put, List.getElem_toArray, List.getElem_cons_succ, List.getElem_cons_zero, List.setIfInBounds_toArray, List.set_cons_zero, List.set_cons_succ]
    refine wpAnyH_ready (rs := [12]) (by kernel_rfl) (by simp) ((AllReadyH.cons rfl (fun K hK => ?_) AllReadyH.nil))
    go_simp
    refine hK.out _ _ trivial (fun hHeld => ?_)
    clear hK K
    try simp only [Act.put, List.getElem_toArray, List.getElem_cons_succ, List.getElem_cons_zero, List.setIfInBounds_toArray, List.set_cons_zero, List.set_cons_succ]
    refine wpAnyH_take (i := 13) (v := .bool false) rfl (by kernel_rfl) (by kernel_rfl) (by kernel_rfl) (fun _ _ _ h => h) (Or.inl ⟨by rfl, fun w' hS => ?_⟩) (by assumption) ?_
    · clear hS hHeld
      go_simp
    try simp only [Act.put, List.getElem_toArray, List.getElem_cons_succ, List.getElem_cons_zero, List.setIfInBounds_toArray, List.set_cons_zero, List.set_cons_succ]
    refine wpAnyH_done (by kernel_rfl) ?_ _
    clear hHeld
    go_wp2_with (go_at_call 11; refine (dnsReadRoot_calls _ BY _ (IsB.gr hb9 (by (repeat (with_reducible first | exact Gr.refl _ | assumption | refine Gr.alloc ?_ _ | refine Gr.drew ?_ | refine Gr.drewN ?_ _ | refine Gr.trans ?_ (by assumption))); done)) (by rw [XQ.out.1]; omega) (by rw [XQ.out.1]; omega) XQ.out.2.1 XQ.out.2.2.1 XQ.out.2.2.2.1 XQ.out.2.2.2.2.1 XQ.out.2.2.2.2.2).mono ?_; rintro e w6 ⟨⟨z0, z1, z2, z3, z4, z5, z6, z7, z8, g5, c5, b1, b2, b3, rfl⟩, hg6⟩)
    go_ret
    exact ⟨by simp, (by (repeat (with_reducible first | exact Gr.refl _ | assumption | refine Gr.alloc ?_ _ | refine Gr.drew ?_ | refine Gr.drewN ?_ _ | refine Gr.trans ?_ (by assumption))); done)⟩

theorem lawDNSLoop_calls (a b c : Int) (w : World) (hH : Door.Held w) :
    Calls Tryd.prog 4 #[.int .i64 a, .int .i64 b, .int .i64 c] w fun e w' => e = .returned (.bool true) ∧ Gr w w' := by
  cases c0 : decide (a < 0) with
  | true =>
    go_enter Tryd.func4, Tryd.ntmps4
    go_wp2_with fail
    go_ret
    exact ⟨rfl, (by (repeat (with_reducible first | exact Gr.refl _ | assumption | refine Gr.alloc ?_ _ | refine Gr.drew ?_ | refine Gr.drewN ?_ _ | refine Gr.trans ?_ (by assumption))); done)⟩
  | false =>
    cases c1 : decide (65535 < a) with
    | true =>
      go_enter Tryd.func4, Tryd.ntmps4
      go_wp2_with fail
      go_ret
      exact ⟨rfl, (by (repeat (with_reducible first | exact Gr.refl _ | assumption | refine Gr.alloc ?_ _ | refine Gr.drew ?_ | refine Gr.drewN ?_ _ | refine Gr.trans ?_ (by assumption))); done)⟩
    | false =>
      cases c2 : decide (b < 0) with
      | true =>
        go_enter Tryd.func4, Tryd.ntmps4
        go_wp2_with fail
        go_ret
        exact ⟨rfl, (by (repeat (with_reducible first | exact Gr.refl _ | assumption | refine Gr.alloc ?_ _ | refine Gr.drew ?_ | refine Gr.drewN ?_ _ | refine Gr.trans ?_ (by assumption))); done)⟩
      | false =>
        cases c3 : decide (65535 < b) with
        | true =>
          go_enter Tryd.func4, Tryd.ntmps4
          go_wp2_with fail
          go_ret
          exact ⟨rfl, (by (repeat (with_reducible first | exact Gr.refl _ | assumption | refine Gr.alloc ?_ _ | refine Gr.drew ?_ | refine Gr.drewN ?_ _ | refine Gr.trans ?_ (by assumption))); done)⟩
        | false =>
          cases c4 : decide (c < 0) with
          | true =>
            go_enter Tryd.func4, Tryd.ntmps4
            go_wp2_with fail
            go_ret
            exact ⟨rfl, (by (repeat (with_reducible first | exact Gr.refl _ | assumption | refine Gr.alloc ?_ _ | refine Gr.drew ?_ | refine Gr.drewN ?_ _ | refine Gr.trans ?_ (by assumption))); done)⟩
          | false =>
            cases c5 : decide (65535 < c) with
            | true =>
              go_enter Tryd.func4, Tryd.ntmps4
              go_wp2_with fail
              go_ret
              exact ⟨rfl, (by (repeat (with_reducible first | exact Gr.refl _ | assumption | refine Gr.alloc ?_ _ | refine Gr.drew ?_ | refine Gr.drewN ?_ _ | refine Gr.trans ?_ (by assumption))); done)⟩
            | false => exact lawDNSLoopIn_calls a b c w hH c0 c1 c2 c3 c4 c5

end Go.Proofs.YtdhilikbmeffkaaDoor
