/-
  A header of the fourth version as a layer, its options copied.
-/
import Derived.Test.YtdpffedmgmllbaaW4Rd
import Derived.Test.YtdpffedmgmllbaaIP4Spec
import Derived.Deep.DeepCutAuto
namespace Go.Proofs.Ytdpffedmgmllbaa
open Go.RowKit

theorem step_of {α : Type} {rs : List α} {k : Nat} {p : α} (h : rs[k]? = some p) : rs.take (k + 1) = rs.take k ++ [p] := by
  rw [List.take_add_one, h]; rfl
theorem raw_memw : ∀ (os : List Opt) (x : Opt), x ∈ os → (optB x).length ≤ (optsRaw os).length
  | [], x, h => by cases h
  | y :: r, x, h => by
    have e : optsRaw (y :: r) = optB y ++ optsRaw r := by simp [optsRaw]
    rw [e, List.length_append]
    rcases List.mem_cons.1 h with rfl | h
    · omega
    · have := raw_memw r x h
      omega
theorem opt_rngw {os : List Opt} (hok : ∀ x ∈ os, OkOpt x) (hraw : (optsRaw os).length ≤ 40) : ∀ x ∈ os, 0 ≤ x.kind ∧ x.kind ≤ 255 ∧ 0 ≤ x.len ∧ x.len ≤ 255 ∧ x.data.length ≤ 255 := by
  intro x hx
  obtain ⟨h1, h2, h3⟩ := hok x hx
  rcases h1 with ⟨k1, k2, k3⟩ | ⟨k1, k2⟩
  · rw [k2, k3]; simp; omega
  · have h := raw_memw os x hx
    simp only [optB, if_neg k1, List.length_append, List.length_cons, List.length_nil] at h
    omega
/-- what holds ahead of a round that copies an option -/
def MkRel (wb : World) (V : Nat) (os : List Opt) (c : Value → List Value) (i : Value) (wr : World) : Prop :=
  ∃ (k : Nat) (rs' : List (Opt × Value)) (x : World) (a : Option Addr) (n m : Nat), k ≤ os.length ∧ i = .int .i64 k ∧ wr = rowW x V (c (.slice a n m)) 179 ∧ Has x V ∧ Gr wb x ∧ OwnO .u8 .u8 wr wb.heap.size 181 V (.slice a n m) rs' ∧ rs'.map Prod.fst = os.take k ∧ ∀ p ∈ rs', ∀ k, k < wb.heap.size → Aside p.2 p.1.data k
/-- the layer ahead of its options -/
def Mk4Mid (w : World) (sv idn fl fo tt pr : Int) (ao : Option Addr) (no co : Nat) (l1 l2 : List Int) (t : Value) (wx : World) : Prop := ∃ V sa sc da dc, t = .pointer (some ⟨V, 0, none⟩) ∧ w.heap.size < V ∧ Gr w wx ∧ wx.heap[V]? = some (.cells [.slice none 0 0, .slice none 0 0, .int .u8 4, .int .u8 0, .int .u8 sv, .int .u16 0, .int .u16 idn, .int .u8 fl, .int .u16 fo, .int .u8 tt, .int .u8 pr, .int .u16 0, .slice sa 4 sc, .slice da 4 dc, .slice none 0 0, .slice none 0 0].toArray 179 (0, 0)) ∧ IsB wx (.slice sa 4 sc) l1 ∧ IsB wx (.slice da 4 dc) l2 ∧
  (Value.slice sa 4 sc).ownBlock ≠ some V ∧ (Value.slice da 4 dc).ownBlock ≠ some V ∧ (∀ k, k < w.heap.size → (Value.slice sa 4 sc).ownBlock ≠ some k) ∧ (∀ k, k < w.heap.size → (Value.slice da 4 dc).ownBlock ≠ some k) ∧ wx.cell? ⟨w.heap.size, 11, none⟩ = some (.slice ao no co)

/-- the layer, made -/
def Mk4Post (w : World) (sv idn fl fo tt pr : Int) (l1 l2 : List Int) (os : List Opt) (e : Ending) (w' : World) : Prop := ∃ V sa sc da dc a n m rs, e = .returned (.pointer (some ⟨V, 0, none⟩)) ∧ w.heap.size < V ∧ w'.heap[V]? = some (.cells [.slice none 0 0, .slice none 0 0, .int .u8 4, .int .u8 0, .int .u8 sv, .int .u16 0, .int .u16 idn, .int .u8 fl, .int .u16 fo, .int .u8 tt, .int .u8 pr, .int .u16 0, .slice sa 4 sc, .slice da 4 dc, .slice a n m, .slice none 0 0].toArray 179 (0, 0)) ∧ IsB w' (.slice sa 4 sc) l1 ∧ IsB w' (.slice da 4 dc) l2 ∧
      (Value.slice sa 4 sc).ownBlock ≠ some V ∧ (Value.slice da 4 dc).ownBlock ≠ some V ∧ (∀ k, k < w.heap.size → (Value.slice sa 4 sc).ownBlock ≠ some k) ∧ (∀ k, k < w.heap.size → (Value.slice da 4 dc).ownBlock ≠ some k) ∧ Gr w w' ∧
      RdO .u8 .u8 w' (.slice a n m) rs (fun k => k = V ∨ k < w.heap.size) ∧ rs.map Prod.fst = os

set_option linter.unusedSimpArgs false in
set_option maxRecDepth 100000 in
set_option maxHeartbeats 4000000 in
theorem mkIPv4_calls (wo sv ln idn fl fo tt pr ck : Int) (a1 : Option Addr) (n1 c1 : Nat) (a2 : Option Addr) (n2 c2 : Nat) (ao : Option Addr) (no co : Nat) (l1 l2 : List Int) (os : List Opt) (w : World) (h1 : IsB w (.slice a1 n1 c1) l1) (h2 : IsB w (.slice a2 n2 c2) l2) (h0 : IsOpts w (.slice ao no co) os) (z1 : l1.length = 4) (z2 : l2.length = 4) (u1 : 0 ≤ sv ∧ sv ≤ 255) (u2 : 0 ≤ idn ∧ idn ≤ 65535) (u3 : 0 ≤ fl ∧ fl ≤ 7) (u4 : 0 ≤ fo ∧ fo ≤ 8191) (u5 : 0 ≤ tt ∧ tt ≤ 255) (u6 : 0 ≤ pr ∧ pr ≤ 255) (hok : ∀ x ∈ os, OkOpt x) (hraw : (optsRaw os).length ≤ 40) :
    Calls Try.prog 59 #[.agg #[.int .i64 wo, .int .i64 sv, .int .i64 ln, .int .i64 idn, .int .i64 fl, .int .i64 fo, .int .i64 tt, .int .i64 pr, .int .i64 ck, .slice a1 n1 c1, .slice a2 n2 c2, .slice ao no co]] w fun e w' => Mk4Post w sv idn fl fo tt pr l1 l2 os e w' := by
  have hlo := fun ty => h0.len ty
  have hrng := opt_rngw hok hraw
  have hol := Nat.le_trans (len_raw os) hraw
  have HRNG := Lib.hid hrng
  have H0 := Lib.hid h0
  have H1 := Lib.hid h1
  have H2 := Lib.hid h2
  clear h0 h1 h2 hok hraw hrng
  have y0 : IntKind.u8.wrap sv = sv := by simp [IntKind.wrap, IntKind.bits, IntKind.signed]; omega
  have y1 : IntKind.u16.wrap idn = idn := by simp [IntKind.wrap, IntKind.bits, IntKind.signed]; omega
  have y2 : IntKind.u8.wrap fl = fl := by simp [IntKind.wrap, IntKind.bits, IntKind.signed]; omega
  have y3 : IntKind.u16.wrap fo = fo := by simp [IntKind.wrap, IntKind.bits, IntKind.signed]; omega
  have y4 : IntKind.u8.wrap tt = tt := by simp [IntKind.wrap, IntKind.bits, IntKind.signed]; omega
  have y5 : IntKind.u8.wrap pr = pr := by simp [IntKind.wrap, IntKind.bits, IntKind.signed]; omega
  go_enter Try.func59, Try.ntmps59
  go_upto_region 1 with fail
  go_cut [3] (fun t wx => Mk4Mid w sv idn fl fo tt pr ao no co l1 l2 t wx)
  case first =>
    go_region_held3 (fun w' => w'.cell? ⟨w.heap.size, 1, none⟩ = some (.int .i64 sv) ∧ w'.cell? ⟨w.heap.size, 3, none⟩ = some (.int .i64 idn) ∧ w'.cell? ⟨w.heap.size, 4, none⟩ = some (.int .i64 fl) ∧ w'.cell? ⟨w.heap.size, 5, none⟩ = some (.int .i64 fo) ∧ w'.cell? ⟨w.heap.size, 6, none⟩ = some (.int .i64 tt) ∧ w'.cell? ⟨w.heap.size, 7, none⟩ = some (.int .i64 pr) ∧ w'.cell? ⟨w.heap.size, 9, none⟩ = some (.slice a1 n1 c1) ∧ w'.cell? ⟨w.heap.size, 10, none⟩ = some (.slice a2 n2 c2)) (first | exact ⟨hc9 1, hc9 3, hc9 4, hc9 5, hc9 6, hc9 7, hc9 9, hc9 10⟩ | exact And.imp (Gr.cell (by assumption)) (And.imp (Gr.cell (by assumption)) (And.imp (Gr.cell (by assumption)) (And.imp (Gr.cell (by assumption)) (And.imp (Gr.cell (by assumption)) (And.imp (Gr.cell (by assumption)) (And.imp (Gr.cell (by assumption)) (Gr.cell (by assumption)))))))) (by assumption) | exact And.imp (Gr.cell ((Gr.refl _).alloc _)) (And.imp (Gr.cell ((Gr.refl _).alloc _)) (And.imp (Gr.cell ((Gr.refl _).alloc _)) (And.imp (Gr.cell ((Gr.refl _).alloc _)) (And.imp (Gr.cell ((Gr.refl _).alloc _)) (And.imp (Gr.cell ((Gr.refl _).alloc _)) (And.imp (Gr.cell ((Gr.refl _).alloc _)) (Gr.cell ((Gr.refl _).alloc _)))))))) (by assumption) | go_keep) (first
      | (go_at_call_of 44 (Value.slice a1 n1 c1); refine (copied_calls _ l1 _ (H1.out.gr (by (repeat (with_reducible first | exact Gr.refl _ | assumption | refine Gr.alloc ?_ _ | refine Gr.drew ?_ | refine Gr.drewN ?_ _ | refine Gr.trans ?_ (by assumption))); done)) (by omega)).mono ?_; rintro e w9 ⟨sa, s9, sc, rfl, hoS, hgS⟩; obtain ⟨hs9, hc9⟩ := Gr.boxed (w := w) (cs := [.int .i64 wo, .int .i64 sv, .int .i64 ln, .int .i64 idn, .int .i64 fl, .int .i64 fo, .int .i64 tt, .int .i64 pr, .int .i64 ck, .slice a1 n1 c1, .slice a2 n2 c2, .slice ao no co]) (t := 51) (w' := w9) (by (repeat (with_reducible first | exact Gr.refl _ | assumption | refine Gr.alloc ?_ _ | refine Gr.drew ?_ | refine Gr.drewN ?_ _ | refine Gr.trans ?_ (by assumption))); done); have hbS := hoS.isB; have hfS : ∀ k, k < w.heap.size → (Value.slice sa s9 sc).ownBlock ≠ some k := (fun k hk => hoS.other (Nat.lt_of_lt_of_le hk (World.grownBy.size (show Gr w _ from (by (repeat (with_reducible first | exact Gr.refl _ | assumption | refine Gr.alloc ?_ _ | refine Gr.drew ?_ | refine Gr.drewN ?_ _ | refine Gr.trans ?_ (by assumption))); done))))); obtain rfl : s9 = 4 := (by rw [hbS.count, z1]))
      | (go_at_call_of 44 (Value.slice a2 n2 c2); refine (copied_calls _ l2 _ (H2.out.gr (by (repeat (with_reducible first | exact Gr.refl _ | assumption | refine Gr.alloc ?_ _ | refine Gr.drew ?_ | refine Gr.drewN ?_ _ | refine Gr.trans ?_ (by assumption))); done)) (by omega)).mono ?_; rintro e x9 ⟨da, d9, dc, rfl, hoD, hgD⟩; obtain ⟨hs9, hc9⟩ := Gr.boxed (w := w) (cs := [.int .i64 wo, .int .i64 sv, .int .i64 ln, .int .i64 idn, .int .i64 fl, .int .i64 fo, .int .i64 tt, .int .i64 pr, .int .i64 ck, .slice a1 n1 c1, .slice a2 n2 c2, .slice ao no co]) (t := 51) (w' := x9) (by (repeat (with_reducible first | exact Gr.refl _ | assumption | refine Gr.alloc ?_ _ | refine Gr.drew ?_ | refine Gr.drewN ?_ _ | refine Gr.trans ?_ (by assumption))); done); have hbD := hoD.isB; have hfD : ∀ k, k < w.heap.size → (Value.slice da d9 dc).ownBlock ≠ some k := (fun k hk => hoD.other (Nat.lt_of_lt_of_le hk (World.grownBy.size (show Gr w _ from (by (repeat (with_reducible first | exact Gr.refl _ | assumption | refine Gr.alloc ?_ _ | refine Gr.drew ?_ | refine Gr.drewN ?_ _ | refine Gr.trans ?_ (by assumption))); done))))); have HgwD := Lib.hid (show Gr (World.alloc w (.cells [.int .i64 wo, .int .i64 sv, .int .i64 ln, .int .i64 idn, .int .i64 fl, .int .i64 fo, .int .i64 tt, .int .i64 pr, .int .i64 ck, .slice a1 n1 c1, .slice a2 n2 c2, .slice ao no co].toArray 51)) x9 from (by (repeat (with_reducible first | exact Gr.refl _ | assumption | refine Gr.alloc ?_ _ | refine Gr.drew ?_ | refine Gr.drewN ?_ _ | refine Gr.trans ?_ (by assumption))); done)); obtain rfl : d9 = 4 := (by rw [hbD.count, z2])))
    all_goals (go_wp2_with fail; go_meet)
    all_goals (unfold Mk4Mid)
    all_goals exact ⟨x9.heap.size, sa, sc, da, dc, rfl, by have := HgwD.out.size; rw [World.size_alloc] at this; omega, (by (repeat (with_reducible first | exact Gr.refl _ | assumption | refine Gr.alloc ?_ _ | refine Gr.drew ?_ | refine Gr.drewN ?_ _ | refine Gr.trans ?_ (by assumption))); done), heap_alloc_new x9 (.cells [.slice none 0 0, .slice none 0 0, .int .u8 4, .int .u8 0, .int .u8 sv, .int .u16 0, .int .u16 idn, .int .u8 fl, .int .u16 fo, .int .u8 tt, .int .u8 pr, .int .u16 0, .slice sa 4 sc, .slice da 4 dc, .slice none 0 0, .slice none 0 0].toArray 179), hbS.gr (by (repeat (with_reducible first | exact Gr.refl _ | assumption | refine Gr.alloc ?_ _ | refine Gr.drew ?_ | refine Gr.drewN ?_ _ | refine Gr.trans ?_ (by assumption))); done), hbD.gr (by (repeat (with_reducible first | exact Gr.refl _ | assumption | refine Gr.alloc ?_ _ | refine Gr.drew ?_ | refine Gr.drewN ?_ _ | refine Gr.trans ?_ (by assumption))); done), hoS.below hgD.size, hoD.below (Nat.le_refl _), hfS, hfD, Gr.cell ((Gr.refl _).alloc _) (hc9 11)⟩
  case rest =>
  unfold Mk4Mid at hcut
  obtain ⟨V, sa, sc, da, dc, rfl, hVw, hgC, hHC, hi5, hi6, n5, n6, hf5, hf6, k11⟩ := hcut
  have hdT : Has wc V := (Array.getElem?_eq_some_iff.1 hHC).1
  have HHC := Lib.hid hHC
  have GC := Lib.hid hgC
  have gwc := hgC.size
  clear hHC hgC
  go_wp2_with fail
  clear y0 y1 y2 y3 y4 y5
  go_loopw [35] (MkRel wc V os (fun o => [.slice none 0 0, .slice none 0 0, .int .u8 4, .int .u8 0, .int .u8 sv, .int .u16 0, .int .u16 idn, .int .u8 fl, .int .u16 fo, .int .u8 tt, .int .u8 pr, .int .u16 0, .slice sa 4 sc, .slice da 4 dc, o, .slice none 0 0])) (fun i _ => os.length - (intOf i).toNat)
  case atStart => exact ⟨0, [], wc, none, 0, 0, Nat.zero_le _, rfl, (rowW_self HHC.out).symm, hdT, Gr.refl _, OwnO.nil, by simp, fun p hp => by cases hp⟩
  case round =>
    obtain ⟨k, rs', x, av, nv, cv, hk, rfl, rfl, hX, hG, hOw, hrs', hfar'⟩ := hrel
    have HOw := Lib.hid hOw
    have HRS' := Lib.hid hrs'
    have HFAR := Lib.hid hfar'
    have HG := Lib.hid hG
    clear hOw hrs' hfar' hG
    by_cases hlt : k < os.length
    · obtain ⟨g, o, ix, hx⟩ := H0.out.idx .i64 k k rfl hlt
      have hxk : os[k]? = some (os.getD k Opt.zero) := by rw [List.getD_eq_getElem?_getD, List.getElem?_eq_getElem hlt]; rfl
      have hrg := HRNG.out _ (List.mem_of_getElem? hxk)
      obtain ⟨xo, hxo⟩ : ∃ xo, xo = os.getD k Opt.zero := ⟨_, rfl⟩
      rw [← hxo] at hx hxk hrg
      clear hxo
      obtain ⟨kd, ln', d⟩ := xo
      obtain ⟨-, -, c0, c1, ad, nd, md, c2, hI⟩ := hx
      simp only at c0 c1 c2 hI hrg
      obtain rfl := hI.count
      have hgl := cell_lt c0
      have neG : g ≠ V := by omega
      have c0 := HG.out.cell (GC.out.cell c0)
      have c1 := HG.out.cell (GC.out.cell c1)
      have c2 := HG.out.cell (GC.out.cell c2)
      have HID := Lib.hid (show IsB (rowW x V [.slice none 0 0, .slice none 0 0, .int .u8 4, .int .u8 0, .int .u8 sv, .int .u16 0, .int .u16 idn, .int .u8 fl, .int .u16 fo, .int .u8 tt, .int .u8 pr, .int .u16 0, .slice sa 4 sc, .slice da 4 dc, .slice av nv cv, .slice none 0 0] 179) (.slice ad d.length md) d from IsB.keptE ((hI.gr GC.out).gr HG.out) (rowW_grown (some V) rfl) (hI.aside (by omega)))
      obtain ⟨nd, hnd⟩ : ∃ nd, nd = d.length := ⟨_, rfl⟩
      rw [← hnd] at c2 HID
      have HP := Lib.hid hxk
      have HLT := Lib.hid hlt
      have wk : IntKind.u8.wrap kd = kd := by simp [IntKind.wrap, IntKind.bits, IntKind.signed]; omega
      have wl : IntKind.u8.wrap ln' = ln' := by simp [IntKind.wrap, IntKind.bits, IntKind.signed]; omega
      have hdl : d.length ≤ 255 := hrg.2.2.2.2
      have HRSL := Lib.hid (show rs'.length ≤ 1000000000 by have e := congrArg List.length HRS'.out; rw [List.length_map, List.length_take] at e; omega)
      clear hxk hI hlt hnd hrg
      go_wp2_with fail
      obtain ⟨Y, hY⟩ : ∃ Y, Y = ((rowW x V [.slice none 0 0, .slice none 0 0, .int .u8 4, .int .u8 0, .int .u8 sv, .int .u16 0, .int .u16 idn, .int .u8 fl, .int .u16 fo, .int .u8 tt, .int .u8 pr, .int .u16 0, .slice sa 4 sc, .slice da 4 dc, .slice av nv cv, .slice none 0 0] 179).alloc (.cells #[.int .i64 kd, .int .i64 ln', .slice ad nd md] 96)) := ⟨_, rfl⟩
      rw [← hY]
      obtain ⟨T8, hT8⟩ : ∃ T8, T8 = x.heap.size := ⟨_, rfl⟩
      try rw [← hT8]
      have gY : Gr (rowW x V [.slice none 0 0, .slice none 0 0, .int .u8 4, .int .u8 0, .int .u8 sv, .int .u16 0, .int .u16 idn, .int .u8 fl, .int .u16 fo, .int .u8 tt, .int .u8 pr, .int .u16 0, .slice sa 4 sc, .slice da 4 dc, .slice av nv cv, .slice none 0 0] 179) Y := by rw [hY]; exact (Gr.refl _).alloc _
      have bY := box3 (w := rowW x V [.slice none 0 0, .slice none 0 0, .int .u8 4, .int .u8 0, .int .u8 sv, .int .u16 0, .int .u16 idn, .int .u8 fl, .int .u16 fo, .int .u8 tt, .int .u8 pr, .int .u16 0, .slice sa 4 sc, .slice da 4 dc, .slice av nv cv, .slice none 0 0] 179) (b := T8) (by rw [hT8, rowW_size]) (.int .i64 kd) (.int .i64 ln') (.slice ad nd md) 96
      rw [← hY] at bY
      obtain ⟨bY0, bY1, bY2⟩ := bY
      have cY := gY.cell (rowW_cell hX 14)
      have HOY := Lib.hid (HOw.out.gr gY)
      have GWY := Lib.hid ((gr_rows (cs := [.slice none 0 0, .slice none 0 0, .int .u8 4, .int .u8 0, .int .u8 sv, .int .u16 0, .int .u16 idn, .int .u8 fl, .int .u16 fo, .int .u8 tt, .int .u8 pr, .int .u16 0, .slice sa 4 sc, .slice da 4 dc, .slice av nv cv, .slice none 0 0]) (e := 179) hdT HG.out).trans gY)
      have neV := Lib.hid (show ∀ k, (Value.slice av nv cv).ownBlock = some k → k ≠ T8 from fun k hk => by
        have h1 := (HOw.out.fresh k hk).2
        rw [rowW_size] at h1
        omega)
      have HIDY := Lib.hid ((HID.out.gr gY))
      have szY := gY.size
      have szW := HG.out.size
      rw [rowW_size] at szY
      have HB0 := Lib.hid (And.intro bY0 (And.intro bY1 bY2))
      have CY := Lib.hid cY
      have hTb : V < wc.heap.size := hdT
      have neTT : T8 ≠ V := by omega
      clear hY hT8 gY cY
      refine wp_region_held_drew (S := (fun w' => w'.cell? ⟨T8, 0, none⟩ = some (.int .i64 kd) ∧ w'.cell? ⟨T8, 1, none⟩ = some (.int .i64 ln') ∧ w'.cell? ⟨T8, 2, none⟩ = some (.slice ad nd md))) (by kernel_rfl) ⟨bY0, bY1, bY2⟩ (fun hHeld => ?_)
      refine wpAnyH_take (i := 0) (v := .pointer (some ⟨V, 0, none⟩)) rfl (by kernel_rfl) (by kernel_rfl) (by kernel_rfl) (fun _ _ _ h => h) (Or.inl ⟨by rfl, fun w' hS => ?_⟩) (by assumption) ?_
      · obtain ⟨c0, c1, c2⟩ := hS
        clear hHeld
        go_simp
      try simp only [Act.put, List.getElem_toArray, List.getElem_cons_succ, List.getElem_cons_zero, List.setIfInBounds_toArray, List.set_cons_zero, List.set_cons_succ]
      refine wpAnyH_take (i := 1) (v := .pointer (some ⟨V, 0, none⟩)) rfl (by kernel_rfl) (by kernel_rfl) (by kernel_rfl) (fun _ _ _ h => h) (Or.inl ⟨by rfl, fun w' hS => ?_⟩) (by assumption) ?_
      · obtain ⟨c0, c1, c2⟩ := hS
        clear hHeld
        go_simp
      try simp only [Act.put, List.getElem_toArray, List.getElem_cons_succ, List.getElem_cons_zero, List.setIfInBounds_toArray, List.set_cons_zero, List.set_cons_succ]
      refine wpAnyH_take (i := 2) (v := .pointer (some ⟨V, 0, none⟩)) rfl (by kernel_rfl) (by kernel_rfl) (by kernel_rfl) (fun _ _ _ h => h) (Or.inl ⟨by rfl, fun w' hS => ?_⟩) (by assumption) ?_
      · obtain ⟨c0, c1, c2⟩ := hS
        clear hHeld
        go_simp
      try simp only [Act.put, List.getElem_toArray, List.getElem_cons_succ, List.getElem_cons_zero, List.setIfInBounds_toArray, List.set_cons_zero, List.set_cons_succ]
      refine wpAnyH_take (i := 3) (v := .pointer (some ⟨V, 14, none⟩)) rfl (by kernel_rfl) (by kernel_rfl) (by kernel_rfl) (fun _ _ _ h => h) (Or.inl ⟨by rfl, fun w' hS => ?_⟩) (by assumption) ?_
      · obtain ⟨c0, c1, c2⟩ := hS
        clear hHeld
        go_simp
      try simp only [Act.put, List.getElem_toArray, List.getElem_cons_succ, List.getElem_cons_zero, List.setIfInBounds_toArray, List.set_cons_zero, List.set_cons_succ]
      refine wpAnyH_take (i := 5) (v := .pointer (some ⟨T8, 0, none⟩)) rfl (by kernel_rfl) (by kernel_rfl) (by kernel_rfl) (fun _ _ _ h => h) (Or.inl ⟨by rfl, fun w' hS => ?_⟩) (by assumption) ?_
      · obtain ⟨c0, c1, c2⟩ := hS
        clear hHeld
        go_simp
      try simp only [Act.put, List.getElem_toArray, List.getElem_cons_succ, List.getElem_cons_zero, List.setIfInBounds_toArray, List.set_cons_zero, List.set_cons_succ]
      refine wpAnyH_take (i := 6) (v := .int .i64 kd) rfl (by kernel_rfl) (by kernel_rfl) (by kernel_rfl) (fun _ _ _ h => h) (Or.inl ⟨by rfl, fun w' hS => ?_⟩) (by assumption) ?_
      · obtain ⟨c0, c1, c2⟩ := hS
        clear hHeld
        go_simp
      try simp only [Act.put, List.getElem_toArray, List.getElem_cons_succ, List.getElem_cons_zero, List.setIfInBounds_toArray, List.set_cons_zero, List.set_cons_succ]
      refine wpAnyH_take (i := 7) (v := .int .u8 kd) rfl (by kernel_rfl) (by kernel_rfl) (by kernel_rfl) (fun _ _ _ h => h) (Or.inl ⟨by rfl, fun w' hS => ?_⟩) (by assumption) ?_
      · obtain ⟨c0, c1, c2⟩ := hS
        clear hHeld
        go_simp
      try simp only [Act.put, List.getElem_toArray, List.getElem_cons_succ, List.getElem_cons_zero, List.setIfInBounds_toArray, List.set_cons_zero, List.set_cons_succ]
      refine wpAnyH_take (i := 8) (v := .pointer (some ⟨T8, 1, none⟩)) rfl (by kernel_rfl) (by kernel_rfl) (by kernel_rfl) (fun _ _ _ h => h) (Or.inl ⟨by rfl, fun w' hS => ?_⟩) (by assumption) ?_
      · obtain ⟨c0, c1, c2⟩ := hS
        clear hHeld
        go_simp
      try simp only [Act.put, List.getElem_toArray, List.getElem_cons_succ, List.getElem_cons_zero, List.setIfInBounds_toArray, List.set_cons_zero, List.set_cons_succ]
      refine wpAnyH_take (i := 9) (v := .int .i64 ln') rfl (by kernel_rfl) (by kernel_rfl) (by kernel_rfl) (fun _ _ _ h => h) (Or.inl ⟨by rfl, fun w' hS => ?_⟩) (by assumption) ?_
      · obtain ⟨c0, c1, c2⟩ := hS
        clear hHeld
        go_simp
      try simp only [Act.put, List.getElem_toArray, List.getElem_cons_succ, List.getElem_cons_zero, List.setIfInBounds_toArray, List.set_cons_zero, List.set_cons_succ]
      refine wpAnyH_take (i := 10) (v := .int .u8 ln') rfl (by kernel_rfl) (by kernel_rfl) (by kernel_rfl) (fun _ _ _ h => h) (Or.inl ⟨by rfl, fun w' hS => ?_⟩) (by assumption) ?_
      · obtain ⟨c0, c1, c2⟩ := hS
        clear hHeld
        go_simp
      try simp only [Act.put, List.getElem_toArray, List.getElem_cons_succ, List.getElem_cons_zero, List.setIfInBounds_toArray, List.set_cons_zero, List.set_cons_succ]
      refine wpAnyH_take (i := 11) (v := .pointer (some ⟨T8, 2, none⟩)) rfl (by kernel_rfl) (by kernel_rfl) (by kernel_rfl) (fun _ _ _ h => h) (Or.inl ⟨by rfl, fun w' hS => ?_⟩) (by assumption) ?_
      · obtain ⟨c0, c1, c2⟩ := hS
        clear hHeld
        go_simp
      try simp only [Act.put, List.getElem_toArray, List.getElem_cons_succ, List.getElem_cons_zero, List.setIfInBounds_toArray, List.set_cons_zero, List.set_cons_succ]
      refine wpAnyH_take (i := 12) (v := .slice ad nd md) rfl (by kernel_rfl) (by kernel_rfl) (by kernel_rfl) (fun _ _ _ h => h) (Or.inl ⟨by rfl, fun w' hS => ?_⟩) (by assumption) ?_
      · obtain ⟨c0, c1, c2⟩ := hS
        clear hHeld
        go_simp
      try simp only [Act.put, List.getElem_toArray, List.getElem_cons_succ, List.getElem_cons_zero, List.setIfInBounds_toArray, List.set_cons_zero, List.set_cons_succ]
      refine wpAnyH_ready (rs := [4, 13]) (by kernel_rfl) (by simp) ((AllReadyH.cons rfl (fun K hK => ?_) (AllReadyH.cons rfl (fun K hK => ?_) AllReadyH.nil)))
      · refine step_loadc (by rfl) 177 (.tmp 42) (by rfl) V 14 (by first | rfl | simp) (.slice av nv cv) 181 Try.underlying177 (CY.out) ?_
        refine hK.out _ _ ⟨HB0.out.1, HB0.out.2.1, HB0.out.2.2⟩ (fun hHeld => ?_)
        clear hK K
        try simp only [Act.put, List.getElem_toArray, List.getElem_cons_succ, List.getElem_cons_zero, List.setIfInBounds_toArray, List.set_cons_zero, List.set_cons_succ]
        refine wpAnyH_ready (rs := [13]) (by kernel_rfl) (by simp) ((AllReadyH.cons rfl (fun K hK => ?_) AllReadyH.nil))
        go_simp
        go_at_call_of 44 (Value.slice ad nd md)
        refine (copied_calls _ d _ (HIDY.out.drew) (by omega)).mono ?_
        rintro e x9 ⟨f9, g9, j9, rfl, ho9, hg9⟩
        refine hK.out _ _ ⟨Gr.cell hg9 HB0.out.1, Gr.cell hg9 HB0.out.2.1, Gr.cell hg9 HB0.out.2.2⟩ (fun hHeld => ?_)
        clear hK K
        try simp only [Act.put, List.getElem_toArray, List.getElem_cons_succ, List.getElem_cons_zero, List.setIfInBounds_toArray, List.set_cons_zero, List.set_cons_succ]
        refine wpAnyH_take (i := 14) (v := .agg #[.int .u8 kd, .int .u8 ln', .slice f9 g9 j9]) rfl (by kernel_rfl) (by kernel_rfl) (by kernel_rfl) (fun _ _ _ h => h) (Or.inl ⟨by rfl, fun w' hS => ?_⟩) (by assumption) ?_
        · obtain ⟨c0, c1, c2⟩ := hS
          clear hHeld
          go_simp
        try simp only [Act.put, List.getElem_toArray, List.getElem_cons_succ, List.getElem_cons_zero, List.setIfInBounds_toArray, List.set_cons_zero, List.set_cons_succ]
        refine wpAnyH_ready (rs := [15]) (by kernel_rfl) (by simp) ((AllReadyH.cons rfl (fun K hK => ?_) AllReadyH.nil))
        go_simp
        refine hK.out _ _ ⟨Gr.cell ((Gr.refl _).alloc _) (Gr.cell hg9 HB0.out.1), Gr.cell ((Gr.refl _).alloc _) (Gr.cell hg9 HB0.out.2.1), Gr.cell ((Gr.refl _).alloc _) (Gr.cell hg9 HB0.out.2.2)⟩ (fun hHeld => ?_)
        clear hK K
        try simp only [Act.put, List.getElem_toArray, List.getElem_cons_succ, List.getElem_cons_zero, List.setIfInBounds_toArray, List.set_cons_zero, List.set_cons_succ]
        refine wpAnyH_ready (rs := [16]) (by kernel_rfl) (by simp) ((AllReadyH.cons rfl (fun K hK => ?_) AllReadyH.nil))
        have hb9 : Y.heap.size ≤ x9.heap.size := hg9.size
        refine step_appR rfl (.tmp 43) (.tmp 54) 177 181 rfl Try.underlying177 _ 32 info_o4 rfl (by omega) wc.heap.size V (.slice av nv cv) rs' (by first | rfl | simp [Act.eval]) ((HOY.out.gr ((Gr.refl Y).drew.trans hg9)).gr ((Gr.refl _).alloc _)) x9.heap.size 1 ⟨kd, ln', d⟩ (.slice f9 g9 j9) (by first | rfl | simp [Act.eval]) (box3 rfl _ _ _ _).1 (box3 rfl _ _ _ _).2.1 (box3 rfl _ _ _ _).2.2 (ho9.isB.gr ((Gr.refl _).alloc _)) (ho9.aside (show V < Y.heap.size by omega)) (fun k hk => ho9.aside (show k < Y.heap.size from (HOY.out.fresh k hk).2)) HRSL.out (by rw [World.size_alloc]; omega) ?_
        intro v4 w4 ho4 hg4 hat4
        obtain ⟨g4, n4, c4, rfl, hg41⟩ := ho4.slice_pos (by simp)
        have G4 := grownBy_step ((GWY.out.drew.trans hg9).alloc _) hg4 (fun k hk => .inl (by rw [rowW_size]; exact (HOY.out.fresh k hk).1))
        have k4b := World.grownBy.cell hg4 (a := ⟨T8, 0, none⟩) (Gr.cell ((Gr.refl _).alloc _) (Gr.cell hg9 HB0.out.1)) (fun e => neV.out _ e.symm rfl)
        have k4c := World.grownBy.cell hg4 (a := ⟨T8, 1, none⟩) (Gr.cell ((Gr.refl _).alloc _) (Gr.cell hg9 HB0.out.2.1)) (fun e => neV.out _ e.symm rfl)
        have k4d := World.grownBy.cell hg4 (a := ⟨T8, 2, none⟩) (Gr.cell ((Gr.refl _).alloc _) (Gr.cell hg9 HB0.out.2.2)) (fun e => neV.out _ e.symm rfl)
        obtain ⟨x4, gx4, dx4, rfl⟩ := Gr.unrow hdT G4
        have hfar4 := Lib.hid (fun k (hk : k < wc.heap.size) => ho9.aside (show k < Y.heap.size by omega))
        refine hK.out _ _ ⟨k4b, k4c, k4d⟩ (fun hHeld => ?_)
        clear hK K
        try simp only [Act.put, List.getElem_toArray, List.getElem_cons_succ, List.getElem_cons_zero, List.setIfInBounds_toArray, List.set_cons_zero, List.set_cons_succ]
        refine wpAnyH_take (i := 17) (v := .pointer (some ⟨V, 0, none⟩)) rfl (by kernel_rfl) (by kernel_rfl) (by kernel_rfl) (fun _ _ _ h => h) (Or.inl ⟨by rfl, fun w' hS => ?_⟩) (by assumption) ?_
        · obtain ⟨c0, c1, c2⟩ := hS
          clear hHeld
          go_simp
        try simp only [Act.put, List.getElem_toArray, List.getElem_cons_succ, List.getElem_cons_zero, List.setIfInBounds_toArray, List.set_cons_zero, List.set_cons_succ]
        refine wpAnyH_take (i := 18) (v := .pointer (some ⟨V, 14, none⟩)) rfl (by kernel_rfl) (by kernel_rfl) (by kernel_rfl) (fun _ _ _ h => h) (Or.inl ⟨by rfl, fun w' hS => ?_⟩) (by assumption) ?_
        · obtain ⟨c0, c1, c2⟩ := hS
          clear hHeld
          go_simp
        try simp only [Act.put, List.getElem_toArray, List.getElem_cons_succ, List.getElem_cons_zero, List.setIfInBounds_toArray, List.set_cons_zero, List.set_cons_succ]
        refine wpAnyH_ready (rs := [19]) (by kernel_rfl) (by simp) ((AllReadyH.cons rfl (fun K hK => ?_) AllReadyH.nil))
        go_simp
        refine hK.out _ _ ⟨rowW_swap neTT k4b, rowW_swap neTT k4c, rowW_swap neTT k4d⟩ (fun hHeld => ?_)
        clear hK K
        try simp only [Act.put, List.getElem_toArray, List.getElem_cons_succ, List.getElem_cons_zero, List.setIfInBounds_toArray, List.set_cons_zero, List.set_cons_succ]
        refine wpAnyH_done (by kernel_rfl) ?_ _
        go_wp2_with fail
        go_roundw
        case rel => exact ⟨k + 1, rs' ++ [(⟨kd, ln', d⟩, _)], x4, some ⟨g4, 0, none⟩, n4, c4, HLT.out, by go_num, rfl, dx4, gx4, ho4.reRow hdT, by rw [List.map_append, HRS'.out, step_of HP.out]; rfl, fun p hp k hk => (List.mem_append.1 hp).elim (fun h => HFAR.out p h k hk) (fun h => by simp at h; subst h; exact hfar4.out k hk)⟩
        case measure => simp [intOf]; omega
      · go_simp
        go_at_call_of 44 (Value.slice ad nd md)
        refine (copied_calls _ d _ (HIDY.out.drew) (by omega)).mono ?_
        rintro e x9 ⟨f9, g9, j9, rfl, ho9, hg9⟩
        refine hK.out _ _ ⟨Gr.cell hg9 HB0.out.1, Gr.cell hg9 HB0.out.2.1, Gr.cell hg9 HB0.out.2.2⟩ (fun hHeld => ?_)
        clear hK K
        try simp only [Act.put, List.getElem_toArray, List.getElem_cons_succ, List.getElem_cons_zero, List.setIfInBounds_toArray, List.set_cons_zero, List.set_cons_succ]
        refine wpAnyH_take (i := 14) (v := .agg #[.int .u8 kd, .int .u8 ln', .slice f9 g9 j9]) rfl (by kernel_rfl) (by kernel_rfl) (by kernel_rfl) (fun _ _ _ h => h) (Or.inl ⟨by rfl, fun w' hS => ?_⟩) (by assumption) ?_
        · obtain ⟨c0, c1, c2⟩ := hS
          clear hHeld
          go_simp
        try simp only [Act.put, List.getElem_toArray, List.getElem_cons_succ, List.getElem_cons_zero, List.setIfInBounds_toArray, List.set_cons_zero, List.set_cons_succ]
        refine wpAnyH_ready (rs := [4, 15]) (by kernel_rfl) (by simp) ((AllReadyH.cons rfl (fun K hK => ?_) (AllReadyH.cons rfl (fun K hK => ?_) AllReadyH.nil)))
        · refine step_loadc (by rfl) 177 (.tmp 42) (by rfl) V 14 (by first | rfl | simp) (.slice av nv cv) 181 Try.underlying177 (Gr.cell hg9 CY.out) ?_
          refine hK.out _ _ ⟨Gr.cell hg9 HB0.out.1, Gr.cell hg9 HB0.out.2.1, Gr.cell hg9 HB0.out.2.2⟩ (fun hHeld => ?_)
          clear hK K
          try simp only [Act.put, List.getElem_toArray, List.getElem_cons_succ, List.getElem_cons_zero, List.setIfInBounds_toArray, List.set_cons_zero, List.set_cons_succ]
          refine wpAnyH_ready (rs := [15]) (by kernel_rfl) (by simp) ((AllReadyH.cons rfl (fun K hK => ?_) AllReadyH.nil))
          go_simp
          refine hK.out _ _ ⟨Gr.cell ((Gr.refl _).alloc _) (Gr.cell hg9 HB0.out.1), Gr.cell ((Gr.refl _).alloc _) (Gr.cell hg9 HB0.out.2.1), Gr.cell ((Gr.refl _).alloc _) (Gr.cell hg9 HB0.out.2.2)⟩ (fun hHeld => ?_)
          clear hK K
          try simp only [Act.put, List.getElem_toArray, List.getElem_cons_succ, List.getElem_cons_zero, List.setIfInBounds_toArray, List.set_cons_zero, List.set_cons_succ]
          refine wpAnyH_ready (rs := [16]) (by kernel_rfl) (by simp) ((AllReadyH.cons rfl (fun K hK => ?_) AllReadyH.nil))
          have hb9 : Y.heap.size ≤ x9.heap.size := hg9.size
          refine step_appR rfl (.tmp 43) (.tmp 54) 177 181 rfl Try.underlying177 _ 32 info_o4 rfl (by omega) wc.heap.size V (.slice av nv cv) rs' (by first | rfl | simp [Act.eval]) ((HOY.out.gr ((Gr.refl Y).drew.trans hg9)).gr ((Gr.refl _).alloc _)) x9.heap.size 1 ⟨kd, ln', d⟩ (.slice f9 g9 j9) (by first | rfl | simp [Act.eval]) (box3 rfl _ _ _ _).1 (box3 rfl _ _ _ _).2.1 (box3 rfl _ _ _ _).2.2 (ho9.isB.gr ((Gr.refl _).alloc _)) (ho9.aside (show V < Y.heap.size by omega)) (fun k hk => ho9.aside (show k < Y.heap.size from (HOY.out.fresh k hk).2)) HRSL.out (by rw [World.size_alloc]; omega) ?_
          intro v4 w4 ho4 hg4 hat4
          obtain ⟨g4, n4, c4, rfl, hg41⟩ := ho4.slice_pos (by simp)
          have G4 := grownBy_step ((GWY.out.drew.trans hg9).alloc _) hg4 (fun k hk => .inl (by rw [rowW_size]; exact (HOY.out.fresh k hk).1))
          have k4b := World.grownBy.cell hg4 (a := ⟨T8, 0, none⟩) (Gr.cell ((Gr.refl _).alloc _) (Gr.cell hg9 HB0.out.1)) (fun e => neV.out _ e.symm rfl)
          have k4c := World.grownBy.cell hg4 (a := ⟨T8, 1, none⟩) (Gr.cell ((Gr.refl _).alloc _) (Gr.cell hg9 HB0.out.2.1)) (fun e => neV.out _ e.symm rfl)
          have k4d := World.grownBy.cell hg4 (a := ⟨T8, 2, none⟩) (Gr.cell ((Gr.refl _).alloc _) (Gr.cell hg9 HB0.out.2.2)) (fun e => neV.out _ e.symm rfl)
          obtain ⟨x4, gx4, dx4, rfl⟩ := Gr.unrow hdT G4
          have hfar4 := Lib.hid (fun k (hk : k < wc.heap.size) => ho9.aside (show k < Y.heap.size by omega))
          refine hK.out _ _ ⟨k4b, k4c, k4d⟩ (fun hHeld => ?_)
          clear hK K
          try simp only [Act.put, List.getElem_toArray, List.getElem_cons_succ, List.getElem_cons_zero, List.setIfInBounds_toArray, List.set_cons_zero, List.set_cons_succ]
          refine wpAnyH_take (i := 17) (v := .pointer (some ⟨V, 0, none⟩)) rfl (by kernel_rfl) (by kernel_rfl) (by kernel_rfl) (fun _ _ _ h => h) (Or.inl ⟨by rfl, fun w' hS => ?_⟩) (by assumption) ?_
          · obtain ⟨c0, c1, c2⟩ := hS
            clear hHeld
            go_simp
          try simp only [Act.put, List.getElem_toArray, List.getElem_cons_succ, List.getElem_cons_zero, List.setIfInBounds_toArray, List.set_cons_zero, List.set_cons_succ]
          refine wpAnyH_take (i := 18) (v := .pointer (some ⟨V, 14, none⟩)) rfl (by kernel_rfl) (by kernel_rfl) (by kernel_rfl) (fun _ _ _ h => h) (Or.inl ⟨by rfl, fun w' hS => ?_⟩) (by assumption) ?_
          · obtain ⟨c0, c1, c2⟩ := hS
            clear hHeld
            go_simp
          try simp only [Act.put, List.getElem_toArray, List.getElem_cons_succ, List.getElem_cons_zero, List.setIfInBounds_toArray, List.set_cons_zero, List.set_cons_succ]
          refine wpAnyH_ready (rs := [19]) (by kernel_rfl) (by simp) ((AllReadyH.cons rfl (fun K hK => ?_) AllReadyH.nil))
          go_simp
          refine hK.out _ _ ⟨rowW_swap neTT k4b, rowW_swap neTT k4c, rowW_swap neTT k4d⟩ (fun hHeld => ?_)
          clear hK K
          try simp only [Act.put, List.getElem_toArray, List.getElem_cons_succ, List.getElem_cons_zero, List.setIfInBounds_toArray, List.set_cons_zero, List.set_cons_succ]
          refine wpAnyH_done (by kernel_rfl) ?_ _
          go_wp2_with fail
          go_roundw
          case rel => exact ⟨k + 1, rs' ++ [(⟨kd, ln', d⟩, _)], x4, some ⟨g4, 0, none⟩, n4, c4, HLT.out, by go_num, rfl, dx4, gx4, ho4.reRow hdT, by rw [List.map_append, HRS'.out, step_of HP.out]; rfl, fun p hp k hk => (List.mem_append.1 hp).elim (fun h => HFAR.out p h k hk) (fun h => by simp at h; subst h; exact hfar4.out k hk)⟩
          case measure => simp [intOf]; omega
        · go_simp
          refine hK.out _ _ ⟨Gr.cell ((Gr.refl _).alloc _) (Gr.cell hg9 HB0.out.1), Gr.cell ((Gr.refl _).alloc _) (Gr.cell hg9 HB0.out.2.1), Gr.cell ((Gr.refl _).alloc _) (Gr.cell hg9 HB0.out.2.2)⟩ (fun hHeld => ?_)
          clear hK K
          try simp only [Act.put, List.getElem_toArray, List.getElem_cons_succ, List.getElem_cons_zero, List.setIfInBounds_toArray, List.set_cons_zero, List.set_cons_succ]
          refine wpAnyH_ready (rs := [4]) (by kernel_rfl) (by simp) ((AllReadyH.cons rfl (fun K hK => ?_) AllReadyH.nil))
          refine step_loadc (by rfl) 177 (.tmp 42) (by rfl) V 14 (by first | rfl | simp) (.slice av nv cv) 181 Try.underlying177 (Gr.cell ((Gr.refl _).alloc _) (Gr.cell hg9 CY.out)) ?_
          refine hK.out _ _ ⟨Gr.cell ((Gr.refl _).alloc _) (Gr.cell hg9 HB0.out.1), Gr.cell ((Gr.refl _).alloc _) (Gr.cell hg9 HB0.out.2.1), Gr.cell ((Gr.refl _).alloc _) (Gr.cell hg9 HB0.out.2.2)⟩ (fun hHeld => ?_)
          clear hK K
          try simp only [Act.put, List.getElem_toArray, List.getElem_cons_succ, List.getElem_cons_zero, List.setIfInBounds_toArray, List.set_cons_zero, List.set_cons_succ]
          refine wpAnyH_ready (rs := [16]) (by kernel_rfl) (by simp) ((AllReadyH.cons rfl (fun K hK => ?_) AllReadyH.nil))
          have hb9 : Y.heap.size ≤ x9.heap.size := hg9.size
          refine step_appR rfl (.tmp 43) (.tmp 54) 177 181 rfl Try.underlying177 _ 32 info_o4 rfl (by omega) wc.heap.size V (.slice av nv cv) rs' (by first | rfl | simp [Act.eval]) ((HOY.out.gr ((Gr.refl Y).drew.trans hg9)).gr ((Gr.refl _).alloc _)) x9.heap.size 1 ⟨kd, ln', d⟩ (.slice f9 g9 j9) (by first | rfl | simp [Act.eval]) (box3 rfl _ _ _ _).1 (box3 rfl _ _ _ _).2.1 (box3 rfl _ _ _ _).2.2 (ho9.isB.gr ((Gr.refl _).alloc _)) (ho9.aside (show V < Y.heap.size by omega)) (fun k hk => ho9.aside (show k < Y.heap.size from (HOY.out.fresh k hk).2)) HRSL.out (by rw [World.size_alloc]; omega) ?_
          intro v4 w4 ho4 hg4 hat4
          obtain ⟨g4, n4, c4, rfl, hg41⟩ := ho4.slice_pos (by simp)
          have G4 := grownBy_step ((GWY.out.drew.trans hg9).alloc _) hg4 (fun k hk => .inl (by rw [rowW_size]; exact (HOY.out.fresh k hk).1))
          have k4b := World.grownBy.cell hg4 (a := ⟨T8, 0, none⟩) (Gr.cell ((Gr.refl _).alloc _) (Gr.cell hg9 HB0.out.1)) (fun e => neV.out _ e.symm rfl)
          have k4c := World.grownBy.cell hg4 (a := ⟨T8, 1, none⟩) (Gr.cell ((Gr.refl _).alloc _) (Gr.cell hg9 HB0.out.2.1)) (fun e => neV.out _ e.symm rfl)
          have k4d := World.grownBy.cell hg4 (a := ⟨T8, 2, none⟩) (Gr.cell ((Gr.refl _).alloc _) (Gr.cell hg9 HB0.out.2.2)) (fun e => neV.out _ e.symm rfl)
          obtain ⟨x4, gx4, dx4, rfl⟩ := Gr.unrow hdT G4
          have hfar4 := Lib.hid (fun k (hk : k < wc.heap.size) => ho9.aside (show k < Y.heap.size by omega))
          refine hK.out _ _ ⟨k4b, k4c, k4d⟩ (fun hHeld => ?_)
          clear hK K
          try simp only [Act.put, List.getElem_toArray, List.getElem_cons_succ, List.getElem_cons_zero, List.setIfInBounds_toArray, List.set_cons_zero, List.set_cons_succ]
          refine wpAnyH_take (i := 17) (v := .pointer (some ⟨V, 0, none⟩)) rfl (by kernel_rfl) (by kernel_rfl) (by kernel_rfl) (fun _ _ _ h => h) (Or.inl ⟨by rfl, fun w' hS => ?_⟩) (by assumption) ?_
          · obtain ⟨c0, c1, c2⟩ := hS
            clear hHeld
            go_simp
          try simp only [Act.put, List.getElem_toArray, List.getElem_cons_succ, List.getElem_cons_zero, List.setIfInBounds_toArray, List.set_cons_zero, List.set_cons_succ]
          refine wpAnyH_take (i := 18) (v := .pointer (some ⟨V, 14, none⟩)) rfl (by kernel_rfl) (by kernel_rfl) (by kernel_rfl) (fun _ _ _ h => h) (Or.inl ⟨by rfl, fun w' hS => ?_⟩) (by assumption) ?_
          · obtain ⟨c0, c1, c2⟩ := hS
            clear hHeld
            go_simp
          try simp only [Act.put, List.getElem_toArray, List.getElem_cons_succ, List.getElem_cons_zero, List.setIfInBounds_toArray, List.set_cons_zero, List.set_cons_succ]
          refine wpAnyH_ready (rs := [19]) (by kernel_rfl) (by simp) ((AllReadyH.cons rfl (fun K hK => ?_) AllReadyH.nil))
          go_simp
          refine hK.out _ _ ⟨rowW_swap neTT k4b, rowW_swap neTT k4c, rowW_swap neTT k4d⟩ (fun hHeld => ?_)
          clear hK K
          try simp only [Act.put, List.getElem_toArray, List.getElem_cons_succ, List.getElem_cons_zero, List.setIfInBounds_toArray, List.set_cons_zero, List.set_cons_succ]
          refine wpAnyH_done (by kernel_rfl) ?_ _
          go_wp2_with fail
          go_roundw
          case rel => exact ⟨k + 1, rs' ++ [(⟨kd, ln', d⟩, _)], x4, some ⟨g4, 0, none⟩, n4, c4, HLT.out, by go_num, rfl, dx4, gx4, ho4.reRow hdT, by rw [List.map_append, HRS'.out, step_of HP.out]; rfl, fun p hp k hk => (List.mem_append.1 hp).elim (fun h => HFAR.out p h k hk) (fun h => by simp at h; subst h; exact hfar4.out k hk)⟩
          case measure => simp [intOf]; omega
    · obtain rfl : k = os.length := by omega
      go_wp2_with fail
      go_ret
      unfold Mk4Post
      have e := HRS'.out
      rw [List.take_length] at e
      have hszx := HG.out.size
      refine ⟨V, sa, sc, da, dc, av, nv, cv, rs', rfl, hVw, rowW_heap hX, ?_, ?_, n5, n6, hf5, hf6, (GC.out.trans HG.out).step (rowW_grown (some V) rfl) (by omega), HOw.out.rd (fun k hk => ?_) (fun p hp k hk => ?_), e⟩
      · exact (hi5.gr HG.out).rowW n5
      · exact (hi6.gr HG.out).rowW n6
      · have : V < wc.heap.size := hdT
        omega
      · have : V < wc.heap.size := hdT
        exact HFAR.out p hp k (by omega)
end Go.Proofs.Ytdpffedmgmllbaa
