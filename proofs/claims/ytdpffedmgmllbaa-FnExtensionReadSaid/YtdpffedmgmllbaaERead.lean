/-
  A header behind that of a packet, as data.
-/
import Derived.Test.YtdpffedmgmllbaaEDec
import Derived.Deep.RegionHeld3
import Derived.Deep.RegionWith
import Derived.Deep.DeepCutAuto
namespace Go.Proofs.Ytdpffedmgmllbaa
open Go.RowKit

theorem info_oI : (Try.prog.info? 96).map (fun i => (i.zero, i.size, i.bytes)) = some (some (.agg #[.int .i64 0, .int .i64 0, .slice none 0 0]), 3, 40) := by kernel_rfl
theorem size_pH : (Try.prog.info? 128).map (·.size) = some 1 := by kernel_rfl
theorem size_pD : (Try.prog.info? 136).map (·.size) = some 1 := by kernel_rfl
theorem OwnO.otherX {q1 q2 : IntKind} {w : World} {base : Nat} {e : TypeId} {D D' : Nat} {v : Value} {rs : List (Opt × Value)} (h : OwnO q1 q2 w base e D v rs) (hD : ∀ p ∈ rs, Aside p.2 p.1.data D') : OwnO q1 q2 w base e D' v rs :=
  ⟨h.1, fun p hp => ⟨(h.2 p hp).1, hD p hp, (h.2 p hp).2.2⟩⟩
theorem step_ofx {α : Type} {rs : List α} {k : Nat} {p : α} (h : rs[k]? = some p) : rs.take (k + 1) = rs.take k ++ [p] := by
  rw [List.take_add_one, h]; rfl
/-- an option as it is read -/
def outX (x : Opt) : Opt := ⟨x.kind, 0, x.data⟩
/-- what holds ahead of a round that copies an option -/
def XRel (wb : World) (T : Nat) (os : List Opt) (c : Value → List Value) (i : Value) (wr : World) : Prop :=
  ∃ (k : Nat) (rs' : List (Opt × Value)) (x : World) (a : Option Addr) (n m : Nat), k ≤ os.length ∧ i = .int .i64 k ∧ wr = rowW x T (c (.slice a n m)) 43 ∧ Has x T ∧ Gr wb x ∧ OwnO .i64 .i64 wr wb.heap.size 96 T (.slice a n m) rs' ∧ rs'.map Prod.fst = (os.take k).map outX ∧ ∀ p ∈ rs', ∀ k, k < wb.heap.size → Aside p.2 p.1.data k
theorem IsB.rowAside {y : World} {V : Nat} {t : TypeId} {z : Int} {s : Value} {l : List Int} (h : IsB (Go.Proofs.Ytdpffedmgmllbaa.rowW y V [.int .i64 z, .slice none 0 0] t) s l) (hV : Has y V) (hne : l ≠ []) : s.ownBlock ≠ some V := by
  obtain ⟨a, c, rfl, h1, h2, h3, h4⟩ := h
  have hp : 0 < l.length := List.length_pos_iff.2 hne
  rcases h4 with ⟨rfl, -⟩ | ⟨ad, rfl, h5⟩
  · simp [Value.ownBlock]
  · intro e
    have h6 := (h5 0 hp).2
    have e : ad.block = V := Option.some.inj e
    rw [e, rowW_cell hV] at h6
    cases ho : ad.off + 0 with
    | zero => rw [ho] at h6; simp at h6
    | succ m =>
      rw [ho] at h6
      cases m with
      | zero => simp at h6
      | succ m => simp at h6
/-- what a header is as data -/
def ExtData (w w' : World) (nx : Int) (pl : List Int) (os : List Opt) (e : Ending) : Prop := ∃ ao no mo f9 g9 j9, e = .returned (.tuple #[.agg #[.int .i64 nx, .slice ao no mo], .slice f9 g9 j9, .bool true]) ∧ IsOpts w' (.slice ao no mo) (os.map outX) ∧ IsB w' (.slice f9 g9 j9) pl ∧ Gr w w'

set_option linter.unusedVariables false in
set_option linter.unusedSimpArgs false in
set_option maxRecDepth 100000 in
set_option maxHeartbeats 8000000 in
theorem extReadH_calls (v : Value) (l pl : List Int) (os : List Opt) (w : World) (h : IsB w v l) (hok : ∀ x ∈ os, OkKind x) (hlo : os.length ≤ 30) (hl : l.length ≤ 1000000) (hA : bt l 1 * 8 + 8 = 2 + ((typedB os).length : Int)) (hO : l.drop 2 = typedB os ++ pl) (hp : pl ≠ []) (h2 : 2 ≤ l.length) :
    Calls Try.prog 25 #[v, .bool true] w fun e w' => ExtData w w' (bt l 0) pl os e := by
  have HV := Lib.hid h
  have HOK := Lib.hid hok
  have HA := Lib.hid hA
  have HO := Lib.hid hO
  have HP := Lib.hid hp
  have p0 := h.bytes.bt0 0
  have p1 := h.bytes.bt1 0
  have hpl : pl.length ≤ 1000000 := by
    have e := congrArg List.length hO
    rw [List.length_drop, List.length_append] at e; omega
  have uw : IntKind.i64.wrap (bt l 0) = bt l 0 := w64 (by omega) (by omega)
  have nDT : (w.heap.size + 2) ≠ (w.heap.size + 1) := by omega
  have nRT : w.heap.size ≠ (w.heap.size + 1) := by omega
  clear h hok hA hO hp
  go_enter Try.func25, Try.ntmps25
  go_wp2_with (first
    | (go_at_call 45; refine (nilFeedback_calls _).mono ?_; rintro e w2 ⟨rfl, rfl⟩)
    | (go_at_call 44; refine (copied_calls _ l _ (HV.out.gr ((((Gr.refl w).alloc _).alloc _).alloc _)) (by omega)).mono ?_; rintro e w1 ⟨a0, n0, m0, rfl, hoA, hgA⟩; have hD1 := heap_gr hgA (heap_alloc_new ((w.alloc (.cells [.int .i64 0, .slice none 0 0].toArray 43)).alloc (.cells [.int .i64 0, .slice none 0 0].toArray 43)) (.cells [.slice none 0 0, .slice none 0 0, .int .u8 0, .int .u8 0, .int .i64 0, .slice none 0 0].toArray 127)); have hT1 := heap_gr hgA (heap_gr ((Gr.refl _).alloc (.cells [.slice none 0 0, .slice none 0 0, .int .u8 0, .int .u8 0, .int .i64 0, .slice none 0 0].toArray 127)) (heap_alloc_new (w.alloc (.cells [.int .i64 0, .slice none 0 0].toArray 43)) (.cells [.int .i64 0, .slice none 0 0].toArray 43))); have hR1 := heap_gr hgA (heap_gr (((Gr.refl _).alloc (.cells [.int .i64 0, .slice none 0 0].toArray 43)).alloc (.cells [.slice none 0 0, .slice none 0 0, .int .u8 0, .int .u8 0, .int .i64 0, .slice none 0 0].toArray 127)) (heap_alloc_new w (.cells [.int .i64 0, .slice none 0 0].toArray 43))); simp only [World.size_alloc] at hD1 hT1)
    | (go_at_call 56; refine (extDecodeH_calls (w.heap.size + 2) a0 n0 m0 l pl os w1 hD1 hoA.isB (hoA.other (by simp)) HOK.out hlo hl HA.out HO.out HP.out h2).mono ?_; rintro e w2 ⟨rfl, hgB, a1, n1, c1, a2, n2, c2, a, n, m, rs, hD2, hI2, hOW, hrl, hK⟩; have hT2 := (hgB.block (w.heap.size + 1) (Array.getElem?_eq_some_iff.1 hT1).1 (by intro e; have := Option.some.inj e; omega)).trans hT1; have hR2 := (hgB.block w.heap.size (Array.getElem?_eq_some_iff.1 hR1).1 (by intro e; have := Option.some.inj e; omega)).trans hR1; obtain ⟨y, yV, rfl⟩ : ∃ y, Has y (w.heap.size + 1) ∧ w2 = rowW y (w.heap.size + 1) [.int .i64 0, .slice none 0 0] 43 := ⟨w2, (Array.getElem?_eq_some_iff.1 hT2).1, (rowW_self hT2).symm⟩; rw [rowW_other nDT] at hD2; have yk2 := cell_of_heap hD2 2 _ rfl; have yk5 := cell_of_heap hD2 5 _ rfl; have yk1 := cell_of_heap hD2 1 _ rfl; have hln := (fun ty => hOW.len (P := Try.prog) 125 Try.underlying125 ty); rw [hrl] at hln))
  obtain ⟨V, hVe⟩ : ∃ V, V = w.heap.size + 1 := ⟨_, rfl⟩
  obtain ⟨B, hBe⟩ : ∃ B, B = (Value.slice a0 n0 m0).ownBlock := ⟨_, rfl⟩
  have hBV : B ≠ some V := by rw [hBe, hVe]; exact hoA.other (by simp only [World.size_alloc]; omega)
  have hw1 : w.heap.size + 3 ≤ w1.heap.size := by have := hgA.size; simp only [World.size_alloc] at this; omega
  have hwB := hgB.size
  have gwy : Gr w (rowW y (w.heap.size + 1) [.int .i64 0, .slice none 0 0] 43) := ((((((Gr.refl w).alloc _).alloc _).alloc _).trans hgA).step hgB (by omega))
  have hW0 : Gr w (rowW y (w.heap.size + 1) [.int .i64 (bt l 0), .slice none 0 0] 43) := Gr.row gwy (by omega)
  rw [← hVe] at yV hgB hI2 hOW hK hR2 nDT nRT hwB hW0 ⊢
  rw [← hBe] at hK
  rw [rowW_size] at hwB
  have hI3 := IsB.reRow (cs' := [.int .i64 (bt l 0), .slice none 0 0]) hI2 (hI2.rowAside yV HP.out)
  have hR3 : HasRow (rowW y V [.int .i64 (bt l 0), .slice none 0 0] 43) w.heap.size 43 2 := ⟨[.int .i64 0, .slice none 0 0], rfl, by rw [rowW_other nRT] at hR2 ⊢; exact hR2⟩
  have hcell : ∀ g o u, g ≠ V → (rowW y V [.int .i64 0, .slice none 0 0] 43).cell? ⟨g, o, none⟩ = some u → (rowW y V [.int .i64 (bt l 0), .slice none 0 0] 43).cell? ⟨g, o, none⟩ = some u := fun g o u hg h => rowW_swap hg h
  have hIsx : ∀ s t, IsB (rowW y V [.int .i64 0, .slice none 0 0] 43) s t → (s.ownBlock = B ∨ t = []) → IsB (rowW y V [.int .i64 (bt l 0), .slice none 0 0] 43) s t := fun s t h hb => hb.elim (fun e => h.reRow (by rw [e]; exact hBV)) (fun e => h.empty e)
  obtain ⟨W0, hW0e⟩ : ∃ W0, W0 = rowW y V [.int .i64 0, .slice none 0 0] 43 := ⟨_, rfl⟩
  have hs0 : W0.heap.size = (rowW y V [.int .i64 (bt l 0), .slice none 0 0] 43).heap.size := by rw [hW0e, rowW_size, rowW_size]
  have hdT : V < (rowW y V [.int .i64 (bt l 0), .slice none 0 0] 43).heap.size := by rw [rowW_size]; exact yV
  have hvW := rowW_heap (cs := [.int .i64 (bt l 0), .slice none 0 0]) (e := 43) yV
  have k5 := (rowW_cell_other (cs := [.int .i64 (bt l 0), .slice none 0 0]) (e := 43) nDT).trans yk5
  have k1 := (rowW_cell_other (cs := [.int .i64 (bt l 0), .slice none 0 0]) (e := 43) nDT).trans yk1
  have k2 := (rowW_cell_other (cs := [.int .i64 (bt l 0), .slice none 0 0]) (e := 43) nDT).trans yk2
  have hI2o := hI2.rowAside yV HP.out
  rw [← hW0e] at hOW hK hcell hIsx
  obtain ⟨wb, hwb⟩ : ∃ wb, wb = rowW y V [.int .i64 (bt l 0), .slice none 0 0] 43 := ⟨_, rfl⟩
  rw [← hwb] at hW0 hI3 hR3 hcell hIsx hs0 hdT hvW k5 k2 k1 ⊢
  have hVw : w.heap.size ≤ V := by omega
  have HW0 := Lib.hid (And.intro hW0 hvW)
  have HI3 := Lib.hid (And.intro hI3 hI2o)
  have HR3 := Lib.hid hR3
  have HOW := Lib.hid hOW
  have HK := Lib.hid hK
  have HC := Lib.hid hcell
  have HIX := Lib.hid hIsx
  have HVE := Lib.hid hVe
  have HBV := Lib.hid hBV
  have HB1 := Lib.hid (And.intro hw1 hwB)
  have hVb : V < w1.heap.size := by omega
  have hDne : (w.heap.size + 2) ≠ V := nDT
  clear hW0 hvW hI3 hI2o hR3 hOW hK hcell hIsx hVe hw1 hwB hW0e hwb hI2 hR2 hT2 gwy hgB hgA hoA hT1 hD1 hR1 hBV hBe hD2 yk2 yk5 yk1 yV
  go_loopw [39] (XRel wb V os (fun o => [.int .i64 (bt l 0), o])) (fun i _ => os.length - (intOf i).toNat)
  case atStart => exact ⟨0, [], wb, none, 0, 0, Nat.zero_le _, rfl, (rowW_self HW0.out.2).symm, hdT, Gr.refl _, OwnO.nil, by simp, fun p hp => by cases hp⟩
  case round =>
    obtain ⟨k, rs', x, av, nv, cv, hk, rfl, rfl, hX, hG, hOw, hrs', hfar'⟩ := hrel
    have HOw := Lib.hid hOw
    have HRS' := Lib.hid hrs'
    have HFAR := Lib.hid hfar'
    have HG := Lib.hid hG
    clear hOw hrs' hfar' hG
    by_cases hlt : k < os.length
    · have hkr : rs[k]? = some (rs[k]'(by omega)) := List.getElem?_eq_getElem (by omega)
      have hxk : os[k]? = some (os.getD k Opt.zero) := by rw [List.getD_eq_getElem?_getD, List.getElem?_eq_getElem hlt]; rfl
      obtain ⟨g, o, ix, hc, -, hgl, hgb⟩ := HOW.out.idx rcP_len 125 Try.underlying125 size_pH .i64 k _ hkr
      obtain ⟨T8, hT8, -, hb0, hbl, -, ln, M, ad, nd, md, hb, hI, hAs⟩ := HK.out k _ _ hkr hxk
      have cg := hc 0 _ rfl
      rw [hT8, Int.toNat_natCast, Nat.add_zero] at cg
      have hrg := HOK.out _ (List.mem_of_getElem? hxk)
      obtain ⟨xo, hxo⟩ : ∃ xo, xo = os.getD k Opt.zero := ⟨_, rfl⟩
      rw [← hxo] at hb hI hAs hxk hrg
      clear hxo hc hT8 hkr
      obtain ⟨kd, ln', d⟩ := xo
      simp only at hb hI hAs hrg
      have hrg : (0 ≤ kd ∧ kd ≤ 255) ∧ d.length ≤ 255 ∧ (kd = 0 → d = []) := hrg
      obtain rfl := hI.count
      have neG : g ≠ V := by omega
      have neTT : T8 ≠ V := by omega
      have hTw : T8 < wb.heap.size := by omega
      have cg := HG.out.cell (HC.out _ _ _ neG cg)
      have bY0 := (rowW_cell_other (cs := [.int .i64 (bt l 0), .slice av nv cv]) (e := 43) neTT).trans (HG.out.cell (HC.out _ _ _ neTT (cell_of_heap (cs := [.int .u8 kd, .int .u8 ln, .int .i64 M, .slice ad d.length md, .int .u8 0, .int .u8 0]) hb 0 _ rfl)))
      have bY1 := (rowW_cell_other (cs := [.int .i64 (bt l 0), .slice av nv cv]) (e := 43) neTT).trans (HG.out.cell (HC.out _ _ _ neTT (cell_of_heap (cs := [.int .u8 kd, .int .u8 ln, .int .i64 M, .slice ad d.length md, .int .u8 0, .int .u8 0]) hb 1 _ rfl)))
      have bY2 := (rowW_cell_other (cs := [.int .i64 (bt l 0), .slice av nv cv]) (e := 43) neTT).trans (HG.out.cell (HC.out _ _ _ neTT (cell_of_heap (cs := [.int .u8 kd, .int .u8 ln, .int .i64 M, .slice ad d.length md, .int .u8 0, .int .u8 0]) hb 3 _ rfl)))
      have hI := HIX.out _ _ hI hAs
      have hAV : Aside (.slice ad d.length md) d V := hAs.elim (fun e => .inr (by rw [e]; exact HBV.out)) .inl
      have HID := Lib.hid (show IsB (rowW x V [.int .i64 (bt l 0), .slice av nv cv] 43) (.slice ad d.length md) d from IsB.keptE (hI.gr HG.out) (rowW_grown (some V) rfl) hAV)
      obtain ⟨nd, hnd⟩ : ∃ nd, nd = d.length := ⟨_, rfl⟩
      rw [← hnd] at bY2 HID
      have HP' := Lib.hid hxk
      have HLT := Lib.hid hlt
      have hdl : d.length ≤ 255 := hrg.2.1
      have wk : IntKind.i64.wrap kd = kd := w64 (by have := hrg.1; omega) (by have := hrg.1; omega)
      have hneX : x.heap.size ≠ V := by have : V < x.heap.size := hX; omega
      have HND := Lib.hid hnd
      have HRSL := Lib.hid (show rs'.length ≤ 1000000000 by have e := congrArg List.length HRS'.out; rw [List.length_map, List.length_map, List.length_take] at e; omega)
      clear hxk hI hlt hnd hrg hb hAs hAV hgl hgb hb0 hbl
      go_wp2_with fail
      obtain ⟨Y, hY⟩ : ∃ Y, Y = (rowW x V [.int .i64 (bt l 0), .slice av nv cv] 43) := ⟨_, rfl⟩
      rw [← hY]
      have gY : Gr (rowW x V [.int .i64 (bt l 0), .slice av nv cv] 43) Y := by rw [hY]; exact Gr.refl _
      rw [← hY] at bY0 bY1 bY2
      have cY := gY.cell (rowW_cell hX 1)
      have HOY := Lib.hid (HOw.out.gr gY)
      have GWY := Lib.hid ((gr_rows (cs := [.int .i64 (bt l 0), .slice av nv cv]) (e := 43) hdT HG.out).trans gY)
      have neV := Lib.hid (show ∀ k, (Value.slice av nv cv).ownBlock = some k → k ≠ T8 from fun k hk => by
        have h1 := (HOw.out.fresh k hk).1
        omega)
      have HIDY := Lib.hid ((HID.out.gr gY))
      have szY := gY.size
      have szW := HG.out.size
      rw [rowW_size] at szY
      have HB0 := Lib.hid (And.intro bY0 (And.intro bY1 bY2))
      have CY := Lib.hid cY
      have hTb : V < wb.heap.size := hdT
      clear hY gY cY
      refine wp_region_held_drew (S := (fun w' => w'.cell? ⟨T8, 0, none⟩ = some (.int .u8 kd) ∧ w'.cell? ⟨T8, 1, none⟩ = some (.int .u8 ln) ∧ w'.cell? ⟨T8, 3, none⟩ = some (.slice ad nd md))) (by kernel_rfl) ⟨bY0, bY1, bY2⟩ (fun hHeld => ?_)
      refine wpAnyH_take (i := 2) (v := .pointer (some ⟨T8, 0, none⟩)) rfl (by kernel_rfl) (by kernel_rfl) (by kernel_rfl) (fun _ _ _ h => h) (Or.inl ⟨by rfl, fun w' hS => ?_⟩) (by assumption) ?_
      · obtain ⟨c0, c1, c2⟩ := hS
        clear hHeld
        go_simp
      try simp only [Act.put, List.getElem_toArray, List.getElem_cons_succ, List.getElem_cons_zero, List.setIfInBounds_toArray, List.set_cons_zero, List.set_cons_succ]
      refine wpAnyH_take (i := 3) (v := .pointer (some ⟨T8, 0, none⟩)) rfl (by kernel_rfl) (by kernel_rfl) (by kernel_rfl) (fun _ _ _ h => h) (Or.inl ⟨by rfl, fun w' hS => ?_⟩) (by assumption) ?_
      · obtain ⟨c0, c1, c2⟩ := hS
        clear hHeld
        go_simp
      try simp only [Act.put, List.getElem_toArray, List.getElem_cons_succ, List.getElem_cons_zero, List.setIfInBounds_toArray, List.set_cons_zero, List.set_cons_succ]
      refine wpAnyH_take (i := 7) (v := .pointer (some ⟨T8, 0, none⟩)) rfl (by kernel_rfl) (by kernel_rfl) (by kernel_rfl) (fun _ _ _ h => h) (Or.inl ⟨by rfl, fun w' hS => ?_⟩) (by assumption) ?_
      · obtain ⟨c0, c1, c2⟩ := hS
        clear hHeld
        go_simp
      try simp only [Act.put, List.getElem_toArray, List.getElem_cons_succ, List.getElem_cons_zero, List.setIfInBounds_toArray, List.set_cons_zero, List.set_cons_succ]
      refine wpAnyH_take (i := 8) (v := .pointer (some ⟨T8, 0, none⟩)) rfl (by kernel_rfl) (by kernel_rfl) (by kernel_rfl) (fun _ _ _ h => h) (Or.inl ⟨by rfl, fun w' hS => ?_⟩) (by assumption) ?_
      · obtain ⟨c0, c1, c2⟩ := hS
        clear hHeld
        go_simp
      try simp only [Act.put, List.getElem_toArray, List.getElem_cons_succ, List.getElem_cons_zero, List.setIfInBounds_toArray, List.set_cons_zero, List.set_cons_succ]
      refine wpAnyH_take (i := 0) (v := .pointer (some ⟨V, 1, none⟩)) rfl (by kernel_rfl) (by kernel_rfl) (by kernel_rfl) (fun _ _ _ h => h) (Or.inl ⟨by rfl, fun w' hS => ?_⟩) (by assumption) ?_
      · obtain ⟨c0, c1, c2⟩ := hS
        clear hHeld
        go_simp
      try simp only [Act.put, List.getElem_toArray, List.getElem_cons_succ, List.getElem_cons_zero, List.setIfInBounds_toArray, List.set_cons_zero, List.set_cons_succ]
      refine wpAnyH_take (i := 4) (v := .pointer (some ⟨T8, 0, none⟩)) rfl (by kernel_rfl) (by kernel_rfl) (by kernel_rfl) (fun _ _ _ h => h) (Or.inl ⟨by rfl, fun w' hS => ?_⟩) (by assumption) ?_
      · obtain ⟨c0, c1, c2⟩ := hS
        clear hHeld
        go_simp
      try simp only [Act.put, List.getElem_toArray, List.getElem_cons_succ, List.getElem_cons_zero, List.setIfInBounds_toArray, List.set_cons_zero, List.set_cons_succ]
      refine wpAnyH_take (i := 5) (v := .int .u8 kd) rfl (by kernel_rfl) (by kernel_rfl) (by kernel_rfl) (fun _ _ _ h => h) (Or.inl ⟨by rfl, fun w' hS => ?_⟩) (by assumption) ?_
      · obtain ⟨c0, c1, c2⟩ := hS
        clear hHeld
        go_simp
      try simp only [Act.put, List.getElem_toArray, List.getElem_cons_succ, List.getElem_cons_zero, List.setIfInBounds_toArray, List.set_cons_zero, List.set_cons_succ]
      refine wpAnyH_take (i := 6) (v := .int .i64 kd) rfl (by kernel_rfl) (by kernel_rfl) (by kernel_rfl) (fun _ _ _ h => h) (Or.inl ⟨by rfl, fun w' hS => ?_⟩) (by assumption) ?_
      · obtain ⟨c0, c1, c2⟩ := hS
        clear hHeld
        go_simp
      try simp only [Act.put, List.getElem_toArray, List.getElem_cons_succ, List.getElem_cons_zero, List.setIfInBounds_toArray, List.set_cons_zero, List.set_cons_succ]
      refine wpAnyH_take (i := 9) (v := .pointer (some ⟨T8, 3, none⟩)) rfl (by kernel_rfl) (by kernel_rfl) (by kernel_rfl) (fun _ _ _ h => h) (Or.inl ⟨by rfl, fun w' hS => ?_⟩) (by assumption) ?_
      · obtain ⟨c0, c1, c2⟩ := hS
        clear hHeld
        go_simp
      try simp only [Act.put, List.getElem_toArray, List.getElem_cons_succ, List.getElem_cons_zero, List.setIfInBounds_toArray, List.set_cons_zero, List.set_cons_succ]
      refine wpAnyH_take (i := 10) (v := .slice ad nd md) rfl (by kernel_rfl) (by kernel_rfl) (by kernel_rfl) (fun _ _ _ h => h) (Or.inl ⟨by rfl, fun w' hS => ?_⟩) (by assumption) ?_
      · obtain ⟨c0, c1, c2⟩ := hS
        clear hHeld
        go_simp
      try simp only [Act.put, List.getElem_toArray, List.getElem_cons_succ, List.getElem_cons_zero, List.setIfInBounds_toArray, List.set_cons_zero, List.set_cons_succ]
      refine wpAnyH_ready (rs := [1, 11]) (by kernel_rfl) (by simp) ((AllReadyH.cons rfl (fun K hK => ?_) (AllReadyH.cons rfl (fun K hK => ?_) AllReadyH.nil)))
      · refine step_loadc (by rfl) 22 (.tmp 43) (by rfl) V 1 (by first | rfl | simp) (.slice av nv cv) 96 Try.underlying22 (CY.out) ?_
        refine hK.out _ _ ⟨HB0.out.1, HB0.out.2.1, HB0.out.2.2⟩ (fun hHeld => ?_)
        clear hK K
        try simp only [Act.put, List.getElem_toArray, List.getElem_cons_succ, List.getElem_cons_zero, List.setIfInBounds_toArray, List.set_cons_zero, List.set_cons_succ]
        refine wpAnyH_ready (rs := [11]) (by kernel_rfl) (by simp) ((AllReadyH.cons rfl (fun K hK => ?_) AllReadyH.nil))
        go_simp
        go_at_call_of 44 (Value.slice ad nd md)
        refine (copied_calls _ d _ (HIDY.out.drew) (by omega)).mono ?_
        rintro e x9 ⟨f9, g9, j9, rfl, ho9, hg9⟩
        refine hK.out _ _ ⟨Gr.cell hg9 HB0.out.1, Gr.cell hg9 HB0.out.2.1, Gr.cell hg9 HB0.out.2.2⟩ (fun hHeld => ?_)
        clear hK K
        try simp only [Act.put, List.getElem_toArray, List.getElem_cons_succ, List.getElem_cons_zero, List.setIfInBounds_toArray, List.set_cons_zero, List.set_cons_succ]
        refine wpAnyH_take (i := 12) (v := .agg #[.int .i64 kd, .int .i64 0, .slice f9 g9 j9]) rfl (by kernel_rfl) (by kernel_rfl) (by kernel_rfl) (fun _ _ _ h => h) (Or.inl ⟨by rfl, fun w' hS => ?_⟩) (by assumption) ?_
        · obtain ⟨c0, c1, c2⟩ := hS
          clear hHeld
          go_simp
        try simp only [Act.put, List.getElem_toArray, List.getElem_cons_succ, List.getElem_cons_zero, List.setIfInBounds_toArray, List.set_cons_zero, List.set_cons_succ]
        refine wpAnyH_ready (rs := [13]) (by kernel_rfl) (by simp) ((AllReadyH.cons rfl (fun K hK => ?_) AllReadyH.nil))
        go_simp
        refine hK.out _ _ ⟨Gr.cell ((Gr.refl _).alloc _) (Gr.cell hg9 HB0.out.1), Gr.cell ((Gr.refl _).alloc _) (Gr.cell hg9 HB0.out.2.1), Gr.cell ((Gr.refl _).alloc _) (Gr.cell hg9 HB0.out.2.2)⟩ (fun hHeld => ?_)
        clear hK K
        try simp only [Act.put, List.getElem_toArray, List.getElem_cons_succ, List.getElem_cons_zero, List.setIfInBounds_toArray, List.set_cons_zero, List.set_cons_succ]
        refine wpAnyH_ready (rs := [14]) (by kernel_rfl) (by simp) ((AllReadyH.cons rfl (fun K hK => ?_) AllReadyH.nil))
        have hb9 : Y.heap.size ≤ x9.heap.size := hg9.size
        refine step_appR rfl (.tmp 44) (.tmp 56) 22 96 rfl Try.underlying22 _ 40 info_oI rfl (by omega) wb.heap.size V (.slice av nv cv) rs' (by first | rfl | simp [Act.eval]) ((HOY.out.gr ((Gr.refl Y).drew.trans hg9)).gr ((Gr.refl _).alloc _)) x9.heap.size 1 ⟨kd, 0, d⟩ (.slice f9 g9 j9) (by first | rfl | simp [Act.eval]) (box3 rfl _ _ _ _).1 (box3 rfl _ _ _ _).2.1 (box3 rfl _ _ _ _).2.2 (ho9.isB.gr ((Gr.refl _).alloc _)) (ho9.aside (show V < Y.heap.size by omega)) (fun k hk => ho9.aside (show k < Y.heap.size from (HOY.out.fresh k hk).2)) HRSL.out (by rw [World.size_alloc]; omega) ?_
        intro v4 w4 ho4 hg4 hat4
        obtain ⟨g4, n4, c4, rfl, hg41⟩ := ho4.slice_pos (by simp)
        have G4 := grownBy_step ((GWY.out.drew.trans hg9).alloc _) hg4 (fun k hk => .inl (by rw [rowW_size]; exact (HOY.out.fresh k hk).1))
        have k4b := World.grownBy.cell hg4 (a := ⟨T8, 0, none⟩) (Gr.cell ((Gr.refl _).alloc _) (Gr.cell hg9 HB0.out.1)) (fun e => neV.out _ e.symm rfl)
        have k4c := World.grownBy.cell hg4 (a := ⟨T8, 1, none⟩) (Gr.cell ((Gr.refl _).alloc _) (Gr.cell hg9 HB0.out.2.1)) (fun e => neV.out _ e.symm rfl)
        have k4d := World.grownBy.cell hg4 (a := ⟨T8, 3, none⟩) (Gr.cell ((Gr.refl _).alloc _) (Gr.cell hg9 HB0.out.2.2)) (fun e => neV.out _ e.symm rfl)
        obtain ⟨x4, gx4, dx4, rfl⟩ := Gr.unrow hdT G4
        have hfar4 := Lib.hid (fun k (hk : k < wb.heap.size) => ho9.aside (show k < Y.heap.size by omega))
        refine hK.out _ _ ⟨k4b, k4c, k4d⟩ (fun hHeld => ?_)
        clear hK K
        try simp only [Act.put, List.getElem_toArray, List.getElem_cons_succ, List.getElem_cons_zero, List.setIfInBounds_toArray, List.set_cons_zero, List.set_cons_succ]
        refine wpAnyH_take (i := 15) (v := .pointer (some ⟨V, 1, none⟩)) rfl (by kernel_rfl) (by kernel_rfl) (by kernel_rfl) (fun _ _ _ h => h) (Or.inl ⟨by rfl, fun w' hS => ?_⟩) (by assumption) ?_
        · obtain ⟨c0, c1, c2⟩ := hS
          clear hHeld
          go_simp
        try simp only [Act.put, List.getElem_toArray, List.getElem_cons_succ, List.getElem_cons_zero, List.setIfInBounds_toArray, List.set_cons_zero, List.set_cons_succ]
        refine wpAnyH_ready (rs := [16]) (by kernel_rfl) (by simp) ((AllReadyH.cons rfl (fun K hK => ?_) AllReadyH.nil))
        go_simp
        refine hK.out _ _ ⟨rowW_swap neTT k4b, rowW_swap neTT k4c, rowW_swap neTT k4d⟩ (fun hHeld => ?_)
        clear hK K
        try simp only [Act.put, List.getElem_toArray, List.getElem_cons_succ, List.getElem_cons_zero, List.setIfInBounds_toArray, List.set_cons_zero, List.set_cons_succ]
        refine wpAnyH_done (by kernel_rfl) ?_ _
        go_wp2_with fail
        go_roundw
        case rel => exact ⟨k + 1, rs' ++ [(⟨kd, 0, d⟩, _)], x4, some ⟨g4, 0, none⟩, n4, c4, HLT.out, by go_num, rfl, dx4, gx4, ho4.reRow hdT, by rw [List.map_append, HRS'.out, step_ofx HP'.out, List.map_append]; rfl, fun p hp k hk => (List.mem_append.1 hp).elim (fun h => HFAR.out p h k hk) (fun h => by simp at h; subst h; exact hfar4.out k hk)⟩
        case measure => simp [intOf]; omega
      · go_simp
        go_at_call_of 44 (Value.slice ad nd md)
        refine (copied_calls _ d _ (HIDY.out.drew) (by omega)).mono ?_
        rintro e x9 ⟨f9, g9, j9, rfl, ho9, hg9⟩
        refine hK.out _ _ ⟨Gr.cell hg9 HB0.out.1, Gr.cell hg9 HB0.out.2.1, Gr.cell hg9 HB0.out.2.2⟩ (fun hHeld => ?_)
        clear hK K
        try simp only [Act.put, List.getElem_toArray, List.getElem_cons_succ, List.getElem_cons_zero, List.setIfInBounds_toArray, List.set_cons_zero, List.set_cons_succ]
        refine wpAnyH_take (i := 12) (v := .agg #[.int .i64 kd, .int .i64 0, .slice f9 g9 j9]) rfl (by kernel_rfl) (by kernel_rfl) (by kernel_rfl) (fun _ _ _ h => h) (Or.inl ⟨by rfl, fun w' hS => ?_⟩) (by assumption) ?_
        · obtain ⟨c0, c1, c2⟩ := hS
          clear hHeld
          go_simp
        try simp only [Act.put, List.getElem_toArray, List.getElem_cons_succ, List.getElem_cons_zero, List.setIfInBounds_toArray, List.set_cons_zero, List.set_cons_succ]
        refine wpAnyH_ready (rs := [1, 13]) (by kernel_rfl) (by simp) ((AllReadyH.cons rfl (fun K hK => ?_) (AllReadyH.cons rfl (fun K hK => ?_) AllReadyH.nil)))
        · refine step_loadc (by rfl) 22 (.tmp 43) (by rfl) V 1 (by first | rfl | simp) (.slice av nv cv) 96 Try.underlying22 (Gr.cell hg9 CY.out) ?_
          refine hK.out _ _ ⟨Gr.cell hg9 HB0.out.1, Gr.cell hg9 HB0.out.2.1, Gr.cell hg9 HB0.out.2.2⟩ (fun hHeld => ?_)
          clear hK K
          try simp only [Act.put, List.getElem_toArray, List.getElem_cons_succ, List.getElem_cons_zero, List.setIfInBounds_toArray, List.set_cons_zero, List.set_cons_succ]
          refine wpAnyH_ready (rs := [13]) (by kernel_rfl) (by simp) ((AllReadyH.cons rfl (fun K hK => ?_) AllReadyH.nil))
          go_simp
          refine hK.out _ _ ⟨Gr.cell ((Gr.refl _).alloc _) (Gr.cell hg9 HB0.out.1), Gr.cell ((Gr.refl _).alloc _) (Gr.cell hg9 HB0.out.2.1), Gr.cell ((Gr.refl _).alloc _) (Gr.cell hg9 HB0.out.2.2)⟩ (fun hHeld => ?_)
          clear hK K
          try simp only [Act.put, List.getElem_toArray, List.getElem_cons_succ, List.getElem_cons_zero, List.setIfInBounds_toArray, List.set_cons_zero, List.set_cons_succ]
          refine wpAnyH_ready (rs := [14]) (by kernel_rfl) (by simp) ((AllReadyH.cons rfl (fun K hK => ?_) AllReadyH.nil))
          have hb9 : Y.heap.size ≤ x9.heap.size := hg9.size
          refine step_appR rfl (.tmp 44) (.tmp 56) 22 96 rfl Try.underlying22 _ 40 info_oI rfl (by omega) wb.heap.size V (.slice av nv cv) rs' (by first | rfl | simp [Act.eval]) ((HOY.out.gr ((Gr.refl Y).drew.trans hg9)).gr ((Gr.refl _).alloc _)) x9.heap.size 1 ⟨kd, 0, d⟩ (.slice f9 g9 j9) (by first | rfl | simp [Act.eval]) (box3 rfl _ _ _ _).1 (box3 rfl _ _ _ _).2.1 (box3 rfl _ _ _ _).2.2 (ho9.isB.gr ((Gr.refl _).alloc _)) (ho9.aside (show V < Y.heap.size by omega)) (fun k hk => ho9.aside (show k < Y.heap.size from (HOY.out.fresh k hk).2)) HRSL.out (by rw [World.size_alloc]; omega) ?_
          intro v4 w4 ho4 hg4 hat4
          obtain ⟨g4, n4, c4, rfl, hg41⟩ := ho4.slice_pos (by simp)
          have G4 := grownBy_step ((GWY.out.drew.trans hg9).alloc _) hg4 (fun k hk => .inl (by rw [rowW_size]; exact (HOY.out.fresh k hk).1))
          have k4b := World.grownBy.cell hg4 (a := ⟨T8, 0, none⟩) (Gr.cell ((Gr.refl _).alloc _) (Gr.cell hg9 HB0.out.1)) (fun e => neV.out _ e.symm rfl)
          have k4c := World.grownBy.cell hg4 (a := ⟨T8, 1, none⟩) (Gr.cell ((Gr.refl _).alloc _) (Gr.cell hg9 HB0.out.2.1)) (fun e => neV.out _ e.symm rfl)
          have k4d := World.grownBy.cell hg4 (a := ⟨T8, 3, none⟩) (Gr.cell ((Gr.refl _).alloc _) (Gr.cell hg9 HB0.out.2.2)) (fun e => neV.out _ e.symm rfl)
          obtain ⟨x4, gx4, dx4, rfl⟩ := Gr.unrow hdT G4
          have hfar4 := Lib.hid (fun k (hk : k < wb.heap.size) => ho9.aside (show k < Y.heap.size by omega))
          refine hK.out _ _ ⟨k4b, k4c, k4d⟩ (fun hHeld => ?_)
          clear hK K
          try simp only [Act.put, List.getElem_toArray, List.getElem_cons_succ, List.getElem_cons_zero, List.setIfInBounds_toArray, List.set_cons_zero, List.set_cons_succ]
          refine wpAnyH_take (i := 15) (v := .pointer (some ⟨V, 1, none⟩)) rfl (by kernel_rfl) (by kernel_rfl) (by kernel_rfl) (fun _ _ _ h => h) (Or.inl ⟨by rfl, fun w' hS => ?_⟩) (by assumption) ?_
          · obtain ⟨c0, c1, c2⟩ := hS
            clear hHeld
            go_simp
          try simp only [Act.put, List.getElem_toArray, List.getElem_cons_succ, List.getElem_cons_zero, List.setIfInBounds_toArray, List.set_cons_zero, List.set_cons_succ]
          refine wpAnyH_ready (rs := [16]) (by kernel_rfl) (by simp) ((AllReadyH.cons rfl (fun K hK => ?_) AllReadyH.nil))
          go_simp
          refine hK.out _ _ ⟨rowW_swap neTT k4b, rowW_swap neTT k4c, rowW_swap neTT k4d⟩ (fun hHeld => ?_)
          clear hK K
          try simp only [Act.put, List.getElem_toArray, List.getElem_cons_succ, List.getElem_cons_zero, List.setIfInBounds_toArray, List.set_cons_zero, List.set_cons_succ]
          refine wpAnyH_done (by kernel_rfl) ?_ _
          go_wp2_with fail
          go_roundw
          case rel => exact ⟨k + 1, rs' ++ [(⟨kd, 0, d⟩, _)], x4, some ⟨g4, 0, none⟩, n4, c4, HLT.out, by go_num, rfl, dx4, gx4, ho4.reRow hdT, by rw [List.map_append, HRS'.out, step_ofx HP'.out, List.map_append]; rfl, fun p hp k hk => (List.mem_append.1 hp).elim (fun h => HFAR.out p h k hk) (fun h => by simp at h; subst h; exact hfar4.out k hk)⟩
          case measure => simp [intOf]; omega
        · go_simp
          refine hK.out _ _ ⟨Gr.cell ((Gr.refl _).alloc _) (Gr.cell hg9 HB0.out.1), Gr.cell ((Gr.refl _).alloc _) (Gr.cell hg9 HB0.out.2.1), Gr.cell ((Gr.refl _).alloc _) (Gr.cell hg9 HB0.out.2.2)⟩ (fun hHeld => ?_)
          clear hK K
          try simp only [Act.put, List.getElem_toArray, List.getElem_cons_succ, List.getElem_cons_zero, List.setIfInBounds_toArray, List.set_cons_zero, List.set_cons_succ]
          refine wpAnyH_ready (rs := [1]) (by kernel_rfl) (by simp) ((AllReadyH.cons rfl (fun K hK => ?_) AllReadyH.nil))
          refine step_loadc (by rfl) 22 (.tmp 43) (by rfl) V 1 (by first | rfl | simp) (.slice av nv cv) 96 Try.underlying22 (Gr.cell ((Gr.refl _).alloc _) (Gr.cell hg9 CY.out)) ?_
          refine hK.out _ _ ⟨Gr.cell ((Gr.refl _).alloc _) (Gr.cell hg9 HB0.out.1), Gr.cell ((Gr.refl _).alloc _) (Gr.cell hg9 HB0.out.2.1), Gr.cell ((Gr.refl _).alloc _) (Gr.cell hg9 HB0.out.2.2)⟩ (fun hHeld => ?_)
          clear hK K
          try simp only [Act.put, List.getElem_toArray, List.getElem_cons_succ, List.getElem_cons_zero, List.setIfInBounds_toArray, List.set_cons_zero, List.set_cons_succ]
          refine wpAnyH_ready (rs := [14]) (by kernel_rfl) (by simp) ((AllReadyH.cons rfl (fun K hK => ?_) AllReadyH.nil))
          have hb9 : Y.heap.size ≤ x9.heap.size := hg9.size
          refine step_appR rfl (.tmp 44) (.tmp 56) 22 96 rfl Try.underlying22 _ 40 info_oI rfl (by omega) wb.heap.size V (.slice av nv cv) rs' (by first | rfl | simp [Act.eval]) ((HOY.out.gr ((Gr.refl Y).drew.trans hg9)).gr ((Gr.refl _).alloc _)) x9.heap.size 1 ⟨kd, 0, d⟩ (.slice f9 g9 j9) (by first | rfl | simp [Act.eval]) (box3 rfl _ _ _ _).1 (box3 rfl _ _ _ _).2.1 (box3 rfl _ _ _ _).2.2 (ho9.isB.gr ((Gr.refl _).alloc _)) (ho9.aside (show V < Y.heap.size by omega)) (fun k hk => ho9.aside (show k < Y.heap.size from (HOY.out.fresh k hk).2)) HRSL.out (by rw [World.size_alloc]; omega) ?_
          intro v4 w4 ho4 hg4 hat4
          obtain ⟨g4, n4, c4, rfl, hg41⟩ := ho4.slice_pos (by simp)
          have G4 := grownBy_step ((GWY.out.drew.trans hg9).alloc _) hg4 (fun k hk => .inl (by rw [rowW_size]; exact (HOY.out.fresh k hk).1))
          have k4b := World.grownBy.cell hg4 (a := ⟨T8, 0, none⟩) (Gr.cell ((Gr.refl _).alloc _) (Gr.cell hg9 HB0.out.1)) (fun e => neV.out _ e.symm rfl)
          have k4c := World.grownBy.cell hg4 (a := ⟨T8, 1, none⟩) (Gr.cell ((Gr.refl _).alloc _) (Gr.cell hg9 HB0.out.2.1)) (fun e => neV.out _ e.symm rfl)
          have k4d := World.grownBy.cell hg4 (a := ⟨T8, 3, none⟩) (Gr.cell ((Gr.refl _).alloc _) (Gr.cell hg9 HB0.out.2.2)) (fun e => neV.out _ e.symm rfl)
          obtain ⟨x4, gx4, dx4, rfl⟩ := Gr.unrow hdT G4
          have hfar4 := Lib.hid (fun k (hk : k < wb.heap.size) => ho9.aside (show k < Y.heap.size by omega))
          refine hK.out _ _ ⟨k4b, k4c, k4d⟩ (fun hHeld => ?_)
          clear hK K
          try simp only [Act.put, List.getElem_toArray, List.getElem_cons_succ, List.getElem_cons_zero, List.setIfInBounds_toArray, List.set_cons_zero, List.set_cons_succ]
          refine wpAnyH_take (i := 15) (v := .pointer (some ⟨V, 1, none⟩)) rfl (by kernel_rfl) (by kernel_rfl) (by kernel_rfl) (fun _ _ _ h => h) (Or.inl ⟨by rfl, fun w' hS => ?_⟩) (by assumption) ?_
          · obtain ⟨c0, c1, c2⟩ := hS
            clear hHeld
            go_simp
          try simp only [Act.put, List.getElem_toArray, List.getElem_cons_succ, List.getElem_cons_zero, List.setIfInBounds_toArray, List.set_cons_zero, List.set_cons_succ]
          refine wpAnyH_ready (rs := [16]) (by kernel_rfl) (by simp) ((AllReadyH.cons rfl (fun K hK => ?_) AllReadyH.nil))
          go_simp
          refine hK.out _ _ ⟨rowW_swap neTT k4b, rowW_swap neTT k4c, rowW_swap neTT k4d⟩ (fun hHeld => ?_)
          clear hK K
          try simp only [Act.put, List.getElem_toArray, List.getElem_cons_succ, List.getElem_cons_zero, List.setIfInBounds_toArray, List.set_cons_zero, List.set_cons_succ]
          refine wpAnyH_done (by kernel_rfl) ?_ _
          go_wp2_with fail
          go_roundw
          case rel => exact ⟨k + 1, rs' ++ [(⟨kd, 0, d⟩, _)], x4, some ⟨g4, 0, none⟩, n4, c4, HLT.out, by go_num, rfl, dx4, gx4, ho4.reRow hdT, by rw [List.map_append, HRS'.out, step_ofx HP'.out, List.map_append]; rfl, fun p hp k hk => (List.mem_append.1 hp).elim (fun h => HFAR.out p h k hk) (fun h => by simp at h; subst h; exact hfar4.out k hk)⟩
          case measure => simp [intOf]; omega
    · obtain rfl : k = os.length := by omega
      have e := HRS'.out
      rw [List.take_length] at e
      have HRE := Lib.hid e
      clear e
      have hgx : Gr w (rowW x V [.int .i64 (bt l 0), .slice av nv cv] 43) := (HW0.out.1.trans HG.out).step (rowW_grown (some V) rfl) hVw
      have HGX := Lib.hid hgx
      have hBP : IsB (rowW x V [.int .i64 (bt l 0), .slice av nv cv] 43) (.slice a2 n2 c2) pl := (HI3.out.1.gr HG.out).keptE (rowW_grown (some V) rfl) (.inr HI3.out.2)
      have HBP := Lib.hid hBP
      have HR6 := Lib.hid (HasRow.grown (HasRow.gr HG.out HR3.out) (rowW_grown (cs := [.int .i64 (bt l 0), .slice av nv cv]) (e := 43) (some V) rfl) nRT)
      have hve := HVE.out
      have x1 : x.cell? ⟨V + 1, 1, none⟩ = some (.slice a2 n2 c2) := by have h := HG.out.cell k1; rw [show w.heap.size + 2 = V + 1 by omega] at h; exact h
      have hneR : V ≠ w.heap.size := fun e => nRT e.symm
      have hneD2 : V + 1 ≠ w.heap.size := by omega
      have hDne : V + 1 ≠ V := by omega
      have szw2 := HGX.out.size
      have hwx : w.heap.size < (rowW x V [.int .i64 (bt l 0), .slice av nv cv] 43).heap.size := by rw [rowW_size]; have : V < x.heap.size := hX; omega
      have HWX := Lib.hid hwx
      clear hgx hBP hve
      go_wp2_with fail
      go_region_held3 (fun w' => w'.cell? ⟨V + 1, 1, none⟩ = some (.slice a2 n2 c2) ∧ w'.cell? ⟨V, 0, none⟩ = some (.int .i64 (bt l 0)) ∧ w'.cell? ⟨V, 1, none⟩ = some (.slice av nv cv)) (first | exact ⟨(rowW_cell_other hDne).trans x1, rowW_cell (show Has x.drew V from hX) 0, rowW_cell (show Has x.drew V from hX) 1⟩ | exact And.imp (Gr.cell (by assumption)) (And.imp (Gr.cell (by assumption)) (Gr.cell (by assumption))) (by assumption) | exact And.imp (rowW_swap hneD2) (And.imp (rowW_swap hneR) (rowW_swap hneR)) (by assumption) | go_keep) (first
        | (go_at_call 44; refine (copied_calls _ pl _ ?_ ?_).mono ?_; (exact IsB.drew HBP.out); omega; rintro e x9 ⟨f9, g9, j9, rfl, ho9, hg9⟩; obtain ⟨u9, rs9, hrs9, hR9, rfl⟩ := (HasRow.gr hg9 (HR6.out.drew)).w0; obtain ⟨r9x0, r9x1, rfl⟩ := len2 hrs9))
      go_wp2
      have t9 := HGX.out.drew.trans hg9
      refine bodyPost_ret (v := .tuple #[.agg #[.int .i64 (bt l 0), .slice av nv cv], .slice f9 g9 j9, .bool true]) (by simp [results, Try.results25, go_sem, hR9]) rfl ?_
      unfold ExtData
      refine ⟨_, _, _, _, _, _, rfl, ?_, ?_, Gr.row t9 (Nat.le_refl _)⟩
      · rw [← HRE.out]
        refine OwnO.isOpts (base := wb.heap.size) (e := 96) (D := w.heap.size) (OwnO.turn (((HOw.out.gr ((Gr.refl _).drew.trans hg9)).otherX (D' := w.heap.size) (fun p hp => HFAR.out p hp _ (by omega)))) (rowW_rowW (n := 0)) (by omega)) (fun p hp => ?_)
        have hm : p.1 ∈ os.map outX := by rw [← HRE.out]; exact List.mem_map_of_mem hp
        obtain ⟨q, hq, hqe⟩ := List.mem_map.1 hm
        have hq2 : (0 ≤ q.kind ∧ q.kind ≤ 255) ∧ q.data.length ≤ 255 ∧ (q.kind = 0 → q.data = []) := HOK.out q hq
        rw [← hqe]
        have e1 : (outX q).kind = q.kind := rfl
        have e2 : (outX q).len = 0 := rfl
        exact ⟨WalkArith.wf_i64 (by rw [e1]; omega), WalkArith.wf_i64 (by rw [e2]; omega)⟩
      · exact IsB.reRow ho9.isB (ho9.other HWX.out)

set_option linter.unusedVariables false in
set_option linter.unusedSimpArgs false in
set_option maxRecDepth 100000 in
set_option maxHeartbeats 8000000 in
theorem extReadD_calls (v : Value) (l pl : List Int) (os : List Opt) (w : World) (h : IsB w v l) (hok : ∀ x ∈ os, OkKind x) (hlo : os.length ≤ 30) (hl : l.length ≤ 1000000) (hA : bt l 1 * 8 + 8 = 2 + ((typedB os).length : Int)) (hO : l.drop 2 = typedB os ++ pl) (hp : pl ≠ []) (h2 : 2 ≤ l.length) :
    Calls Try.prog 25 #[v, .bool false] w fun e w' => ExtData w w' (bt l 0) pl os e := by
  have HV := Lib.hid h
  have HOK := Lib.hid hok
  have HA := Lib.hid hA
  have HO := Lib.hid hO
  have HP := Lib.hid hp
  have p0 := h.bytes.bt0 0
  have p1 := h.bytes.bt1 0
  have hpl : pl.length ≤ 1000000 := by
    have e := congrArg List.length hO
    rw [List.length_drop, List.length_append] at e; omega
  have uw : IntKind.i64.wrap (bt l 0) = bt l 0 := w64 (by omega) (by omega)
  have nDT : (w.heap.size + 2) ≠ (w.heap.size + 1) := by omega
  have nRT : w.heap.size ≠ (w.heap.size + 1) := by omega
  clear h hok hA hO hp
  go_enter Try.func25, Try.ntmps25
  go_wp2_with (first
    | (go_at_call 45; refine (nilFeedback_calls _).mono ?_; rintro e w2 ⟨rfl, rfl⟩)
    | (go_at_call 44; refine (copied_calls _ l _ (HV.out.gr ((((Gr.refl w).alloc _).alloc _).alloc _)) (by omega)).mono ?_; rintro e w1 ⟨a0, n0, m0, rfl, hoA, hgA⟩; have hD1 := heap_gr hgA (heap_alloc_new ((w.alloc (.cells [.int .i64 0, .slice none 0 0].toArray 43)).alloc (.cells [.int .i64 0, .slice none 0 0].toArray 43)) (.cells [.slice none 0 0, .slice none 0 0, .int .u8 0, .int .u8 0, .int .i64 0, .slice none 0 0].toArray 135)); have hT1 := heap_gr hgA (heap_gr ((Gr.refl _).alloc (.cells [.slice none 0 0, .slice none 0 0, .int .u8 0, .int .u8 0, .int .i64 0, .slice none 0 0].toArray 135)) (heap_alloc_new (w.alloc (.cells [.int .i64 0, .slice none 0 0].toArray 43)) (.cells [.int .i64 0, .slice none 0 0].toArray 43))); have hR1 := heap_gr hgA (heap_gr (((Gr.refl _).alloc (.cells [.int .i64 0, .slice none 0 0].toArray 43)).alloc (.cells [.slice none 0 0, .slice none 0 0, .int .u8 0, .int .u8 0, .int .i64 0, .slice none 0 0].toArray 135)) (heap_alloc_new w (.cells [.int .i64 0, .slice none 0 0].toArray 43))); simp only [World.size_alloc] at hD1 hT1)
    | (go_at_call 57; refine (extDecodeD_calls (w.heap.size + 2) a0 n0 m0 l pl os w1 hD1 hoA.isB (hoA.other (by simp)) HOK.out hlo hl HA.out HO.out HP.out h2).mono ?_; rintro e w2 ⟨rfl, hgB, a1, n1, c1, a2, n2, c2, a, n, m, rs, hD2, hI2, hOW, hrl, hK⟩; have hT2 := (hgB.block (w.heap.size + 1) (Array.getElem?_eq_some_iff.1 hT1).1 (by intro e; have := Option.some.inj e; omega)).trans hT1; have hR2 := (hgB.block w.heap.size (Array.getElem?_eq_some_iff.1 hR1).1 (by intro e; have := Option.some.inj e; omega)).trans hR1; obtain ⟨y, yV, rfl⟩ : ∃ y, Has y (w.heap.size + 1) ∧ w2 = rowW y (w.heap.size + 1) [.int .i64 0, .slice none 0 0] 43 := ⟨w2, (Array.getElem?_eq_some_iff.1 hT2).1, (rowW_self hT2).symm⟩; rw [rowW_other nDT] at hD2; have yk2 := cell_of_heap hD2 2 _ rfl; have yk5 := cell_of_heap hD2 5 _ rfl; have yk1 := cell_of_heap hD2 1 _ rfl; have hln := (fun ty => hOW.len (P := Try.prog) 133 Try.underlying133 ty); rw [hrl] at hln))
  obtain ⟨V, hVe⟩ : ∃ V, V = w.heap.size + 1 := ⟨_, rfl⟩
  obtain ⟨B, hBe⟩ : ∃ B, B = (Value.slice a0 n0 m0).ownBlock := ⟨_, rfl⟩
  have hBV : B ≠ some V := by rw [hBe, hVe]; exact hoA.other (by simp only [World.size_alloc]; omega)
  have hw1 : w.heap.size + 3 ≤ w1.heap.size := by have := hgA.size; simp only [World.size_alloc] at this; omega
  have hwB := hgB.size
  have gwy : Gr w (rowW y (w.heap.size + 1) [.int .i64 0, .slice none 0 0] 43) := ((((((Gr.refl w).alloc _).alloc _).alloc _).trans hgA).step hgB (by omega))
  have hW0 : Gr w (rowW y (w.heap.size + 1) [.int .i64 (bt l 0), .slice none 0 0] 43) := Gr.row gwy (by omega)
  rw [← hVe] at yV hgB hI2 hOW hK hR2 nDT nRT hwB hW0 ⊢
  rw [← hBe] at hK
  rw [rowW_size] at hwB
  have hI3 := IsB.reRow (cs' := [.int .i64 (bt l 0), .slice none 0 0]) hI2 (hI2.rowAside yV HP.out)
  have hR3 : HasRow (rowW y V [.int .i64 (bt l 0), .slice none 0 0] 43) w.heap.size 43 2 := ⟨[.int .i64 0, .slice none 0 0], rfl, by rw [rowW_other nRT] at hR2 ⊢; exact hR2⟩
  have hcell : ∀ g o u, g ≠ V → (rowW y V [.int .i64 0, .slice none 0 0] 43).cell? ⟨g, o, none⟩ = some u → (rowW y V [.int .i64 (bt l 0), .slice none 0 0] 43).cell? ⟨g, o, none⟩ = some u := fun g o u hg h => rowW_swap hg h
  have hIsx : ∀ s t, IsB (rowW y V [.int .i64 0, .slice none 0 0] 43) s t → (s.ownBlock = B ∨ t = []) → IsB (rowW y V [.int .i64 (bt l 0), .slice none 0 0] 43) s t := fun s t h hb => hb.elim (fun e => h.reRow (by rw [e]; exact hBV)) (fun e => h.empty e)
  obtain ⟨W0, hW0e⟩ : ∃ W0, W0 = rowW y V [.int .i64 0, .slice none 0 0] 43 := ⟨_, rfl⟩
  have hs0 : W0.heap.size = (rowW y V [.int .i64 (bt l 0), .slice none 0 0] 43).heap.size := by rw [hW0e, rowW_size, rowW_size]
  have hdT : V < (rowW y V [.int .i64 (bt l 0), .slice none 0 0] 43).heap.size := by rw [rowW_size]; exact yV
  have hvW := rowW_heap (cs := [.int .i64 (bt l 0), .slice none 0 0]) (e := 43) yV
  have k5 := (rowW_cell_other (cs := [.int .i64 (bt l 0), .slice none 0 0]) (e := 43) nDT).trans yk5
  have k1 := (rowW_cell_other (cs := [.int .i64 (bt l 0), .slice none 0 0]) (e := 43) nDT).trans yk1
  have k2 := (rowW_cell_other (cs := [.int .i64 (bt l 0), .slice none 0 0]) (e := 43) nDT).trans yk2
  have hI2o := hI2.rowAside yV HP.out
  rw [← hW0e] at hOW hK hcell hIsx
  obtain ⟨wb, hwb⟩ : ∃ wb, wb = rowW y V [.int .i64 (bt l 0), .slice none 0 0] 43 := ⟨_, rfl⟩
  rw [← hwb] at hW0 hI3 hR3 hcell hIsx hs0 hdT hvW k5 k2 k1 ⊢
  have hVw : w.heap.size ≤ V := by omega
  have HW0 := Lib.hid (And.intro hW0 hvW)
  have HI3 := Lib.hid (And.intro hI3 hI2o)
  have HR3 := Lib.hid hR3
  have HOW := Lib.hid hOW
  have HK := Lib.hid hK
  have HC := Lib.hid hcell
  have HIX := Lib.hid hIsx
  have HVE := Lib.hid hVe
  have HBV := Lib.hid hBV
  have HB1 := Lib.hid (And.intro hw1 hwB)
  have hVb : V < w1.heap.size := by omega
  have hDne : (w.heap.size + 2) ≠ V := nDT
  clear hW0 hvW hI3 hI2o hR3 hOW hK hcell hIsx hVe hw1 hwB hW0e hwb hI2 hR2 hT2 gwy hgB hgA hoA hT1 hD1 hR1 hBV hBe hD2 yk2 yk5 yk1 yV
  go_loopw [89] (XRel wb V os (fun o => [.int .i64 (bt l 0), o])) (fun i _ => os.length - (intOf i).toNat)
  case atStart => exact ⟨0, [], wb, none, 0, 0, Nat.zero_le _, rfl, (rowW_self HW0.out.2).symm, hdT, Gr.refl _, OwnO.nil, by simp, fun p hp => by cases hp⟩
  case round =>
    obtain ⟨k, rs', x, av, nv, cv, hk, rfl, rfl, hX, hG, hOw, hrs', hfar'⟩ := hrel
    have HOw := Lib.hid hOw
    have HRS' := Lib.hid hrs'
    have HFAR := Lib.hid hfar'
    have HG := Lib.hid hG
    clear hOw hrs' hfar' hG
    by_cases hlt : k < os.length
    · have hkr : rs[k]? = some (rs[k]'(by omega)) := List.getElem?_eq_getElem (by omega)
      have hxk : os[k]? = some (os.getD k Opt.zero) := by rw [List.getD_eq_getElem?_getD, List.getElem?_eq_getElem hlt]; rfl
      obtain ⟨g, o, ix, hc, -, hgl, hgb⟩ := HOW.out.idx rcP_len 133 Try.underlying133 size_pD .i64 k _ hkr
      obtain ⟨T8, hT8, -, hb0, hbl, -, ln, M, ad, nd, md, hb, hI, hAs⟩ := HK.out k _ _ hkr hxk
      have cg := hc 0 _ rfl
      rw [hT8, Int.toNat_natCast, Nat.add_zero] at cg
      have hrg := HOK.out _ (List.mem_of_getElem? hxk)
      obtain ⟨xo, hxo⟩ : ∃ xo, xo = os.getD k Opt.zero := ⟨_, rfl⟩
      rw [← hxo] at hb hI hAs hxk hrg
      clear hxo hc hT8 hkr
      obtain ⟨kd, ln', d⟩ := xo
      simp only at hb hI hAs hrg
      have hrg : (0 ≤ kd ∧ kd ≤ 255) ∧ d.length ≤ 255 ∧ (kd = 0 → d = []) := hrg
      obtain rfl := hI.count
      have neG : g ≠ V := by omega
      have neTT : T8 ≠ V := by omega
      have hTw : T8 < wb.heap.size := by omega
      have cg := HG.out.cell (HC.out _ _ _ neG cg)
      have bY0 := (rowW_cell_other (cs := [.int .i64 (bt l 0), .slice av nv cv]) (e := 43) neTT).trans (HG.out.cell (HC.out _ _ _ neTT (cell_of_heap (cs := [.int .u8 kd, .int .u8 ln, .int .i64 M, .slice ad d.length md, .int .u8 0, .int .u8 0]) hb 0 _ rfl)))
      have bY1 := (rowW_cell_other (cs := [.int .i64 (bt l 0), .slice av nv cv]) (e := 43) neTT).trans (HG.out.cell (HC.out _ _ _ neTT (cell_of_heap (cs := [.int .u8 kd, .int .u8 ln, .int .i64 M, .slice ad d.length md, .int .u8 0, .int .u8 0]) hb 1 _ rfl)))
      have bY2 := (rowW_cell_other (cs := [.int .i64 (bt l 0), .slice av nv cv]) (e := 43) neTT).trans (HG.out.cell (HC.out _ _ _ neTT (cell_of_heap (cs := [.int .u8 kd, .int .u8 ln, .int .i64 M, .slice ad d.length md, .int .u8 0, .int .u8 0]) hb 3 _ rfl)))
      have hI := HIX.out _ _ hI hAs
      have hAV : Aside (.slice ad d.length md) d V := hAs.elim (fun e => .inr (by rw [e]; exact HBV.out)) .inl
      have HID := Lib.hid (show IsB (rowW x V [.int .i64 (bt l 0), .slice av nv cv] 43) (.slice ad d.length md) d from IsB.keptE (hI.gr HG.out) (rowW_grown (some V) rfl) hAV)
      obtain ⟨nd, hnd⟩ : ∃ nd, nd = d.length := ⟨_, rfl⟩
      rw [← hnd] at bY2 HID
      have HP' := Lib.hid hxk
      have HLT := Lib.hid hlt
      have hdl : d.length ≤ 255 := hrg.2.1
      have wk : IntKind.i64.wrap kd = kd := w64 (by have := hrg.1; omega) (by have := hrg.1; omega)
      have hneX : x.heap.size ≠ V := by have : V < x.heap.size := hX; omega
      have HND := Lib.hid hnd
      have HRSL := Lib.hid (show rs'.length ≤ 1000000000 by have e := congrArg List.length HRS'.out; rw [List.length_map, List.length_map, List.length_take] at e; omega)
      clear hxk hI hlt hnd hrg hb hAs hAV hgl hgb hb0 hbl
      go_wp2_with fail
      obtain ⟨Y, hY⟩ : ∃ Y, Y = (rowW x V [.int .i64 (bt l 0), .slice av nv cv] 43) := ⟨_, rfl⟩
      rw [← hY]
      have gY : Gr (rowW x V [.int .i64 (bt l 0), .slice av nv cv] 43) Y := by rw [hY]; exact Gr.refl _
      rw [← hY] at bY0 bY1 bY2
      have cY := gY.cell (rowW_cell hX 1)
      have HOY := Lib.hid (HOw.out.gr gY)
      have GWY := Lib.hid ((gr_rows (cs := [.int .i64 (bt l 0), .slice av nv cv]) (e := 43) hdT HG.out).trans gY)
      have neV := Lib.hid (show ∀ k, (Value.slice av nv cv).ownBlock = some k → k ≠ T8 from fun k hk => by
        have h1 := (HOw.out.fresh k hk).1
        omega)
      have HIDY := Lib.hid ((HID.out.gr gY))
      have szY := gY.size
      have szW := HG.out.size
      rw [rowW_size] at szY
      have HB0 := Lib.hid (And.intro bY0 (And.intro bY1 bY2))
      have CY := Lib.hid cY
      have hTb : V < wb.heap.size := hdT
      clear hY gY cY
      refine wp_region_held_drew (S := (fun w' => w'.cell? ⟨T8, 0, none⟩ = some (.int .u8 kd) ∧ w'.cell? ⟨T8, 1, none⟩ = some (.int .u8 ln) ∧ w'.cell? ⟨T8, 3, none⟩ = some (.slice ad nd md))) (by kernel_rfl) ⟨bY0, bY1, bY2⟩ (fun hHeld => ?_)
      refine wpAnyH_take (i := 2) (v := .pointer (some ⟨T8, 0, none⟩)) rfl (by kernel_rfl) (by kernel_rfl) (by kernel_rfl) (fun _ _ _ h => h) (Or.inl ⟨by rfl, fun w' hS => ?_⟩) (by assumption) ?_
      · obtain ⟨c0, c1, c2⟩ := hS
        clear hHeld
        go_simp
      try simp only [Act.put, List.getElem_toArray, List.getElem_cons_succ, List.getElem_cons_zero, List.setIfInBounds_toArray, List.set_cons_zero, List.set_cons_succ]
      refine wpAnyH_take (i := 3) (v := .pointer (some ⟨T8, 0, none⟩)) rfl (by kernel_rfl) (by kernel_rfl) (by kernel_rfl) (fun _ _ _ h => h) (Or.inl ⟨by rfl, fun w' hS => ?_⟩) (by assumption) ?_
      · obtain ⟨c0, c1, c2⟩ := hS
        clear hHeld
        go_simp
      try simp only [Act.put, List.getElem_toArray, List.getElem_cons_succ, List.getElem_cons_zero, List.setIfInBounds_toArray, List.set_cons_zero, List.set_cons_succ]
      refine wpAnyH_take (i := 7) (v := .pointer (some ⟨T8, 0, none⟩)) rfl (by kernel_rfl) (by kernel_rfl) (by kernel_rfl) (fun _ _ _ h => h) (Or.inl ⟨by rfl, fun w' hS => ?_⟩) (by assumption) ?_
      · obtain ⟨c0, c1, c2⟩ := hS
        clear hHeld
        go_simp
      try simp only [Act.put, List.getElem_toArray, List.getElem_cons_succ, List.getElem_cons_zero, List.setIfInBounds_toArray, List.set_cons_zero, List.set_cons_succ]
      refine wpAnyH_take (i := 8) (v := .pointer (some ⟨T8, 0, none⟩)) rfl (by kernel_rfl) (by kernel_rfl) (by kernel_rfl) (fun _ _ _ h => h) (Or.inl ⟨by rfl, fun w' hS => ?_⟩) (by assumption) ?_
      · obtain ⟨c0, c1, c2⟩ := hS
        clear hHeld
        go_simp
      try simp only [Act.put, List.getElem_toArray, List.getElem_cons_succ, List.getElem_cons_zero, List.setIfInBounds_toArray, List.set_cons_zero, List.set_cons_succ]
      refine wpAnyH_take (i := 0) (v := .pointer (some ⟨V, 1, none⟩)) rfl (by kernel_rfl) (by kernel_rfl) (by kernel_rfl) (fun _ _ _ h => h) (Or.inl ⟨by rfl, fun w' hS => ?_⟩) (by assumption) ?_
      · obtain ⟨c0, c1, c2⟩ := hS
        clear hHeld
        go_simp
      try simp only [Act.put, List.getElem_toArray, List.getElem_cons_succ, List.getElem_cons_zero, List.setIfInBounds_toArray, List.set_cons_zero, List.set_cons_succ]
      refine wpAnyH_take (i := 4) (v := .pointer (some ⟨T8, 0, none⟩)) rfl (by kernel_rfl) (by kernel_rfl) (by kernel_rfl) (fun _ _ _ h => h) (Or.inl ⟨by rfl, fun w' hS => ?_⟩) (by assumption) ?_
      · obtain ⟨c0, c1, c2⟩ := hS
        clear hHeld
        go_simp
      try simp only [Act.put, List.getElem_toArray, List.getElem_cons_succ, List.getElem_cons_zero, List.setIfInBounds_toArray, List.set_cons_zero, List.set_cons_succ]
      refine wpAnyH_take (i := 5) (v := .int .u8 kd) rfl (by kernel_rfl) (by kernel_rfl) (by kernel_rfl) (fun _ _ _ h => h) (Or.inl ⟨by rfl, fun w' hS => ?_⟩) (by assumption) ?_
      · obtain ⟨c0, c1, c2⟩ := hS
        clear hHeld
        go_simp
      try simp only [Act.put, List.getElem_toArray, List.getElem_cons_succ, List.getElem_cons_zero, List.setIfInBounds_toArray, List.set_cons_zero, List.set_cons_succ]
      refine wpAnyH_take (i := 6) (v := .int .i64 kd) rfl (by kernel_rfl) (by kernel_rfl) (by kernel_rfl) (fun _ _ _ h => h) (Or.inl ⟨by rfl, fun w' hS => ?_⟩) (by assumption) ?_
      · obtain ⟨c0, c1, c2⟩ := hS
        clear hHeld
        go_simp
      try simp only [Act.put, List.getElem_toArray, List.getElem_cons_succ, List.getElem_cons_zero, List.setIfInBounds_toArray, List.set_cons_zero, List.set_cons_succ]
      refine wpAnyH_take (i := 9) (v := .pointer (some ⟨T8, 3, none⟩)) rfl (by kernel_rfl) (by kernel_rfl) (by kernel_rfl) (fun _ _ _ h => h) (Or.inl ⟨by rfl, fun w' hS => ?_⟩) (by assumption) ?_
      · obtain ⟨c0, c1, c2⟩ := hS
        clear hHeld
        go_simp
      try simp only [Act.put, List.getElem_toArray, List.getElem_cons_succ, List.getElem_cons_zero, List.setIfInBounds_toArray, List.set_cons_zero, List.set_cons_succ]
      refine wpAnyH_take (i := 10) (v := .slice ad nd md) rfl (by kernel_rfl) (by kernel_rfl) (by kernel_rfl) (fun _ _ _ h => h) (Or.inl ⟨by rfl, fun w' hS => ?_⟩) (by assumption) ?_
      · obtain ⟨c0, c1, c2⟩ := hS
        clear hHeld
        go_simp
      try simp only [Act.put, List.getElem_toArray, List.getElem_cons_succ, List.getElem_cons_zero, List.setIfInBounds_toArray, List.set_cons_zero, List.set_cons_succ]
      refine wpAnyH_ready (rs := [1, 11]) (by kernel_rfl) (by simp) ((AllReadyH.cons rfl (fun K hK => ?_) (AllReadyH.cons rfl (fun K hK => ?_) AllReadyH.nil)))
      · refine step_loadc (by rfl) 22 (.tmp 93) (by rfl) V 1 (by first | rfl | simp) (.slice av nv cv) 96 Try.underlying22 (CY.out) ?_
        refine hK.out _ _ ⟨HB0.out.1, HB0.out.2.1, HB0.out.2.2⟩ (fun hHeld => ?_)
        clear hK K
        try simp only [Act.put, List.getElem_toArray, List.getElem_cons_succ, List.getElem_cons_zero, List.setIfInBounds_toArray, List.set_cons_zero, List.set_cons_succ]
        refine wpAnyH_ready (rs := [11]) (by kernel_rfl) (by simp) ((AllReadyH.cons rfl (fun K hK => ?_) AllReadyH.nil))
        go_simp
        go_at_call_of 44 (Value.slice ad nd md)
        refine (copied_calls _ d _ (HIDY.out.drew) (by omega)).mono ?_
        rintro e x9 ⟨f9, g9, j9, rfl, ho9, hg9⟩
        refine hK.out _ _ ⟨Gr.cell hg9 HB0.out.1, Gr.cell hg9 HB0.out.2.1, Gr.cell hg9 HB0.out.2.2⟩ (fun hHeld => ?_)
        clear hK K
        try simp only [Act.put, List.getElem_toArray, List.getElem_cons_succ, List.getElem_cons_zero, List.setIfInBounds_toArray, List.set_cons_zero, List.set_cons_succ]
        refine wpAnyH_take (i := 12) (v := .agg #[.int .i64 kd, .int .i64 0, .slice f9 g9 j9]) rfl (by kernel_rfl) (by kernel_rfl) (by kernel_rfl) (fun _ _ _ h => h) (Or.inl ⟨by rfl, fun w' hS => ?_⟩) (by assumption) ?_
        · obtain ⟨c0, c1, c2⟩ := hS
          clear hHeld
          go_simp
        try simp only [Act.put, List.getElem_toArray, List.getElem_cons_succ, List.getElem_cons_zero, List.setIfInBounds_toArray, List.set_cons_zero, List.set_cons_succ]
        refine wpAnyH_ready (rs := [13]) (by kernel_rfl) (by simp) ((AllReadyH.cons rfl (fun K hK => ?_) AllReadyH.nil))
        go_simp
        refine hK.out _ _ ⟨Gr.cell ((Gr.refl _).alloc _) (Gr.cell hg9 HB0.out.1), Gr.cell ((Gr.refl _).alloc _) (Gr.cell hg9 HB0.out.2.1), Gr.cell ((Gr.refl _).alloc _) (Gr.cell hg9 HB0.out.2.2)⟩ (fun hHeld => ?_)
        clear hK K
        try simp only [Act.put, List.getElem_toArray, List.getElem_cons_succ, List.getElem_cons_zero, List.setIfInBounds_toArray, List.set_cons_zero, List.set_cons_succ]
        refine wpAnyH_ready (rs := [14]) (by kernel_rfl) (by simp) ((AllReadyH.cons rfl (fun K hK => ?_) AllReadyH.nil))
        have hb9 : Y.heap.size ≤ x9.heap.size := hg9.size
        refine step_appR rfl (.tmp 94) (.tmp 106) 22 96 rfl Try.underlying22 _ 40 info_oI rfl (by omega) wb.heap.size V (.slice av nv cv) rs' (by first | rfl | simp [Act.eval]) ((HOY.out.gr ((Gr.refl Y).drew.trans hg9)).gr ((Gr.refl _).alloc _)) x9.heap.size 1 ⟨kd, 0, d⟩ (.slice f9 g9 j9) (by first | rfl | simp [Act.eval]) (box3 rfl _ _ _ _).1 (box3 rfl _ _ _ _).2.1 (box3 rfl _ _ _ _).2.2 (ho9.isB.gr ((Gr.refl _).alloc _)) (ho9.aside (show V < Y.heap.size by omega)) (fun k hk => ho9.aside (show k < Y.heap.size from (HOY.out.fresh k hk).2)) HRSL.out (by rw [World.size_alloc]; omega) ?_
        intro v4 w4 ho4 hg4 hat4
        obtain ⟨g4, n4, c4, rfl, hg41⟩ := ho4.slice_pos (by simp)
        have G4 := grownBy_step ((GWY.out.drew.trans hg9).alloc _) hg4 (fun k hk => .inl (by rw [rowW_size]; exact (HOY.out.fresh k hk).1))
        have k4b := World.grownBy.cell hg4 (a := ⟨T8, 0, none⟩) (Gr.cell ((Gr.refl _).alloc _) (Gr.cell hg9 HB0.out.1)) (fun e => neV.out _ e.symm rfl)
        have k4c := World.grownBy.cell hg4 (a := ⟨T8, 1, none⟩) (Gr.cell ((Gr.refl _).alloc _) (Gr.cell hg9 HB0.out.2.1)) (fun e => neV.out _ e.symm rfl)
        have k4d := World.grownBy.cell hg4 (a := ⟨T8, 3, none⟩) (Gr.cell ((Gr.refl _).alloc _) (Gr.cell hg9 HB0.out.2.2)) (fun e => neV.out _ e.symm rfl)
        obtain ⟨x4, gx4, dx4, rfl⟩ := Gr.unrow hdT G4
        have hfar4 := Lib.hid (fun k (hk : k < wb.heap.size) => ho9.aside (show k < Y.heap.size by omega))
        refine hK.out _ _ ⟨k4b, k4c, k4d⟩ (fun hHeld => ?_)
        clear hK K
        try simp only [Act.put, List.getElem_toArray, List.getElem_cons_succ, List.getElem_cons_zero, List.setIfInBounds_toArray, List.set_cons_zero, List.set_cons_succ]
        refine wpAnyH_take (i := 15) (v := .pointer (some ⟨V, 1, none⟩)) rfl (by kernel_rfl) (by kernel_rfl) (by kernel_rfl) (fun _ _ _ h => h) (Or.inl ⟨by rfl, fun w' hS => ?_⟩) (by assumption) ?_
        · obtain ⟨c0, c1, c2⟩ := hS
          clear hHeld
          go_simp
        try simp only [Act.put, List.getElem_toArray, List.getElem_cons_succ, List.getElem_cons_zero, List.setIfInBounds_toArray, List.set_cons_zero, List.set_cons_succ]
        refine wpAnyH_ready (rs := [16]) (by kernel_rfl) (by simp) ((AllReadyH.cons rfl (fun K hK => ?_) AllReadyH.nil))
        go_simp
        refine hK.out _ _ ⟨rowW_swap neTT k4b, rowW_swap neTT k4c, rowW_swap neTT k4d⟩ (fun hHeld => ?_)
        clear hK K
        try simp only [Act.put, List.getElem_toArray, List.getElem_cons_succ, List.getElem_cons_zero, List.setIfInBounds_toArray, List.set_cons_zero, List.set_cons_succ]
        refine wpAnyH_done (by kernel_rfl) ?_ _
        go_wp2_with fail
        go_roundw
        case rel => exact ⟨k + 1, rs' ++ [(⟨kd, 0, d⟩, _)], x4, some ⟨g4, 0, none⟩, n4, c4, HLT.out, by go_num, rfl, dx4, gx4, ho4.reRow hdT, by rw [List.map_append, HRS'.out, step_ofx HP'.out, List.map_append]; rfl, fun p hp k hk => (List.mem_append.1 hp).elim (fun h => HFAR.out p h k hk) (fun h => by simp at h; subst h; exact hfar4.out k hk)⟩
        case measure => simp [intOf]; omega
      · go_simp
        go_at_call_of 44 (Value.slice ad nd md)
        refine (copied_calls _ d _ (HIDY.out.drew) (by omega)).mono ?_
        rintro e x9 ⟨f9, g9, j9, rfl, ho9, hg9⟩
        refine hK.out _ _ ⟨Gr.cell hg9 HB0.out.1, Gr.cell hg9 HB0.out.2.1, Gr.cell hg9 HB0.out.2.2⟩ (fun hHeld => ?_)
        clear hK K
        try simp only [Act.put, List.getElem_toArray, List.getElem_cons_succ, List.getElem_cons_zero, List.setIfInBounds_toArray, List.set_cons_zero, List.set_cons_succ]
        refine wpAnyH_take (i := 12) (v := .agg #[.int .i64 kd, .int .i64 0, .slice f9 g9 j9]) rfl (by kernel_rfl) (by kernel_rfl) (by kernel_rfl) (fun _ _ _ h => h) (Or.inl ⟨by rfl, fun w' hS => ?_⟩) (by assumption) ?_
        · obtain ⟨c0, c1, c2⟩ := hS
          clear hHeld
          go_simp
        try simp only [Act.put, List.getElem_toArray, List.getElem_cons_succ, List.getElem_cons_zero, List.setIfInBounds_toArray, List.set_cons_zero, List.set_cons_succ]
        refine wpAnyH_ready (rs := [1, 13]) (by kernel_rfl) (by simp) ((AllReadyH.cons rfl (fun K hK => ?_) (AllReadyH.cons rfl (fun K hK => ?_) AllReadyH.nil)))
        · refine step_loadc (by rfl) 22 (.tmp 93) (by rfl) V 1 (by first | rfl | simp) (.slice av nv cv) 96 Try.underlying22 (Gr.cell hg9 CY.out) ?_
          refine hK.out _ _ ⟨Gr.cell hg9 HB0.out.1, Gr.cell hg9 HB0.out.2.1, Gr.cell hg9 HB0.out.2.2⟩ (fun hHeld => ?_)
          clear hK K
          try simp only [Act.put, List.getElem_toArray, List.getElem_cons_succ, List.getElem_cons_zero, List.setIfInBounds_toArray, List.set_cons_zero, List.set_cons_succ]
          refine wpAnyH_ready (rs := [13]) (by kernel_rfl) (by simp) ((AllReadyH.cons rfl (fun K hK => ?_) AllReadyH.nil))
          go_simp
          refine hK.out _ _ ⟨Gr.cell ((Gr.refl _).alloc _) (Gr.cell hg9 HB0.out.1), Gr.cell ((Gr.refl _).alloc _) (Gr.cell hg9 HB0.out.2.1), Gr.cell ((Gr.refl _).alloc _) (Gr.cell hg9 HB0.out.2.2)⟩ (fun hHeld => ?_)
          clear hK K
          try simp only [Act.put, List.getElem_toArray, List.getElem_cons_succ, List.getElem_cons_zero, List.setIfInBounds_toArray, List.set_cons_zero, List.set_cons_succ]
          refine wpAnyH_ready (rs := [14]) (by kernel_rfl) (by simp) ((AllReadyH.cons rfl (fun K hK => ?_) AllReadyH.nil))
          have hb9 : Y.heap.size ≤ x9.heap.size := hg9.size
          refine step_appR rfl (.tmp 94) (.tmp 106) 22 96 rfl Try.underlying22 _ 40 info_oI rfl (by omega) wb.heap.size V (.slice av nv cv) rs' (by first | rfl | simp [Act.eval]) ((HOY.out.gr ((Gr.refl Y).drew.trans hg9)).gr ((Gr.refl _).alloc _)) x9.heap.size 1 ⟨kd, 0, d⟩ (.slice f9 g9 j9) (by first | rfl | simp [Act.eval]) (box3 rfl _ _ _ _).1 (box3 rfl _ _ _ _).2.1 (box3 rfl _ _ _ _).2.2 (ho9.isB.gr ((Gr.refl _).alloc _)) (ho9.aside (show V < Y.heap.size by omega)) (fun k hk => ho9.aside (show k < Y.heap.size from (HOY.out.fresh k hk).2)) HRSL.out (by rw [World.size_alloc]; omega) ?_
          intro v4 w4 ho4 hg4 hat4
          obtain ⟨g4, n4, c4, rfl, hg41⟩ := ho4.slice_pos (by simp)
          have G4 := grownBy_step ((GWY.out.drew.trans hg9).alloc _) hg4 (fun k hk => .inl (by rw [rowW_size]; exact (HOY.out.fresh k hk).1))
          have k4b := World.grownBy.cell hg4 (a := ⟨T8, 0, none⟩) (Gr.cell ((Gr.refl _).alloc _) (Gr.cell hg9 HB0.out.1)) (fun e => neV.out _ e.symm rfl)
          have k4c := World.grownBy.cell hg4 (a := ⟨T8, 1, none⟩) (Gr.cell ((Gr.refl _).alloc _) (Gr.cell hg9 HB0.out.2.1)) (fun e => neV.out _ e.symm rfl)
          have k4d := World.grownBy.cell hg4 (a := ⟨T8, 3, none⟩) (Gr.cell ((Gr.refl _).alloc _) (Gr.cell hg9 HB0.out.2.2)) (fun e => neV.out _ e.symm rfl)
          obtain ⟨x4, gx4, dx4, rfl⟩ := Gr.unrow hdT G4
          have hfar4 := Lib.hid (fun k (hk : k < wb.heap.size) => ho9.aside (show k < Y.heap.size by omega))
          refine hK.out _ _ ⟨k4b, k4c, k4d⟩ (fun hHeld => ?_)
          clear hK K
          try simp only [Act.put, List.getElem_toArray, List.getElem_cons_succ, List.getElem_cons_zero, List.setIfInBounds_toArray, List.set_cons_zero, List.set_cons_succ]
          refine wpAnyH_take (i := 15) (v := .pointer (some ⟨V, 1, none⟩)) rfl (by kernel_rfl) (by kernel_rfl) (by kernel_rfl) (fun _ _ _ h => h) (Or.inl ⟨by rfl, fun w' hS => ?_⟩) (by assumption) ?_
          · obtain ⟨c0, c1, c2⟩ := hS
            clear hHeld
            go_simp
          try simp only [Act.put, List.getElem_toArray, List.getElem_cons_succ, List.getElem_cons_zero, List.setIfInBounds_toArray, List.set_cons_zero, List.set_cons_succ]
          refine wpAnyH_ready (rs := [16]) (by kernel_rfl) (by simp) ((AllReadyH.cons rfl (fun K hK => ?_) AllReadyH.nil))
          go_simp
          refine hK.out _ _ ⟨rowW_swap neTT k4b, rowW_swap neTT k4c, rowW_swap neTT k4d⟩ (fun hHeld => ?_)
          clear hK K
          try simp only [Act.put, List.getElem_toArray, List.getElem_cons_succ, List.getElem_cons_zero, List.setIfInBounds_toArray, List.set_cons_zero, List.set_cons_succ]
          refine wpAnyH_done (by kernel_rfl) ?_ _
          go_wp2_with fail
          go_roundw
          case rel => exact ⟨k + 1, rs' ++ [(⟨kd, 0, d⟩, _)], x4, some ⟨g4, 0, none⟩, n4, c4, HLT.out, by go_num, rfl, dx4, gx4, ho4.reRow hdT, by rw [List.map_append, HRS'.out, step_ofx HP'.out, List.map_append]; rfl, fun p hp k hk => (List.mem_append.1 hp).elim (fun h => HFAR.out p h k hk) (fun h => by simp at h; subst h; exact hfar4.out k hk)⟩
          case measure => simp [intOf]; omega
        · go_simp
          refine hK.out _ _ ⟨Gr.cell ((Gr.refl _).alloc _) (Gr.cell hg9 HB0.out.1), Gr.cell ((Gr.refl _).alloc _) (Gr.cell hg9 HB0.out.2.1), Gr.cell ((Gr.refl _).alloc _) (Gr.cell hg9 HB0.out.2.2)⟩ (fun hHeld => ?_)
          clear hK K
          try simp only [Act.put, List.getElem_toArray, List.getElem_cons_succ, List.getElem_cons_zero, List.setIfInBounds_toArray, List.set_cons_zero, List.set_cons_succ]
          refine wpAnyH_ready (rs := [1]) (by kernel_rfl) (by simp) ((AllReadyH.cons rfl (fun K hK => ?_) AllReadyH.nil))
          refine step_loadc (by rfl) 22 (.tmp 93) (by rfl) V 1 (by first | rfl | simp) (.slice av nv cv) 96 Try.underlying22 (Gr.cell ((Gr.refl _).alloc _) (Gr.cell hg9 CY.out)) ?_
          refine hK.out _ _ ⟨Gr.cell ((Gr.refl _).alloc _) (Gr.cell hg9 HB0.out.1), Gr.cell ((Gr.refl _).alloc _) (Gr.cell hg9 HB0.out.2.1), Gr.cell ((Gr.refl _).alloc _) (Gr.cell hg9 HB0.out.2.2)⟩ (fun hHeld => ?_)
          clear hK K
          try simp only [Act.put, List.getElem_toArray, List.getElem_cons_succ, List.getElem_cons_zero, List.setIfInBounds_toArray, List.set_cons_zero, List.set_cons_succ]
          refine wpAnyH_ready (rs := [14]) (by kernel_rfl) (by simp) ((AllReadyH.cons rfl (fun K hK => ?_) AllReadyH.nil))
          have hb9 : Y.heap.size ≤ x9.heap.size := hg9.size
          refine step_appR rfl (.tmp 94) (.tmp 106) 22 96 rfl Try.underlying22 _ 40 info_oI rfl (by omega) wb.heap.size V (.slice av nv cv) rs' (by first | rfl | simp [Act.eval]) ((HOY.out.gr ((Gr.refl Y).drew.trans hg9)).gr ((Gr.refl _).alloc _)) x9.heap.size 1 ⟨kd, 0, d⟩ (.slice f9 g9 j9) (by first | rfl | simp [Act.eval]) (box3 rfl _ _ _ _).1 (box3 rfl _ _ _ _).2.1 (box3 rfl _ _ _ _).2.2 (ho9.isB.gr ((Gr.refl _).alloc _)) (ho9.aside (show V < Y.heap.size by omega)) (fun k hk => ho9.aside (show k < Y.heap.size from (HOY.out.fresh k hk).2)) HRSL.out (by rw [World.size_alloc]; omega) ?_
          intro v4 w4 ho4 hg4 hat4
          obtain ⟨g4, n4, c4, rfl, hg41⟩ := ho4.slice_pos (by simp)
          have G4 := grownBy_step ((GWY.out.drew.trans hg9).alloc _) hg4 (fun k hk => .inl (by rw [rowW_size]; exact (HOY.out.fresh k hk).1))
          have k4b := World.grownBy.cell hg4 (a := ⟨T8, 0, none⟩) (Gr.cell ((Gr.refl _).alloc _) (Gr.cell hg9 HB0.out.1)) (fun e => neV.out _ e.symm rfl)
          have k4c := World.grownBy.cell hg4 (a := ⟨T8, 1, none⟩) (Gr.cell ((Gr.refl _).alloc _) (Gr.cell hg9 HB0.out.2.1)) (fun e => neV.out _ e.symm rfl)
          have k4d := World.grownBy.cell hg4 (a := ⟨T8, 3, none⟩) (Gr.cell ((Gr.refl _).alloc _) (Gr.cell hg9 HB0.out.2.2)) (fun e => neV.out _ e.symm rfl)
          obtain ⟨x4, gx4, dx4, rfl⟩ := Gr.unrow hdT G4
          have hfar4 := Lib.hid (fun k (hk : k < wb.heap.size) => ho9.aside (show k < Y.heap.size by omega))
          refine hK.out _ _ ⟨k4b, k4c, k4d⟩ (fun hHeld => ?_)
          clear hK K
          try simp only [Act.put, List.getElem_toArray, List.getElem_cons_succ, List.getElem_cons_zero, List.setIfInBounds_toArray, List.set_cons_zero, List.set_cons_succ]
          refine wpAnyH_take (i := 15) (v := .pointer (some ⟨V, 1, none⟩)) rfl (by kernel_rfl) (by kernel_rfl) (by kernel_rfl) (fun _ _ _ h => h) (Or.inl ⟨by rfl, fun w' hS => ?_⟩) (by assumption) ?_
          · obtain ⟨c0, c1, c2⟩ := hS
            clear hHeld
            go_simp
          try simp only [Act.put, List.getElem_toArray, List.getElem_cons_succ, List.getElem_cons_zero, List.setIfInBounds_toArray, List.set_cons_zero, List.set_cons_succ]
          refine wpAnyH_ready (rs := [16]) (by kernel_rfl) (by simp) ((AllReadyH.cons rfl (fun K hK => ?_) AllReadyH.nil))
          go_simp
          refine hK.out _ _ ⟨rowW_swap neTT k4b, rowW_swap neTT k4c, rowW_swap neTT k4d⟩ (fun hHeld => ?_)
          clear hK K
          try simp only [Act.put, List.getElem_toArray, List.getElem_cons_succ, List.getElem_cons_zero, List.setIfInBounds_toArray, List.set_cons_zero, List.set_cons_succ]
          refine wpAnyH_done (by kernel_rfl) ?_ _
          go_wp2_with fail
          go_roundw
          case rel => exact ⟨k + 1, rs' ++ [(⟨kd, 0, d⟩, _)], x4, some ⟨g4, 0, none⟩, n4, c4, HLT.out, by go_num, rfl, dx4, gx4, ho4.reRow hdT, by rw [List.map_append, HRS'.out, step_ofx HP'.out, List.map_append]; rfl, fun p hp k hk => (List.mem_append.1 hp).elim (fun h => HFAR.out p h k hk) (fun h => by simp at h; subst h; exact hfar4.out k hk)⟩
          case measure => simp [intOf]; omega
    · obtain rfl : k = os.length := by omega
      have e := HRS'.out
      rw [List.take_length] at e
      have HRE := Lib.hid e
      clear e
      have hgx : Gr w (rowW x V [.int .i64 (bt l 0), .slice av nv cv] 43) := (HW0.out.1.trans HG.out).step (rowW_grown (some V) rfl) hVw
      have HGX := Lib.hid hgx
      have hBP : IsB (rowW x V [.int .i64 (bt l 0), .slice av nv cv] 43) (.slice a2 n2 c2) pl := (HI3.out.1.gr HG.out).keptE (rowW_grown (some V) rfl) (.inr HI3.out.2)
      have HBP := Lib.hid hBP
      have HR6 := Lib.hid (HasRow.grown (HasRow.gr HG.out HR3.out) (rowW_grown (cs := [.int .i64 (bt l 0), .slice av nv cv]) (e := 43) (some V) rfl) nRT)
      have hve := HVE.out
      have x1 : x.cell? ⟨V + 1, 1, none⟩ = some (.slice a2 n2 c2) := by have h := HG.out.cell k1; rw [show w.heap.size + 2 = V + 1 by omega] at h; exact h
      have hneR : V ≠ w.heap.size := fun e => nRT e.symm
      have hneD2 : V + 1 ≠ w.heap.size := by omega
      have hDne : V + 1 ≠ V := by omega
      have szw2 := HGX.out.size
      have hwx : w.heap.size < (rowW x V [.int .i64 (bt l 0), .slice av nv cv] 43).heap.size := by rw [rowW_size]; have : V < x.heap.size := hX; omega
      have HWX := Lib.hid hwx
      clear hgx hBP hve
      go_wp2_with fail
      go_region_held3 (fun w' => w'.cell? ⟨V + 1, 1, none⟩ = some (.slice a2 n2 c2) ∧ w'.cell? ⟨V, 0, none⟩ = some (.int .i64 (bt l 0)) ∧ w'.cell? ⟨V, 1, none⟩ = some (.slice av nv cv)) (first | exact ⟨(rowW_cell_other hDne).trans x1, rowW_cell (show Has x.drew V from hX) 0, rowW_cell (show Has x.drew V from hX) 1⟩ | exact And.imp (Gr.cell (by assumption)) (And.imp (Gr.cell (by assumption)) (Gr.cell (by assumption))) (by assumption) | exact And.imp (rowW_swap hneD2) (And.imp (rowW_swap hneR) (rowW_swap hneR)) (by assumption) | go_keep) (first
        | (go_at_call 44; refine (copied_calls _ pl _ ?_ ?_).mono ?_; (exact IsB.drew HBP.out); omega; rintro e x9 ⟨f9, g9, j9, rfl, ho9, hg9⟩; obtain ⟨u9, rs9, hrs9, hR9, rfl⟩ := (HasRow.gr hg9 (HR6.out.drew)).w0; obtain ⟨r9x0, r9x1, rfl⟩ := len2 hrs9))
      go_wp2
      have t9 := HGX.out.drew.trans hg9
      refine bodyPost_ret (v := .tuple #[.agg #[.int .i64 (bt l 0), .slice av nv cv], .slice f9 g9 j9, .bool true]) (by simp [results, Try.results25, go_sem, hR9]) rfl ?_
      unfold ExtData
      refine ⟨_, _, _, _, _, _, rfl, ?_, ?_, Gr.row t9 (Nat.le_refl _)⟩
      · rw [← HRE.out]
        refine OwnO.isOpts (base := wb.heap.size) (e := 96) (D := w.heap.size) (OwnO.turn (((HOw.out.gr ((Gr.refl _).drew.trans hg9)).otherX (D' := w.heap.size) (fun p hp => HFAR.out p hp _ (by omega)))) (rowW_rowW (n := 0)) (by omega)) (fun p hp => ?_)
        have hm : p.1 ∈ os.map outX := by rw [← HRE.out]; exact List.mem_map_of_mem hp
        obtain ⟨q, hq, hqe⟩ := List.mem_map.1 hm
        have hq2 : (0 ≤ q.kind ∧ q.kind ≤ 255) ∧ q.data.length ≤ 255 ∧ (q.kind = 0 → q.data = []) := HOK.out q hq
        rw [← hqe]
        have e1 : (outX q).kind = q.kind := rfl
        have e2 : (outX q).len = 0 := rfl
        exact ⟨WalkArith.wf_i64 (by rw [e1]; omega), WalkArith.wf_i64 (by rw [e2]; omega)⟩
      · exact IsB.reRow ho9.isB (ho9.other HWX.out)
end Go.Proofs.Ytdpffedmgmllbaa
