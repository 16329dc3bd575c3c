/-
  Options in units of eight bytes: reading.
-/
import Derived.Test.YtoopkfnkmaaieaaRecsG
import Derived.Test.YtoopkfnkmaaieaaUnits
import Derived.Test.YtoopkfnkmaaieaaLib3
import Derived.Test.YtoopkfnkmaaieaaTrunc
import Derived.Test.YtoopkfnkmaaieaaBase
import Derived.Deep.RegionHeld3
import Derived.Deep.RegionWith
namespace Go.Proofs.Ytoopkfnkmaaieaa
open Go.RowKit

/-- a record: a kind and a slice -/
def rcU (p : Opt × Value) : List Value := [.int .u8 p.1.kind, p.2]
theorem rcU_len (p : Opt × Value) : (rcU p).length = 2 := rfl
theorem info_un : (Try.prog.info? 173).map (fun i => (i.zero, i.size, i.bytes)) = some (some (.agg #[.int .u8 0, .slice none 0 0]), 2, 32) := by kernel_rfl
theorem info_uI : (Try.prog.info? 98).map (fun i => (i.zero, i.size, i.bytes)) = some (some (.agg #[.int .i64 0, .int .i64 0, .slice none 0 0]), 3, 40) := by kernel_rfl
theorem size_un : (Try.prog.info? 173).map (·.size) = some 2 := by kernel_rfl
theorem box2 {w : World} {b : Nat} (hb : b = w.heap.size) (p q : Value) (t : TypeId) : ∀ i u, [p, q][i]? = some u → (w.alloc (.cells #[p, q] t)).cell? ⟨b, i, none⟩ = some u := by
  subst hb
  exact fun i u hu => cell_of_heap (cs := [p, q]) (heap_alloc_new w (.cells #[p, q] t)) i u hu
theorem box3u {w : World} {b : Nat} (hb : b = w.heap.size) (p q r : Value) (t : TypeId) : (w.alloc (.cells #[p, q, r] t)).cell? ⟨b, 0, none⟩ = some p ∧ (w.alloc (.cells #[p, q, r] t)).cell? ⟨b, 1, none⟩ = some q ∧ (w.alloc (.cells #[p, q, r] t)).cell? ⟨b, 2, none⟩ = some r := by
  subst hb
  have h := heap_alloc_new w (.cells #[p, q, r] t)
  exact ⟨cell_of_heap (cs := [p, q, r]) h 0 _ rfl, cell_of_heap (cs := [p, q, r]) h 1 _ rfl, cell_of_heap (cs := [p, q, r]) h 2 _ rfl⟩
theorem gr_rowsU {w x : World} {D : Nat} {cs : List Value} {e : TypeId} (hd : Has w D) (hg : Gr w x) : Gr (rowW w D cs e) (rowW x D cs e) := by
  refine ⟨hg.os, hg.tape, hg.output, by rw [rowW_size, rowW_size]; exact hg.size, fun k hk hr => ?_⟩
  rw [rowW_size] at hk
  by_cases e : k = D
  · subst e
    rw [rowW_heap hd, rowW_heap (show k < x.heap.size from Nat.lt_of_lt_of_le hd hg.size)]
  · rw [rowW_other e, rowW_other e]
    exact hg.block k hk hr
/-- an option as it comes out -/
def outU (x : Opt) : Opt := ⟨x.kind, 0, x.data⟩
/-- what holds ahead of a round that copies an option -/
def FromRel (w : World) (D : Nat) (rs : List (Opt × Value)) (u i : Value) (wr : World) : Prop :=
  ∃ (k : Nat) (rs' : List (Opt × Value)) (a : Option Addr) (n m : Nat), k ≤ rs.length ∧ i = .int .i64 k ∧ u = .slice a n m ∧ Gr w wr ∧ OwnO .i64 .i64 wr w.heap.size 98 D (.slice a n m) rs' ∧ rs'.map Prod.fst = ((rs.take k).map Prod.fst).map outU ∧ ∀ p ∈ rs', ∀ k, k < w.heap.size → Aside p.2 p.1.data k
theorem own_emptyO (w : World) (D : Nat) (q1 q2 : IntKind) (t : TypeId) : OwnO q1 q2 (w.alloc (.cells #[] t)) w.heap.size t D (.slice (some ⟨w.heap.size, 0, none⟩) 0 0) [] :=
  ⟨⟨rfl, .inr ⟨w.heap.size, 0, #[], rfl, Nat.le_refl _, heap_alloc_new w _, Nat.le_refl _, Nat.zero_le _, rfl, rfl⟩⟩, fun p hp => by simp at hp⟩
theorem unit_step {rs : List (Opt × Value)} {k : Nat} {p : Opt × Value} (h : rs[k]? = some p) : rs.take (k + 1) = rs.take k ++ [p] := by
  rw [List.take_add_one, h]; rfl

set_option linter.unusedSimpArgs false in
set_option maxRecDepth 100000 in
set_option maxHeartbeats 4000000 in
theorem unitsFrom_calls (v : Value) (rs : List (Opt × Value)) (base D0 D : Nat) (w : World) (h : OwnG rcU 2 w base 173 D0 v rs) (hrg : ∀ p ∈ rs, (0 ≤ p.1.kind ∧ p.1.kind ≤ 255) ∧ p.1.data.length ≤ 1000) (hrl : rs.length ≤ 1000) (hD : D < w.heap.size) :
    Calls Try.prog 65 #[v] w fun e w' => ∃ a n m rs', e = .returned (.slice a n m) ∧ Gr w w' ∧ OwnO .i64 .i64 w' w.heap.size 98 D (.slice a n m) rs' ∧ rs'.map Prod.fst = (rs.map Prod.fst).map outU ∧ ∀ p ∈ rs', ∀ k, k < w.heap.size → Aside p.2 p.1.data k := by
  have HOW := Lib.hid h
  have HRNG := Lib.hid hrg
  have hlo := fun ty => (h.len (P := Try.prog) 134 Try.underlying134 ty)
  clear h hrg
  go_enter Try.func65, Try.ntmps65
  go_wp2_with fail
  go_loopw [3, 9] (FromRel w D rs) (fun _ i _ => rs.length - (intOf i).toNat)
  case atStart => exact ⟨0, [], _, _, _, Nat.zero_le _, rfl, rfl, (Gr.refl w).alloc _, own_emptyO w D _ _ _, by simp, fun p hp => by cases hp⟩
  case round =>
    obtain ⟨k, rs', av, nv, cv, hk, rfl, rfl, hg, hOw, hrs', hfar'⟩ := hrel
    have HOw := Lib.hid hOw
    have HRS' := Lib.hid hrs'
    have HFAR := Lib.hid hfar'
    have HG := Lib.hid hg
    have hsz := hg.size
    clear hOw hrs' hfar' hg
    by_cases hlt : k < rs.length
    · obtain ⟨p, hp⟩ : ∃ p, rs[k]? = some p := ⟨_, List.getElem?_eq_getElem hlt⟩
      obtain ⟨g, o, ix, hc, hI, hgl, -⟩ := HOW.out.idx (P := Try.prog) rcU_len 134 Try.underlying134 size_un .i64 k p hp
      have c0 := HG.out.cell (hc 0 _ rfl)
      have c1 := HG.out.cell (hc 1 _ rfl)
      have hrg := HRNG.out p (List.mem_of_getElem? hp)
      obtain ⟨⟨kd, ln, d⟩, sv⟩ := p
      simp only [Nat.add_zero] at c0 c1 hI hrg
      obtain ⟨ad, md, rfl, -⟩ := id hI
      obtain ⟨nd, hnd⟩ : ∃ nd, nd = d.length := ⟨_, rfl⟩
      rw [← hnd] at c1 hI
      have HI := Lib.hid (hI.gr HG.out)
      have HP := Lib.hid hp
      have HLT := Lib.hid hlt
      have wk : IntKind.i64.wrap kd = kd := w64 (by omega) (by omega)
      have hdl : d.length ≤ 1000 := hrg.2
      have HRSL := Lib.hid (show rs'.length ≤ 1000000000 by have e := congrArg List.length HRS'.out; rw [List.length_map, List.length_map, List.length_map, List.length_take] at e; omega)
      clear hp hI hlt hnd hrg hc
      go_wp2_with fail
      have t0 : (wr.alloc (.cells #[.int .u8 kd, .slice ad nd md] 173)).cell? ⟨wr.heap.size, 0, none⟩ = some (.int .u8 kd) := cell_of_heap (cs := [.int .u8 kd, .slice ad nd md]) (heap_alloc_new wr _) 0 _ rfl
      have t1 : (wr.alloc (.cells #[.int .u8 kd, .slice ad nd md] 173)).cell? ⟨wr.heap.size, 1, none⟩ = some (.slice ad nd md) := cell_of_heap (cs := [.int .u8 kd, .slice ad nd md]) (heap_alloc_new wr _) 1 _ rfl
      have HNV := Lib.hid (show ∀ k, (Value.slice av nv cv).ownBlock = some k → k ≠ wr.heap.size from fun k hk => by have := (HOw.out.fresh k hk).2; omega)
      go_region_held3 (fun w' => w'.cell? ⟨wr.heap.size, 0, none⟩ = some (.int .u8 kd) ∧ w'.cell? ⟨wr.heap.size, 1, none⟩ = some (.slice ad nd md)) (first | exact ⟨t0, t1⟩ | exact And.imp (fun h => World.grownBy.cell hg4 h (fun e => HNV.out _ e.symm rfl)) (fun h => World.grownBy.cell hg4 h (fun e => HNV.out _ e.symm rfl)) (by assumption) | exact And.imp (Gr.cell hg9) (Gr.cell hg9) (by assumption) | exact And.imp (Gr.cell ((Gr.refl _).alloc _)) (Gr.cell ((Gr.refl _).alloc _)) (by assumption)) (first
        | (go_at_call_of 48 (Value.slice ad nd md); refine (copied_calls _ d _ ((HI.out.gr ((Gr.refl _).alloc _)).drew) (by omega)).mono ?_; rintro e x9 ⟨f9, g9, j9, rfl, ho9, hg9⟩; have z9 := hg9.size)
        | (refine step_appR rfl (.tmp 13) (.tmp 21) 22 98 rfl Try.underlying22 _ 40 info_uI rfl (by omega) w.heap.size D (.slice av nv cv) rs' (by first | rfl | simp [Act.eval]) ((HOw.out.gr (((Gr.refl wr).alloc _).drew.trans hg9)).gr ((Gr.refl _).alloc _)) x9.heap.size 1 ⟨kd, 0, d⟩ (.slice f9 g9 j9) (by first | rfl | simp [Act.eval]) (box3u rfl _ _ _ _).1 (box3u rfl _ _ _ _).2.1 (box3u rfl _ _ _ _).2.2 (ho9.isB.gr ((Gr.refl _).alloc _)) (ho9.aside (show D < (wr.alloc _).heap.size by rw [World.size_alloc]; omega)) (fun k hk => ho9.aside (show k < (wr.alloc _).heap.size by rw [World.size_alloc]; have := (HOw.out.fresh k hk).2; omega)) HRSL.out (by rw [World.size_alloc]; have z9' : (wr.alloc _).heap.size ≤ x9.heap.size := z9; rw [World.size_alloc] at z9'; omega) ?_; intro v4 w4 ho4 hg4 hat4; obtain ⟨g4, n4, c4, rfl, hg41⟩ := ho4.slice_pos (by simp); have G4 := Lib.hid (show Gr w w4 from grownBy_step (((HG.out.alloc _).drew.trans hg9).alloc _) hg4 (fun k hk => .inl (HOw.out.fresh k hk).1)); have HF4 := Lib.hid (fun k (hk : k < w.heap.size) => ho9.aside (show k < (wr.alloc _).heap.size by rw [World.size_alloc]; omega))))
      go_wp2_with fail
      go_roundw
      case rel => exact ⟨k + 1, rs' ++ [(⟨kd, 0, d⟩, _)], some ⟨g4, 0, none⟩, n4, c4, HLT.out, by go_num, rfl, G4.out, ho4, by rw [List.map_append, HRS'.out, unit_step HP.out, List.map_append, List.map_append]; rfl, fun p hp k hk => (List.mem_append.1 hp).elim (fun h => HFAR.out p h k hk) (fun h => by simp at h; subst h; exact HF4.out k hk)⟩
      case measure => simp [intOf]; omega
    · obtain rfl : k = rs.length := by omega
      go_wp2_with fail
      go_ret
      have hrs' := HRS'.out
      rw [List.take_length] at hrs'
      exact ⟨_, _, _, rs', rfl, HG.out, HOw.out, hrs', HFAR.out⟩

end Go.Proofs.Ytoopkfnkmaaieaa
