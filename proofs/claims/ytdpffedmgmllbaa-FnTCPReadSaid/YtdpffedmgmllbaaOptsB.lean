/-
  Options as bytes, as the reference lays them.
-/
import Derived.Test.YtdpffedmgmllbaaOptsSpec
import Derived.Test.YtdpffedmgmllbaaLib4
import Derived.Maps.AppendAt
import Derived.Deep.RegionHeld3
namespace Go.Proofs.Ytdpffedmgmllbaa
open Go.RowKit

/-- 'append(s, x...)' of bytes: s is the call's own; x reads as bytes; and where the new slice lies. -/
theorem run_appB {P : Program} {w : World} (t ty : TypeId) (ht : P.underlying t = some (.slice 5)) (hinf : (P.info? 5).map (fun i => (i.zero, i.size, i.bytes)) = some (some (.int .u8 0), 1, 1))
    (base : Nat) (v v2 : Value) (l m : List Int) (hown : Own w base v l) (hm : IsB w v2 m) (hlen : l.length + m.length ≤ 140737488355328) (hbase : base ≤ w.heap.size) :
    ∃ v' w', (Builtin.append_ #[t, t] ty #[v, v2]).run P w = .ok v' w' ∧ Own w' base v' (l ++ m) ∧ w.grownBy w' v.ownBlock ∧ (v'.ownBlock = v.ownBlock ∨ v'.ownBlock = some w.heap.size) := by
  obtain ⟨i, hi, hz0, hz1, hz2⟩ := info_parts hinf
  have hb2 := hm.bytes
  obtain ⟨ad, c, rfl, h1, h2, h3, h4⟩ := hm
  rcases h4 with ⟨rfl, rfl⟩ | ⟨ad, rfl, h5⟩
  · have hl0 : m = [] := List.eq_nil_of_length_eq_zero (by omega)
    subst hl0
    have hrun := run_append_owned_none (P := P) (w := w) base t ty 5 i 1 ht hi v l.length (bcells l) hown.1
    exact ⟨v, w, hrun, by simpa using hown, World.grownBy.refl w _, .inl rfl⟩
  · obtain ⟨v', w', r0, r1, r2, -, r4⟩ := run_append_own_at (P := P) (w := w) base t ty 5 i (.int .u8 0) 1 1 ht hi hz0 hz1 hz2 rfl (by decide) v l.length (bcells l) hown.1 ad m.length c (bcells m) (by simp [bcells]) (bcells_at h5) (bcells_one m) (by unfold maxLen; omega) (by omega) hbase
    refine ⟨v', w', r0, ⟨?_, hown.2.append hb2⟩, r2, r4⟩
    have e : bcells l ++ bcells m = bcells (l ++ m) := by simp [bcells]
    rw [List.length_append, ← e]
    exact r1

theorem wp_appB {P : Program} {w : World} {o : Oper} {a : Act} {K : Act → World → Prop} {Q : Exit → Act → World → Prop} (s x : Operand) (t : TypeId)
    (ho : o.op = .call { callee := .builtin .append, args := #[s, x], argTypes := #[t, t] }) (ht : P.underlying t = some (.slice 5)) (hinf : (P.info? 5).map (fun i => (i.zero, i.size, i.bytes)) = some (some (.int .u8 0), 1, 1))
    (base : Nat) (v v2 : Value) (l m : List Int) (hs : a.eval s = v) (hown : Own w base v l) (hx : a.eval x = v2) (hm : IsB w v2 m) (hlen : l.length + m.length ≤ 140737488355328) (hbase : base ≤ w.heap.size)
    (h : ∀ v' w', Own w' base v' (l ++ m) → w.grownBy w' v.ownBlock → (v'.ownBlock = v.ownBlock ∨ v'.ownBlock = some w.heap.size) → K (a.put o.dst v') w') : Oper.wp P o a w K Q := by
  obtain ⟨v', w', hr, h2, h3, h4⟩ := run_appB (P := P) t o.type ht hinf base v v2 l m hown hm hlen hbase
  unfold Oper.wp execOp
  simp only [ho, resolve, invoke, builtin, Sem.run_bind, Sem.run_pure, Result.andThen_ok, List.map_toArray, List.map_cons, List.map_nil, hs, hx, hr]
  exact h v' w' h2 h3 h4

theorem wpList_appB2 {P : Program} {w : World} {ops : Array Oper} {rest : List Oper} {o : Oper} {a : Act} {Q : Exit → Act → World → Prop} (hgd : o.guard = none) (s x : Operand) (t : TypeId)
    (ho : o.op = .call { callee := .builtin .append, args := #[s, x], argTypes := #[t, t] }) (ht : P.underlying t = some (.slice 5)) (hinf : (P.info? 5).map (fun i => (i.zero, i.size, i.bytes)) = some (some (.int .u8 0), 1, 1))
    (base : Nat) (v v2 : Value) (l m : List Int) (hs : a.eval s = v) (hown : Own w base v l) (hx : a.eval x = v2) (hm : IsB w v2 m) (hlen : l.length + m.length ≤ 140737488355328) (hbase : base ≤ w.heap.size)
    (h : ∀ v' w', Own w' base v' (l ++ m) → w.grownBy w' v.ownBlock → (v'.ownBlock = v.ownBlock ∨ v'.ownBlock = some w.heap.size) → wpList P ops Q rest (a.put o.dst v') w') : wpList P ops Q (o :: rest) a w :=
  wpList_plain hgd fun _ hK => wp_appB s x t ho ht hinf base v v2 l m hs hown hx hm hlen hbase fun v' w' h1 h2 h3 => hK _ _ (h v' w' h1 h2 h3)

theorem step_appB {P : Program} {w : World} {ops : Array Oper} {o : Oper} {a : Act} {K : Act → World → Prop} {Q : Exit → Act → World → Prop} {E : Prop} (hgd : o.guard = none) (s x : Operand) (t : TypeId)
    (ho : o.op = .call { callee := .builtin .append, args := #[s, x], argTypes := #[t, t] }) (ht : P.underlying t = some (.slice 5)) (hinf : (P.info? 5).map (fun i => (i.zero, i.size, i.bytes)) = some (some (.int .u8 0), 1, 1))
    (base : Nat) (v v2 : Value) (l m : List Int) (hs : a.eval s = v) (hown : Own w base v l) (hx : a.eval x = v2) (hm : IsB w v2 m) (hlen : l.length + m.length ≤ 140737488355328) (hbase : base ≤ w.heap.size)
    (h : ∀ v' w', Own w' base v' (l ++ m) → w.grownBy w' v.ownBlock → (v'.ownBlock = v.ownBlock ∨ v'.ownBlock = some w.heap.size) → K (a.put o.dst v') w') :
    if Region.wanted o (yielded ops a.tmps) = true then Oper.wp P o a w K Q else E := by
  have hw : Region.wanted o (yielded ops a.tmps) = true := by simp [Region.wanted, hgd]
  rw [if_pos hw]
  exact wp_appB s x t ho ht hinf base v v2 l m hs hown hx hm hlen hbase h

theorem own_far {v v' : Value} {H B : Nat} (h : v'.ownBlock = v.ownBlock ∨ v'.ownBlock = some H) (h1 : v.ownBlock ≠ some B) (h2 : H ≠ B) : v'.ownBlock ≠ some B := by
  intro e
  rcases h with h | h
  · exact h1 (h.symm.trans e)
  · exact h2 (Option.some.inj (h.symm.trans e))
theorem lit1 (w : World) (x : Int) (hx : 0 ≤ x ∧ x ≤ 255) : IsB (w.alloc (.cells #[.int .u8 x] 5)) (.slice (some ⟨w.heap.size, 0, none⟩) 1 1) [x] :=
  (own_lit w [x] (by intro q hq; simp at hq; subst hq; exact hx) (by simp [maxLen])).isB
theorem lit1_at (w : World) (x : Int) (b : Nat) (hb : b = w.heap.size) (hx : 0 ≤ x ∧ x ≤ 255) : IsB (w.alloc (.cells #[.int .u8 x] 5)) (.slice (some ⟨b, 0, none⟩) 1 1) [x] := by
  subst hb; exact lit1 w x hx

/-- an option's bytes -/
def optB (x : Opt) : List Int := if x.kind = 1 then [x.kind % 256] else [x.kind % 256, x.len % 256] ++ x.data
/-- all of them, one behind the other -/
def optsRaw (os : List Opt) : List Int := (os.map optB).flatten
/-- filled up to whole words -/
def optsB (os : List Opt) : List Int := optsRaw os ++ List.replicate ((4 - (optsRaw os).length % 4) % 4) 0
theorem raw_snoc {os : List Opt} {k : Nat} (h : k < os.length) : optsRaw (os.take (k + 1)) = optsRaw (os.take k) ++ optB (os.getD k Opt.zero) := by
  rw [opt_take h]
  simp [optsRaw]
theorem raw_append (a b : List Opt) : optsRaw (a ++ b) = optsRaw a ++ optsRaw b := by simp [optsRaw]
theorem raw_le (os : List Opt) (k : Nat) : (optsRaw (os.take k)).length ≤ (optsRaw os).length := by
  conv => rhs; rw [← List.take_append_drop k os]
  rw [raw_append, List.length_append]
  omega
theorem byte_wrap (n : Int) : IntKind.u8.wrap n = n % 256 := by simp [IntKind.wrap, IntKind.bits, IntKind.signed]

/-- what holds ahead of a round -/
def OptRel (w : World) (os : List Opt) (u i : Value) (wr : World) : Prop :=
  ∃ (k : Nat) (l : List Int) (a : Option Addr) (n c : Nat), k ≤ os.length ∧ i = .int .i64 k ∧ u = .slice a n c ∧ l = optsRaw (os.take k) ∧ Own wr w.heap.size (.slice a n c) l ∧ Gr w wr
/-- what holds ahead of a round of those that fill up -/
def PadRel (w : World) (r : List Int) (u : Value) (wr : World) : Prop :=
  ∃ (j : Nat) (a : Option Addr) (n c : Nat), u = .slice a n c ∧ n = r.length + j ∧ (4 - n % 4) % 4 + j = (4 - r.length % 4) % 4 ∧ Own wr w.heap.size (.slice a n c) (r ++ List.replicate j 0) ∧ Gr w wr

set_option linter.unusedSimpArgs false in
set_option linter.unusedVariables false in
set_option maxRecDepth 100000 in
set_option maxHeartbeats 4000000 in
theorem options_calls (v : Value) (os : List Opt) (w : World) (h : IsOpts w v os) (hl : (optsRaw os).length ≤ 100000) : Calls Try.prog 41 #[v] w (RetB w (optsB os)) := by
  have hlen := h.len
  have hm := h.max
  unfold maxLen at hm
  have H := Lib.hid h
  have HL := Lib.hid hl
  clear h hl
  go_enter Try.func41, Try.ntmps41
  go_wp2_with fail
  go_loopw [3, 9] (OptRel w os) (fun _ i _ => os.length - (intOf i).toNat)
  case atStart => exact ⟨0, [], _, _, _, Nat.zero_le _, rfl, rfl, by simp [optsRaw], own_empty w, (Gr.refl w).alloc _⟩
  case round =>
    obtain ⟨k, l, au, nu, cu, hk, rfl, rfl, hl, ho, hg⟩ := hrel
    by_cases hlt : k < os.length
    · obtain ⟨b, o, ix, hx⟩ := H.out.idx .i64 k k rfl hlt
      have hsn := raw_snoc hlt
      have hle := raw_le os (k + 1)
      obtain ⟨x, hxe⟩ : ∃ x, x = os.getD k Opt.zero := ⟨_, rfl⟩
      rw [← hxe] at hx hsn
      rw [← hl] at hsn
      clear hxe
      obtain ⟨kd, ln, d⟩ := x
      obtain ⟨-, -, c0, c1, a, n, c, c2, hI⟩ := hx
      have c0 := hg.cell c0
      have c1 := hg.cell c1
      have c2 := hg.cell c2
      simp only at c0 c1 c2 hI
      obtain rfl := hI.count
      have HI := Lib.hid hI
      have HO := Lib.hid ho
      have EL := Lib.hid (show (l ++ [kd % 256]).length = l.length + 1 by simp)
      have HN0 := Lib.hid (ho.below (Nat.le_refl _))
      have HSN := Lib.hid hsn
      have hll := HL.out
      rw [hsn, List.length_append] at hle
      have hl2 : l.length ≤ 100000 := by omega
      have HG := Lib.hid hg
      have hsz := hg.size
      have uk := byte_wrap kd
      have ul := byte_wrap ln
      clear hI ho hsn hl hll hg
      by_cases k1 : kd = 1
      · have e2 : (kd != 1) = false := by simp [k1]
        have hst : optB ⟨kd, ln, d⟩ = [kd % 256] := by simp [optB, k1]
        rw [hst] at HSN
        clear hst k1 hle
        go_wp2_with (at_builtin; refine wpList_appB2 rfl (.tmp 13) (.tmp 17) 25 rfl Try.underlying25 info_u8 w.heap.size (.slice au nu cu) (.slice (some ⟨wr.heap.size + 1, 0, none⟩) 1 1) l [kd % 256] (by simp [Act.eval]) (HO.out.gr (((Gr.refl wr).alloc _).alloc _)) (by simp [Act.eval]) (lit1_at _ _ _ (by simp) (by omega)) (by simp; omega) (by simp only [World.size_alloc]; omega) ?_; intro v4 w4 ho4 hg4 hat4; obtain ⟨a4, c4, rfl, -⟩ := id ho4.isB; rw [EL.out] at hat4 ho4; have t0 := World.grownBy.cell hg4 (a := ⟨wr.heap.size, 0, none⟩) (cell_of_heap (cs := [.int .i64 kd, .int .i64 ln, .slice a d.length c]) (heap_gr ((Gr.refl _).alloc _) (heap_alloc_new wr _)) 0 _ rfl) (fun e => HN0.out e.symm); have t1 := World.grownBy.cell hg4 (a := ⟨wr.heap.size, 1, none⟩) (cell_of_heap (cs := [.int .i64 kd, .int .i64 ln, .slice a d.length c]) (heap_gr ((Gr.refl _).alloc _) (heap_alloc_new wr _)) 1 _ rfl) (fun e => HN0.out e.symm); have t2 := World.grownBy.cell hg4 (a := ⟨wr.heap.size, 2, none⟩) (cell_of_heap (cs := [.int .i64 kd, .int .i64 ln, .slice a d.length c]) (heap_gr ((Gr.refl _).alloc _) (heap_alloc_new wr _)) 2 _ rfl) (fun e => HN0.out e.symm); have HG4 := Lib.hid (show Gr w w4 from grownBy_step ((HG.out.alloc _).alloc _) hg4 (fun k hk => .inl (HO.out.fresh k hk))); have W4 := Lib.hid hg4.size; have HN4 := Lib.hid (show (Value.slice a4 (l.length + 1) c4).ownBlock ≠ some wr.heap.size from own_far hat4 HN0.out (by rw [World.size_alloc, World.size_alloc]; omega)); have HO4 := Lib.hid (show Own w4 w.heap.size (.slice a4 (l.length + 1) c4) (l ++ [kd % 256]) from ho4); clear hat4 ho4 hg4)
        go_roundw
        case rel => exact ⟨k + 1, _, _, _, _, by omega, by go_num, rfl, HSN.out.symm, HO4.out, HG4.out⟩
        case measure => simp [intOf]; omega
      · have e2 : (kd != 1) = true := by simp [k1]
        have hst : optB ⟨kd, ln, d⟩ = [kd % 256, ln % 256] ++ d := by simp [optB, k1]
        rw [hst] at HSN hle
        simp only [List.length_append, List.length_cons, List.length_nil] at hle
        have hd3 : d.length ≤ 100000 := by have := HL.out; omega
        clear hst k1
        go_wp2_with (at_builtin; refine wpList_appB2 rfl (.tmp 13) (.tmp 17) 25 rfl Try.underlying25 info_u8 w.heap.size (.slice au nu cu) (.slice (some ⟨wr.heap.size + 1, 0, none⟩) 1 1) l [kd % 256] (by simp [Act.eval]) (HO.out.gr (((Gr.refl wr).alloc _).alloc _)) (by simp [Act.eval]) (lit1_at _ _ _ (by simp) (by omega)) (by simp; omega) (by simp only [World.size_alloc]; omega) ?_; intro v4 w4 ho4 hg4 hat4; obtain ⟨a4, c4, rfl, -⟩ := id ho4.isB; rw [EL.out] at hat4 ho4; have t0 := World.grownBy.cell hg4 (a := ⟨wr.heap.size, 0, none⟩) (cell_of_heap (cs := [.int .i64 kd, .int .i64 ln, .slice a d.length c]) (heap_gr ((Gr.refl _).alloc _) (heap_alloc_new wr _)) 0 _ rfl) (fun e => HN0.out e.symm); have t1 := World.grownBy.cell hg4 (a := ⟨wr.heap.size, 1, none⟩) (cell_of_heap (cs := [.int .i64 kd, .int .i64 ln, .slice a d.length c]) (heap_gr ((Gr.refl _).alloc _) (heap_alloc_new wr _)) 1 _ rfl) (fun e => HN0.out e.symm); have t2 := World.grownBy.cell hg4 (a := ⟨wr.heap.size, 2, none⟩) (cell_of_heap (cs := [.int .i64 kd, .int .i64 ln, .slice a d.length c]) (heap_gr ((Gr.refl _).alloc _) (heap_alloc_new wr _)) 2 _ rfl) (fun e => HN0.out e.symm); have HG4 := Lib.hid (show Gr w w4 from grownBy_step ((HG.out.alloc _).alloc _) hg4 (fun k hk => .inl (HO.out.fresh k hk))); have W4 := Lib.hid hg4.size; have HN4 := Lib.hid (show (Value.slice a4 (l.length + 1) c4).ownBlock ≠ some wr.heap.size from own_far hat4 HN0.out (by rw [World.size_alloc, World.size_alloc]; omega)); have HO4 := Lib.hid (show Own w4 w.heap.size (.slice a4 (l.length + 1) c4) (l ++ [kd % 256]) from ho4); clear hat4 ho4 hg4)
        have z4 := HG4.out.size
        have Z4 := Lib.hid (show wr.heap.size + 1 ≤ w4.heap.size from by have := W4.out; simp only [World.size_alloc] at this; omega)
        go_region_held3 (fun w' => w'.cell? ⟨wr.heap.size, 1, none⟩ = some (.int .i64 ln) ∧ w'.cell? ⟨wr.heap.size, 2, none⟩ = some (.slice a d.length c)) (first | exact ⟨t1, t2⟩ | exact And.imp (Gr.cell ((Gr.refl _).alloc _)) (Gr.cell ((Gr.refl _).alloc _)) (by assumption) | exact And.imp (fun h => World.grownBy.cell hg5 h (fun e => HN4.out e.symm)) (fun h => World.grownBy.cell hg5 h (fun e => HN4.out e.symm)) (by assumption) | exact And.imp (fun h => World.grownBy.cell hg6 h (fun e => HN5.out e.symm)) (fun h => World.grownBy.cell hg6 h (fun e => HN5.out e.symm)) (by assumption)) (first
          | (refine step_appB rfl (.tmp 22) (.tmp 26) 25 rfl Try.underlying25 info_u8 w.heap.size (.slice a4 (l.length + 1) c4) (.slice (some ⟨w4.heap.size, 0, none⟩) 1 1) (l ++ [kd % 256]) [ln % 256] (by simp [Act.eval, Act.put]) (HO4.out.gr (((Gr.refl w4).drew).alloc _)) (by simp [Act.eval, Act.put]) (lit1_at _ _ _ rfl (by omega)) (by simp; omega) (by show w.heap.size ≤ (w4.alloc _).heap.size; rw [World.size_alloc]; exact Nat.le_succ_of_le z4) ?_; intro v5 w5 ho5 hg5 hat5; obtain ⟨a5, c5, rfl, -⟩ := id ho5.isB; have HG5 := Lib.hid (show Gr w w5 from grownBy_step ((HG4.out.drew).alloc _) hg5 (fun k hk => .inl (HO4.out.fresh k hk))); have HO5 := Lib.hid ho5; have HN5 := Lib.hid (show (Value.slice a5 (l ++ [kd % 256] ++ [ln % 256]).length c5).ownBlock ≠ some wr.heap.size from own_far hat5 HN4.out (by show (w4.alloc _).heap.size ≠ wr.heap.size; rw [World.size_alloc]; exact Nat.ne_of_gt (Nat.lt_of_lt_of_le (Nat.lt_succ_self _) (Nat.le_succ_of_le Z4.out)))))
          | (refine step_appB rfl (.tmp 27) (.tmp 29) 25 rfl Try.underlying25 info_u8 w.heap.size (.slice a5 (l ++ [kd % 256] ++ [ln % 256]).length c5) (.slice a d.length c) (l ++ [kd % 256] ++ [ln % 256]) d (by simp [Act.eval, Act.put]) HO5.out (by simp [Act.eval, Act.put]) (HI.out.gr HG5.out) (by simp; omega) HG5.out.size ?_; intro v6 w6 ho6 hg6 hat6; obtain ⟨a6, c6, rfl, -⟩ := id ho6.isB))
        go_wp2_with fail
        go_roundw
        case rel => exact ⟨k + 1, _, _, _, _, by omega, by go_num, rfl, HSN.out.symm, by rw [List.append_assoc, List.append_assoc] at ho6; simpa using ho6, grownBy_step HG5.out hg6 (fun k hk => .inl (HO5.out.fresh k hk))⟩
        case measure => simp [intOf]; omega
    · have e : k = os.length := by omega
      rw [e, List.take_length] at hl
      subst hl
      have hl := HL.out
      have HO := Lib.hid ho
      have HLN := Lib.hid (ho.isB.count)
      clear ho e
      obtain ⟨r, hr⟩ : ∃ r, r = optsRaw os := ⟨_, rfl⟩
      rw [← hr] at HO HLN hl
      have HR := Lib.hid hr
      clear hr
      go_wp2_with fail
      go_loopw [3] (PadRel w r) (fun u _ => match u with | .slice _ n _ => (4 - n % 4) % 4 | _ => 0)
      case atStart => exact ⟨0, _, _, _, rfl, HLN.out, by rw [HLN.out]; rfl, by simpa using HO.out, hg⟩
      case round =>
        obtain ⟨j, a, n, c, rfl, hn, hj, ho, hg'⟩ := hrel
        have HO2 := Lib.hid ho
        have HJ := Lib.hid hj
        have n1 : n ≤ r.length + j := by omega
        have n2 : r.length + j ≤ n := by omega
        have j4 : j ≤ 3 := by omega
        have HN := Lib.hid hn
        clear ho hj hn
        by_cases h0 : n % 4 = 0
        · have e0 : (((n : Int) % 4) != 0) = false := by simp; omega
          have H0 := Lib.hid h0
          clear h0
          go_wp2_with fail
          go_ret
          have hj : j = (4 - r.length % 4) % 4 := by have := HJ.out; have := H0.out; omega
          have ho := HO2.out
          rw [hj] at ho
          unfold optsB
          rw [← HR.out]
          exact RetB.mk ho hg'
        · have e0 : (((n : Int) % 4) != 0) = true := by simp; omega
          have H0 := Lib.hid h0
          have hsz := hg'.size
          clear h0
          have EL2 := Lib.hid (show (r ++ List.replicate j 0 ++ [0]).length = r.length + j + 1 by simp; omega)
          have HG' := Lib.hid hg'
          clear hg'
          go_wp2_with (at_builtin; refine wpList_appB2 rfl (.tmp 36) (.tmp 37) 25 rfl Try.underlying25 info_u8 w.heap.size (.slice a n c) (.slice (some ⟨wr.heap.size, 0, none⟩) 1 1) (r ++ List.replicate j 0) [0] (by simp [Act.eval]) (HO2.out.gr ((Gr.refl _).alloc _)) (by simp [Act.eval]) (lit1_at _ _ _ rfl (by omega)) (by simp; omega) (by simp only [World.size_alloc]; omega) ?_; intro v4 w4 ho4 hg4 hat4; obtain ⟨a4, c4, rfl, -⟩ := id ho4.isB; rw [EL2.out] at ho4)
          go_roundw
          case rel => exact ⟨j + 1, _, _, _, rfl, by omega, by have := HJ.out; have := H0.out; have := HN.out; omega, by rw [List.replicate_succ', ← List.append_assoc]; exact ho4, grownBy_step (HG'.out.alloc _) hg4 (fun k hk => .inl (HO2.out.fresh k hk))⟩
          case measure => have := HN.out; have := H0.out; first | omega | (simp; omega) | (show (4 - (r.length + j + 1) % 4) % 4 < (4 - n % 4) % 4; omega)

end Go.Proofs.Ytdpffedmgmllbaa
