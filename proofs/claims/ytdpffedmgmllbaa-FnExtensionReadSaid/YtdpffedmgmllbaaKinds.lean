/-
  Options of a kind and bytes: how the reference has them.
-/
import Derived.Test.YtdpffedmgmllbaaOptsB
import Derived.Deep.RegionHeld3
namespace Go.Proofs.Ytdpffedmgmllbaa
open Go.RowKit

/-- an option of a kind that is allowed -/
def kindOk (m : Int) (x : Opt) : Bool := upto x.kind m && (decide ((x.data.length : Int) ≤ 255) && !((x.kind == 0) && !decide ((x.data.length : Int) ≤ 0)))
/-- all are -/
def kindsOk (m : Int) (os : List Opt) : Bool := decide ((os.length : Int) ≤ 30) && os.all (kindOk m)
/-- what holds ahead of a round -/
def KindRel (w : World) (m : Int) (os : List Opt) (i : Value) (wr : World) : Prop := ∃ k : Nat, k ≤ os.length ∧ i = .int .i64 k ∧ (os.take k).all (kindOk m) = true ∧ Gr w wr

set_option linter.unusedVariables false in
set_option maxRecDepth 100000 in
set_option maxHeartbeats 4000000 in
theorem areKinds_calls (v : Value) (m : Int) (os : List Opt) (w : World) (h : IsOpts w v os) : Calls Try.prog 49 #[v, .int .i64 m] w fun e w' => e = .returned (.bool (kindsOk m os)) ∧ Gr w w' := by
  have hlen := h.len
  have hm := h.max
  unfold maxLen at hm
  have H := Lib.hid h
  clear h
  by_cases hl : (os.length : Int) ≤ 30
  case neg =>
    have HFB := Lib.hid (show kindsOk m os = false by unfold kindsOk; rw [decide_eq_false hl]; rfl)
    go_enter Try.func49, Try.ntmps49
    go_wp2_with fail
    go_ret
    exact ⟨ret_b (a := false) HFB.out.symm, Gr.refl w⟩
  case pos =>
  have dl := decide_eq_true hl
  go_enter Try.func49, Try.ntmps49
  go_wp2_with fail
  go_loopw [12] (KindRel w m os) (fun i _ => os.length - (intOf i).toNat)
  case atStart => exact ⟨0, Nat.zero_le _, rfl, by simp, Gr.refl w⟩
  case round =>
    obtain ⟨k, hk, rfl, hb, hg⟩ := hrel
    by_cases hlt : k < os.length
    · obtain ⟨b, o, ix, hx⟩ := H.out.idx .i64 k k rfl hlt
      have htk := opt_take hlt
      obtain ⟨x, hxe⟩ : ∃ x, x = os.getD k Opt.zero := ⟨_, rfl⟩
      have hmem : x ∈ os := by rw [hxe, List.getD_eq_getElem?_getD, List.getElem?_eq_getElem hlt]; exact List.getElem_mem hlt
      rw [← hxe] at hx htk
      clear hxe
      have HBAD := Lib.hid (show kindOk m x = false → kindsOk m os = false from fun hf => by
        unfold kindsOk
        rw [Bool.and_eq_false_iff]
        exact .inr (List.all_eq_false.2 ⟨x, hmem, by rw [hf]; decide⟩))
      have HGOOD := Lib.hid (show kindOk m x = true → (os.take (k + 1)).all (kindOk m) = true from fun hf => by
        rw [htk, List.all_append, hb]
        simp only [List.all_cons, List.all_nil, hf]
        rfl)
      obtain ⟨kd, ln, d⟩ := x
      obtain ⟨-, -, c0, c1, a, n, c, c2, hI⟩ := hx
      have c0 := hg.cell c0
      have c1 := hg.cell c1
      have c2 := hg.cell c2
      simp only at c0 c1 c2 hI
      obtain rfl := hI.count
      have hl2 := fun ty => hI.len (P := Try.prog) 25 ty 5 Try.underlying25
      have HG := Lib.hid hg
      clear hI hb hg hmem htk
      obtain ⟨KO, hKO⟩ : ∃ KO, KO = kindOk m ⟨kd, ln, d⟩ := ⟨_, rfl⟩
      rw [← hKO] at HBAD HGOOD
      unfold kindOk at hKO
      simp only at hKO
      have HKO := Lib.hid hKO
      clear hKO
      cases hu : upto kd m with
      | false =>
        go_wp2_with (go_at_call 39; refine (upTo_calls _ _ _).mono ?_; rintro e w9 ⟨rfl, rfl⟩; rw [hu])
        go_ret
        exact ⟨ret_b (a := false) (HBAD.out (by rw [HKO.out, hu]; rfl)).symm, HG.out.alloc _⟩
      | true =>
        by_cases hd : (d.length : Int) ≤ 255
        case neg =>
          have dd := decide_eq_false hd
          go_wp2_with (go_at_call 39; refine (upTo_calls _ _ _).mono ?_; rintro e w9 ⟨rfl, rfl⟩; rw [hu])
          go_ret
          exact ⟨ret_b (a := false) (HBAD.out (by rw [HKO.out, hu, dd]; rfl)).symm, HG.out.alloc _⟩
        case pos =>
          have dd := decide_eq_true hd
          cases hk0 : (kd == 0) with
          | false =>
            go_wp2_with (go_at_call 39; refine (upTo_calls _ _ _).mono ?_; rintro e w9 ⟨rfl, rfl⟩; rw [hu])
            go_roundw
            case rel => exact ⟨k + 1, by omega, by go_num, HGOOD.out (by rw [HKO.out, hu, dd, hk0]; rfl), HG.out.alloc _⟩
            case measure => simp [intOf]; omega
          | true =>
            by_cases hd0 : (d.length : Int) ≤ 0
            case neg =>
              have dz := decide_eq_false hd0
              go_wp2_with (go_at_call 39; refine (upTo_calls _ _ _).mono ?_; rintro e w9 ⟨rfl, rfl⟩; rw [hu])
              go_ret
              exact ⟨ret_b (a := false) (HBAD.out (by rw [HKO.out, hu, dd, hk0, dz]; rfl)).symm, HG.out.alloc _⟩
            case pos =>
              have dz := decide_eq_true hd0
              go_wp2_with (go_at_call 39; refine (upTo_calls _ _ _).mono ?_; rintro e w9 ⟨rfl, rfl⟩; rw [hu])
              go_roundw
              case rel => exact ⟨k + 1, by omega, by go_num, HGOOD.out (by rw [HKO.out, hu, dd, hk0, dz]; rfl), HG.out.alloc _⟩
              case measure => simp [intOf]; omega
    · have e : k = os.length := by omega
      rw [e, List.take_length] at hb
      have HB := Lib.hid (show kindsOk m os = true by unfold kindsOk; rw [dl, hb]; rfl)
      clear hlt hb
      go_wp2_with fail
      go_ret
      exact ⟨ret_b (a := true) HB.out.symm, hg⟩

/-- an option's bytes -/
def typB (x : Opt) : List Int := if x.kind = 0 then [x.kind % 256] else [x.kind % 256, (x.data.length : Int) % 256] ++ x.data
/-- all of them, one behind the other -/
def typedB (os : List Opt) : List Int := (os.map typB).flatten
theorem typed_snoc {os : List Opt} {k : Nat} (h : k < os.length) : typedB (os.take (k + 1)) = typedB (os.take k) ++ typB (os.getD k Opt.zero) := by
  rw [opt_take h]
  simp [typedB]
theorem typed_append (a b : List Opt) : typedB (a ++ b) = typedB a ++ typedB b := by simp [typedB]
theorem typed_le (os : List Opt) (k : Nat) : (typedB (os.take k)).length ≤ (typedB os).length := by
  conv => rhs; rw [← List.take_append_drop k os]
  rw [typed_append, List.length_append]
  omega
/-- what holds ahead of a round -/
def TypRel (w : World) (os : List Opt) (u i : Value) (wr : World) : Prop :=
  ∃ (k : Nat) (l : List Int) (a : Option Addr) (n c : Nat), k ≤ os.length ∧ i = .int .i64 k ∧ u = .slice a n c ∧ l = typedB (os.take k) ∧ Own wr w.heap.size (.slice a n c) l ∧ Gr w wr

set_option linter.unusedSimpArgs false in
set_option linter.unusedVariables false in
set_option maxRecDepth 100000 in
set_option maxHeartbeats 4000000 in
theorem typed_calls (v : Value) (os : List Opt) (w : World) (h : IsOpts w v os) (hl : (typedB os).length ≤ 100000) : Calls Try.prog 55 #[v] w (RetB w (typedB os)) := by
  have hlen := h.len
  have hm := h.max
  unfold maxLen at hm
  have H := Lib.hid h
  have HL := Lib.hid hl
  clear h hl
  go_enter Try.func55, Try.ntmps55
  go_wp2_with fail
  go_loopw [3, 9] (TypRel w os) (fun _ i _ => os.length - (intOf i).toNat)
  case atStart => exact ⟨0, [], _, _, _, Nat.zero_le _, rfl, rfl, by simp [typedB], own_empty w, (Gr.refl w).alloc _⟩
  case round =>
    obtain ⟨k, l, au, nu, cu, hk, rfl, rfl, hl, ho, hg⟩ := hrel
    by_cases hlt : k < os.length
    · obtain ⟨b, o, ix, hx⟩ := H.out.idx .i64 k k rfl hlt
      have hsn := typed_snoc hlt
      have hle := typed_le os (k + 1)
      obtain ⟨x, hxe⟩ : ∃ x, x = os.getD k Opt.zero := ⟨_, rfl⟩
      rw [← hxe] at hx hsn
      rw [← hl] at hsn
      clear hxe
      obtain ⟨kd, ln, d⟩ := x
      obtain ⟨-, -, c0, c1, a, n, c, c2, hI⟩ := hx
      have c0 := hg.cell c0
      have c1 := hg.cell c1
      have c2 := hg.cell c2
      simp only at c0 c1 c2 hI
      obtain rfl := hI.count
      have HI := Lib.hid hI
      have HO := Lib.hid ho
      have EL := Lib.hid (show (l ++ [kd % 256]).length = l.length + 1 by simp)
      have HN0 := Lib.hid (ho.below (Nat.le_refl _))
      have HSN := Lib.hid hsn
      have hll := HL.out
      rw [hsn, List.length_append] at hle
      have hl2 : l.length ≤ 100000 := by omega
      have HG := Lib.hid hg
      have hsz := hg.size
      have uk := byte_wrap kd
      have ul := byte_wrap (d.length : Int)
      have hl2' := fun ty => HI.out.len (P := Try.prog) 25 ty 5 Try.underlying25
      clear hI ho hsn hl hll hg
      by_cases k1 : kd = 0
      · have e2 : (kd != 0) = false := by simp [k1]
        have hst : typB ⟨kd, ln, d⟩ = [kd % 256] := by simp [typB, k1]
        rw [hst] at HSN
        clear hst k1 hle
        go_wp2_with (at_builtin; refine wpList_appB2 rfl (.tmp 13) (.tmp 17) 25 rfl Try.underlying25 info_u8 w.heap.size (.slice au nu cu) (.slice (some ⟨wr.heap.size + 1, 0, none⟩) 1 1) l [kd % 256] (by simp [Act.eval]) (HO.out.gr (((Gr.refl wr).alloc _).alloc _)) (by simp [Act.eval]) (lit1_at _ _ _ (by simp) (by omega)) (by simp; omega) (by simp only [World.size_alloc]; omega) ?_; intro v4 w4 ho4 hg4 hat4; obtain ⟨a4, c4, rfl, -⟩ := id ho4.isB; rw [EL.out] at hat4 ho4; have t0 := World.grownBy.cell hg4 (a := ⟨wr.heap.size, 0, none⟩) (cell_of_heap (cs := [.int .i64 kd, .int .i64 ln, .slice a d.length c]) (heap_gr ((Gr.refl _).alloc _) (heap_alloc_new wr _)) 0 _ rfl) (fun e => HN0.out e.symm); have t1 := World.grownBy.cell hg4 (a := ⟨wr.heap.size, 1, none⟩) (cell_of_heap (cs := [.int .i64 kd, .int .i64 ln, .slice a d.length c]) (heap_gr ((Gr.refl _).alloc _) (heap_alloc_new wr _)) 1 _ rfl) (fun e => HN0.out e.symm); have t2 := World.grownBy.cell hg4 (a := ⟨wr.heap.size, 2, none⟩) (cell_of_heap (cs := [.int .i64 kd, .int .i64 ln, .slice a d.length c]) (heap_gr ((Gr.refl _).alloc _) (heap_alloc_new wr _)) 2 _ rfl) (fun e => HN0.out e.symm); have HG4 := Lib.hid (show Gr w w4 from grownBy_step ((HG.out.alloc _).alloc _) hg4 (fun k hk => .inl (HO.out.fresh k hk))); have W4 := Lib.hid hg4.size; have HN4 := Lib.hid (show (Value.slice a4 (l.length + 1) c4).ownBlock ≠ some wr.heap.size from own_far hat4 HN0.out (by rw [World.size_alloc, World.size_alloc]; omega)); have HO4 := Lib.hid (show Own w4 w.heap.size (.slice a4 (l.length + 1) c4) (l ++ [kd % 256]) from ho4); clear hat4 ho4 hg4)
        go_roundw
        case rel => exact ⟨k + 1, _, _, _, _, by omega, by go_num, rfl, HSN.out.symm, HO4.out, HG4.out⟩
        case measure => simp [intOf]; omega
      · have e2 : (kd != 0) = true := by simp [k1]
        have hst : typB ⟨kd, ln, d⟩ = [kd % 256, (d.length : Int) % 256] ++ d := by simp [typB, k1]
        rw [hst] at HSN hle
        simp only [List.length_append, List.length_cons, List.length_nil] at hle
        have hd3 : d.length ≤ 100000 := by have := HL.out; omega
        clear hst k1
        go_wp2_with (at_builtin; refine wpList_appB2 rfl (.tmp 13) (.tmp 17) 25 rfl Try.underlying25 info_u8 w.heap.size (.slice au nu cu) (.slice (some ⟨wr.heap.size + 1, 0, none⟩) 1 1) l [kd % 256] (by simp [Act.eval]) (HO.out.gr (((Gr.refl wr).alloc _).alloc _)) (by simp [Act.eval]) (lit1_at _ _ _ (by simp) (by omega)) (by simp; omega) (by simp only [World.size_alloc]; omega) ?_; intro v4 w4 ho4 hg4 hat4; obtain ⟨a4, c4, rfl, -⟩ := id ho4.isB; rw [EL.out] at hat4 ho4; have t0 := World.grownBy.cell hg4 (a := ⟨wr.heap.size, 0, none⟩) (cell_of_heap (cs := [.int .i64 kd, .int .i64 ln, .slice a d.length c]) (heap_gr ((Gr.refl _).alloc _) (heap_alloc_new wr _)) 0 _ rfl) (fun e => HN0.out e.symm); have t1 := World.grownBy.cell hg4 (a := ⟨wr.heap.size, 1, none⟩) (cell_of_heap (cs := [.int .i64 kd, .int .i64 ln, .slice a d.length c]) (heap_gr ((Gr.refl _).alloc _) (heap_alloc_new wr _)) 1 _ rfl) (fun e => HN0.out e.symm); have t2 := World.grownBy.cell hg4 (a := ⟨wr.heap.size, 2, none⟩) (cell_of_heap (cs := [.int .i64 kd, .int .i64 ln, .slice a d.length c]) (heap_gr ((Gr.refl _).alloc _) (heap_alloc_new wr _)) 2 _ rfl) (fun e => HN0.out e.symm); have HG4 := Lib.hid (show Gr w w4 from grownBy_step ((HG.out.alloc _).alloc _) hg4 (fun k hk => .inl (HO.out.fresh k hk))); have W4 := Lib.hid hg4.size; have HN4 := Lib.hid (show (Value.slice a4 (l.length + 1) c4).ownBlock ≠ some wr.heap.size from own_far hat4 HN0.out (by rw [World.size_alloc, World.size_alloc]; omega)); have HO4 := Lib.hid (show Own w4 w.heap.size (.slice a4 (l.length + 1) c4) (l ++ [kd % 256]) from ho4); clear hat4 ho4 hg4)
        have z4 := HG4.out.size
        have Z4 := Lib.hid (show wr.heap.size + 1 ≤ w4.heap.size from by have := W4.out; simp only [World.size_alloc] at this; omega)
        go_region_held3 (fun w' => w'.cell? ⟨wr.heap.size, 2, none⟩ = some (.slice a d.length c) ∧ w'.cell? ⟨wr.heap.size, 1, none⟩ = some (.int .i64 ln)) (first | exact ⟨t2, t1⟩ | exact And.imp (Gr.cell ((Gr.refl _).alloc _)) (Gr.cell ((Gr.refl _).alloc _)) (by assumption) | exact And.imp (fun h => World.grownBy.cell hg5 h (fun e => HN4.out e.symm)) (fun h => World.grownBy.cell hg5 h (fun e => HN4.out e.symm)) (by assumption) | exact And.imp (fun h => World.grownBy.cell hg6 h (fun e => HN5.out e.symm)) (fun h => World.grownBy.cell hg6 h (fun e => HN5.out e.symm)) (by assumption)) (first
          | (refine step_appB rfl (.tmp 22) (.tmp 27) 25 rfl Try.underlying25 info_u8 w.heap.size (.slice a4 (l.length + 1) c4) (.slice (some ⟨w4.heap.size, 0, none⟩) 1 1) (l ++ [kd % 256]) [(d.length : Int) % 256] (by simp [Act.eval, Act.put]) (HO4.out.gr (((Gr.refl w4).drew).alloc _)) (by simp [Act.eval, Act.put]) (lit1_at _ _ _ rfl (by omega)) (by simp; omega) (by show w.heap.size ≤ (w4.alloc _).heap.size; rw [World.size_alloc]; exact Nat.le_succ_of_le z4) ?_; intro v5 w5 ho5 hg5 hat5; obtain ⟨a5, c5, rfl, -⟩ := id ho5.isB; have HG5 := Lib.hid (show Gr w w5 from grownBy_step ((HG4.out.drew).alloc _) hg5 (fun k hk => .inl (HO4.out.fresh k hk))); have HO5 := Lib.hid ho5; have HN5 := Lib.hid (show (Value.slice a5 (l ++ [kd % 256] ++ [(d.length : Int) % 256]).length c5).ownBlock ≠ some wr.heap.size from own_far hat5 HN4.out (by show (w4.alloc _).heap.size ≠ wr.heap.size; rw [World.size_alloc]; exact Nat.ne_of_gt (Nat.lt_of_lt_of_le (Nat.lt_succ_self _) (Nat.le_succ_of_le Z4.out)))))
          | (refine step_appB rfl (.tmp 28) (.tmp 30) 25 rfl Try.underlying25 info_u8 w.heap.size (.slice a5 (l ++ [kd % 256] ++ [(d.length : Int) % 256]).length c5) (.slice a d.length c) (l ++ [kd % 256] ++ [(d.length : Int) % 256]) d (by simp [Act.eval, Act.put]) HO5.out (by simp [Act.eval, Act.put]) (HI.out.gr HG5.out) (by simp; omega) HG5.out.size ?_; intro v6 w6 ho6 hg6 hat6; obtain ⟨a6, c6, rfl, -⟩ := id ho6.isB))
        go_wp2_with fail
        go_roundw
        case rel => exact ⟨k + 1, _, _, _, _, by omega, by go_num, rfl, HSN.out.symm, by rw [List.append_assoc, List.append_assoc] at ho6; simpa using ho6, grownBy_step HG5.out hg6 (fun k hk => .inl (HO5.out.fresh k hk))⟩
        case measure => simp [intOf]; omega
    · have e : k = os.length := by omega
      rw [e, List.take_length] at hl
      subst hl
      go_wp2_with fail
      go_ret
      exact RetB.mk ho hg

/-- filled up with noughts -/
def padB (l : List Int) (n : Nat) : List Int := l ++ List.replicate (n - l.length) 0
/-- what holds ahead of a round of those that fill up -/
def FillRel (w : World) (r : List Int) (z : Nat) (u : Value) (wr : World) : Prop :=
  ∃ (j : Nat) (a : Option Addr) (n c : Nat), u = .slice a n c ∧ n = r.length + j ∧ j ≤ z - r.length ∧ Own wr w.heap.size (.slice a n c) (r ++ List.replicate j 0) ∧ Gr w wr

set_option linter.unusedSimpArgs false in
set_option maxRecDepth 100000 in
set_option maxHeartbeats 4000000 in
theorem padded_calls (v : Value) (r : List Int) (z : Nat) (w : World) (h : IsB w v r) (hz : z ≤ 100000) (hr : r.length ≤ 100000) : Calls Try.prog 54 #[v, .int .i64 z] w (RetB w (padB r z)) := by
  have H := Lib.hid h
  clear h
  go_enter Try.func54, Try.ntmps54
  go_wp2_with (at_builtin; refine wpList_appB2 rfl (.tmp 6) (.tmp 7) 25 rfl Try.underlying25 info_u8 w.heap.size (.slice (some ⟨w.heap.size, 0, none⟩) 0 0) v [] r (by simp [Act.eval]) (own_empty w) (by simp [Act.eval]) (H.out.gr ((Gr.refl w).alloc _)) (by simp; omega) (by simp only [World.size_alloc]; omega) ?_; intro v4 w4 ho4 hg4 hat4; obtain ⟨a4, c4, rfl, -⟩ := id ho4.isB; have HO4 := Lib.hid ho4; have HG4 := Lib.hid (show Gr w w4 from grownBy_step ((Gr.refl w).alloc _) hg4 (fun k hk => .inl ((own_empty w).fresh k hk))); clear ho4 hg4 hat4)

  go_loopw [5] (FillRel w r z) (fun u _ => match u with | .slice _ n _ => z - n | _ => 0)
  case atStart => exact ⟨0, _, _, _, rfl, by simp, Nat.zero_le _, by simpa using HO4.out, HG4.out⟩
  case round =>
    obtain ⟨j, a, n, c, rfl, hn, hj, ho, hg'⟩ := hrel
    have HO2 := Lib.hid ho
    have HN := Lib.hid hn
    have HJ := Lib.hid hj
    have n1 : n ≤ r.length + j := by omega
    have n2 : r.length + j ≤ n := by omega
    have n3 : j ≤ z := by omega
    clear ho hj hn
    by_cases h0 : n < z
    · have e0 : decide ((n : Int) < (z : Int)) = true := decide_eq_true (by omega)
      have H0 := Lib.hid h0
      have hsz := hg'.size
      have EL2 := Lib.hid (show (r ++ List.replicate j 0 ++ [0]).length = r.length + j + 1 by simp; omega)
      have HG' := Lib.hid hg'
      clear hg' h0
      go_wp2_with (at_builtin; refine wpList_appB2 rfl (.tmp 13) (.tmp 14) 25 rfl Try.underlying25 info_u8 w.heap.size (.slice a n c) (.slice (some ⟨wr.heap.size, 0, none⟩) 1 1) (r ++ List.replicate j 0) [0] (by simp [Act.eval]) (HO2.out.gr ((Gr.refl _).alloc _)) (by simp [Act.eval]) (lit1_at _ _ _ rfl (by omega)) (by simp; omega) (by simp only [World.size_alloc]; omega) ?_; intro v4 w4 ho4 hg4 hat4; obtain ⟨a4, c4, rfl, -⟩ := id ho4.isB; rw [EL2.out] at ho4)
      go_roundw
      case rel => exact ⟨j + 1, _, _, _, rfl, by omega, by have := HJ.out; have := H0.out; have := HN.out; omega, by rw [List.replicate_succ', ← List.append_assoc]; exact ho4, grownBy_step (HG'.out.alloc _) hg4 (fun k hk => .inl (HO2.out.fresh k hk))⟩
      case measure => have := HN.out; have := H0.out; first | omega | (simp; omega) | (show z - (r.length + j + 1) < z - n; omega)
    · have e0 : decide ((n : Int) < (z : Int)) = false := decide_eq_false (by omega)
      have H0 := Lib.hid h0
      clear h0
      go_wp2_with fail
      go_ret
      have hj : j = z - r.length := by have := HJ.out; have := H0.out; have := HN.out; omega
      have ho := HO2.out
      rw [hj] at ho
      unfold padB
      exact RetB.mk ho hg'

/-- what holds ahead of a round -/
def AlikeRel (w : World) (os : List Opt) (i : Value) (wr : World) : Prop := ∃ k : Nat, k ≤ os.length ∧ i = .int .i64 k ∧ Gr w wr
/-- the same kinds and data -/
def Alike (gs os : List Opt) : Prop := gs.length = os.length ∧ ∀ k, k < os.length → (gs.getD k Opt.zero).kind = (os.getD k Opt.zero).kind ∧ (gs.getD k Opt.zero).data = (os.getD k Opt.zero).data

set_option linter.unusedSimpArgs false in
set_option maxRecDepth 100000 in
set_option maxHeartbeats 4000000 in
theorem sameKinds_calls (u v : Value) (gs os : List Opt) (w : World) (hg0 : IsOpts w u gs) (hd0 : IsOpts w v os) (hal : Alike gs os) :
    Calls Try.prog 27 #[u, v] w fun e w' => e = .returned (.bool true) ∧ Gr w w' := by
  have hlg := hg0.len
  have hld := hd0.len
  have hm := hg0.max
  unfold maxLen at hm
  obtain ⟨hle, hal2⟩ := hal
  have HAL := Lib.hid hal2
  have HG := Lib.hid hg0
  have HD := Lib.hid hd0
  rw [hle] at hlg hm
  clear hg0 hd0 hal2
  go_enter Try.func27, Try.ntmps27
  go_wp2_with fail
  go_loopw [14, 5] (fun i _ wr => AlikeRel w os i wr) (fun i _ _ => os.length - (intOf i).toNat)
  case atStart => exact ⟨0, Nat.zero_le _, rfl, Gr.refl w⟩
  case round =>
    obtain ⟨k, hk, rfl, hg⟩ := hrel
    by_cases hlt : k < os.length
    · obtain ⟨b, o, ix, hx⟩ := HG.out.idx .i64 k k rfl (by omega)
      obtain ⟨b', o', ix', hx'⟩ := HD.out.idx .i64 k k rfl hlt
      obtain ⟨h1, h2⟩ := HAL.out k hlt
      obtain ⟨x, hxe⟩ : ∃ x, x = gs.getD k Opt.zero := ⟨_, rfl⟩
      obtain ⟨x', hxe'⟩ : ∃ x, x = os.getD k Opt.zero := ⟨_, rfl⟩
      rw [← hxe] at hx h1 h2
      rw [← hxe'] at hx' h1 h2
      clear hxe hxe'
      obtain ⟨kd, ln, d⟩ := x
      obtain ⟨kd', ln', d'⟩ := x'
      simp only at h1 h2
      subst h1
      subst h2
      obtain ⟨-, -, c0, c1, a, n, c, c2, hI⟩ := hx
      obtain ⟨-, -, c0', c1', a', n', c', c2', hI'⟩ := hx'
      have c0 := hg.cell c0
      have c1 := hg.cell c1
      have c2 := hg.cell c2
      have y0 := Gr.cell ((Gr.refl _).alloc (.cells #[.int .i64 kd, .int .i64 ln, .slice a n c] 96)) (hg.cell c0')
      have y2 := Gr.cell ((Gr.refl _).alloc (.cells #[.int .i64 kd, .int .i64 ln, .slice a n c] 96)) (hg.cell c2')
      simp only at c0 c1 c2 hI hI' y0 y2
      have HI := Lib.hid (hI.gr hg)
      have HI' := Lib.hid (hI'.gr hg)
      clear hI hI' c0' c1' c2'
      go_wp2_with fail
      obtain ⟨Y, hY⟩ : ∃ Y, Y = wr.alloc (.cells #[.int .i64 kd, .int .i64 ln, .slice a n c] 96) := ⟨_, rfl⟩
      have gY : Gr wr Y := by rw [hY]; exact (Gr.refl _).alloc _
      have x0 : Y.cell? ⟨wr.heap.size, 0, none⟩ = some (.int .i64 kd) := by rw [hY]; exact cell_of_heap (cs := [_, _, _]) (heap_alloc_new wr _) 0 _ rfl
      have x2 : Y.cell? ⟨wr.heap.size, 2, none⟩ = some (.slice a n c) := by rw [hY]; exact cell_of_heap (cs := [_, _, _]) (heap_alloc_new wr _) 2 _ rfl
      try rw [← hY] at y0 y2
      rw [← hY]
      have GY := Lib.hid (hg.trans gY)
      have HJ := Lib.hid (HI.out.gr gY)
      have HJ' := Lib.hid (HI'.out.gr gY)
      clear hY gY c0 c1 c2
      go_region_held3 (fun w' => w'.cell? ⟨wr.heap.size, 0, none⟩ = some (.int .i64 kd) ∧ w'.cell? ⟨wr.heap.size, 2, none⟩ = some (.slice a n c) ∧ w'.cell? ⟨b', o', none⟩ = some (.int .i64 kd) ∧ w'.cell? ⟨b', o' + 2, none⟩ = some (.slice a' n' c'))
        (first | exact ⟨x0, x2, y0, y2⟩ | go_keep) (first
        | (go_at_call 18; refine (same_calls _ _ d d _ ?_ ?_).mono ?_; (exact HJ.out.drew); (exact HJ'.out.drew); rintro e w9 ⟨rfl, rfl⟩))
      go_wp2_with fail
      go_roundw
      case rel => exact ⟨k + 1, by omega, by go_num, GY.out.drew⟩
      case measure => simp [intOf]; omega
    · have e : k = os.length := by omega
      subst e
      go_wp2_with fail
      go_ret
      exact ⟨by rfl, hg⟩

end Go.Proofs.Ytdpffedmgmllbaa
