/-
  Options in units of eight bytes: how the reference has them.
-/
import Derived.Test.YtoopkfnkmaaieaaKinds
import Derived.Test.YtoopkfnkmaaieaaLib2
import Derived.Deep.RegionHeld3
namespace Go.Proofs.Ytoopkfnkmaaieaa
open Go.RowKit

theorem wrap64_md {n : Int} (h0 : 0 ≤ n) (h1 : n ≤ 4000000000) : wrap64 n = n := by unfold wrap64; omega
theorem tdiv8 (n : Nat) : ((n : Int) + 2).tdiv 8 = ((n : Int) + 2) / 8 := Int.tdiv_eq_ediv_of_nonneg (by omega)
theorem tmod8 (n : Nat) : ((n : Int) + 2).tmod 8 = ((n : Int) + 2) % 8 := Int.tmod_eq_emod_of_nonneg (by omega)
/-- an option that fills its units -/
def unitOk (x : Opt) : Bool := upto x.kind 255 && ((((x.data.length : Int) + 2) % 8 == 0) && decide ((x.data.length : Int) ≤ 500))
/-- all do -/
def unitsOk (os : List Opt) : Bool := os.all unitOk && decide ((os.length : Int) ≤ 20)
/-- what holds ahead of a round -/
def UnitRel (w : World) (os : List Opt) (i : Value) (wr : World) : Prop := ∃ k : Nat, k ≤ os.length ∧ i = .int .i64 k ∧ (os.take k).all unitOk = true ∧ Gr w wr

set_option linter.unusedVariables false in
set_option maxRecDepth 100000 in
set_option maxHeartbeats 4000000 in
theorem areUnits_calls (v : Value) (os : List Opt) (w : World) (h : IsOpts w v os) (hf : ∀ x ∈ os, x.data.length ≤ 2147483647) : Calls Try.prog 63 #[v] w fun e w' => e = .returned (.bool (unitsOk os)) ∧ Gr w w' := by
  have hlen := h.len
  have hm := h.max
  unfold maxLen at hm
  have H := Lib.hid h
  have HF := Lib.hid hf
  clear h hf
  go_enter Try.func63, Try.ntmps63
  go_wp2_with fail
  go_loopw [7] (UnitRel w os) (fun i _ => os.length - (intOf i).toNat)
  case atStart => exact ⟨0, Nat.zero_le _, rfl, by simp, Gr.refl w⟩
  case round =>
    obtain ⟨k, hk, rfl, hb, hg⟩ := hrel
    by_cases hlt : k < os.length
    · obtain ⟨b, o, ix, hx⟩ := H.out.idx .i64 k k rfl hlt
      have htk := opt_take hlt
      obtain ⟨x, hxe⟩ : ∃ x, x = os.getD k Opt.zero := ⟨_, rfl⟩
      have hmem : x ∈ os := by rw [hxe, List.getD_eq_getElem?_getD, List.getElem?_eq_getElem hlt]; exact List.getElem_mem hlt
      rw [← hxe] at hx htk
      clear hxe
      have hfx := HF.out x hmem
      have HBAD := Lib.hid (show unitOk x = false → unitsOk os = false from fun hf => by
        unfold unitsOk
        rw [Bool.and_eq_false_iff]
        exact .inl (List.all_eq_false.2 ⟨x, hmem, by rw [hf]; decide⟩))
      have HGOOD := Lib.hid (show unitOk x = true → (os.take (k + 1)).all unitOk = true from fun hf => by
        rw [htk, List.all_append, hb]
        simp only [List.all_cons, List.all_nil, hf]
        rfl)
      obtain ⟨kd, ln, d⟩ := x
      obtain ⟨-, -, c0, c1, a, n, c, c2, hI⟩ := hx
      have c0 := hg.cell c0
      have c1 := hg.cell c1
      have c2 := hg.cell c2
      simp only at c0 c1 c2 hI hfx
      obtain rfl := hI.count
      have hl2 := fun ty => hI.len (P := Try.prog) 25 ty 5 Try.underlying25
      have b1 : (0 : Int) ≤ (d.length : Int) + 2 ∧ (d.length : Int) + 2 ≤ 4000000000 := by omega
      have ww : wrap64 ((d.length : Int) + 2) = (d.length : Int) + 2 := wrap64_md b1.1 b1.2
      clear b1
      have tm := tmod8 d.length
      have HG := Lib.hid hg
      clear hI hb hg hmem htk hfx
      obtain ⟨KO, hKO⟩ : ∃ KO, KO = unitOk ⟨kd, ln, d⟩ := ⟨_, rfl⟩
      rw [← hKO] at HBAD HGOOD
      unfold unitOk at hKO
      simp only at hKO
      have HKO := Lib.hid hKO
      clear hKO
      cases hu : upto kd 255 with
      | false =>
        go_wp2_with (go_at_call 42; refine (upTo_calls _ _ _).mono ?_; rintro e w9 ⟨rfl, rfl⟩; rw [hu])
        go_ret
        exact ⟨ret_b (a := false) (HBAD.out (by rw [HKO.out, hu]; rfl)).symm, HG.out.alloc _⟩
      | true =>
        by_cases hz : ((d.length : Int) + 2) % 8 = 0
        case neg =>
          have dz : (((d.length : Int) + 2) % 8 == 0) = false := beq_eq_false_iff_ne.2 hz
          have dn : (((d.length : Int) + 2) % 8 != 0) = true := by rw [bne, dz]; rfl
          clear hz
          go_wp2_with (go_at_call 42; refine (upTo_calls _ _ _).mono ?_; rintro e w9 ⟨rfl, rfl⟩; rw [hu])
          go_ret
          exact ⟨ret_b (a := false) (HBAD.out (by rw [HKO.out, hu, dz]; rfl)).symm, HG.out.alloc _⟩
        case pos =>
          have dz : (((d.length : Int) + 2) % 8 == 0) = true := beq_iff_eq.2 hz
          have dn : (((d.length : Int) + 2) % 8 != 0) = false := by rw [bne, dz]; rfl
          clear hz
          by_cases hd : (d.length : Int) ≤ 500
          case neg =>
            have dd := decide_eq_false hd
            go_wp2_with (go_at_call 42; refine (upTo_calls _ _ _).mono ?_; rintro e w9 ⟨rfl, rfl⟩; rw [hu])
            go_ret
            exact ⟨ret_b (a := false) (HBAD.out (by rw [HKO.out, hu, dz, dd]; rfl)).symm, HG.out.alloc _⟩
          case pos =>
            have dd := decide_eq_true hd
            go_wp2_with (go_at_call 42; refine (upTo_calls _ _ _).mono ?_; rintro e w9 ⟨rfl, rfl⟩; rw [hu])
            go_roundw
            case rel => exact ⟨k + 1, by omega, by go_num, HGOOD.out (by rw [HKO.out, hu, dz, dd]; rfl), HG.out.alloc _⟩
            case measure => simp [intOf]; omega
    · have e : k = os.length := by omega
      rw [e, List.take_length] at hb
      clear hlt
      by_cases hl : (os.length : Int) ≤ 20
      · have dl := decide_eq_true hl
        have HB := Lib.hid (show unitsOk os = true by unfold unitsOk; rw [dl, hb]; rfl)
        clear hb
        go_wp2_with fail
        go_ret
        exact ⟨ret_b (a := true) HB.out.symm, hg⟩
      · have dl := decide_eq_false hl
        have HB := Lib.hid (show unitsOk os = false by unfold unitsOk; rw [dl, hb]; rfl)
        clear hb
        go_wp2_with fail
        go_ret
        exact ⟨ret_b (a := false) HB.out.symm, hg⟩

/-- an option's bytes -/
def unitB (x : Opt) : List Int := [x.kind % 256, ((x.data.length : Int) + 2) / 8 % 256] ++ x.data
/-- all of them, one behind the other -/
def unitsB (os : List Opt) : List Int := (os.map unitB).flatten
theorem units_snoc {os : List Opt} {k : Nat} (h : k < os.length) : unitsB (os.take (k + 1)) = unitsB (os.take k) ++ unitB (os.getD k Opt.zero) := by
  rw [opt_take h]
  simp [unitsB]
theorem units_append (a b : List Opt) : unitsB (a ++ b) = unitsB a ++ unitsB b := by simp [unitsB]
theorem units_le (os : List Opt) (k : Nat) : (unitsB (os.take k)).length ≤ (unitsB os).length := by
  conv => rhs; rw [← List.take_append_drop k os]
  rw [units_append, List.length_append]
  omega
/-- what holds ahead of a round -/
def UnRel (w : World) (os : List Opt) (u i : Value) (wr : World) : Prop :=
  ∃ (k : Nat) (l : List Int) (a : Option Addr) (n c : Nat), k ≤ os.length ∧ i = .int .i64 k ∧ u = .slice a n c ∧ l = unitsB (os.take k) ∧ Own wr w.heap.size (.slice a n c) l ∧ Gr w wr

set_option linter.unusedSimpArgs false in
set_option linter.unusedVariables false in
set_option maxRecDepth 100000 in
set_option maxHeartbeats 4000000 in
theorem units_calls (v : Value) (os : List Opt) (w : World) (h : IsOpts w v os) (hl : (unitsB os).length ≤ 100000) : Calls Try.prog 70 #[v] w (RetB w (unitsB os)) := by
  have hlen := h.len
  have hm := h.max
  unfold maxLen at hm
  have H := Lib.hid h
  have HL := Lib.hid hl
  clear h hl
  go_enter Try.func70, Try.ntmps70
  go_wp2_with fail
  go_loopw [3, 9] (UnRel w os) (fun _ i _ => os.length - (intOf i).toNat)
  case atStart => exact ⟨0, [], _, _, _, Nat.zero_le _, rfl, rfl, by simp [unitsB], own_empty w, (Gr.refl w).alloc _⟩
  case round =>
    obtain ⟨k, l, au, nu, cu, hk, rfl, rfl, hl, ho, hg⟩ := hrel
    by_cases hlt : k < os.length
    · obtain ⟨b, o, ix, hx⟩ := H.out.idx .i64 k k rfl hlt
      have hsn := units_snoc hlt
      have hle := units_le os (k + 1)
      obtain ⟨x, hxe⟩ : ∃ x, x = os.getD k Opt.zero := ⟨_, rfl⟩
      rw [← hxe] at hx hsn
      rw [← hl] at hsn
      clear hxe
      obtain ⟨kd, ln, d⟩ := x
      obtain ⟨-, -, c0, c1, a, n, c, c2, hI⟩ := hx
      have c0 := hg.cell c0
      have c1 := hg.cell c1
      have c2 := hg.cell c2
      simp only at c0 c1 c2 hI
      obtain rfl := hI.count
      obtain ⟨N, hN⟩ : ∃ N, N = d.length := ⟨_, rfl⟩
      have hl2 := fun ty => (hI.gr hg).len (P := Try.prog) 25 ty 5 Try.underlying25
      rw [← hN] at hl2 c2 hI
      have HI := Lib.hid hI
      have HO := Lib.hid ho
      have HN0 := Lib.hid (ho.below (Nat.le_refl _))
      have hll := HL.out
      have hst : unitB ⟨kd, ln, d⟩ = [kd % 256, ((N : Int) + 2) / 8 % 256] ++ d := by rw [hN]; rfl
      rw [hst] at hsn
      have HSN := Lib.hid hsn
      rw [hsn, List.length_append, List.length_append, ← hN] at hle
      simp only [List.length_cons, List.length_nil] at hle
      have hl3 : l.length + N + 2 ≤ 100000 := by omega
      have HN := Lib.hid hN
      have HG := Lib.hid hg
      have hsz := hg.size
      have uk := byte_wrap kd
      have ul := byte_wrap (((N : Int) + 2) / 8)
      have b1 : (0 : Int) ≤ (N : Int) + 2 ∧ (N : Int) + 2 ≤ 4000000000 := by omega
      have b2 : (0 : Int) ≤ ((N : Int) + 2) / 8 ∧ ((N : Int) + 2) / 8 ≤ 4000000000 := by omega
      have b3 : 0 ≤ kd % 256 ∧ kd % 256 ≤ 255 := by omega
      have b4 : 0 ≤ ((N : Int) + 2) / 8 % 256 ∧ ((N : Int) + 2) / 8 % 256 ≤ 255 := by omega
      have iw : IntKind.i64.wrap ((N : Int) + 2) = (N : Int) + 2 := w64 (by omega) (by omega)
      have iq : IntKind.i64.wrap (((N : Int) + 2) / 8) = ((N : Int) + 2) / 8 := w64 (by omega) (by omega)
      have td := tdiv8 N
      clear hI ho hsn hl hll hg hle hst hN
      go_wp2_with fail
      have t0 : (wr.alloc (.cells #[.int .i64 kd, .int .i64 ln, .slice a N c] 98)).cell? ⟨wr.heap.size, 0, none⟩ = some (.int .i64 kd) := cell_of_heap (cs := [.int .i64 kd, .int .i64 ln, .slice a N c]) (heap_alloc_new wr _) 0 _ rfl
      have t2 : (wr.alloc (.cells #[.int .i64 kd, .int .i64 ln, .slice a N c] 98)).cell? ⟨wr.heap.size, 2, none⟩ = some (.slice a N c) := cell_of_heap (cs := [.int .i64 kd, .int .i64 ln, .slice a N c]) (heap_alloc_new wr _) 2 _ rfl
      go_region_held3 (fun w' => w'.cell? ⟨wr.heap.size, 0, none⟩ = some (.int .i64 kd) ∧ w'.cell? ⟨wr.heap.size, 2, none⟩ = some (.slice a N c)) (first | exact ⟨t0, t2⟩ | exact And.imp (fun h => World.grownBy.cell hg6 h (fun e => HN5.out e.symm)) (fun h => World.grownBy.cell hg6 h (fun e => HN5.out e.symm)) (by assumption) | exact And.imp (fun h => World.grownBy.cell hg5 h (fun e => HN0.out e.symm)) (fun h => World.grownBy.cell hg5 h (fun e => HN0.out e.symm)) (by assumption) | exact And.imp (Gr.cell ((Gr.refl _).alloc _)) (Gr.cell ((Gr.refl _).alloc _)) (by assumption)) (first
        | (refine step_appB rfl (.tmp 13) (.tmp 23) 25 rfl Try.underlying25 info_u8 w.heap.size (.slice au nu cu) (.slice (some ⟨wr.heap.size + 1, 0, none⟩) 2 2) l [kd % 256, ((N : Int) + 2) / 8 % 256] (by simp [Act.eval, Act.put]) (HO.out.gr ((((Gr.refl wr).alloc _).alloc _).drew)) (by simp [Act.eval, Act.put]) ((lit2_at (wr.alloc (.cells #[.int .i64 kd, .int .i64 ln, .slice a N c] 98)) _ _ _ (by rw [World.size_alloc]) b3 b4).drew) (by simp; omega) (by show w.heap.size ≤ ((wr.alloc _).alloc _).heap.size; rw [World.size_alloc, World.size_alloc]; omega) ?_; intro v5 w5 ho5 hg5 hat5; obtain ⟨a5, c5, rfl, -⟩ := id ho5.isB; have HG5 := Lib.hid (show Gr w w5 from grownBy_step (((HG.out.alloc _).alloc _).drew) hg5 (fun k hk => .inl (HO.out.fresh k hk))); have HO5 := Lib.hid ho5; have HN5 := Lib.hid (show (Value.slice a5 (l ++ [kd % 256, ((N : Int) + 2) / 8 % 256]).length c5).ownBlock ≠ some wr.heap.size from own_far hat5 HN0.out (by show ((wr.alloc _).alloc _).heap.size ≠ wr.heap.size; rw [World.size_alloc, World.size_alloc]; omega)))
        | (refine step_appB rfl (.tmp 24) (.tmp 26) 25 rfl Try.underlying25 info_u8 w.heap.size (.slice a5 (l ++ [kd % 256, ((N : Int) + 2) / 8 % 256]).length c5) (.slice a N c) (l ++ [kd % 256, ((N : Int) + 2) / 8 % 256]) d (by simp [Act.eval, Act.put]) HO5.out (by simp [Act.eval, Act.put]) (HI.out.gr HG5.out) (by have := HN.out; simp; omega) HG5.out.size ?_; intro v6 w6 ho6 hg6 hat6; obtain ⟨a6, c6, rfl, -⟩ := id ho6.isB))
      go_wp2_with fail
      go_roundw
      case rel => exact ⟨k + 1, _, _, _, _, by omega, by go_num, rfl, HSN.out.symm, by rw [List.append_assoc] at ho6; simpa using ho6, grownBy_step HG5.out hg6 (fun k hk => .inl (HO5.out.fresh k hk))⟩
      case measure => simp [intOf]; omega
    · have e : k = os.length := by omega
      rw [e, List.take_length] at hl
      subst hl
      go_wp2_with fail
      go_ret
      exact RetB.mk ho hg

end Go.Proofs.Ytoopkfnkmaaieaa
