/-
  Steps over a buffer, as the reference reckons them; whether they fit.
-/
import Derived.Test.YtbojideclbjlgaaSteps
import Derived.Test.YtbojideclbjlgaaBufG
import Derived.Test.YtbojideclbjlgaaLib2
namespace Go.Proofs.Ytbojideclbjlgaa
open Go.RowKit

/-- what a function answers that answers yes or no -/
def SomeB (w : World) (e : Ending) (w' : World) : Prop := ∃ b : Bool, e = .returned (.bool b) ∧ Gr w w'

set_option maxRecDepth 100000 in
set_option maxHeartbeats 1000000 in
theorem fits9_calls (k : Int) (a : Option Addr) (n c : Nat) (w : World) : Calls Try.prog 64 #[.agg #[.int .i64 k, .slice a n c]] w (SomeB w) := by
  go_enter Try.func64, Try.ntmps64
  go_wp2_with fail
  all_goals
    go_ret
    exact ⟨_, rfl, (Gr.refl w).alloc _⟩

set_option maxRecDepth 100000 in
set_option maxHeartbeats 1000000 in
theorem fits8_calls (v : Value) (os : List Step) (w : World) (h : IsSteps w v os) : Calls Try.prog 17 #[v] w (SomeB w) := by
  have hlen := h.len
  have hm := h.max
  unfold maxLen at hm
  have H := Lib.hid h
  clear h
  go_enter Try.func17, Try.ntmps17
  go_wp2_with fail
  · go_ret
    exact ⟨_, rfl, Gr.refl w⟩
  · go_loopw [10] (fun i wr => ∃ k : Nat, k ≤ os.length ∧ i = .int .i64 k ∧ Gr w wr) (fun i _ => os.length - (intOf i).toNat)
    case atStart => exact ⟨0, Nat.zero_le _, rfl, Gr.refl w⟩
    case round =>
      obtain ⟨k, hk, rfl, hg⟩ := hrel
      by_cases hlt : k < os.length
      · obtain ⟨b, o, ix, hx⟩ := H.out.idx .i64 k k rfl hlt
        obtain ⟨x, hxe⟩ : ∃ x, x = os.getD k Step.zero := ⟨_, rfl⟩
        rw [← hxe] at hx
        clear hxe
        obtain ⟨kd, d⟩ := x
        obtain ⟨-, c0, a, n, c, c1, -⟩ := hx
        have c0 := hg.cell c0
        have c1 := hg.cell c1
        simp only at c0 c1
        go_wp2_with (go_at_call 64; refine (fits9_calls _ _ _ _ _).mono ?_; rintro e w9 ⟨b, rfl, hg9⟩)
        · go_ret
          exact ⟨_, rfl, (by (repeat (with_reducible first | exact Gr.refl _ | assumption | refine Gr.alloc ?_ _ | refine Gr.drew ?_ | refine Gr.drewN ?_ _ | refine Gr.trans ?_ (by assumption))); done)⟩
        · go_roundw
          case rel => exact ⟨k + 1, by omega, by go_num, (by (repeat (with_reducible first | exact Gr.refl _ | assumption | refine Gr.alloc ?_ _ | refine Gr.drew ?_ | refine Gr.drewN ?_ _ | refine Gr.trans ?_ (by assumption))); done)⟩
          case measure => simp [intOf]; omega
      · go_wp2_with fail
        go_ret
        exact ⟨_, rfl, hg⟩

/-- a step over the bytes -/
def bstep (out : List Int) (s : Step) : List Int := if s.kind = 0 then s.data ++ out else if s.kind = 1 then out ++ s.data else []
/-- steps over no bytes -/
def stepsB (os : List Step) : List Int := os.foldl bstep []
theorem steps_snoc {os : List Step} {k : Nat} (h : k < os.length) : stepsB (os.take (k + 1)) = bstep (stepsB (os.take k)) (os.getD k Step.zero) := by
  unfold stepsB
  rw [List.take_succ_eq_append_getElem h, List.foldl_append, List.getD_eq_getElem?_getD, List.getElem?_eq_getElem h]
  rfl
theorem step_mem {os : List Step} {k : Nat} (h : k < os.length) : os.getD k Step.zero ∈ os := by
  rw [List.getD_eq_getElem?_getD, List.getElem?_eq_getElem h]
  exact List.getElem_mem h
theorem bstep_len {out : List Int} {s : Step} {n m : Nat} (h : out.length ≤ n) (hs : s.data.length ≤ m) : (bstep out s).length ≤ n + m := by
  unfold bstep
  split
  · rw [List.length_append]; omega
  · split
    · rw [List.length_append]; omega
    · simp
theorem steps_len {os : List Step} (hd : ∀ x ∈ os, x.data.length ≤ 200) : ∀ k, k ≤ os.length → (stepsB (os.take k)).length ≤ 200 * k
  | 0, _ => by simp [stepsB]
  | k + 1, h => by
    rw [steps_snoc (by omega)]
    have := bstep_len (steps_len hd k (by omega)) (hd _ (step_mem (show k < os.length by omega)))
    omega

/-- what holds ahead of a round -/
def SpecRel (w : World) (os : List Step) (u i : Value) (wr : World) : Prop := ∃ (k : Nat) (l : List Int) (a : Option Addr) (n c : Nat), k ≤ os.length ∧ i = .int .i64 k ∧ u = .slice a n c ∧ l = stepsB (os.take k) ∧ Own wr w.heap.size (.slice a n c) l ∧ Gr w wr

set_option maxRecDepth 100000 in
set_option maxHeartbeats 2000000 in
theorem specBuffered_calls (v : Value) (os : List Step) (w : World) (h : IsSteps w v os) (hn : os.length ≤ 100) (hd : ∀ x ∈ os, x.data.length ≤ 200) : Calls Try.prog 19 #[v] w (RetB w (stepsB os)) := by
  have hlen := h.len
  have H := Lib.hid h
  have HD := Lib.hid hd
  clear h hd
  go_enter Try.func19, Try.ntmps19
  go_wp2_with fail
  go_loopw [3, 9] (SpecRel w os) (fun _ i _ => os.length - (intOf i).toNat)
  case atStart => exact ⟨0, [], _, _, _, Nat.zero_le _, rfl, rfl, rfl, own_empty w, (Gr.refl w).alloc _⟩
  case round =>
    obtain ⟨k, l, au, nu, cu, hk, rfl, rfl, hl, ho, hg⟩ := hrel
    by_cases hlt : k < os.length
    · obtain ⟨b, o, ix, hx⟩ := H.out.idx .i64 k k rfl hlt
      have hs := steps_snoc hlt
      have hdk := HD.out _ (step_mem hlt)
      have hl1 := steps_len HD.out k hk
      rw [← hl] at hs hl1
      obtain ⟨x, hxe⟩ : ∃ x, x = os.getD k Step.zero := ⟨_, rfl⟩
      rw [← hxe] at hx hs hdk
      clear hxe
      have HS := Lib.hid hs
      clear hs hl
      obtain ⟨kd, d⟩ := x
      obtain ⟨-, c0, a, n, c, c1, hB⟩ := hx
      have c0 := hg.cell c0
      have c1 := hg.cell c1
      have hB := hB.gr hg
      simp only at c0 c1 hdk hB
      have hoB := ho.isB
      have hsz := hg.size
      by_cases k0 : kd = 0
      · have e0 : (kd == 0) = true := by simp [k0]
        have hst : stepsB (os.take (k + 1)) = d ++ l := by rw [HS.out]; simp [bstep, k0]
        have HT := Lib.hid hst
        clear hst k0
        go_wp2_with (go_at_call 23; refine (joined_calls _ [d, l] _ (isBs_at _ _ [d, l] _ (Reads.cons (IsB.gr (by assumption) (by (repeat (with_reducible first | exact Gr.refl _ | assumption | refine Gr.alloc ?_ _ | refine Gr.drew ?_ | refine Gr.drewN ?_ _ | refine Gr.trans ?_ (by assumption))); done)) (Reads.cons (IsB.gr (by assumption) (by (repeat (with_reducible first | exact Gr.refl _ | assumption | refine Gr.alloc ?_ _ | refine Gr.drew ?_ | refine Gr.drewN ?_ _ | refine Gr.trans ?_ (by assumption))); done)) (Reads.nil _))) _ rfl _ (by simp)) (by simp; omega) (by simp)).mono ?_; rintro e w9 ⟨_, _, _, rfl, ho9, hg9⟩; rw [show [d, l].flatten = d ++ l by simp] at ho9)
        go_roundw
        case rel => exact ⟨k + 1, d ++ l, _, _, _, by omega, by go_num, rfl, HT.out.symm, ho9.mono (Nat.le_trans hsz (World.grownBy.size (show Gr wr _ from (by (repeat (with_reducible first | exact Gr.refl _ | assumption | refine Gr.alloc ?_ _ | refine Gr.drew ?_ | refine Gr.drewN ?_ _ | refine Gr.trans ?_ (by assumption))); done)))), (by (repeat (with_reducible first | exact Gr.refl _ | assumption | refine Gr.alloc ?_ _ | refine Gr.drew ?_ | refine Gr.drewN ?_ _ | refine Gr.trans ?_ (by assumption))); done)⟩
        case measure => simp [intOf]; omega
      · by_cases k1 : kd = 1
        · have e0 : (kd == 0) = false := by simp [k0]
          have e1 : (kd == 1) = true := by simp [k1]
          have hst : stepsB (os.take (k + 1)) = l ++ d := by rw [HS.out]; simp [bstep, k1]
          have HT := Lib.hid hst
          clear hst k0 k1
          go_wp2_with (go_at_call 23; refine (joined_calls _ [l, d] _ (isBs_at _ _ [l, d] _ (Reads.cons (IsB.gr (by assumption) (by (repeat (with_reducible first | exact Gr.refl _ | assumption | refine Gr.alloc ?_ _ | refine Gr.drew ?_ | refine Gr.drewN ?_ _ | refine Gr.trans ?_ (by assumption))); done)) (Reads.cons (IsB.gr (by assumption) (by (repeat (with_reducible first | exact Gr.refl _ | assumption | refine Gr.alloc ?_ _ | refine Gr.drew ?_ | refine Gr.drewN ?_ _ | refine Gr.trans ?_ (by assumption))); done)) (Reads.nil _))) _ rfl _ (by simp)) (by simp; omega) (by simp)).mono ?_; rintro e w9 ⟨_, _, _, rfl, ho9, hg9⟩; rw [show [l, d].flatten = l ++ d by simp] at ho9)
          go_roundw
          case rel => exact ⟨k + 1, l ++ d, _, _, _, by omega, by go_num, rfl, HT.out.symm, ho9.mono (Nat.le_trans hsz (World.grownBy.size (show Gr wr _ from (by (repeat (with_reducible first | exact Gr.refl _ | assumption | refine Gr.alloc ?_ _ | refine Gr.drew ?_ | refine Gr.drewN ?_ _ | refine Gr.trans ?_ (by assumption))); done)))), (by (repeat (with_reducible first | exact Gr.refl _ | assumption | refine Gr.alloc ?_ _ | refine Gr.drew ?_ | refine Gr.drewN ?_ _ | refine Gr.trans ?_ (by assumption))); done)⟩
          case measure => simp [intOf]; omega
        · have e0 : (kd == 0) = false := by simp [k0]
          have e1 : (kd == 1) = false := by simp [k1]
          have hst : stepsB (os.take (k + 1)) = [] := by rw [HS.out]; simp [bstep, k0, k1]
          have HT := Lib.hid hst
          clear hst k0 k1
          go_wp2_with fail
          go_roundw
          case rel => exact ⟨k + 1, [], _, _, _, by omega, by go_num, rfl, HT.out.symm, (by have t := own_empty (wr.alloc (.cells #[.int .i64 kd, .slice a n c] 31)); rw [World.size_alloc] at t; exact t.mono (by omega)), (by (repeat (with_reducible first | exact Gr.refl _ | assumption | refine Gr.alloc ?_ _ | refine Gr.drew ?_ | refine Gr.drewN ?_ _ | refine Gr.trans ?_ (by assumption))); done)⟩
          case measure => simp [intOf]; omega
    · go_wp2_with fail
      go_ret
      have e : k = os.length := by omega
      rw [e, List.take_length] at hl
      subst hl
      exact RetB.mk ho hg

theorem clear_method (w : World) (p : Addr) : (method 368 179 (.pointer (some p)) "Clear").run Try.prog w = .ok (158, .pointer (some p)) w := by kernel_rfl
theorem nil_hL (k : IntKind) (w : World) : (Instr.sliceAt 180 (.slice none 0 0) none (some (.int k 0)) none).run Try.prog w = .ok (.slice none 0 0) w := by
  have hE : Try.prog.elem 180 = 220 := by simp [Program.elem, Try.underlying180]
  have hs : (Try.prog.info? 220).map (·.size) = some 1 := by kernel_rfl
  obtain ⟨i, hi, hz1⟩ := Option.map_eq_some_iff.1 hs
  rw [run_sliceAt_slice w 180 _ _ _ _ (by rw [hE]; exact Try.underlying180), run_slice_h w 180 _ _ _ (by rw [hE]; exact Try.underlying180) k 0 (by omega) (by omega)]
  simp [sizeOf, typeInfo, hE, hi, hz1, Result.andThen, sliced]

set_option maxRecDepth 100000 in
set_option maxHeartbeats 1000000 in
theorem clear_calls (B P s p q : Nat) (l : List Int) (w : World) (hB : Buf w B P s p q l) (hp : p ≤ 100000) (hq : q ≤ 100000) :
    Calls Try.prog 158 #[.pointer (some ⟨P, 0, none⟩)] w fun e w' => e = .returned .nilIface ∧ w.grownBy w' (some P) ∧ Buf w' B P p p q [] := by
  obtain ⟨N, row, b1, b2, b3, b4, b5, b6, b7, b8, b9, b10, b11⟩ := hB
  obtain ⟨n, hn⟩ : ∃ n, n = s + l.length := ⟨_, rfl⟩
  obtain ⟨c, hc⟩ : ∃ c, c = p + q := ⟨_, rfl⟩
  rw [← hn, ← hc] at b4
  rw [← hc] at b6
  have n1 : n ≤ s + l.length := by omega
  have n2 : s + l.length ≤ n := by omega
  have c1 : c ≤ p + q := by omega
  have c2 : p + q ≤ c := by omega
  have HN := Lib.hid hn
  have HC := Lib.hid hc
  clear hn hc
  obtain ⟨w0, rfl⟩ : ∃ w0, w = rowW w0 P [.slice (some ⟨N, 0, none⟩) n c, .int .i64 (s : Int), .int .i64 (p : Int), .int .i64 (q : Int), .slice none 0 0] 182 := ⟨w, (rowW_self b4).symm⟩
  have hd : Has w0 P := by unfold Has; rw [← rowW_size (cs := [.slice (some ⟨N, 0, none⟩) n c, .int .i64 (s : Int), .int .i64 (p : Int), .int .i64 (q : Int), .slice none 0 0]) (e := 182) (D := P)]; exact (Array.getElem?_eq_some_iff.1 b4).1
  have s1 := fun K w => cutd_h (b := N) (n := n) (c := c) (hi' := p) (p : Int) rfl (by omega) (by omega) K w
  have s2 := nil_hL
  have H1 := Lib.hid b1; have H2 := Lib.hid b2; have H3 := Lib.hid b3; have H5 := Lib.hid b5; have H6 := Lib.hid b6; have H7 := Lib.hid b7; have H8 := Lib.hid b8
  clear b1 b2 b3 b4 b5 b6 b7 b8
  go_enter Try.func158, Try.ntmps158
  go_wp2_with fail
  go_region
  all_goals go_wp2_with fail
  go_ret
  have hh := H5.out
  rw [rowW_other H3.out] at hh
  refine ⟨rfl, ?_, N, row, H1.out, H2.out, H3.out, ?_, ?_, by rw [H6.out, HC.out], fun i hi => absurd hi (by simp), allB_nil, by omega, by simp, by simp⟩
  · exact rowW_rowW (n := 1)
  · rw [rowW_heap (show Has w0.drew P from hd), ← HC.out]
    rfl
  · rw [rowW_other H3.out]
    exact hh

end Go.Proofs.Ytbojideclbjlgaa
