/-
  The law FnBuffer.
-/
import Derived.Test.YtbojideclbjlgaaBufR
namespace Go.Proofs.Ytbojideclbjlgaa
open Go.RowKit

/-- a step that the law speaks of -/
def OkStep (x : Step) : Prop := 0 ≤ x.kind ∧ x.kind ≤ 2 ∧ x.data.length ≤ 200 ∧ (x.kind = 2 → x.data.length = 0)
/-- what holds ahead of a round -/
def LawRel (w : World) (os : List Step) (i : Value) (wr : World) : Prop := ∃ k : Nat, k ≤ os.length ∧ i = .int .i64 k ∧ (∀ x ∈ os.take k, OkStep x) ∧ Gr w wr
theorem ok_snoc {os : List Step} {k : Nat} (h : ∀ x ∈ os.take k, OkStep x) (hk : k < os.length) (hx : OkStep (os.getD k Step.zero)) : ∀ x ∈ os.take (k + 1), OkStep x := by
  rw [List.take_succ_eq_append_getElem hk]
  intro x hm
  rcases List.mem_append.1 hm with h1 | h1
  · exact h x h1
  · simp only [List.mem_singleton] at h1
    subst h1
    rw [List.getD_eq_getElem?_getD, List.getElem?_eq_getElem hk] at hx
    exact hx

set_option maxRecDepth 100000 in
set_option maxHeartbeats 1000000 in
theorem lawBufferG0 (v : Value) (os : List Step) (f b : Int) (w : World) (h0 : IsSteps w v os)  (h1 : 100 < (os.length : Int)) : Calls Try.prog 4 #[v, .int .i64 f, .int .i64 b] w fun e w' => e = .returned (.bool true) ∧ Gr w w' := by
  have hlen := h0.len
  have h := Lib.hid h0
  clear h0
  have c0 : decide (100 < (os.length : Int)) = true := decide_eq_true (by omega)
  go_enter Try.func4, Try.ntmps4
  go_wp2_with ((go_at_call 17; refine (fits8_calls _ os _ h.out).mono ?_; rintro e w9 ⟨b9, rfl, hg9⟩))
  all_goals
    go_ret
    exact ⟨rfl, (by (repeat (with_reducible first | exact Gr.refl _ | assumption | refine Gr.alloc ?_ _ | refine Gr.drew ?_ | refine Gr.drewN ?_ _ | refine Gr.trans ?_ (by assumption))); done)⟩

set_option maxRecDepth 100000 in
set_option maxHeartbeats 1000000 in
theorem lawBufferG1 (v : Value) (os : List Step) (f b : Int) (w : World) (h0 : IsSteps w v os) (_h1 : os.length ≤ 100) (h2 : f < 0) : Calls Try.prog 4 #[v, .int .i64 f, .int .i64 b] w fun e w' => e = .returned (.bool true) ∧ Gr w w' := by
  have hlen := h0.len
  have h := Lib.hid h0
  clear h0
  have c0 : decide (100 < (os.length : Int)) = false := decide_eq_false (by omega)
  have c1 : decide (f < 0) = true := decide_eq_true (by omega)
  go_enter Try.func4, Try.ntmps4
  go_wp2_with ((go_at_call 17; refine (fits8_calls _ os _ h.out).mono ?_; rintro e w9 ⟨b9, rfl, hg9⟩))
  all_goals
    go_ret
    exact ⟨rfl, (by (repeat (with_reducible first | exact Gr.refl _ | assumption | refine Gr.alloc ?_ _ | refine Gr.drew ?_ | refine Gr.drewN ?_ _ | refine Gr.trans ?_ (by assumption))); done)⟩

set_option maxRecDepth 100000 in
set_option maxHeartbeats 1000000 in
theorem lawBufferG2 (v : Value) (os : List Step) (f b : Int) (w : World) (h0 : IsSteps w v os) (_h1 : os.length ≤ 100) (_h2 : 0 ≤ f) (h3 : 1000 < f) : Calls Try.prog 4 #[v, .int .i64 f, .int .i64 b] w fun e w' => e = .returned (.bool true) ∧ Gr w w' := by
  have hlen := h0.len
  have h := Lib.hid h0
  clear h0
  have c0 : decide (100 < (os.length : Int)) = false := decide_eq_false (by omega)
  have c1 : decide (f < 0) = false := decide_eq_false (by omega)
  have c2 : decide (1000 < f) = true := decide_eq_true (by omega)
  go_enter Try.func4, Try.ntmps4
  go_wp2_with ((go_at_call 17; refine (fits8_calls _ os _ h.out).mono ?_; rintro e w9 ⟨b9, rfl, hg9⟩))
  all_goals
    go_ret
    exact ⟨rfl, (by (repeat (with_reducible first | exact Gr.refl _ | assumption | refine Gr.alloc ?_ _ | refine Gr.drew ?_ | refine Gr.drewN ?_ _ | refine Gr.trans ?_ (by assumption))); done)⟩

set_option maxRecDepth 100000 in
set_option maxHeartbeats 1000000 in
theorem lawBufferG3 (v : Value) (os : List Step) (f b : Int) (w : World) (h0 : IsSteps w v os) (_h1 : os.length ≤ 100) (_h2 : 0 ≤ f) (_h3 : f ≤ 1000) (h4 : b < 0) : Calls Try.prog 4 #[v, .int .i64 f, .int .i64 b] w fun e w' => e = .returned (.bool true) ∧ Gr w w' := by
  have hlen := h0.len
  have h := Lib.hid h0
  clear h0
  have c0 : decide (100 < (os.length : Int)) = false := decide_eq_false (by omega)
  have c1 : decide (f < 0) = false := decide_eq_false (by omega)
  have c2 : decide (1000 < f) = false := decide_eq_false (by omega)
  have c3 : decide (b < 0) = true := decide_eq_true (by omega)
  go_enter Try.func4, Try.ntmps4
  go_wp2_with ((go_at_call 17; refine (fits8_calls _ os _ h.out).mono ?_; rintro e w9 ⟨b9, rfl, hg9⟩))
  all_goals
    go_ret
    exact ⟨rfl, (by (repeat (with_reducible first | exact Gr.refl _ | assumption | refine Gr.alloc ?_ _ | refine Gr.drew ?_ | refine Gr.drewN ?_ _ | refine Gr.trans ?_ (by assumption))); done)⟩

set_option maxRecDepth 100000 in
set_option maxHeartbeats 1000000 in
theorem lawBufferG4 (v : Value) (os : List Step) (f b : Int) (w : World) (h0 : IsSteps w v os) (_h1 : os.length ≤ 100) (_h2 : 0 ≤ f) (_h3 : f ≤ 1000) (_h4 : 0 ≤ b) (h5 : 1000 < b) : Calls Try.prog 4 #[v, .int .i64 f, .int .i64 b] w fun e w' => e = .returned (.bool true) ∧ Gr w w' := by
  have hlen := h0.len
  have h := Lib.hid h0
  clear h0
  have c0 : decide (100 < (os.length : Int)) = false := decide_eq_false (by omega)
  have c1 : decide (f < 0) = false := decide_eq_false (by omega)
  have c2 : decide (1000 < f) = false := decide_eq_false (by omega)
  have c3 : decide (b < 0) = false := decide_eq_false (by omega)
  have c4 : decide (1000 < b) = true := decide_eq_true (by omega)
  go_enter Try.func4, Try.ntmps4
  go_wp2_with ((go_at_call 17; refine (fits8_calls _ os _ h.out).mono ?_; rintro e w9 ⟨b9, rfl, hg9⟩))
  all_goals
    go_ret
    exact ⟨rfl, (by (repeat (with_reducible first | exact Gr.refl _ | assumption | refine Gr.alloc ?_ _ | refine Gr.drew ?_ | refine Gr.drewN ?_ _ | refine Gr.trans ?_ (by assumption))); done)⟩

set_option maxRecDepth 100000 in
set_option maxHeartbeats 4000000 in
theorem lawBufferM (v : Value) (os : List Step) (x y : Nat) (w : World) (h0 : IsSteps w v os) (h1 : os.length ≤ 100) (h2 : x ≤ 1000) (h3 : y ≤ 1000) : Calls Try.prog 4 #[v, .int .i64 (x : Int), .int .i64 (y : Int)] w fun e w' => e = .returned (.bool true) ∧ Gr w w' := by
  have hlen := h0.len
  have h := Lib.hid h0
  clear h0
  have c0 : decide (100 < (os.length : Int)) = false := decide_eq_false (by omega)
  have c1 : decide ((x : Int) < 0) = false := decide_eq_false (by omega)
  have c2 : decide (1000 < (x : Int)) = false := decide_eq_false (by omega)
  have c3 : decide ((y : Int) < 0) = false := decide_eq_false (by omega)
  have c4 : decide (1000 < (y : Int)) = false := decide_eq_false (by omega)
  go_enter Try.func4, Try.ntmps4
  go_wp2_with ((go_at_call 17; refine (fits8_calls _ os _ h.out).mono ?_; rintro e w9 ⟨b9, rfl, hg9⟩))
  · go_ret
    exact ⟨rfl, (by (repeat (with_reducible first | exact Gr.refl _ | assumption | refine Gr.alloc ?_ _ | refine Gr.drew ?_ | refine Gr.drewN ?_ _ | refine Gr.trans ?_ (by assumption))); done)⟩
  · go_loopw [33] (LawRel w os) (fun i _ => os.length - (intOf i).toNat)
    case atStart => exact ⟨0, Nat.zero_le _, rfl, fun x hx => absurd hx (by simp), (by (repeat (with_reducible first | exact Gr.refl _ | assumption | refine Gr.alloc ?_ _ | refine Gr.drew ?_ | refine Gr.drewN ?_ _ | refine Gr.trans ?_ (by assumption))); done)⟩
    case round =>
      obtain ⟨k, hk, rfl, hok, hg⟩ := hrel
      have HOK := Lib.hid hok
      clear hok
      by_cases hlt : k < os.length
      · obtain ⟨b, o, ix, hxx⟩ := h.out.idx .i64 k k rfl hlt
        have hsn := ok_snoc HOK.out hlt
        obtain ⟨xx, hxe⟩ : ∃ x, x = os.getD k Step.zero := ⟨_, rfl⟩
        rw [← hxe] at hxx hsn
        clear hxe
        have HSN := Lib.hid hsn
        clear hsn
        obtain ⟨kd, d⟩ := xx
        obtain ⟨-, q0, a, n, c, q1, hI⟩ := hxx
        have q0 := hg.cell q0
        have q1 := hg.cell q1
        simp only at q0 q1 hI
        obtain rfl := hI.count
        clear hI
        by_cases m0 : kd < 0
        · have r0 : decide (kd < 0) = true := by simp; omega
          go_wp2_with fail
          go_ret
          exact ⟨rfl, (by (repeat (with_reducible first | exact Gr.refl _ | assumption | refine Gr.alloc ?_ _ | refine Gr.drew ?_ | refine Gr.drewN ?_ _ | refine Gr.trans ?_ (by assumption))); done)⟩
        have r0 : decide (kd < 0) = false := by simp; omega
        by_cases m1 : 2 < kd
        · have r1 : decide (2 < kd) = true := by simp; omega
          go_wp2_with fail
          go_ret
          exact ⟨rfl, (by (repeat (with_reducible first | exact Gr.refl _ | assumption | refine Gr.alloc ?_ _ | refine Gr.drew ?_ | refine Gr.drewN ?_ _ | refine Gr.trans ?_ (by assumption))); done)⟩
        have r1 : decide (2 < kd) = false := by simp; omega
        by_cases m2 : 200 < (d.length : Int)
        · have r2 : decide (200 < (d.length : Int)) = true := by simp; omega
          go_wp2_with fail
          go_ret
          exact ⟨rfl, (by (repeat (with_reducible first | exact Gr.refl _ | assumption | refine Gr.alloc ?_ _ | refine Gr.drew ?_ | refine Gr.drewN ?_ _ | refine Gr.trans ?_ (by assumption))); done)⟩
        have r2 : decide (200 < (d.length : Int)) = false := by simp; omega
        by_cases m3 : kd = 2
        · have r3 : (kd == 2) = true := by simp [m3]
          by_cases m4 : 0 < d.length
          · have r4 : decide ((0 : Int) < (d.length : Int)) = true := decide_eq_true (by omega)
            clear m3
            go_wp2_with fail
            go_ret
            exact ⟨rfl, (by (repeat (with_reducible first | exact Gr.refl _ | assumption | refine Gr.alloc ?_ _ | refine Gr.drew ?_ | refine Gr.drewN ?_ _ | refine Gr.trans ?_ (by assumption))); done)⟩
          · have r4 : decide ((0 : Int) < (d.length : Int)) = false := decide_eq_false (by omega)
            have hO : OkStep ⟨kd, d⟩ := ⟨by show 0 ≤ kd; omega, by show kd ≤ 2; omega, by show d.length ≤ 200; omega, fun _ => by show d.length = 0; omega⟩
            clear m3
            go_wp2_with fail
            go_roundw
            case rel => exact ⟨k + 1, by omega, by go_num, HSN.out hO, (by (repeat (with_reducible first | exact Gr.refl _ | assumption | refine Gr.alloc ?_ _ | refine Gr.drew ?_ | refine Gr.drewN ?_ _ | refine Gr.trans ?_ (by assumption))); done)⟩
            case measure => simp [intOf]; omega
        · have r3 : (kd == 2) = false := by simp [m3]
          have hO : OkStep ⟨kd, d⟩ := ⟨by show 0 ≤ kd; omega, by show kd ≤ 2; omega, by show d.length ≤ 200; omega, fun h => absurd h m3⟩
          clear m3
          go_wp2_with fail
          go_roundw
          case rel => exact ⟨k + 1, by omega, by go_num, HSN.out hO, (by (repeat (with_reducible first | exact Gr.refl _ | assumption | refine Gr.alloc ?_ _ | refine Gr.drew ?_ | refine Gr.drewN ?_ _ | refine Gr.trans ?_ (by assumption))); done)⟩
          case measure => simp [intOf]; omega
      · have e : k = os.length := by omega
        have hall := HOK.out
        rw [e, List.take_length] at hall
        have hd2 : ∀ x ∈ os, x.data.length ≤ 200 ∧ (x.kind ≠ 0 → x.kind ≠ 1 → x.data = []) := fun x hx => ⟨(hall x hx).2.2.1, fun n0 n1 => List.eq_nil_of_length_eq_zero ((hall x hx).2.2.2 (by have := (hall x hx).1; have := (hall x hx).2.1; omega))⟩
        have hd3 : ∀ x ∈ os, x.data.length ≤ 200 := fun x hx => (hd2 x hx).1
        have HD2 := Lib.hid hd2
        have HD3 := Lib.hid hd3
        clear e hall hd2 hd3
        go_wp2_with (first
          | (go_at_call 18; refine (buffered_calls v os x y _ (h.out.gr hg) h1 HD2.out h2 h3).mono ?_; rintro e wA ⟨_, _, _, rfl, hoA, hgA⟩; have hbA := hoA.isB)
          | (go_at_call 19; refine (specBuffered_calls v os _ (h.out.gr (by (repeat (with_reducible first | exact Gr.refl _ | assumption | refine Gr.alloc ?_ _ | refine Gr.drew ?_ | refine Gr.drewN ?_ _ | refine Gr.trans ?_ (by assumption))); done)) h1 HD3.out).mono ?_; rintro e wB ⟨_, _, _, rfl, hoB, hgB⟩; have hbB := hoB.isB)
          | (go_at_call 16; refine (same_calls _ _ _ _ _ (hbA.gr (by (repeat (with_reducible first | exact Gr.refl _ | assumption | refine Gr.alloc ?_ _ | refine Gr.drew ?_ | refine Gr.drewN ?_ _ | refine Gr.trans ?_ (by assumption))); done)) hbB).mono ?_; rintro e wC ⟨rfl, rfl⟩))
        go_ret
        exact ⟨by simp, (by (repeat (with_reducible first | exact Gr.refl _ | assumption | refine Gr.alloc ?_ _ | refine Gr.drew ?_ | refine Gr.drewN ?_ _ | refine Gr.trans ?_ (by assumption))); done)⟩

theorem lawBuffer_calls (v : Value) (os : List Step) (f b : Int) (w : World) (h0 : IsSteps w v os) : Calls Try.prog 4 #[v, .int .i64 f, .int .i64 b] w fun e w' => e = .returned (.bool true) ∧ Gr w w' := by
  by_cases h1 : os.length ≤ 100
  · by_cases h2 : 0 ≤ f
    · by_cases h3 : f ≤ 1000
      · by_cases h4 : 0 ≤ b
        · by_cases h5 : b ≤ 1000
          · obtain ⟨x, rfl⟩ : ∃ x : Nat, f = (x : Int) := ⟨f.toNat, by omega⟩
            obtain ⟨y, rfl⟩ : ∃ y : Nat, b = (y : Int) := ⟨b.toNat, by omega⟩
            exact lawBufferM v os x y w h0 h1 (by omega) (by omega)
          · exact lawBufferG4 v os f b w h0 h1 h2 h3 h4 (by omega)
        · exact lawBufferG3 v os f b w h0 h1 h2 h3 (by omega)
      · exact lawBufferG2 v os f b w h0 h1 h2 (by omega)
    · exact lawBufferG1 v os f b w h0 h1 (by omega)
  · exact lawBufferG0 v os f b w h0 (by omega)

end Go.Proofs.Ytbojideclbjlgaa
