/-
  A control message: the law's own functions.
-/
import Derived.Test.YtbojideclbjlgaaCk
import Derived.Test.YtbojideclbjlgaaLib2
import Derived.Test.YtbojideclbjlgaaLib3
import Derived.Deep.RegionHeld3
import Derived.Deep.RegionWith
namespace Go.Proofs.Ytbojideclbjlgaa
open Go.RowKit

def isICMP (t c j q : Int) : Bool := upto t 255 && upto c 255 && upto j 65535 && upto q 65535

set_option maxRecDepth 100000 in
set_option maxHeartbeats 1000000 in
theorem isICMP_calls (t c k j q : Int) (w : World)  :
    Calls Try.prog 35 #[.agg #[.int .i64 t, .int .i64 c, .int .i64 k, .int .i64 j, .int .i64 q]] w fun e w' => e = .returned (.bool (isICMP t c j q)) ∧ Gr w w' := by
  cases hc0 : (upto t 255 : Bool) with
  | false =>
    go_enter Try.func35, Try.ntmps35
    go_wp2_with ((first | (go_at_call 66; refine (upTo_calls _ _ _).mono ?_; rintro e w9 ⟨rfl, rfl⟩)))
    go_ret
    exact ⟨by simp [isICMP, hc0], (by repeat (with_reducible first | exact Gr.refl _ | assumption | refine Gr.alloc ?_ _ | refine Gr.drew ?_ | refine Gr.drewN ?_ _ | refine Gr.trans ?_ (by assumption)))⟩
  | true =>
    cases hc1 : (upto c 255 : Bool) with
    | false =>
      go_enter Try.func35, Try.ntmps35
      go_wp2_with ((first | (go_at_call 66; refine (upTo_calls _ _ _).mono ?_; rintro e w9 ⟨rfl, rfl⟩)))
      go_ret
      exact ⟨by simp [isICMP, hc0, hc1], (by repeat (with_reducible first | exact Gr.refl _ | assumption | refine Gr.alloc ?_ _ | refine Gr.drew ?_ | refine Gr.drewN ?_ _ | refine Gr.trans ?_ (by assumption)))⟩
    | true =>
      cases hc2 : (upto j 65535 : Bool) with
      | false =>
        go_enter Try.func35, Try.ntmps35
        go_wp2_with ((first | (go_at_call 66; refine (upTo_calls _ _ _).mono ?_; rintro e w9 ⟨rfl, rfl⟩)))
        go_ret
        exact ⟨by simp [isICMP, hc0, hc1, hc2], (by repeat (with_reducible first | exact Gr.refl _ | assumption | refine Gr.alloc ?_ _ | refine Gr.drew ?_ | refine Gr.drewN ?_ _ | refine Gr.trans ?_ (by assumption)))⟩
      | true =>
        cases hc3 : (upto q 65535 : Bool) with
        | false =>
          go_enter Try.func35, Try.ntmps35
          go_wp2_with ((first | (go_at_call 66; refine (upTo_calls _ _ _).mono ?_; rintro e w9 ⟨rfl, rfl⟩)))
          go_ret
          exact ⟨by simp [isICMP, hc0, hc1, hc2, hc3], (by repeat (with_reducible first | exact Gr.refl _ | assumption | refine Gr.alloc ?_ _ | refine Gr.drew ?_ | refine Gr.drewN ?_ _ | refine Gr.trans ?_ (by assumption)))⟩
        | true =>
          go_enter Try.func35, Try.ntmps35
          go_wp2_with ((first | (go_at_call 66; refine (upTo_calls _ _ _).mono ?_; rintro e w9 ⟨rfl, rfl⟩)))
          go_ret
          exact ⟨by simp [isICMP, hc0, hc1, hc2, hc3], (by repeat (with_reducible first | exact Gr.refl _ | assumption | refine Gr.alloc ?_ _ | refine Gr.drew ?_ | refine Gr.drewN ?_ _ | refine Gr.trans ?_ (by assumption)))⟩

def icmp (t c k j q : Int) : List Int := [[t % 256, c % 256], sh k, sh j, sh q].flatten

set_option maxRecDepth 100000 in
set_option maxHeartbeats 1000000 in
theorem icmp_calls (t c k j q : Int) (w : World)  :
    Calls Try.prog 37 #[.agg #[.int .i64 t, .int .i64 c, .int .i64 k, .int .i64 j, .int .i64 q]] w (RetB w (icmp t c k j q)) := by
  have wt : IntKind.u8.wrap t = t % 256 := by simp [IntKind.wrap, IntKind.bits, IntKind.signed]
  have wc : IntKind.u8.wrap c = c % 256 := by simp [IntKind.wrap, IntKind.bits, IntKind.signed]
  go_enter Try.func37, Try.ntmps37
  go_wp2_with fail
  go_region_held3 (fun w' => w'.cell? ⟨w.heap.size, 0, none⟩ = some (.int .i64 t) ∧ w'.cell? ⟨w.heap.size, 1, none⟩ = some (.int .i64 c) ∧ w'.cell? ⟨w.heap.size, 2, none⟩ = some (.int .i64 k) ∧ w'.cell? ⟨w.heap.size, 3, none⟩ = some (.int .i64 j) ∧ w'.cell? ⟨w.heap.size, 4, none⟩ = some (.int .i64 q)) (first | exact And.imp (Gr.cell (by assumption)) (And.imp (Gr.cell (by assumption)) (And.imp (Gr.cell (by assumption)) (And.imp (Gr.cell (by assumption)) (Gr.cell (by assumption))))) (by assumption) | go_keep) (first
    | (go_at_call 74; refine (short_calls _ _).mono ?_; rintro e w9 ⟨_, _, _, rfl, ho9, hg9⟩; have hb9 := ho9.isB)
    | (go_at_call 23; refine (joined_calls _ [[t % 256, c % 256], sh k, sh j, sh q] _ (isBs_at _ _ [[t % 256, c % 256], sh k, sh j, sh q] _ (Reads.cons (lit2_gr (by repeat (with_reducible first | exact Gr.refl _ | assumption | refine Gr.alloc ?_ _ | refine Gr.drew ?_ | refine Gr.drewN ?_ _ | refine Gr.trans ?_ (by assumption))) (by simp) (by omega) (by omega)) (Reads.cons (IsB.gr (by assumption) (by repeat (with_reducible first | exact Gr.refl _ | assumption | refine Gr.alloc ?_ _ | refine Gr.drew ?_ | refine Gr.drewN ?_ _ | refine Gr.trans ?_ (by assumption)))) (Reads.cons (IsB.gr (by assumption) (by repeat (with_reducible first | exact Gr.refl _ | assumption | refine Gr.alloc ?_ _ | refine Gr.drew ?_ | refine Gr.drewN ?_ _ | refine Gr.trans ?_ (by assumption)))) (Reads.cons (IsB.gr (by assumption) (by repeat (with_reducible first | exact Gr.refl _ | assumption | refine Gr.alloc ?_ _ | refine Gr.drew ?_ | refine Gr.drewN ?_ _ | refine Gr.trans ?_ (by assumption)))) (Reads.nil _))))) _ rfl _ (by simp)) (by simp [sh]) (by simp)).mono ?_; rintro e w9 ⟨_, _, _, rfl, ho9, hg9⟩))
  go_wp2
  all_goals (go_ret; exact RetB.after (by repeat (with_reducible first | exact Gr.refl _ | assumption | refine Gr.alloc ?_ _ | refine Gr.drew ?_ | refine Gr.drewN ?_ _ | refine Gr.trans ?_ (by assumption))) ho9 hg9)

theorem icmp_len (t c k j q : Int) : (icmp t c k j q).length = 8 := by simp [icmp, sh]
theorem icmp_bytes (t c k j q : Int) : AllB (icmp t c k j q) := by
  refine AllB.flat fun x hx => ?_
  simp only [List.mem_cons, List.not_mem_nil, or_false] at hx
  rcases hx with rfl | rfl | rfl | rfl
  · exact two_bytes _ _ (by omega) (by omega)
  all_goals exact sh_bytes _
/-- the checksum of a control message -/
def icmpCk (t c j q : Int) (l : List Int) : Int := cks [icmp t c 0 j q, l].flatten
theorem icmpCk_bd (t c j q : Int) {l : List Int} (h : AllB l) : 0 ≤ icmpCk t c j q l ∧ icmpCk t c j q l ≤ 65535 := by
  refine cks_bd (AllB.flat fun x hx => ?_)
  simp only [List.mem_cons, List.not_mem_nil, or_false] at hx
  rcases hx with rfl | rfl
  · exact icmp_bytes _ _ _ _ _
  · exact h

set_option maxRecDepth 100000 in
set_option maxHeartbeats 2000000 in
theorem wholeICMP_calls (t c k j q : Int) (a2 : Option Addr) (n2 c2 : Nat) (l : List Int) (w : World) (h : IsB w (.slice a2 n2 c2) l) (hl : l.length ≤ 2000) :
    Calls Try.prog 38 #[.agg #[.int .i64 t, .int .i64 c, .int .i64 k, .int .i64 j, .int .i64 q], .slice a2 n2 c2] w fun e w' =>
      e = .returned (.agg #[.int .i64 t, .int .i64 c, .int .i64 (icmpCk t c j q l), .int .i64 j, .int .i64 q]) ∧ Gr w w' := by
  have FA := Lib.hid (heap_gr (World.grownBy_alloc (w.alloc (.cells [.int .i64 t, .int .i64 c, .int .i64 0, .int .i64 j, .int .i64 q].toArray 62)) (.cells [.int .i64 0, .int .i64 0, .int .i64 0, .int .i64 0, .int .i64 0].toArray 62) none) (heap_alloc_new w _))
  have FB := heap_alloc_new (w.alloc (.cells [.int .i64 t, .int .i64 c, .int .i64 0, .int .i64 j, .int .i64 q].toArray 62)) (.cells [.int .i64 0, .int .i64 0, .int .i64 0, .int .i64 0, .int .i64 0].toArray 62)
  rw [World.size_alloc] at FB
  replace FB := Lib.hid FB
  have NE : w.heap.size + 1 ≠ w.heap.size := by omega
  have NE' : w.heap.size ≠ w.heap.size + 1 := by omega
  have Q1 := Lib.hid (show [icmp t c 0 j q, l].flatten.length ≤ 1000000 by simp [icmp_len]; omega)
  obtain ⟨z, hz⟩ : ∃ z, z = icmpCk t c j q l := ⟨_, rfl⟩
  have HZ := Lib.hid hz
  clear hz
  go_enter Try.func38, Try.ntmps38
  go_wp2_with (first
      | (go_at_call 37; refine (icmp_calls _ _ _ _ _ _).mono ?_; rintro e w9 ⟨_, _, _, rfl, ho9, hg9⟩; have hb9 := ho9.isB)
      | (go_at_call 23; refine (joined_calls _ [icmp t c 0 j q, l] _ (isBs_at _ _ [icmp t c 0 j q, l] _ (Reads.cons (IsB.gr (by assumption) (by repeat (with_reducible first | exact Gr.refl _ | assumption | refine Gr.alloc ?_ _ | refine Gr.drew ?_ | refine Gr.drewN ?_ _ | refine Gr.trans ?_ (by assumption)))) (Reads.cons (IsB.gr (by assumption) (by repeat (with_reducible first | exact Gr.refl _ | assumption | refine Gr.alloc ?_ _ | refine Gr.drew ?_ | refine Gr.drewN ?_ _ | refine Gr.trans ?_ (by assumption)))) (Reads.nil _))) _ rfl _ (by simp)) (by have := Q1.out; omega) (by simp)).mono ?_; rintro e w9 ⟨_, _, _, rfl, ho9, hg9⟩; have hb9 := ho9.isB; have hx := two_rows (w' := w9) (A := w.heap.size) (B := w.heap.size + 1) FA.out FB.out (by repeat (with_reducible first | exact Gr.refl _ | assumption | refine Gr.alloc ?_ _ | refine Gr.drew ?_ | refine Gr.drewN ?_ _ | refine Gr.trans ?_ (by assumption))); have hgZ : Gr w w9 := (by repeat (with_reducible first | exact Gr.refl _ | assumption | refine Gr.alloc ?_ _ | refine Gr.drew ?_ | refine Gr.drewN ?_ _ | refine Gr.trans ?_ (by assumption))); obtain ⟨wX, hA, hB, rfl⟩ := hx)
      | (go_at_call 45; refine (checksum_calls _ _ _ (by assumption) (by have := Q1.out; omega)).mono ?_; rintro e w8 ⟨rfl, rfl⟩; rw [← icmpCk.eq_def, ← HZ.out]))
  exact bodyPost_ret (v := .agg #[.int .i64 t, .int .i64 c, .int .i64 z, .int .i64 j, .int .i64 q]) (by simp [results, Try.results38, go_sem, hB]) rfl ⟨by rw [HZ.out], Gr.row2 NE' hgZ (Nat.le_refl _) (Nat.le_succ _)⟩

end Go.Proofs.Ytbojideclbjlgaa
