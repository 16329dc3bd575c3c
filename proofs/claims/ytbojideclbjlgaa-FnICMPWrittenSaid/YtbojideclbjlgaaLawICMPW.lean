/-
  The law FnICMPWritten.
-/
import Derived.Test.YtbojideclbjlgaaICMPSer
namespace Go.Proofs.Ytbojideclbjlgaa
open Go.RowKit

theorem icmp_eq (t c K j q : Int) (hc : 0 ≤ c ∧ c ≤ 255) : icmpH (t * 256 + c) K j q = icmp t c K j q := by
  have e1 : (t * 256 + c) / 256 % 256 = t % 256 := by omega
  have e2 : (t * 256 + c) % 256 = c % 256 := by omega
  unfold icmpH
  rw [e1, e2]
  rfl
theorem icmpK_eq (t c j q : Int) (l : List Int) (hb : AllB l) (hc : 0 ≤ c ∧ c ≤ 255) : icmpK (t * 256 + c) j q l = icmpCk t c j q l := by
  unfold icmpK icmpCk
  rw [icmp_eq t c 0 j q hc, cks_fd (AllB.flat (by intro x hx; simp only [List.mem_cons, List.not_mem_nil, or_false] at hx; rcases hx with rfl | rfl; exact icmp_bytes _ _ _ _ _; exact hb)), Int.zero_add]
  simp

set_option maxRecDepth 100000 in
set_option maxHeartbeats 2000000 in
theorem icmpWritten_calls (t c k j q : Int) (a2 : Option Addr) (n2 c2 : Nat) (l : List Int) (w : World) (h : IsB w (.slice a2 n2 c2) l) (hl : l.length ≤ 2000) (ht : 0 ≤ t ∧ t ≤ 255) (hc : 0 ≤ c ∧ c ≤ 255) (hj : 0 ≤ j ∧ j ≤ 65535) (hq : 0 ≤ q ∧ q ≤ 65535) :
    Calls Try.prog 36 #[.agg #[.int .i64 t, .int .i64 c, .int .i64 k, .int .i64 j, .int .i64 q], .slice a2 n2 c2] w fun e w' => ∃ f9 g9 j9, e = .returned (.tuple #[.slice f9 g9 j9, .bool true]) ∧ IsB w' (.slice f9 g9 j9) (icmp t c (icmpCk t c j q l) j q ++ l) ∧ Gr w w' := by
  have y0 : IntKind.u8.wrap t = t := by simp [IntKind.wrap, IntKind.bits, IntKind.signed]; omega
  have y1 : IntKind.u8.wrap c = c := by simp [IntKind.wrap, IntKind.bits, IntKind.signed]; omega
  have y2 : IntKind.u16.wrap j = j := by simp [IntKind.wrap, IntKind.bits, IntKind.signed]; omega
  have y3 : IntKind.u16.wrap q = q := by simp [IntKind.wrap, IntKind.bits, IntKind.signed]; omega
  have HL : (icmp t c (icmpCk t c j q l) j q).length ≤ 200 := by rw [icmp_len]; decide
  have HE := Lib.hid (show icmpH (t * 256 + c) (icmpK (t * 256 + c) j q l) j q = icmp t c (icmpCk t c j q l) j q by rw [icmp_eq t c _ j q hc, icmpK_eq t c j q l h.bytes hc])
  have HH := Lib.hid h
  clear h
  go_enter Try.func36, Try.ntmps36
  go_wp2_with fail
  go_region_held3 (fun w' => w'.cell? ⟨w.heap.size, 0, none⟩ = some (.int .i64 t) ∧ w'.cell? ⟨w.heap.size, 1, none⟩ = some (.int .i64 c) ∧ w'.cell? ⟨w.heap.size, 3, none⟩ = some (.int .i64 j) ∧ w'.cell? ⟨w.heap.size, 4, none⟩ = some (.int .i64 q)) (first | exact ⟨hc9 0, hc9 1, hc9 3, hc9 4⟩ | exact And.imp (Gr.cell (by assumption)) (And.imp (Gr.cell (by assumption)) (And.imp (Gr.cell (by assumption)) (Gr.cell (by assumption)))) (by assumption) | exact And.imp (Gr.cell ((Gr.refl _).alloc _)) (And.imp (Gr.cell ((Gr.refl _).alloc _)) (And.imp (Gr.cell ((Gr.refl _).alloc _)) (Gr.cell ((Gr.refl _).alloc _)))) (by assumption) | go_keep) (first
      | (go_at_call 78; refine (create_calls t c _ ht hc).mono ?_; rintro e w9 ⟨rfl, hg8⟩; obtain ⟨hs9, hc9⟩ := Gr.boxed (w := w) (cs := [.int .i64 t, .int .i64 c, .int .i64 k, .int .i64 j, .int .i64 q]) (t := 62) (w' := w9) (by (repeat (with_reducible first | exact Gr.refl _ | assumption | refine Gr.alloc ?_ _ | refine Gr.drew ?_ | refine Gr.drewN ?_ _ | refine Gr.trans ?_ (by assumption))); done); have hgX : Gr w w9 := (by (repeat (with_reducible first | exact Gr.refl _ | assumption | refine Gr.alloc ?_ _ | refine Gr.drew ?_ | refine Gr.drewN ?_ _ | refine Gr.trans ?_ (by assumption))); done)))
  have hs8 := hgX.size
  go_wp2_with (first
      | (go_at_call 67; refine (carried_calls a2 n2 c2 l _ (HH.out.gr (by (repeat (with_reducible first | exact Gr.refl _ | assumption | refine Gr.alloc ?_ _ | refine Gr.drew ?_ | refine Gr.drewN ?_ _ | refine Gr.trans ?_ (by assumption))); done)) hl).mono ?_; rintro e w1 ⟨P, rfl, hg1, hC⟩; have HC := Lib.hid hC; clear hC; have hPV : w9.heap.size ≠ P := (by obtain ⟨_, h1, -⟩ := HC.out; simp only [World.size_alloc] at h1; omega))
      | (go_at_call 70; refine (whole_calls _).mono ?_; rintro e w2 ⟨rfl, hg2⟩; have HQ := Lib.hid (heap_gr (w := World.alloc w9 (.cells [.slice none 0 0, .slice none 0 0, .int .u16 (t * 256 + c), .int .u16 0, .int .u16 j, .int .u16 q].toArray 150)) (w' := w2) (by (repeat (with_reducible first | exact Gr.refl _ | assumption | refine Gr.alloc ?_ _ | refine Gr.drew ?_ | refine Gr.drewN ?_ _ | refine Gr.trans ?_ (by assumption))); done) (heap_alloc_new w9 (.cells [.slice none 0 0, .slice none 0 0, .int .u16 (t * 256 + c), .int .u16 0, .int .u16 j, .int .u16 q].toArray 150))); have hGw : Gr w w2 := (by (repeat (with_reducible first | exact Gr.refl _ | assumption | refine Gr.alloc ?_ _ | refine Gr.drew ?_ | refine Gr.drewN ?_ _ | refine Gr.trans ?_ (by assumption))); done); have HC2 := Lib.hid ((HC.out.to (C := w.heap.size) (by simp only [World.size_alloc]; omega)).gr (w' := w2) (by (repeat (with_reducible first | exact Gr.refl _ | assumption | refine Gr.alloc ?_ _ | refine Gr.drew ?_ | refine Gr.drewN ?_ _ | refine Gr.trans ?_ (by assumption))); done)))
      | (go_at_call 79; refine (icmpSer_calls w9.heap.size P (t * 256 + c) j q w.heap.size l _ HQ.out HC2.out hPV hs8 hGw.size hl).mono ?_; rintro e w3 ⟨rfl, hb3, a', n', pp, qq, ly, hP3, hB3⟩; rw [HE.out] at hB3; have HP3 := Lib.hid hP3; clear hP3; have hG3 : Gr w w3 := gr_of_below (hGw.below.trans hb3))
      | (go_at_call 68; refine (written_calls P a' n' n' pp qq ly _ _ HP3.out hB3 (by rw [List.length_append]; have : (icmp t c (icmpCk t c j q l) j q).length ≤ 200 := HL; omega)).mono ?_; rintro e w4 ⟨f9, g9, j9, rfl, hb4, hg4⟩; have hG4 : Gr w w4 := hG3.trans hg4))
  exact bodyPost_ret (v := .tuple #[.slice f9 g9 j9, .bool true]) (by simp [results, Try.results36, go_sem]) rfl ⟨_, _, _, rfl, hb4, hG4⟩

set_option maxRecDepth 100000 in
set_option maxHeartbeats 2000000 in
theorem lawICMPWritten_calls (t c k j q : Int) (a2 : Option Addr) (n2 c2 : Nat) (l : List Int) (w : World) (h : IsB w (.slice a2 n2 c2) l) :
    Calls Try.prog 9 #[.agg #[.int .i64 t, .int .i64 c, .int .i64 k, .int .i64 j, .int .i64 q], .slice a2 n2 c2] w fun e w' => e = .returned (.bool true) ∧ Gr w w' := by
  have g0 := fun ty => h.len (P := Try.prog) 22 ty 5 Try.underlying22
  by_cases hc0 : (l.length : Int) ≤ 2147483647
  case neg =>
    have hd0 := decide_eq_false hc0
    go_enter Try.func9, Try.ntmps9
    go_wp2_with (first
      | (go_at_call 35; refine (isICMP_calls _ _ _ _ _ _).mono ?_; rintro e w9 ⟨rfl, hg9⟩; obtain ⟨hs9, hc9⟩ := Gr.boxed (w := w) (cs := [.int .i64 t, .int .i64 c, .int .i64 k, .int .i64 j, .int .i64 q]) (t := 62) (w' := w9) (by (repeat (with_reducible first | exact Gr.refl _ | assumption | refine Gr.alloc ?_ _ | refine Gr.drew ?_ | refine Gr.drewN ?_ _ | refine Gr.trans ?_ (by assumption))); done))
      | (go_at_call 21; refine (isPayload_calls _ l _ (IsB.gr (by assumption) (by (repeat (with_reducible first | exact Gr.refl _ | assumption | refine Gr.alloc ?_ _ | refine Gr.drew ?_ | refine Gr.drewN ?_ _ | refine Gr.trans ?_ (by assumption))); done))).mono ?_; rintro e w9 ⟨rfl, rfl⟩))
    go_ret
    exact ⟨rfl, (by (repeat (with_reducible first | exact Gr.refl _ | assumption | refine Gr.alloc ?_ _ | refine Gr.drew ?_ | refine Gr.drewN ?_ _ | refine Gr.trans ?_ (by assumption))); done)⟩
  case pos =>
    cases hc1 : (isICMP t c j q : Bool) with
    | false =>
      go_enter Try.func9, Try.ntmps9
      go_wp2_with (first
      | (go_at_call 35; refine (isICMP_calls _ _ _ _ _ _).mono ?_; rintro e w9 ⟨rfl, hg9⟩; obtain ⟨hs9, hc9⟩ := Gr.boxed (w := w) (cs := [.int .i64 t, .int .i64 c, .int .i64 k, .int .i64 j, .int .i64 q]) (t := 62) (w' := w9) (by (repeat (with_reducible first | exact Gr.refl _ | assumption | refine Gr.alloc ?_ _ | refine Gr.drew ?_ | refine Gr.drewN ?_ _ | refine Gr.trans ?_ (by assumption))); done))
      | (go_at_call 21; refine (isPayload_calls _ l _ (IsB.gr (by assumption) (by (repeat (with_reducible first | exact Gr.refl _ | assumption | refine Gr.alloc ?_ _ | refine Gr.drew ?_ | refine Gr.drewN ?_ _ | refine Gr.trans ?_ (by assumption))); done))).mono ?_; rintro e w9 ⟨rfl, rfl⟩))
      go_ret
      exact ⟨rfl, (by (repeat (with_reducible first | exact Gr.refl _ | assumption | refine Gr.alloc ?_ _ | refine Gr.drew ?_ | refine Gr.drewN ?_ _ | refine Gr.trans ?_ (by assumption))); done)⟩
    | true =>
      cases hc2 : (isPay l : Bool) with
      | false =>
        go_enter Try.func9, Try.ntmps9
        go_wp2_with (first
      | (go_at_call 35; refine (isICMP_calls _ _ _ _ _ _).mono ?_; rintro e w9 ⟨rfl, hg9⟩; obtain ⟨hs9, hc9⟩ := Gr.boxed (w := w) (cs := [.int .i64 t, .int .i64 c, .int .i64 k, .int .i64 j, .int .i64 q]) (t := 62) (w' := w9) (by (repeat (with_reducible first | exact Gr.refl _ | assumption | refine Gr.alloc ?_ _ | refine Gr.drew ?_ | refine Gr.drewN ?_ _ | refine Gr.trans ?_ (by assumption))); done))
      | (go_at_call 21; refine (isPayload_calls _ l _ (IsB.gr (by assumption) (by (repeat (with_reducible first | exact Gr.refl _ | assumption | refine Gr.alloc ?_ _ | refine Gr.drew ?_ | refine Gr.drewN ?_ _ | refine Gr.trans ?_ (by assumption))); done))).mono ?_; rintro e w9 ⟨rfl, rfl⟩))
        go_ret
        exact ⟨rfl, (by (repeat (with_reducible first | exact Gr.refl _ | assumption | refine Gr.alloc ?_ _ | refine Gr.drew ?_ | refine Gr.drewN ?_ _ | refine Gr.trans ?_ (by assumption))); done)⟩
      | true =>
        have HU := hc1
        simp only [isICMP, Bool.and_eq_true, upto_iff] at HU
        have XH := Lib.hid HU
        clear HU
        have hl2 := isPay_iff.1 hc2
        have X0 := Lib.hid hl2
        obtain ⟨S, hS⟩ : ∃ S, S = icmpCk t c j q l := ⟨_, rfl⟩
        have HS := Lib.hid hS
        clear hS
        have hln := icmp_len t c S j q
        have XL := Lib.hid (show [icmp t c S j q, l].flatten.length ≤ 70368744177664 by simp only [List.flatten_cons, List.flatten_nil, List.append_nil, List.length_append, hln]; omega)
        clear hln
        go_enter Try.func9, Try.ntmps9
        go_wp2_with (first
      | (go_at_call 35; refine (isICMP_calls _ _ _ _ _ _).mono ?_; rintro e w9 ⟨rfl, hg9⟩; obtain ⟨hs9, hc9⟩ := Gr.boxed (w := w) (cs := [.int .i64 t, .int .i64 c, .int .i64 k, .int .i64 j, .int .i64 q]) (t := 62) (w' := w9) (by (repeat (with_reducible first | exact Gr.refl _ | assumption | refine Gr.alloc ?_ _ | refine Gr.drew ?_ | refine Gr.drewN ?_ _ | refine Gr.trans ?_ (by assumption))); done))
      | (go_at_call 21; refine (isPayload_calls _ l _ (IsB.gr (by assumption) (by (repeat (with_reducible first | exact Gr.refl _ | assumption | refine Gr.alloc ?_ _ | refine Gr.drew ?_ | refine Gr.drewN ?_ _ | refine Gr.trans ?_ (by assumption))); done))).mono ?_; rintro e w9 ⟨rfl, rfl⟩)
      | (go_at_call 36; refine (icmpWritten_calls t c k j q _ _ _ l _ (IsB.gr (by assumption) (by (repeat (with_reducible first | exact Gr.refl _ | assumption | refine Gr.alloc ?_ _ | refine Gr.drew ?_ | refine Gr.drewN ?_ _ | refine Gr.trans ?_ (by assumption))); done)) (by omega) XH.out.1.1.1 XH.out.1.1.2 XH.out.1.2 XH.out.2).mono ?_; rintro e w9 ⟨_, _, _, rfl, hbW, hg9⟩; rw [← HS.out] at hbW; obtain ⟨hs9, hc9⟩ := Gr.boxed (w := w) (cs := [.int .i64 t, .int .i64 c, .int .i64 k, .int .i64 j, .int .i64 q]) (t := 62) (w' := w9) (by (repeat (with_reducible first | exact Gr.refl _ | assumption | refine Gr.alloc ?_ _ | refine Gr.drew ?_ | refine Gr.drewN ?_ _ | refine Gr.trans ?_ (by assumption))); done))
      | (go_at_call 38; refine (wholeICMP_calls _ _ _ _ _ _ _ _ l _ (IsB.gr (by assumption) (by (repeat (with_reducible first | exact Gr.refl _ | assumption | refine Gr.alloc ?_ _ | refine Gr.drew ?_ | refine Gr.drewN ?_ _ | refine Gr.trans ?_ (by assumption))); done)) X0.out).mono ?_; rintro e wU ⟨rfl, hgU⟩; rw [← HS.out]; obtain ⟨hs9, hc9⟩ := Gr.boxed (w := w) (cs := [.int .i64 t, .int .i64 c, .int .i64 k, .int .i64 j, .int .i64 q]) (t := 62) (w' := wU) (by (repeat (with_reducible first | exact Gr.refl _ | assumption | refine Gr.alloc ?_ _ | refine Gr.drew ?_ | refine Gr.drewN ?_ _ | refine Gr.trans ?_ (by assumption))); done))
      | (go_at_call 37; refine (icmp_calls _ _ _ _ _ _).mono ?_; rintro e w9 ⟨_, _, _, rfl, ho9, hg9⟩; have hb9 := ho9.isB; obtain ⟨hs9, hc9⟩ := Gr.boxed (w := w) (cs := [.int .i64 t, .int .i64 c, .int .i64 k, .int .i64 j, .int .i64 q]) (t := 62) (w' := w9) (by (repeat (with_reducible first | exact Gr.refl _ | assumption | refine Gr.alloc ?_ _ | refine Gr.drew ?_ | refine Gr.drewN ?_ _ | refine Gr.trans ?_ (by assumption))); done))
      | (go_at_call 23; refine (joined_calls _ [icmp t c S j q, l] _ (isBs_at _ _ [icmp t c S j q, l] _ (Reads.cons (IsB.gr (by assumption) (by (repeat (with_reducible first | exact Gr.refl _ | assumption | refine Gr.alloc ?_ _ | refine Gr.drew ?_ | refine Gr.drewN ?_ _ | refine Gr.trans ?_ (by assumption))); done)) (Reads.cons (IsB.gr (by assumption) (by (repeat (with_reducible first | exact Gr.refl _ | assumption | refine Gr.alloc ?_ _ | refine Gr.drew ?_ | refine Gr.drewN ?_ _ | refine Gr.trans ?_ (by assumption))); done)) (Reads.nil _))) _ rfl _ (by simp)) XL.out (by simp)).mono ?_; rintro e w9 ⟨_, _, _, rfl, ho9, hg9⟩; have hb9 := ho9.isB; obtain ⟨hs9, hc9⟩ := Gr.boxed (w := w) (cs := [.int .i64 t, .int .i64 c, .int .i64 k, .int .i64 j, .int .i64 q]) (t := 62) (w' := w9) (by (repeat (with_reducible first | exact Gr.refl _ | assumption | refine Gr.alloc ?_ _ | refine Gr.drew ?_ | refine Gr.drewN ?_ _ | refine Gr.trans ?_ (by assumption))); done))
      | (go_at_call 16; refine (same_calls _ _ _ _ _ (IsB.gr (by assumption) (by (repeat (with_reducible first | exact Gr.refl _ | assumption | refine Gr.alloc ?_ _ | refine Gr.drew ?_ | refine Gr.drewN ?_ _ | refine Gr.trans ?_ (by assumption))); done)) (IsB.gr (by assumption) (by (repeat (with_reducible first | exact Gr.refl _ | assumption | refine Gr.alloc ?_ _ | refine Gr.drew ?_ | refine Gr.drewN ?_ _ | refine Gr.trans ?_ (by assumption))); done))).mono ?_; rintro e w9 ⟨rfl, rfl⟩))
        go_ret
        exact ⟨by simp, (by (repeat (with_reducible first | exact Gr.refl _ | assumption | refine Gr.alloc ?_ _ | refine Gr.drew ?_ | refine Gr.drewN ?_ _ | refine Gr.trans ?_ (by assumption))); done)⟩

end Go.Proofs.Ytbojideclbjlgaa
