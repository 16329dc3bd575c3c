/-
  The law FnTCPShort.
-/
import Derived.Test.YtoopkfnkmaaieaaTCPShort
import Derived.Test.YtoopkfnkmaaieaaTCPRead
import Derived.Test.YtoopkfnkmaaieaaTCPSpec
namespace Go.Proofs.Ytoopkfnkmaaieaa
open Go.RowKit

set_option maxRecDepth 100000 in
set_option maxHeartbeats 1000000 in
theorem fits7_calls (s d q a wo fl wi ck ur : Int) (ao : Option Addr) (no co : Nat) (os : List Opt) (w : World) (h0 : IsOpts w (.slice ao no co) os) :
    Calls Try.prog 12 #[.agg #[.int .i64 s, .int .i64 d, .int .i64 q, .int .i64 a, .int .i64 wo, .int .i64 fl, .int .i64 wi, .int .i64 ck, .int .i64 ur, .slice ao no co]] w fun e w' => e = .returned (.bool (fitB os)) ∧ Gr w w' := by
  have h := Lib.hid h0
  clear h0
  obtain ⟨F, hF⟩ : ∃ F, F = fitB os := ⟨_, rfl⟩
  have HF := Lib.hid hF
  rw [← hF]
  clear hF
  go_enter Try.func12, Try.ntmps12
  cases F with
  | false =>
    go_wp2_with (go_at_call 41; refine (fits4_calls _ os _ (h.out.gr (by (repeat (with_reducible first | exact Gr.refl _ | assumption | refine Gr.alloc ?_ _ | refine Gr.drew ?_ | refine Gr.drewN ?_ _ | refine Gr.trans ?_ (by assumption))); done))).mono ?_; rintro e w9 ⟨rfl, hg9⟩; rw [← HF.out])
    go_ret
    exact ⟨rfl, (by (repeat (with_reducible first | exact Gr.refl _ | assumption | refine Gr.alloc ?_ _ | refine Gr.drew ?_ | refine Gr.drewN ?_ _ | refine Gr.trans ?_ (by assumption))); done)⟩
  | true =>
    go_wp2_with (go_at_call 41; refine (fits4_calls _ os _ (h.out.gr (by (repeat (with_reducible first | exact Gr.refl _ | assumption | refine Gr.alloc ?_ _ | refine Gr.drew ?_ | refine Gr.drewN ?_ _ | refine Gr.trans ?_ (by assumption))); done))).mono ?_; rintro e w9 ⟨rfl, hg9⟩; rw [← HF.out])
    go_ret
    exact ⟨rfl, (by (repeat (with_reducible first | exact Gr.refl _ | assumption | refine Gr.alloc ?_ _ | refine Gr.drew ?_ | refine Gr.drewN ?_ _ | refine Gr.trans ?_ (by assumption))); done)⟩

theorem tcp0_len (s d q a fl wi ur : Int) : (tcpB s d q a 5 fl wi 0 ur []).length = 20 := by simp [tcpB, sh, lo, optsB, optsRaw]
theorem tcp0_off (s d q a fl wi ur : Int) (h0 : 0 ≤ fl) (h1 : fl ≤ 511) : bt (tcpB s d q a 5 fl wi 0 ur []) 12 / 16 = 5 := by
  show ((5 * 4096 + fl) / 256 % 256) / 16 = 5
  omega

def shorterT (l : List Int) (k : Int) : Bool := decide (0 ≤ k) && decide (k < (l.length : Int))

set_option maxRecDepth 100000 in
set_option maxHeartbeats 1000000 in
theorem shorterT_calls (a : Option Addr) (n c : Nat) (k : Int) (l : List Int) (w : World) (h : IsB w (.slice a n c) l) :
    Calls Try.prog 22 #[.slice a n c, .int .i64 k] w fun e w' => e = .returned (.bool (shorterT l k)) ∧ Gr w w' := by
  have g0 := fun ty => h.len (P := Try.prog) 25 ty 5 Try.underlying25
  by_cases hc0 : 0 ≤ k
  case neg =>
    have hd0 := decide_eq_false hc0
    go_enter Try.func22, Try.ntmps22
    go_wp2_with (fail)
    go_ret
    exact ⟨by simp [shorterT, hd0], (by (repeat (with_reducible first | exact Gr.refl _ | assumption | refine Gr.alloc ?_ _ | refine Gr.drew ?_ | refine Gr.drewN ?_ _ | refine Gr.trans ?_ (by assumption))); done)⟩
  case pos =>
    have hd0 := decide_eq_true hc0
    by_cases hc1 : k < (l.length : Int)
    case neg =>
      have hd1 := decide_eq_false hc1
      go_enter Try.func22, Try.ntmps22
      go_wp2_with (fail)
      go_ret
      exact ⟨by simp [shorterT, hd0, hd1], (by (repeat (with_reducible first | exact Gr.refl _ | assumption | refine Gr.alloc ?_ _ | refine Gr.drew ?_ | refine Gr.drewN ?_ _ | refine Gr.trans ?_ (by assumption))); done)⟩
    case pos =>
      have hd1 := decide_eq_true hc1
      go_enter Try.func22, Try.ntmps22
      go_wp2_with (fail)
      go_ret
      exact ⟨by simp [shorterT, hd0, hd1], (by (repeat (with_reducible first | exact Gr.refl _ | assumption | refine Gr.alloc ?_ _ | refine Gr.drew ?_ | refine Gr.drewN ?_ _ | refine Gr.trans ?_ (by assumption))); done)⟩

set_option maxRecDepth 100000 in
set_option maxHeartbeats 4000000 in
theorem lawTCPShort0 (s d q a wo fl wi ck ur : Int) (ao : Option Addr) (no co : Nat) (os : List Opt) (k : Int) (w : World) (h0 : IsOpts w (.slice ao no co) os) (hf : fitB os = false) :
    Calls Try.prog 4 #[.agg #[.int .i64 s, .int .i64 d, .int .i64 q, .int .i64 a, .int .i64 wo, .int .i64 fl, .int .i64 wi, .int .i64 ck, .int .i64 ur, .slice ao no co], .int .i64 k] w fun e w' => e = .returned (.bool true) ∧ Gr w w' := by
  have HO := Lib.hid h0
  clear h0
  have HFB := Lib.hid hf
  clear hf
  go_enter Try.func4, Try.ntmps4
  go_wp2_with (first
      | (go_at_call 12; refine (fits7_calls s d q a wo fl wi ck ur ao no co os _ (HO.out.gr (by (repeat (with_reducible first | exact Gr.refl _ | assumption | refine Gr.alloc ?_ _ | refine Gr.drew ?_ | refine Gr.drewN ?_ _ | refine Gr.trans ?_ (by assumption))); done))).mono ?_; rintro e w9 ⟨rfl, hg9⟩; rw [HFB.out]))
  go_ret
  exact ⟨by first | rfl | simp, (by (repeat (with_reducible first | exact Gr.refl _ | assumption | refine Gr.alloc ?_ _ | refine Gr.drew ?_ | refine Gr.drewN ?_ _ | refine Gr.trans ?_ (by assumption))); done)⟩

set_option maxRecDepth 100000 in
set_option maxHeartbeats 4000000 in
theorem lawTCPShort1 (s d q a wo fl wi ck ur : Int) (ao : Option Addr) (no co : Nat) (os : List Opt) (k : Int) (w : World) (h0 : IsOpts w (.slice ao no co) os) (hf : fitB os = true) (hi : isTCP s d q a fl wi ur [] = false) :
    Calls Try.prog 4 #[.agg #[.int .i64 s, .int .i64 d, .int .i64 q, .int .i64 a, .int .i64 wo, .int .i64 fl, .int .i64 wi, .int .i64 ck, .int .i64 ur, .slice ao no co], .int .i64 k] w fun e w' => e = .returned (.bool true) ∧ Gr w w' := by
  have HO := Lib.hid h0
  clear h0
  have HFB := Lib.hid hf
  have HIT := Lib.hid hi
  clear hf hi
  go_enter Try.func4, Try.ntmps4
  go_wp2_with (first
      | (go_at_call 12; refine (fits7_calls s d q a wo fl wi ck ur ao no co os _ (HO.out.gr (by (repeat (with_reducible first | exact Gr.refl _ | assumption | refine Gr.alloc ?_ _ | refine Gr.drew ?_ | refine Gr.drewN ?_ _ | refine Gr.trans ?_ (by assumption))); done))).mono ?_; rintro e w9 ⟨rfl, hg9⟩; rw [HFB.out]; obtain ⟨x9, hx9, rfl⟩ := one_row (heap_alloc_new w (.cells [.int .i64 s, .int .i64 d, .int .i64 q, .int .i64 a, .int .i64 wo, .int .i64 fl, .int .i64 wi, .int .i64 ck, .int .i64 ur, .slice ao no co].toArray 24)) hg9; have gw9 : ∀ cs', Gr w (rowW x9 w.heap.size cs' 24) := fun cs' => Gr.row (cs := [.int .i64 s, .int .i64 d, .int .i64 q, .int .i64 a, .int .i64 wo, .int .i64 fl, .int .i64 wi, .int .i64 ck, .int .i64 ur, .slice ao no co]) (by (repeat (with_reducible first | exact Gr.refl _ | assumption | refine Gr.alloc ?_ _ | refine Gr.drew ?_ | refine Gr.drewN ?_ _ | refine Gr.trans ?_ (by assumption))); done) (Nat.le_refl _); have gwN := gw9 [.int .i64 s, .int .i64 d, .int .i64 q, .int .i64 a, .int .i64 5, .int .i64 fl, .int .i64 wi, .int .i64 0, .int .i64 ur, .slice none 0 0])
      | (go_at_call 13; refine (isTCP_calls s d q a 5 fl wi 0 ur none 0 0 [] _ isOpts_nil (by simp)).mono ?_; rintro e w9 ⟨rfl, hg9⟩; obtain ⟨x9, hx9, rfl⟩ := Gr.rowOut hg9 (by assumption); rw [HIT.out]))
  go_ret
  exact ⟨by first | rfl | simp, (by (repeat (with_reducible first | exact Gr.refl _ | assumption | refine Gr.alloc ?_ _ | refine Gr.drew ?_ | refine Gr.drewN ?_ _ | refine Gr.trans ?_ (by assumption))); done)⟩

set_option maxRecDepth 100000 in
set_option maxHeartbeats 4000000 in
theorem lawTCPShort2 (s d q a wo fl wi ck ur : Int) (ao : Option Addr) (no co : Nat) (os : List Opt) (k : Int) (w : World) (h0 : IsOpts w (.slice ao no co) os) (hf : fitB os = true) (hi : isTCP s d q a fl wi ur [] = true) (hs : shorterT (tcpB s d q a 5 fl wi 0 ur []) k = false) :
    Calls Try.prog 4 #[.agg #[.int .i64 s, .int .i64 d, .int .i64 q, .int .i64 a, .int .i64 wo, .int .i64 fl, .int .i64 wi, .int .i64 ck, .int .i64 ur, .slice ao no co], .int .i64 k] w fun e w' => e = .returned (.bool true) ∧ Gr w w' := by
  have HO := Lib.hid h0
  clear h0
  have HU := hi
  simp only [isTCP, Bool.and_eq_true, upto_iff] at HU
  have XB := Lib.hid (show 0 ≤ fl ∧ fl ≤ 4095 by omega)
  obtain ⟨BY, hBY⟩ : ∃ BY, BY = tcpB s d q a 5 fl wi 0 ur [] := ⟨_, rfl⟩
  rw [← hBY] at hs
  have HBY := Lib.hid hBY
  clear hBY
  have HFB := Lib.hid hf
  have HIT := Lib.hid hi
  have HSH := Lib.hid hs
  clear hf hi hs HU
  go_enter Try.func4, Try.ntmps4
  go_wp2_with (first
      | (go_at_call 12; refine (fits7_calls s d q a wo fl wi ck ur ao no co os _ (HO.out.gr (by (repeat (with_reducible first | exact Gr.refl _ | assumption | refine Gr.alloc ?_ _ | refine Gr.drew ?_ | refine Gr.drewN ?_ _ | refine Gr.trans ?_ (by assumption))); done))).mono ?_; rintro e w9 ⟨rfl, hg9⟩; rw [HFB.out]; obtain ⟨x9, hx9, rfl⟩ := one_row (heap_alloc_new w (.cells [.int .i64 s, .int .i64 d, .int .i64 q, .int .i64 a, .int .i64 wo, .int .i64 fl, .int .i64 wi, .int .i64 ck, .int .i64 ur, .slice ao no co].toArray 24)) hg9; have gw9 : ∀ cs', Gr w (rowW x9 w.heap.size cs' 24) := fun cs' => Gr.row (cs := [.int .i64 s, .int .i64 d, .int .i64 q, .int .i64 a, .int .i64 wo, .int .i64 fl, .int .i64 wi, .int .i64 ck, .int .i64 ur, .slice ao no co]) (by (repeat (with_reducible first | exact Gr.refl _ | assumption | refine Gr.alloc ?_ _ | refine Gr.drew ?_ | refine Gr.drewN ?_ _ | refine Gr.trans ?_ (by assumption))); done) (Nat.le_refl _); have gwN := gw9 [.int .i64 s, .int .i64 d, .int .i64 q, .int .i64 a, .int .i64 5, .int .i64 fl, .int .i64 wi, .int .i64 0, .int .i64 ur, .slice none 0 0])
      | (go_at_call 13; refine (isTCP_calls s d q a 5 fl wi 0 ur none 0 0 [] _ isOpts_nil (by simp)).mono ?_; rintro e w9 ⟨rfl, hg9⟩; obtain ⟨x9, hx9, rfl⟩ := Gr.rowOut hg9 (by assumption); rw [HIT.out])
      | (go_at_call 19; refine (tcpB_calls s d q a 5 fl wi 0 ur none 0 0 [] _ isOpts_nil (by simp [optsRaw]) (by omega) (by omega) XB.out.1 XB.out.2).mono ?_; rintro e w9 ⟨ae, ne, ce, rfl, ho9, hg9⟩; have hb9 := ho9.isB; rw [← HBY.out] at hb9; clear ho9; obtain ⟨x9, hx9, rfl⟩ := Gr.rowOut hg9 (by assumption))
      | (go_at_call 22; refine (shorterT_calls _ _ _ _ BY _ (IsB.gr (by assumption) (by (repeat (with_reducible first | exact Gr.refl _ | assumption | refine Gr.alloc ?_ _ | refine Gr.drew ?_ | refine Gr.drewN ?_ _ | refine Gr.trans ?_ (by assumption))); done))).mono ?_; rintro e w9 ⟨rfl, hg9⟩; obtain ⟨x9, hx9, rfl⟩ := Gr.rowOut hg9 (by assumption); rw [HSH.out]))
  go_ret
  exact ⟨by first | rfl | simp, (by (repeat (with_reducible first | exact Gr.refl _ | assumption | refine Gr.alloc ?_ _ | refine Gr.drew ?_ | refine Gr.drewN ?_ _ | refine Gr.trans ?_ (by assumption))); done)⟩

set_option maxRecDepth 100000 in
set_option maxHeartbeats 4000000 in
theorem lawTCPShort3 (s d q a wo fl wi ck ur : Int) (ao : Option Addr) (no co : Nat) (os : List Opt) (k : Int) (w : World) (h0 : IsOpts w (.slice ao no co) os) (hf : fitB os = true) (hi : isTCP s d q a fl wi ur [] = true) (hs : shorterT (tcpB s d q a 5 fl wi 0 ur []) k = true) :
    Calls Try.prog 4 #[.agg #[.int .i64 s, .int .i64 d, .int .i64 q, .int .i64 a, .int .i64 wo, .int .i64 fl, .int .i64 wi, .int .i64 ck, .int .i64 ur, .slice ao no co], .int .i64 k] w fun e w' => e = .returned (.bool true) ∧ Gr w w' := by
  have HO := Lib.hid h0
  clear h0
  have HU := hi
  simp only [isTCP, Bool.and_eq_true, upto_iff] at HU
  have XB := Lib.hid (show 0 ≤ fl ∧ fl ≤ 4095 by omega)
  have hln := tcp0_len s d q a fl wi ur
  have hof := tcp0_off s d q a fl wi ur (by omega) (by omega)
  have hk := hs
  simp only [shorterT, Bool.and_eq_true, decide_eq_true_eq] at hk
  obtain ⟨BY, hBY⟩ : ∃ BY, BY = tcpB s d q a 5 fl wi 0 ur [] := ⟨_, rfl⟩
  rw [← hBY] at hs
  have HBY := Lib.hid hBY
  clear hBY
  rw [← HBY.out] at hln hof hk
  have XN := Lib.hid (show k = (k.toNat : Int) by omega)
  have XM := Lib.hid (show k.toNat ≤ BY.length by omega)
  have XS := Lib.hid (show (BY.take k.toNat).length < 20 by rw [List.length_take]; omega)
  have XL := Lib.hid (show 20 ≤ BY.length ∧ bt BY 12 / 16 = 5 ∧ BY.length ≤ 1000000 from ⟨by omega, hof, by omega⟩)
  obtain ⟨i, hi0, hz0, hz1, hz2⟩ := info_parts info_u8
  have XI := Lib.hid (And.intro hi0 hz1)
  clear hi0 hz0 hz1 hz2
  have HFB := Lib.hid hf
  have HIT := Lib.hid hi
  have HSH := Lib.hid hs
  clear hf hi hs HU hln hof hk
  go_enter Try.func4, Try.ntmps4
  go_wp2_with (first
      | (go_at_call 12; refine (fits7_calls s d q a wo fl wi ck ur ao no co os _ (HO.out.gr (by (repeat (with_reducible first | exact Gr.refl _ | assumption | refine Gr.alloc ?_ _ | refine Gr.drew ?_ | refine Gr.drewN ?_ _ | refine Gr.trans ?_ (by assumption))); done))).mono ?_; rintro e w9 ⟨rfl, hg9⟩; rw [HFB.out]; obtain ⟨x9, hx9, rfl⟩ := one_row (heap_alloc_new w (.cells [.int .i64 s, .int .i64 d, .int .i64 q, .int .i64 a, .int .i64 wo, .int .i64 fl, .int .i64 wi, .int .i64 ck, .int .i64 ur, .slice ao no co].toArray 24)) hg9; have gw9 : ∀ cs', Gr w (rowW x9 w.heap.size cs' 24) := fun cs' => Gr.row (cs := [.int .i64 s, .int .i64 d, .int .i64 q, .int .i64 a, .int .i64 wo, .int .i64 fl, .int .i64 wi, .int .i64 ck, .int .i64 ur, .slice ao no co]) (by (repeat (with_reducible first | exact Gr.refl _ | assumption | refine Gr.alloc ?_ _ | refine Gr.drew ?_ | refine Gr.drewN ?_ _ | refine Gr.trans ?_ (by assumption))); done) (Nat.le_refl _); have gwN := gw9 [.int .i64 s, .int .i64 d, .int .i64 q, .int .i64 a, .int .i64 5, .int .i64 fl, .int .i64 wi, .int .i64 0, .int .i64 ur, .slice none 0 0])
      | (go_at_call 13; refine (isTCP_calls s d q a 5 fl wi 0 ur none 0 0 [] _ isOpts_nil (by simp)).mono ?_; rintro e w9 ⟨rfl, hg9⟩; obtain ⟨x9, hx9, rfl⟩ := Gr.rowOut hg9 (by assumption); rw [HIT.out])
      | (go_at_call 19; refine (tcpB_calls s d q a 5 fl wi 0 ur none 0 0 [] _ isOpts_nil (by simp [optsRaw]) (by omega) (by omega) XB.out.1 XB.out.2).mono ?_; rintro e w9 ⟨ae, ne, ce, rfl, ho9, hg9⟩; have hb9 := ho9.isB; rw [← HBY.out] at hb9; clear ho9; obtain ⟨ak, nk, ck', hvs, -, hcut⟩ := hb9.cutH (P := Try.prog) 25 5 i Try.underlying25 XI.out.1 XI.out.2 k k.toNat XN.out XM.out; obtain ⟨x9, hx9, rfl⟩ := Gr.rowOut hg9 (by assumption))
      | (go_at_call 22; refine (shorterT_calls _ _ _ _ BY _ (IsB.gr (by assumption) (by (repeat (with_reducible first | exact Gr.refl _ | assumption | refine Gr.alloc ?_ _ | refine Gr.drew ?_ | refine Gr.drewN ?_ _ | refine Gr.trans ?_ (by assumption))); done))).mono ?_; rintro e w9 ⟨rfl, hg9⟩; obtain ⟨x9, hx9, rfl⟩ := Gr.rowOut hg9 (by assumption); rw [HSH.out])
      | (go_at_call_of 17 (Value.slice ak nk ck'); refine (tcpReadShort_calls _ _ _ (IsB.gr (by assumption) (by (repeat (with_reducible first | exact Gr.refl _ | assumption | refine Gr.alloc ?_ _ | refine Gr.drew ?_ | refine Gr.drewN ?_ _ | refine Gr.trans ?_ (by assumption))); done)) XS.out).mono ?_; rintro e w9 ⟨rfl, hg9⟩; obtain ⟨x9, hx9, rfl⟩ := Gr.rowOut hg9 (by assumption))
      | (go_at_call_of 17 (Value.slice ae ne ce); refine (tcpRead_calls _ _ _ (IsB.gr (by assumption) (by (repeat (with_reducible first | exact Gr.refl _ | assumption | refine Gr.alloc ?_ _ | refine Gr.drew ?_ | refine Gr.drewN ?_ _ | refine Gr.trans ?_ (by assumption))); done)) XL.out.1 XL.out.2.1 XL.out.2.2).mono ?_; rintro e w9 ⟨_, _, _, rfl, hbp, hg9⟩))
  go_ret
  exact ⟨by first | rfl | simp, (by (repeat (with_reducible first | exact Gr.refl _ | assumption | refine Gr.alloc ?_ _ | refine Gr.drew ?_ | refine Gr.drewN ?_ _ | refine Gr.trans ?_ (by assumption))); done)⟩

theorem lawTCPShort_calls (s d q a wo fl wi ck ur : Int) (ao : Option Addr) (no co : Nat) (os : List Opt) (k : Int) (w : World) (h0 : IsOpts w (.slice ao no co) os) :
    Calls Try.prog 4 #[.agg #[.int .i64 s, .int .i64 d, .int .i64 q, .int .i64 a, .int .i64 wo, .int .i64 fl, .int .i64 wi, .int .i64 ck, .int .i64 ur, .slice ao no co], .int .i64 k] w fun e w' => e = .returned (.bool true) ∧ Gr w w' := by
  cases hf : fitB os with
  | false => exact lawTCPShort0 s d q a wo fl wi ck ur ao no co os k w h0 hf
  | true =>
    cases hi : isTCP s d q a fl wi ur [] with
    | false => exact lawTCPShort1 s d q a wo fl wi ck ur ao no co os k w h0 hf hi
    | true =>
      cases hs : shorterT (tcpB s d q a 5 fl wi 0 ur []) k with
      | false => exact lawTCPShort2 s d q a wo fl wi ck ur ao no co os k w h0 hf hi hs
      | true => exact lawTCPShort3 s d q a wo fl wi ck ur ao no co os k w h0 hf hi hs

end Go.Proofs.Ytoopkfnkmaaieaa
