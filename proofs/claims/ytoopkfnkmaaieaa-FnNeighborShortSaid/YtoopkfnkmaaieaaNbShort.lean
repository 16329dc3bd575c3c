/-
  Fewer bytes than a message of the discovery of neighbors has.
-/
import Derived.Test.YtoopkfnkmaaieaaNbDec
namespace Go.Proofs.Ytoopkfnkmaaieaa
open Go.RowKit

set_option maxRecDepth 100000 in
set_option maxHeartbeats 1000000 in
theorem decSRS_calls (p : Value) (v : Value) (l : List Int) (w : World) (h : IsB w v l) (hl : l.length < 4) :
    Calls Try.prog 64 #[p, v, .iface 156 (.agg #[])] w fun e w' => (∃ a, e = .returned (.iface 174 (.pointer (some a)))) ∧ Gr w w' := by
  have hlen := fun ty => h.len (P := Try.prog) 25 ty 5 Try.underlying25
  have hmt := trunc_method
  go_enter Try.func64, Try.ntmps64
  go_wp2_with (first | (go_at_call 115; refine (trunc_calls _).mono ?_; rintro e w1 ⟨rfl, hg⟩) | (go_at_call 72; refine (errNew_calls _ _).mono ?_; rintro e w1 ⟨⟨a, rfl⟩, hg⟩))
  go_ret
  exact ⟨⟨_, rfl⟩, (by (repeat (with_reducible first | exact Gr.refl _ | assumption | refine Gr.alloc ?_ _ | refine Gr.drew ?_ | refine Gr.drewN ?_ _ | refine Gr.trans ?_ (by assumption))); done)⟩

set_option linter.unusedSimpArgs false in
set_option maxRecDepth 100000 in
set_option maxHeartbeats 2000000 in
theorem readSRS_calls (v : Value) (l : List Int) (w : World) (h : IsB w v l) (hl : l.length < 4) :
    Calls Try.prog 38 #[.int .i64 133, v] w fun e w' => e = .returned (.tuple #[.agg #[.int .i64 0, .int .i64 0, .int .i64 0, .int .i64 0, .int .i64 0, .int .i64 0, .slice none 0 0, .slice none 0 0, .slice none 0 0], .bool false]) ∧ Gr w w' := by
  have H := Lib.hid h
  clear h
  go_enter Try.func38, Try.ntmps38
  go_wp2_with (go_at_call 49; refine (nilFeedback_calls _).mono ?_; rintro e wN ⟨rfl, rfl⟩)
  refine (copied_calls _ l _ ?_ (by omega)).mono ?_
  · exact H.out.gr ((((Gr.refl w).alloc _).alloc _).alloc _)
  rintro e w1 ⟨a0, n0, m0, rfl, hoA, hgA⟩
  go_wp2_with fail
  have HR := Lib.hid (HasRow.gr hgA (HasRow.gr ((Gr.refl _).alloc (.cells #[.slice none 0 0, .slice none 0 0, .slice none 0 0] 136)) (HasRow.gr ((Gr.refl _).alloc (.cells #[.int .i64 133, .int .i64 0, .int .i64 0, .int .i64 0, .int .i64 0, .int .i64 0, .slice none 0 0, .slice none 0 0, .slice none 0 0] 60)) (HasRow.new w [.int .i64 0, .int .i64 0, .int .i64 0, .int .i64 0, .int .i64 0, .int .i64 0, .slice none 0 0, .slice none 0 0, .slice none 0 0] 60 9 rfl))))
  have GA := Lib.hid (((((Gr.refl w).alloc _).alloc _).alloc _).trans hgA)
  clear hgA
  refine (decSRS_calls _ _ l w1 hoA.isB hl).mono ?_
  rintro e w2 ⟨⟨a, rfl⟩, hgB⟩
  obtain ⟨w3, rs, hrs, hRs, rfl⟩ := (HasRow.gr hgB HR.out).w0
  obtain ⟨r0, r1, r2, r3, r4, r5, r6, r7, r8, rfl⟩ := len9 hrs
  have hG : Gr w _ := GA.out.trans hgB
  clear hgB hoA
  go_wp2_with fail
  exact bodyPost_ret (v := .tuple #[.agg #[.int .i64 0, .int .i64 0, .int .i64 0, .int .i64 0, .int .i64 0, .int .i64 0, .slice none 0 0, .slice none 0 0, .slice none 0 0], .bool false]) (by simp [results, Try.results38, go_sem, hRs]) rfl ⟨rfl, Gr.row hG (Nat.le_refl _)⟩

set_option maxRecDepth 100000 in
set_option maxHeartbeats 1000000 in
theorem decSRA_calls (p : Value) (v : Value) (l : List Int) (w : World) (h : IsB w v l) (hl : l.length < 12) :
    Calls Try.prog 66 #[p, v, .iface 156 (.agg #[])] w fun e w' => (∃ a, e = .returned (.iface 174 (.pointer (some a)))) ∧ Gr w w' := by
  have hlen := fun ty => h.len (P := Try.prog) 25 ty 5 Try.underlying25
  have hmt := trunc_method
  go_enter Try.func66, Try.ntmps66
  go_wp2_with (first | (go_at_call 115; refine (trunc_calls _).mono ?_; rintro e w1 ⟨rfl, hg⟩) | (go_at_call 72; refine (errNew_calls _ _).mono ?_; rintro e w1 ⟨⟨a, rfl⟩, hg⟩))
  go_ret
  exact ⟨⟨_, rfl⟩, (by (repeat (with_reducible first | exact Gr.refl _ | assumption | refine Gr.alloc ?_ _ | refine Gr.drew ?_ | refine Gr.drewN ?_ _ | refine Gr.trans ?_ (by assumption))); done)⟩

set_option linter.unusedSimpArgs false in
set_option maxRecDepth 100000 in
set_option maxHeartbeats 2000000 in
theorem readSRA_calls (v : Value) (l : List Int) (w : World) (h : IsB w v l) (hl : l.length < 12) :
    Calls Try.prog 38 #[.int .i64 134, v] w fun e w' => e = .returned (.tuple #[.agg #[.int .i64 0, .int .i64 0, .int .i64 0, .int .i64 0, .int .i64 0, .int .i64 0, .slice none 0 0, .slice none 0 0, .slice none 0 0], .bool false]) ∧ Gr w w' := by
  have H := Lib.hid h
  clear h
  go_enter Try.func38, Try.ntmps38
  go_wp2_with (go_at_call 49; refine (nilFeedback_calls _).mono ?_; rintro e wN ⟨rfl, rfl⟩)
  refine (copied_calls _ l _ ?_ (by omega)).mono ?_
  · exact H.out.gr ((((Gr.refl w).alloc _).alloc _).alloc _)
  rintro e w1 ⟨a0, n0, m0, rfl, hoA, hgA⟩
  go_wp2_with fail
  have HR := Lib.hid (HasRow.gr hgA (HasRow.gr ((Gr.refl _).alloc (.cells #[.slice none 0 0, .slice none 0 0, .int .u8 0, .int .u8 0, .int .u16 0, .int .u32 0, .int .u32 0, .slice none 0 0] 140)) (HasRow.gr ((Gr.refl _).alloc (.cells #[.int .i64 134, .int .i64 0, .int .i64 0, .int .i64 0, .int .i64 0, .int .i64 0, .slice none 0 0, .slice none 0 0, .slice none 0 0] 60)) (HasRow.new w [.int .i64 0, .int .i64 0, .int .i64 0, .int .i64 0, .int .i64 0, .int .i64 0, .slice none 0 0, .slice none 0 0, .slice none 0 0] 60 9 rfl))))
  have GA := Lib.hid (((((Gr.refl w).alloc _).alloc _).alloc _).trans hgA)
  clear hgA
  refine (decSRA_calls _ _ l w1 hoA.isB hl).mono ?_
  rintro e w2 ⟨⟨a, rfl⟩, hgB⟩
  obtain ⟨w3, rs, hrs, hRs, rfl⟩ := (HasRow.gr hgB HR.out).w0
  obtain ⟨r0, r1, r2, r3, r4, r5, r6, r7, r8, rfl⟩ := len9 hrs
  have hG : Gr w _ := GA.out.trans hgB
  clear hgB hoA
  go_wp2_with fail
  exact bodyPost_ret (v := .tuple #[.agg #[.int .i64 0, .int .i64 0, .int .i64 0, .int .i64 0, .int .i64 0, .int .i64 0, .slice none 0 0, .slice none 0 0, .slice none 0 0], .bool false]) (by simp [results, Try.results38, go_sem, hRs]) rfl ⟨rfl, Gr.row hG (Nat.le_refl _)⟩

set_option maxRecDepth 100000 in
set_option maxHeartbeats 1000000 in
theorem decSNS_calls (p : Value) (v : Value) (l : List Int) (w : World) (h : IsB w v l) (hl : l.length < 20) :
    Calls Try.prog 67 #[p, v, .iface 156 (.agg #[])] w fun e w' => (∃ a, e = .returned (.iface 174 (.pointer (some a)))) ∧ Gr w w' := by
  have hlen := fun ty => h.len (P := Try.prog) 25 ty 5 Try.underlying25
  have hmt := trunc_method
  go_enter Try.func67, Try.ntmps67
  go_wp2_with (first | (go_at_call 115; refine (trunc_calls _).mono ?_; rintro e w1 ⟨rfl, hg⟩) | (go_at_call 72; refine (errNew_calls _ _).mono ?_; rintro e w1 ⟨⟨a, rfl⟩, hg⟩))
  go_ret
  exact ⟨⟨_, rfl⟩, (by (repeat (with_reducible first | exact Gr.refl _ | assumption | refine Gr.alloc ?_ _ | refine Gr.drew ?_ | refine Gr.drewN ?_ _ | refine Gr.trans ?_ (by assumption))); done)⟩

set_option linter.unusedSimpArgs false in
set_option maxRecDepth 100000 in
set_option maxHeartbeats 2000000 in
theorem readSNS_calls (v : Value) (l : List Int) (w : World) (h : IsB w v l) (hl : l.length < 20) :
    Calls Try.prog 38 #[.int .i64 135, v] w fun e w' => e = .returned (.tuple #[.agg #[.int .i64 0, .int .i64 0, .int .i64 0, .int .i64 0, .int .i64 0, .int .i64 0, .slice none 0 0, .slice none 0 0, .slice none 0 0], .bool false]) ∧ Gr w w' := by
  have H := Lib.hid h
  clear h
  go_enter Try.func38, Try.ntmps38
  go_wp2_with (go_at_call 49; refine (nilFeedback_calls _).mono ?_; rintro e wN ⟨rfl, rfl⟩)
  refine (copied_calls _ l _ ?_ (by omega)).mono ?_
  · exact H.out.gr ((((Gr.refl w).alloc _).alloc _).alloc _)
  rintro e w1 ⟨a0, n0, m0, rfl, hoA, hgA⟩
  go_wp2_with fail
  have HR := Lib.hid (HasRow.gr hgA (HasRow.gr ((Gr.refl _).alloc (.cells #[.slice none 0 0, .slice none 0 0, .slice none 0 0, .slice none 0 0] 143)) (HasRow.gr ((Gr.refl _).alloc (.cells #[.int .i64 135, .int .i64 0, .int .i64 0, .int .i64 0, .int .i64 0, .int .i64 0, .slice none 0 0, .slice none 0 0, .slice none 0 0] 60)) (HasRow.new w [.int .i64 0, .int .i64 0, .int .i64 0, .int .i64 0, .int .i64 0, .int .i64 0, .slice none 0 0, .slice none 0 0, .slice none 0 0] 60 9 rfl))))
  have GA := Lib.hid (((((Gr.refl w).alloc _).alloc _).alloc _).trans hgA)
  clear hgA
  refine (decSNS_calls _ _ l w1 hoA.isB hl).mono ?_
  rintro e w2 ⟨⟨a, rfl⟩, hgB⟩
  obtain ⟨w3, rs, hrs, hRs, rfl⟩ := (HasRow.gr hgB HR.out).w0
  obtain ⟨r0, r1, r2, r3, r4, r5, r6, r7, r8, rfl⟩ := len9 hrs
  have hG : Gr w _ := GA.out.trans hgB
  clear hgB hoA
  go_wp2_with fail
  exact bodyPost_ret (v := .tuple #[.agg #[.int .i64 0, .int .i64 0, .int .i64 0, .int .i64 0, .int .i64 0, .int .i64 0, .slice none 0 0, .slice none 0 0, .slice none 0 0], .bool false]) (by simp [results, Try.results38, go_sem, hRs]) rfl ⟨rfl, Gr.row hG (Nat.le_refl _)⟩

set_option maxRecDepth 100000 in
set_option maxHeartbeats 1000000 in
theorem decSNA_calls (p : Value) (v : Value) (l : List Int) (w : World) (h : IsB w v l) (hl : l.length < 20) :
    Calls Try.prog 68 #[p, v, .iface 156 (.agg #[])] w fun e w' => (∃ a, e = .returned (.iface 174 (.pointer (some a)))) ∧ Gr w w' := by
  have hlen := fun ty => h.len (P := Try.prog) 25 ty 5 Try.underlying25
  have hmt := trunc_method
  go_enter Try.func68, Try.ntmps68
  go_wp2_with (first | (go_at_call 115; refine (trunc_calls _).mono ?_; rintro e w1 ⟨rfl, hg⟩) | (go_at_call 72; refine (errNew_calls _ _).mono ?_; rintro e w1 ⟨⟨a, rfl⟩, hg⟩))
  go_ret
  exact ⟨⟨_, rfl⟩, (by (repeat (with_reducible first | exact Gr.refl _ | assumption | refine Gr.alloc ?_ _ | refine Gr.drew ?_ | refine Gr.drewN ?_ _ | refine Gr.trans ?_ (by assumption))); done)⟩

set_option linter.unusedSimpArgs false in
set_option maxRecDepth 100000 in
set_option maxHeartbeats 2000000 in
theorem readSNA_calls (v : Value) (l : List Int) (w : World) (h : IsB w v l) (hl : l.length < 20) :
    Calls Try.prog 38 #[.int .i64 136, v] w fun e w' => e = .returned (.tuple #[.agg #[.int .i64 0, .int .i64 0, .int .i64 0, .int .i64 0, .int .i64 0, .int .i64 0, .slice none 0 0, .slice none 0 0, .slice none 0 0], .bool false]) ∧ Gr w w' := by
  have H := Lib.hid h
  clear h
  go_enter Try.func38, Try.ntmps38
  go_wp2_with (go_at_call 49; refine (nilFeedback_calls _).mono ?_; rintro e wN ⟨rfl, rfl⟩)
  refine (copied_calls _ l _ ?_ (by omega)).mono ?_
  · exact H.out.gr ((((Gr.refl w).alloc _).alloc _).alloc _)
  rintro e w1 ⟨a0, n0, m0, rfl, hoA, hgA⟩
  go_wp2_with fail
  have HR := Lib.hid (HasRow.gr hgA (HasRow.gr ((Gr.refl _).alloc (.cells #[.slice none 0 0, .slice none 0 0, .int .u8 0, .slice none 0 0, .slice none 0 0] 146)) (HasRow.gr ((Gr.refl _).alloc (.cells #[.int .i64 136, .int .i64 0, .int .i64 0, .int .i64 0, .int .i64 0, .int .i64 0, .slice none 0 0, .slice none 0 0, .slice none 0 0] 60)) (HasRow.new w [.int .i64 0, .int .i64 0, .int .i64 0, .int .i64 0, .int .i64 0, .int .i64 0, .slice none 0 0, .slice none 0 0, .slice none 0 0] 60 9 rfl))))
  have GA := Lib.hid (((((Gr.refl w).alloc _).alloc _).alloc _).trans hgA)
  clear hgA
  refine (decSNA_calls _ _ l w1 hoA.isB hl).mono ?_
  rintro e w2 ⟨⟨a, rfl⟩, hgB⟩
  obtain ⟨w3, rs, hrs, hRs, rfl⟩ := (HasRow.gr hgB HR.out).w0
  obtain ⟨r0, r1, r2, r3, r4, r5, r6, r7, r8, rfl⟩ := len9 hrs
  have hG : Gr w _ := GA.out.trans hgB
  clear hgB hoA
  go_wp2_with fail
  exact bodyPost_ret (v := .tuple #[.agg #[.int .i64 0, .int .i64 0, .int .i64 0, .int .i64 0, .int .i64 0, .int .i64 0, .slice none 0 0, .slice none 0 0, .slice none 0 0], .bool false]) (by simp [results, Try.results38, go_sem, hRs]) rfl ⟨rfl, Gr.row hG (Nat.le_refl _)⟩

set_option maxRecDepth 100000 in
set_option maxHeartbeats 1000000 in
theorem decSRD_calls (p : Value) (v : Value) (l : List Int) (w : World) (h : IsB w v l) (hl : l.length < 36) :
    Calls Try.prog 69 #[p, v, .iface 156 (.agg #[])] w fun e w' => (∃ a, e = .returned (.iface 174 (.pointer (some a)))) ∧ Gr w w' := by
  have hlen := fun ty => h.len (P := Try.prog) 25 ty 5 Try.underlying25
  have hmt := trunc_method
  go_enter Try.func69, Try.ntmps69
  go_wp2_with (first | (go_at_call 115; refine (trunc_calls _).mono ?_; rintro e w1 ⟨rfl, hg⟩) | (go_at_call 72; refine (errNew_calls _ _).mono ?_; rintro e w1 ⟨⟨a, rfl⟩, hg⟩))
  go_ret
  exact ⟨⟨_, rfl⟩, (by (repeat (with_reducible first | exact Gr.refl _ | assumption | refine Gr.alloc ?_ _ | refine Gr.drew ?_ | refine Gr.drewN ?_ _ | refine Gr.trans ?_ (by assumption))); done)⟩

set_option linter.unusedSimpArgs false in
set_option maxRecDepth 100000 in
set_option maxHeartbeats 2000000 in
theorem readSRD_calls (v : Value) (l : List Int) (w : World) (h : IsB w v l) (hl : l.length < 36) :
    Calls Try.prog 38 #[.int .i64 137, v] w fun e w' => e = .returned (.tuple #[.agg #[.int .i64 0, .int .i64 0, .int .i64 0, .int .i64 0, .int .i64 0, .int .i64 0, .slice none 0 0, .slice none 0 0, .slice none 0 0], .bool false]) ∧ Gr w w' := by
  have H := Lib.hid h
  clear h
  go_enter Try.func38, Try.ntmps38
  go_wp2_with (go_at_call 49; refine (nilFeedback_calls _).mono ?_; rintro e wN ⟨rfl, rfl⟩)
  refine (copied_calls _ l _ ?_ (by omega)).mono ?_
  · exact H.out.gr ((((Gr.refl w).alloc _).alloc _).alloc _)
  rintro e w1 ⟨a0, n0, m0, rfl, hoA, hgA⟩
  go_wp2_with fail
  have HR := Lib.hid (HasRow.gr hgA (HasRow.gr ((Gr.refl _).alloc (.cells #[.slice none 0 0, .slice none 0 0, .slice none 0 0, .slice none 0 0, .slice none 0 0] 149)) (HasRow.gr ((Gr.refl _).alloc (.cells #[.int .i64 137, .int .i64 0, .int .i64 0, .int .i64 0, .int .i64 0, .int .i64 0, .slice none 0 0, .slice none 0 0, .slice none 0 0] 60)) (HasRow.new w [.int .i64 0, .int .i64 0, .int .i64 0, .int .i64 0, .int .i64 0, .int .i64 0, .slice none 0 0, .slice none 0 0, .slice none 0 0] 60 9 rfl))))
  have GA := Lib.hid (((((Gr.refl w).alloc _).alloc _).alloc _).trans hgA)
  clear hgA
  refine (decSRD_calls _ _ l w1 hoA.isB hl).mono ?_
  rintro e w2 ⟨⟨a, rfl⟩, hgB⟩
  obtain ⟨w3, rs, hrs, hRs, rfl⟩ := (HasRow.gr hgB HR.out).w0
  obtain ⟨r0, r1, r2, r3, r4, r5, r6, r7, r8, rfl⟩ := len9 hrs
  have hG : Gr w _ := GA.out.trans hgB
  clear hgB hoA
  go_wp2_with fail
  exact bodyPost_ret (v := .tuple #[.agg #[.int .i64 0, .int .i64 0, .int .i64 0, .int .i64 0, .int .i64 0, .int .i64 0, .slice none 0 0, .slice none 0 0, .slice none 0 0], .bool false]) (by simp [results, Try.results38, go_sem, hRs]) rfl ⟨rfl, Gr.row hG (Nat.le_refl _)⟩

end Go.Proofs.Ytoopkfnkmaaieaa
