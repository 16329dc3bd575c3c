/-
  Fewer bytes than a message for addresses has.
-/
import Derived.Test.YtoopkfnkmaaieaaDHCP
namespace Go.Proofs.Ytoopkfnkmaaieaa
open Go.RowKit

set_option maxRecDepth 100000 in
set_option maxHeartbeats 1000000 in
theorem dhcpDecodeShort_calls (p : Value) (v : Value) (l : List Int) (w : World) (h : IsB w v l) (hl : l.length < 240) :
    Calls Try.prog 55 #[p, v, .iface 156 (.agg #[])] w fun e w' => (∃ a, e = .returned (.iface 174 (.pointer (some a)))) ∧ Gr w w' := by
  have hlen := fun ty => h.len (P := Try.prog) 25 ty 5 Try.underlying25
  have hmt := trunc_method
  go_enter Try.func55, Try.ntmps55
  go_wp2_with (first | (go_at_call 115; refine (trunc_calls _).mono ?_; rintro e w1 ⟨rfl, hg⟩) | (go_at_call 72; refine (errNew_calls _ _).mono ?_; rintro e w1 ⟨⟨a, rfl⟩, hg⟩))
  go_ret
  exact ⟨⟨_, rfl⟩, (by (repeat (with_reducible first | exact Gr.refl _ | assumption | refine Gr.alloc ?_ _ | refine Gr.drew ?_ | refine Gr.drewN ?_ _ | refine Gr.trans ?_ (by assumption))); done)⟩

set_option maxRecDepth 100000 in
set_option maxHeartbeats 1000000 in
theorem dhcpReadShort_calls (v : Value) (l : List Int) (w : World) (h : IsB w v l) (hl : l.length < 240) :
    Calls Try.prog 32 #[v] w fun e w' => e = .returned (.tuple #[.agg #[.int .i64 0, .int .i64 0, .int .i64 0, .int .i64 0, .int .i64 0, .int .i64 0, .slice none 0 0, .slice none 0 0, .slice none 0 0, .slice none 0 0, .slice none 0 0, .slice none 0 0, .slice none 0 0, .slice none 0 0], .bool false]) ∧ Gr w w' := by
  have H := Lib.hid h
  clear h
  go_enter Try.func32, Try.ntmps32
  go_wp2_with fail
  refine (copied_calls _ l _ ?_ (by omega)).mono ?_
  · exact H.out.gr (((Gr.refl w).alloc _).alloc _)
  rintro e w1 ⟨a0, n0, m0, rfl, hoA, hgA⟩
  go_wp2_with fail
  refine (nilFeedback_calls _).mono ?_
  rintro e w2 ⟨rfl, rfl⟩
  go_wp2_with fail
  have HR := Lib.hid (HasRow.gr hgA (HasRow.gr (World.grownBy_alloc _ (.cells #[.slice none 0 0, .slice none 0 0, .int .u8 0, .int .u8 0, .int .u8 0, .int .u8 0, .int .u32 0, .int .u16 0, .int .u16 0, .slice none 0 0, .slice none 0 0, .slice none 0 0, .slice none 0 0, .slice none 0 0, .slice none 0 0, .slice none 0 0, .slice none 0 0] 119) none) (HasRow.new w [.int .i64 0, .int .i64 0, .int .i64 0, .int .i64 0, .int .i64 0, .int .i64 0, .slice none 0 0, .slice none 0 0, .slice none 0 0, .slice none 0 0, .slice none 0 0, .slice none 0 0, .slice none 0 0, .slice none 0 0] 50 14 rfl)))
  refine (dhcpDecodeShort_calls _ _ l w1 hoA.isB (by omega)).mono ?_
  rintro e w2 ⟨⟨a, rfl⟩, hgB⟩
  obtain ⟨w3, rs, hrs, hRs, rfl⟩ := (HasRow.gr hgB HR.out).w0
  obtain ⟨r0, r1, r2, r3, r4, r5, r6, r7, r8, r9, r10, r11, r12, r13, rfl⟩ := len14 hrs
  have hG : Gr w _ := ((((Gr.refl w).alloc _).alloc _).trans hgA).trans hgB
  clear hgA hgB hoA
  go_wp2_with fail
  exact bodyPost_ret (v := .tuple #[.agg #[.int .i64 0, .int .i64 0, .int .i64 0, .int .i64 0, .int .i64 0, .int .i64 0, .slice none 0 0, .slice none 0 0, .slice none 0 0, .slice none 0 0, .slice none 0 0, .slice none 0 0, .slice none 0 0, .slice none 0 0], .bool false]) (by simp [results, Try.results32, go_sem, hRs]) rfl ⟨rfl, Gr.row hG (Nat.le_refl _)⟩

end Go.Proofs.Ytoopkfnkmaaieaa
