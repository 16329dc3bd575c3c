/- The statement FnARPWritten: for every question for an address with a link from 0 to 255, a protocol and an operation from 0 to 65535, and addresses in pairs of one length, each at most 255 bytes: the question is written with the lengths of its addresses; at all other arguments the law answers true at once. -/
import Derived.Test.YtbojideclbjlgaaLawARPW
import Derived.Test.YtbojideclbjlgaaOpen
namespace Go.Proofs.Ytbojideclbjlgaa.arpWritten
open Go.ChangeShapes Go.WideShapes Go.ChangeAt Go.RowKit
open Go.ChangeMaps (open_string shut_string)

theorem own : ownKnob Try.prog.godebug = none := by kernel_rfl
theorem laidOut : laidOutB Try.prog = true := by kernel_rfl
theorem k_uint8 : Try.prog.cellsOf 5 = 1 := by kernel_rfl
theorem k_int64 : Try.prog.cellsOf 2 = 1 := by kernel_rfl
theorem k_slice : Try.prog.cellsOf 22 = 1 := by kernel_rfl
theorem kS0 : Try.prog.cellsOf 57 = 7 := by kernel_rfl

set_option maxRecDepth 100000 in
theorem lifted (os : Os) (started : os.Started) (H : Type) (enc : TypeId × Value → H) :
    ReturnsInHanded {} Try.checked os 8 .any (Rows.fnARPWrittenSpec.pre6 enc Try.prog Try.f8 Rows.fnARPWrittenRow.domain false) (Rows.fnARPWrittenSpec.post enc Try.prog Try.f8 false true false false) := by
  refine returnsInHanded_of_change (C := Try.checked) own started (by kernel_rfl) Try.func8
    (ChangeSpec.witness6 (enc := enc) (C := Try.checked) false ⟨#[], #[.agg #[.int .i64 0, .int .i64 0, .int .i64 0, .slice none 0 0, .slice none 0 0, .slice none 0 0, .slice none 0 0]], []⟩ 8 (by kernel_rfl) (by kernel_rfl) (by kernel_rfl) (by kernel_rfl)) ?_
  intro W base args ds gs before hval0 hW hcnd _
  have hval : ∀ (j : Nat) t v, Try.f8.params[j]? = some t → args[j]? = some v → Value.okWide Try.prog W .any base t v := hval0
  have hW' := hW
  obtain ⟨p, q, hA0, hV, rfl, hfz, hnd⟩ := hW
  have hA : DataW.TrodAll enc Try.prog W 0 (fun _ => true) true Try.f8.params.toList args.toList ds p := hA0
  rw [Try.params8] at hA hval
  obtain ⟨v0, vs0, d0, ds0, p0, q0, hargs, rfl, rfl, h0, r0⟩ := trodAll_cons hA
  obtain ⟨rfl, rfl, rfl⟩ := trodAll_nil r0
  obtain rfl : args = #[v0] := by cases args; simp_all
  obtain ⟨rfl, rfl⟩ := trodVars_none hV
  have k0 := h0
  have lt0 : ∀ x ∈ p0, x.block < W.heap.size := by obtain ⟨m, hm⟩ := k0; exact DataW.trod_lt m _ _ _ hm
  obtain ⟨s0, rfl, hs0, hf0⟩ := struct_trod Try.underlying57 (hval 0 57 v0 rfl rfl) h0
  rw [kS0] at hs0
  obtain ⟨x0x0, x0x1, x0x2, x0x3, x0x4, x0x5, x0x6, rfl⟩ := len7 hs0
  obtain ⟨n0x0, y0x0, t0x0⟩ := hf0 0 2 0 rfl
  obtain ⟨n0x1, y0x1, t0x1⟩ := hf0 1 2 1 rfl
  obtain ⟨n0x2, y0x2, t0x2⟩ := hf0 2 2 2 rfl
  obtain ⟨n0x3, y0x3, t0x3⟩ := hf0 3 22 3 rfl
  obtain ⟨n0x4, y0x4, t0x4⟩ := hf0 4 22 4 rfl
  obtain ⟨n0x5, y0x5, t0x5⟩ := hf0 5 22 5 rfl
  obtain ⟨n0x6, y0x6, t0x6⟩ := hf0 6 22 6 rfl
  simp only [k_int64, k_slice, List.drop_zero, List.drop_succ_cons, List.take_succ_cons, List.take_zero] at t0x0 t0x1 t0x2 t0x3 t0x4 t0x5 t0x6
  obtain ⟨e0x0, rfl, w0x0⟩ := int_trod Try.underlying2 t0x0
  obtain ⟨e0x1, rfl, w0x1⟩ := int_trod Try.underlying2 t0x1
  obtain ⟨e0x2, rfl, w0x2⟩ := int_trod Try.underlying2 t0x2
  obtain ⟨a0x3, b0x3, c0x3, l0x3, rfl, i0x3⟩ := slice_trod Try.underlying22 Try.underlying5 k_uint8 t0x3
  obtain ⟨a0x4, b0x4, c0x4, l0x4, rfl, i0x4⟩ := slice_trod Try.underlying22 Try.underlying5 k_uint8 t0x4
  obtain ⟨a0x5, b0x5, c0x5, l0x5, rfl, i0x5⟩ := slice_trod Try.underlying22 Try.underlying5 k_uint8 t0x5
  obtain ⟨a0x6, b0x6, c0x6, l0x6, rfl, i0x6⟩ := slice_trod Try.underlying22 Try.underlying5 k_uint8 t0x6
  clear hA0 hval0
  refine (lawARPWritten_calls e0x0 e0x1 e0x2 a0x3 b0x3 c0x3 a0x4 b0x4 c0x4 a0x5 b0x5 c0x5 a0x6 b0x6 c0x6 l0x3 l0x4 l0x5 l0x6 W i0x3 i0x4 i0x5 i0x6).mono fun e W' ⟨he, gr⟩ => ?_
  subst he
  exact ⟨_, rfl, _, _, _, [], _, [], hW', trodAll_mk1 (shut_bool Try.underlying4 _), (trodAll_cons_mk (Below.trod laidOut (by kernel_rfl) (of_decide_eq_true (by kernel_rfl)) k0 gr.below lt0) trodAll_mk0), rfl, gr.below.frame _, fun h => by cases h⟩

theorem over : Rows.fnARPWrittenRow.holds Try.pinned (OpenSpec.ofChange Rows.fnARPWrittenSpec) :=
  OpenClaim.holds_of_wide 8 Try.f8 rfl rfl rfl rfl rfl rfl rfl ⟨rfl, rfl, rfl, rfl, rfl⟩ rfl rfl rfl rfl rfl (by kernel_rfl) Try.func8 (by kernel_rfl)
    (of_decide_eq_true (by kernel_rfl)) (by unfold Func.isWrapper; first | (rw [if_pos (by decide +kernel)]; kernel_rfl) | (rw [if_neg (by decide +kernel)]; exact ⟨rfl, rfl⟩))
    (fun os started H enc _ => lifted os started H enc)

theorem proved : Rows.FnARPWrittenSaid := over
#print axioms proved
end Go.Proofs.Ytbojideclbjlgaa.arpWritten
