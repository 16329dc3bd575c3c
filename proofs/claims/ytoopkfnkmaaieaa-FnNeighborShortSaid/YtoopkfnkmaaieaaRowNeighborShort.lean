/- The statement FnNeighborShort: for every message of the discovery of neighbors of a type from 133 to 137 that has just the parts of its type, and every number of bytes that is smaller than that of the message without its options: so many bytes of it are an error, and all of them are none; at all other arguments the law answers true at once. -/
import Derived.Test.YtoopkfnkmaaieaaLawNbH
import Derived.Test.YtoopkfnkmaaieaaOpen
namespace Go.Proofs.Ytoopkfnkmaaieaa.neighborShort
open Go.ChangeShapes Go.WideShapes Go.ChangeAt Go.RowKit
open Go.ChangeMaps (open_string shut_string)

theorem own : ownKnob Try.prog.godebug = none := by kernel_rfl
theorem laidOut : laidOutB Try.prog = true := by kernel_rfl
theorem k_uint8 : Try.prog.cellsOf 5 = 1 := by kernel_rfl
theorem k_int : Try.prog.cellsOf 3 = 1 := by kernel_rfl
theorem k_int64 : Try.prog.cellsOf 2 = 1 := by kernel_rfl
theorem k_opts : Try.prog.cellsOf 22 = 1 := by kernel_rfl
theorem k_slice : Try.prog.cellsOf 25 = 1 := by kernel_rfl
theorem kS0 : Try.prog.cellsOf 60 = 9 := by kernel_rfl

set_option maxRecDepth 100000 in
theorem lifted (os : Os) (started : os.Started) (H : Type) (enc : TypeId × Value → H) :
    ReturnsInHanded {} Try.checked os 11 .any (Rows.fnNeighborShortSpec.pre6 enc Try.prog Try.f11 Rows.fnNeighborShortRow.domain false) (Rows.fnNeighborShortSpec.post enc Try.prog Try.f11 false true false false) := by
  refine returnsInHanded_of_change (C := Try.checked) own started (by kernel_rfl) Try.func11
    (ChangeSpec.witness6 (enc := enc) (C := Try.checked) false ⟨#[], #[.agg #[.int .i64 0, .int .i64 0, .int .i64 0, .int .i64 0, .int .i64 0, .int .i64 0, .slice none 0 0, .slice none 0 0, .slice none 0 0], .int .i64 0], []⟩ 8 (by kernel_rfl) (by kernel_rfl) (by kernel_rfl) (by kernel_rfl)) ?_
  intro W base args ds gs before hval0 hW hcnd _
  have hval : ∀ (j : Nat) t v, Try.f11.params[j]? = some t → args[j]? = some v → Value.okWide Try.prog W .any base t v := hval0
  have hW' := hW
  obtain ⟨p, q, hA0, hV, rfl, hfz, hnd⟩ := hW
  have hA : DataW.TrodAll enc Try.prog W 0 (fun _ => true) true Try.f11.params.toList args.toList ds p := hA0
  rw [Try.params11] at hA hval
  obtain ⟨v0, vs0, d0, ds0, p0, q0, hargs, rfl, rfl, h0, r0⟩ := trodAll_cons hA
  obtain ⟨v1, vs1, d1, ds1, p1, q1, rfl, rfl, rfl, h1, r1⟩ := trodAll_cons r0
  obtain ⟨rfl, rfl, rfl⟩ := trodAll_nil r1
  obtain rfl : args = #[v0, v1] := by cases args; simp_all
  obtain ⟨rfl, rfl⟩ := trodVars_none hV
  have k0 := h0
  have lt0 : ∀ x ∈ p0, x.block < W.heap.size := by obtain ⟨m, hm⟩ := k0; exact DataW.trod_lt m _ _ _ hm
  have k1 := h1
  have lt1 : ∀ x ∈ p1, x.block < W.heap.size := by obtain ⟨m, hm⟩ := k1; exact DataW.trod_lt m _ _ _ hm
  obtain ⟨s0, rfl, hs0, hf0⟩ := struct_trod Try.underlying60 (hval 0 60 v0 rfl rfl) h0
  rw [kS0] at hs0
  obtain ⟨x0x0, x0x1, x0x2, x0x3, x0x4, x0x5, x0x6, x0x7, x0x8, rfl⟩ := len9 hs0
  obtain ⟨n0x0, y0x0, t0x0⟩ := hf0 0 2 0 rfl
  obtain ⟨n0x1, y0x1, t0x1⟩ := hf0 1 2 1 rfl
  obtain ⟨n0x2, y0x2, t0x2⟩ := hf0 2 2 2 rfl
  obtain ⟨n0x3, y0x3, t0x3⟩ := hf0 3 2 3 rfl
  obtain ⟨n0x4, y0x4, t0x4⟩ := hf0 4 2 4 rfl
  obtain ⟨n0x5, y0x5, t0x5⟩ := hf0 5 2 5 rfl
  obtain ⟨n0x6, y0x6, t0x6⟩ := hf0 6 25 6 rfl
  obtain ⟨n0x7, y0x7, t0x7⟩ := hf0 7 25 7 rfl
  obtain ⟨n0x8, y0x8, t0x8⟩ := hf0 8 22 8 rfl
  simp only [k_int64, k_opts, k_slice, List.drop_zero, List.drop_succ_cons, List.take_succ_cons, List.take_zero] at t0x0 t0x1 t0x2 t0x3 t0x4 t0x5 t0x6 t0x7 t0x8
  obtain ⟨e0x0, rfl, w0x0⟩ := int_trod Try.underlying2 t0x0
  obtain ⟨e0x1, rfl, w0x1⟩ := int_trod Try.underlying2 t0x1
  obtain ⟨e0x2, rfl, w0x2⟩ := int_trod Try.underlying2 t0x2
  obtain ⟨e0x3, rfl, w0x3⟩ := int_trod Try.underlying2 t0x3
  obtain ⟨e0x4, rfl, w0x4⟩ := int_trod Try.underlying2 t0x4
  obtain ⟨e0x5, rfl, w0x5⟩ := int_trod Try.underlying2 t0x5
  obtain ⟨a0x6, b0x6, c0x6, l0x6, rfl, i0x6⟩ := slice_trod Try.underlying25 Try.underlying5 k_uint8 t0x6
  obtain ⟨a0x7, b0x7, c0x7, l0x7, rfl, i0x7⟩ := slice_trod Try.underlying25 Try.underlying5 k_uint8 t0x7
  obtain ⟨a0x8, b0x8, c0x8, l0x8, rfl, i0x8⟩ := isOpts_trod t0x8
  obtain ⟨e1, rfl, rfl, rfl, w1⟩ := open_int Try.underlying3 (hval 1 3 v1 rfl rfl) h1
  clear hA0 hval0
  refine (lawNbShort_calls e1 e0x0 e0x1 e0x2 e0x3 e0x4 e0x5 a0x6 b0x6 c0x6 a0x7 b0x7 c0x7 a0x8 b0x8 c0x8 l0x6 l0x7 l0x8 W i0x6 i0x7 i0x8).mono fun e W' ⟨he, gr⟩ => ?_
  subst he
  exact ⟨_, rfl, _, _, _, [], _, [], hW', trodAll_mk1 (shut_bool Try.underlying4 _), (trodAll_cons_mk (Below.trod laidOut (by kernel_rfl) (of_decide_eq_true (by kernel_rfl)) k0 gr.below lt0) (trodAll_cons_mk (Below.trod laidOut (by kernel_rfl) (of_decide_eq_true (by kernel_rfl)) k1 gr.below lt1) trodAll_mk0)), rfl, gr.below.frame _, fun h => by cases h⟩

theorem over : Rows.fnNeighborShortRow.holds Try.pinned (OpenSpec.ofChange Rows.fnNeighborShortSpec) :=
  OpenClaim.holds_of_wide 11 Try.f11 rfl rfl rfl rfl rfl rfl rfl ⟨rfl, rfl, rfl, rfl, rfl⟩ rfl rfl rfl rfl rfl (by kernel_rfl) Try.func11 (by kernel_rfl)
    (of_decide_eq_true (by kernel_rfl)) (by unfold Func.isWrapper; first | (rw [if_pos (by decide +kernel)]; kernel_rfl) | (rw [if_neg (by decide +kernel)]; exact ⟨rfl, rfl⟩))
    (fun os started H enc _ => lifted os started H enc)

theorem proved : Rows.FnNeighborShortSaid := over
#print axioms proved
end Go.Proofs.Ytoopkfnkmaaieaa.neighborShort
