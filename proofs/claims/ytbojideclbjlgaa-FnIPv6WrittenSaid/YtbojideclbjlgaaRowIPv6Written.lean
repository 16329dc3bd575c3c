/- The statement FnIPv6Written: for every header of a packet of the sixth version with addresses of 16 bytes, a class from 0 to 255, a flow below 2^20, a next header from 1 to 255, a limit of hops from 0 to 255, and 1 to 2000 bytes in it: the header is written with the length of these in front of them; at all other arguments the law answers true at once. -/
import Derived.Test.YtbojideclbjlgaaLawIP6W
import Derived.Test.YtbojideclbjlgaaOpen
namespace Go.Proofs.Ytbojideclbjlgaa.ipv6Written
open Go.ChangeShapes Go.WideShapes Go.ChangeAt Go.RowKit
open Go.ChangeMaps (open_string shut_string)

theorem own : ownKnob Try.prog.godebug = none := by kernel_rfl
theorem laidOut : laidOutB Try.prog = true := by kernel_rfl
theorem k_uint8 : Try.prog.cellsOf 5 = 1 := by kernel_rfl
theorem k_int64 : Try.prog.cellsOf 2 = 1 := by kernel_rfl
theorem k_slice : Try.prog.cellsOf 22 = 1 := by kernel_rfl
theorem kS0 : Try.prog.cellsOf 91 = 7 := by kernel_rfl

set_option maxRecDepth 100000 in
theorem lifted (os : Os) (started : os.Started) (H : Type) (enc : TypeId × Value → H) :
    ReturnsInHanded {} Try.checked os 14 .any (Rows.fnIPv6WrittenSpec.pre6 enc Try.prog Try.f14 Rows.fnIPv6WrittenRow.domain false) (Rows.fnIPv6WrittenSpec.post enc Try.prog Try.f14 false true false false) := by
  refine returnsInHanded_of_change (C := Try.checked) own started (by kernel_rfl) Try.func14
    (ChangeSpec.witness6 (enc := enc) (C := Try.checked) false ⟨#[], #[.agg #[.int .i64 0, .int .i64 0, .int .i64 0, .int .i64 0, .int .i64 0, .slice none 0 0, .slice none 0 0], .slice none 0 0], []⟩ 8 (by kernel_rfl) (by kernel_rfl) (by kernel_rfl) (by kernel_rfl)) ?_
  intro W base args ds gs before hval0 hW hcnd _
  have hval : ∀ (j : Nat) t v, Try.f14.params[j]? = some t → args[j]? = some v → Value.okWide Try.prog W .any base t v := hval0
  have hW' := hW
  obtain ⟨p, q, hA0, hV, rfl, hfz, hnd⟩ := hW
  have hA : DataW.TrodAll enc Try.prog W 0 (fun _ => true) true Try.f14.params.toList args.toList ds p := hA0
  rw [Try.params14] at hA hval
  obtain ⟨v0, vs0, d0, ds0, p0, q0, hargs, rfl, rfl, h0, r0⟩ := trodAll_cons hA
  obtain ⟨v1, vs1, d1, ds1, p1, q1, rfl, rfl, rfl, h1, r1⟩ := trodAll_cons r0
  obtain ⟨rfl, rfl, rfl⟩ := trodAll_nil r1
  obtain rfl : args = #[v0, v1] := by cases args; simp_all
  obtain ⟨rfl, rfl⟩ := trodVars_none hV
  have k0 := h0
  have lt0 : ∀ x ∈ p0, x.block < W.heap.size := by obtain ⟨m, hm⟩ := k0; exact DataW.trod_lt m _ _ _ hm
  have k1 := h1
  have lt1 : ∀ x ∈ p1, x.block < W.heap.size := by obtain ⟨m, hm⟩ := k1; exact DataW.trod_lt m _ _ _ hm
  obtain ⟨s0, rfl, hs0, hf0⟩ := struct_trod Try.underlying91 (hval 0 91 v0 rfl rfl) h0
  rw [kS0] at hs0
  obtain ⟨x0x0, x0x1, x0x2, x0x3, x0x4, x0x5, x0x6, rfl⟩ := len7 hs0
  obtain ⟨n0x0, y0x0, t0x0⟩ := hf0 0 2 0 rfl
  obtain ⟨n0x1, y0x1, t0x1⟩ := hf0 1 2 1 rfl
  obtain ⟨n0x2, y0x2, t0x2⟩ := hf0 2 2 2 rfl
  obtain ⟨n0x3, y0x3, t0x3⟩ := hf0 3 2 3 rfl
  obtain ⟨n0x4, y0x4, t0x4⟩ := hf0 4 2 4 rfl
  obtain ⟨n0x5, y0x5, t0x5⟩ := hf0 5 22 5 rfl
  obtain ⟨n0x6, y0x6, t0x6⟩ := hf0 6 22 6 rfl
  simp only [k_int64, k_slice, List.drop_zero, List.drop_succ_cons, List.take_succ_cons, List.take_zero] at t0x0 t0x1 t0x2 t0x3 t0x4 t0x5 t0x6
  obtain ⟨e0x0, rfl, w0x0⟩ := int_trod Try.underlying2 t0x0
  obtain ⟨e0x1, rfl, w0x1⟩ := int_trod Try.underlying2 t0x1
  obtain ⟨e0x2, rfl, w0x2⟩ := int_trod Try.underlying2 t0x2
  obtain ⟨e0x3, rfl, w0x3⟩ := int_trod Try.underlying2 t0x3
  obtain ⟨e0x4, rfl, w0x4⟩ := int_trod Try.underlying2 t0x4
  obtain ⟨a0x5, b0x5, c0x5, l0x5, rfl, i0x5⟩ := slice_trod Try.underlying22 Try.underlying5 k_uint8 t0x5
  obtain ⟨a0x6, b0x6, c0x6, l0x6, rfl, i0x6⟩ := slice_trod Try.underlying22 Try.underlying5 k_uint8 t0x6
  obtain ⟨g1, g1n, g1c, rfl⟩ := okWide_slice Try.underlying22 (hval 1 22 v1 rfl rfl)
  obtain ⟨m1, hm1⟩ := h1
  obtain ⟨a1, b1, c1, l1, he1, i1⟩ := isB_trod Try.underlying22 Try.underlying5 k_uint8 hm1
  simp [Value.cells] at he1
  obtain ⟨rfl, rfl, rfl⟩ := he1
  clear hA0 hval0
  refine (lawIPv6Written_calls e0x0 e0x1 e0x2 e0x3 e0x4 a0x5 b0x5 c0x5 a0x6 b0x6 c0x6 _ _ _ l0x5 l0x6 l1 W i0x5 i0x6 i1).mono fun e W' ⟨he, gr⟩ => ?_
  subst he
  exact ⟨_, rfl, _, _, _, [], _, [], hW', trodAll_mk1 (shut_bool Try.underlying4 _), (trodAll_cons_mk (Below.trod laidOut (by kernel_rfl) (of_decide_eq_true (by kernel_rfl)) k0 gr.below lt0) (trodAll_cons_mk (Below.trod laidOut (by kernel_rfl) (of_decide_eq_true (by kernel_rfl)) k1 gr.below lt1) trodAll_mk0)), rfl, gr.below.frame _, fun h => by cases h⟩

theorem over : Rows.fnIPv6WrittenRow.holds Try.pinned (OpenSpec.ofChange Rows.fnIPv6WrittenSpec) :=
  OpenClaim.holds_of_wide 14 Try.f14 rfl rfl rfl rfl rfl rfl rfl ⟨rfl, rfl, rfl, rfl, rfl⟩ rfl rfl rfl rfl rfl (by kernel_rfl) Try.func14 (by kernel_rfl)
    (of_decide_eq_true (by kernel_rfl)) (by unfold Func.isWrapper; first | (rw [if_pos (by decide +kernel)]; kernel_rfl) | (rw [if_neg (by decide +kernel)]; exact ⟨rfl, rfl⟩))
    (fun os started H enc _ => lifted os started H enc)

theorem proved : Rows.FnIPv6WrittenSaid := over
#print axioms proved
end Go.Proofs.Ytbojideclbjlgaa.ipv6Written
