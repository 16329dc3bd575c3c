/- The statement FnTCPRead: for every header of a segment whose numbers are in their ranges, with options of at most 40 bytes, two addresses of 4 or of 16 bytes, and at most 2000 bytes behind it: the header with its length and its checksum is read back from its bytes, and what stands behind it; at all other arguments the law answers true at once. -/
import Derived.Test.YtdpffedmgmllbaaLawTCPR
import Derived.Test.YtdpffedmgmllbaaOpen
namespace Go.Proofs.Ytdpffedmgmllbaa.tcpRead
open Go.ChangeShapes Go.WideShapes Go.ChangeAt Go.RowKit
open Go.ChangeMaps (open_string shut_string)

theorem own : ownKnob Try.prog.godebug = none := by kernel_rfl
theorem laidOut : laidOutB Try.prog = true := by kernel_rfl
theorem k_uint8 : Try.prog.cellsOf 5 = 1 := by kernel_rfl
theorem k_int64 : Try.prog.cellsOf 2 = 1 := by kernel_rfl
theorem k_opts : Try.prog.cellsOf 22 = 1 := by kernel_rfl
theorem k_slice : Try.prog.cellsOf 25 = 1 := by kernel_rfl
theorem kS0 : Try.prog.cellsOf 24 = 10 := by kernel_rfl

set_option maxRecDepth 100000 in
theorem lifted (os : Os) (started : os.Started) (H : Type) (enc : TypeId × Value → H) :
    ReturnsInHanded {} Try.checked os 3 .any (Rows.fnTCPReadSpec.pre6 enc Try.prog Try.f3 Rows.fnTCPReadRow.domain false) (Rows.fnTCPReadSpec.post enc Try.prog Try.f3 false true false false) := by
  refine returnsInHanded_of_change (C := Try.checked) own started (by kernel_rfl) Try.func3
    (ChangeSpec.witness6 (enc := enc) (C := Try.checked) false ⟨#[], #[.agg #[.int .i64 0, .int .i64 0, .int .i64 0, .int .i64 0, .int .i64 0, .int .i64 0, .int .i64 0, .int .i64 0, .int .i64 0, .slice none 0 0], .slice none 0 0, .slice none 0 0, .slice none 0 0], []⟩ 8 (by kernel_rfl) (by kernel_rfl) (by kernel_rfl) (by kernel_rfl)) ?_
  intro W base args ds gs before hval0 hW hcnd _
  have hval : ∀ (j : Nat) t v, Try.f3.params[j]? = some t → args[j]? = some v → Value.okWide Try.prog W .any base t v := hval0
  have hW' := hW
  obtain ⟨p, q, hA0, hV, rfl, hfz, hnd⟩ := hW
  have hA : DataW.TrodAll enc Try.prog W 0 (fun _ => true) true Try.f3.params.toList args.toList ds p := hA0
  rw [Try.params3] at hA hval
  obtain ⟨v0, vs0, d0, ds0, p0, q0, hargs, rfl, rfl, h0, r0⟩ := trodAll_cons hA
  obtain ⟨v1, vs1, d1, ds1, p1, q1, rfl, rfl, rfl, h1, r1⟩ := trodAll_cons r0
  obtain ⟨v2, vs2, d2, ds2, p2, q2, rfl, rfl, rfl, h2, r2⟩ := trodAll_cons r1
  obtain ⟨v3, vs3, d3, ds3, p3, q3, rfl, rfl, rfl, h3, r3⟩ := trodAll_cons r2
  obtain ⟨rfl, rfl, rfl⟩ := trodAll_nil r3
  obtain rfl : args = #[v0, v1, v2, v3] := by cases args; simp_all
  obtain ⟨rfl, rfl⟩ := trodVars_none hV
  have k0 := h0
  have lt0 : ∀ x ∈ p0, x.block < W.heap.size := by obtain ⟨m, hm⟩ := k0; exact DataW.trod_lt m _ _ _ hm
  have k1 := h1
  have lt1 : ∀ x ∈ p1, x.block < W.heap.size := by obtain ⟨m, hm⟩ := k1; exact DataW.trod_lt m _ _ _ hm
  have k2 := h2
  have lt2 : ∀ x ∈ p2, x.block < W.heap.size := by obtain ⟨m, hm⟩ := k2; exact DataW.trod_lt m _ _ _ hm
  have k3 := h3
  have lt3 : ∀ x ∈ p3, x.block < W.heap.size := by obtain ⟨m, hm⟩ := k3; exact DataW.trod_lt m _ _ _ hm
  obtain ⟨s0, rfl, hs0, hf0⟩ := struct_trod Try.underlying24 (hval 0 24 v0 rfl rfl) h0
  rw [kS0] at hs0
  obtain ⟨x0x0, x0x1, x0x2, x0x3, x0x4, x0x5, x0x6, x0x7, x0x8, x0x9, rfl⟩ := len10 hs0
  obtain ⟨n0x0, y0x0, t0x0⟩ := hf0 0 2 0 rfl
  obtain ⟨n0x1, y0x1, t0x1⟩ := hf0 1 2 1 rfl
  obtain ⟨n0x2, y0x2, t0x2⟩ := hf0 2 2 2 rfl
  obtain ⟨n0x3, y0x3, t0x3⟩ := hf0 3 2 3 rfl
  obtain ⟨n0x4, y0x4, t0x4⟩ := hf0 4 2 4 rfl
  obtain ⟨n0x5, y0x5, t0x5⟩ := hf0 5 2 5 rfl
  obtain ⟨n0x6, y0x6, t0x6⟩ := hf0 6 2 6 rfl
  obtain ⟨n0x7, y0x7, t0x7⟩ := hf0 7 2 7 rfl
  obtain ⟨n0x8, y0x8, t0x8⟩ := hf0 8 2 8 rfl
  obtain ⟨n0x9, y0x9, t0x9⟩ := hf0 9 22 9 rfl
  simp only [k_int64, k_opts, List.drop_zero, List.drop_succ_cons, List.take_succ_cons, List.take_zero] at t0x0 t0x1 t0x2 t0x3 t0x4 t0x5 t0x6 t0x7 t0x8 t0x9
  obtain ⟨e0x0, rfl, w0x0⟩ := int_trod Try.underlying2 t0x0
  obtain ⟨e0x1, rfl, w0x1⟩ := int_trod Try.underlying2 t0x1
  obtain ⟨e0x2, rfl, w0x2⟩ := int_trod Try.underlying2 t0x2
  obtain ⟨e0x3, rfl, w0x3⟩ := int_trod Try.underlying2 t0x3
  obtain ⟨e0x4, rfl, w0x4⟩ := int_trod Try.underlying2 t0x4
  obtain ⟨e0x5, rfl, w0x5⟩ := int_trod Try.underlying2 t0x5
  obtain ⟨e0x6, rfl, w0x6⟩ := int_trod Try.underlying2 t0x6
  obtain ⟨e0x7, rfl, w0x7⟩ := int_trod Try.underlying2 t0x7
  obtain ⟨e0x8, rfl, w0x8⟩ := int_trod Try.underlying2 t0x8
  obtain ⟨a0x9, b0x9, c0x9, l0x9, rfl, i0x9⟩ := isOpts_trod t0x9
  obtain ⟨g1, g1n, g1c, rfl⟩ := okWide_slice Try.underlying25 (hval 1 25 v1 rfl rfl)
  obtain ⟨m1, hm1⟩ := h1
  obtain ⟨a1, b1, c1, l1, he1, i1⟩ := isB_trod Try.underlying25 Try.underlying5 k_uint8 hm1
  simp [Value.cells] at he1
  obtain ⟨rfl, rfl, rfl⟩ := he1
  obtain ⟨g2, g2n, g2c, rfl⟩ := okWide_slice Try.underlying25 (hval 2 25 v2 rfl rfl)
  obtain ⟨m2, hm2⟩ := h2
  obtain ⟨a2, b2, c2, l2, he2, i2⟩ := isB_trod Try.underlying25 Try.underlying5 k_uint8 hm2
  simp [Value.cells] at he2
  obtain ⟨rfl, rfl, rfl⟩ := he2
  obtain ⟨g3, g3n, g3c, rfl⟩ := okWide_slice Try.underlying25 (hval 3 25 v3 rfl rfl)
  obtain ⟨m3, hm3⟩ := h3
  obtain ⟨a3, b3, c3, l3, he3, i3⟩ := isB_trod Try.underlying25 Try.underlying5 k_uint8 hm3
  simp [Value.cells] at he3
  obtain ⟨rfl, rfl, rfl⟩ := he3
  clear hA0 hval0
  refine (lawTCPRead_calls e0x0 e0x1 e0x2 e0x3 e0x4 e0x5 e0x6 e0x7 e0x8 a0x9 b0x9 c0x9 _ _ _ _ _ _ _ _ _ l1 l2 l3 l0x9 W i0x9 i1 i2 i3).mono fun e W' ⟨he, gr⟩ => ?_
  subst he
  exact ⟨_, rfl, _, _, _, [], _, [], hW', trodAll_mk1 (shut_bool Try.underlying4 _), (trodAll_cons_mk (Below.trod laidOut (by kernel_rfl) (of_decide_eq_true (by kernel_rfl)) k0 gr.below lt0) (trodAll_cons_mk (Below.trod laidOut (by kernel_rfl) (of_decide_eq_true (by kernel_rfl)) k1 gr.below lt1) (trodAll_cons_mk (Below.trod laidOut (by kernel_rfl) (of_decide_eq_true (by kernel_rfl)) k2 gr.below lt2) (trodAll_cons_mk (Below.trod laidOut (by kernel_rfl) (of_decide_eq_true (by kernel_rfl)) k3 gr.below lt3) trodAll_mk0)))), rfl, gr.below.frame _, fun h => by cases h⟩

theorem over : Rows.fnTCPReadRow.holds Try.pinned (OpenSpec.ofChange Rows.fnTCPReadSpec) :=
  OpenClaim.holds_of_wide 3 Try.f3 rfl rfl rfl rfl rfl rfl rfl ⟨rfl, rfl, rfl, rfl, rfl⟩ rfl rfl rfl rfl rfl (by kernel_rfl) Try.func3 (by kernel_rfl)
    (of_decide_eq_true (by kernel_rfl)) (by unfold Func.isWrapper; first | (rw [if_pos (by decide +kernel)]; kernel_rfl) | (rw [if_neg (by decide +kernel)]; exact ⟨rfl, rfl⟩))
    (fun os started H enc _ => lifted os started H enc)

theorem proved : Rows.FnTCPReadSaid := over
#print axioms proved
end Go.Proofs.Ytdpffedmgmllbaa.tcpRead
