/- The statement FnDHCPWritten: for every message for addresses whose numbers are in their ranges, with four addresses of four bytes, an address of hardware of at most 16 bytes, names of at most 64 and 128 bytes, and one to 30 options of kinds below 255 with at most 255 bytes each, those of the kind 0 without bytes: it is written with the end of its options behind them; at all other arguments the law answers true at once. -/
import Derived.Test.YtdpffedmgmllbaaLawDW
import Derived.Test.YtdpffedmgmllbaaOpen
namespace Go.Proofs.Ytdpffedmgmllbaa.dhcpWritten
open Go.ChangeShapes Go.WideShapes Go.ChangeAt Go.RowKit
open Go.ChangeMaps (open_string shut_string)

theorem own : ownKnob Try.prog.godebug = none := by kernel_rfl
theorem laidOut : laidOutB Try.prog = true := by kernel_rfl
theorem k_uint8 : Try.prog.cellsOf 5 = 1 := by kernel_rfl
theorem k_int64 : Try.prog.cellsOf 2 = 1 := by kernel_rfl
theorem k_opts : Try.prog.cellsOf 22 = 1 := by kernel_rfl
theorem k_slice : Try.prog.cellsOf 25 = 1 := by kernel_rfl
theorem kS0 : Try.prog.cellsOf 37 = 14 := by kernel_rfl

set_option maxRecDepth 100000 in
theorem lifted (os : Os) (started : os.Started) (H : Type) (enc : TypeId × Value → H) :
    ReturnsInHanded {} Try.checked os 4 .any (Rows.fnDHCPWrittenSpec.pre6 enc Try.prog Try.f4 Rows.fnDHCPWrittenRow.domain false) (Rows.fnDHCPWrittenSpec.post enc Try.prog Try.f4 false true false false) := by
  refine returnsInHanded_of_change (C := Try.checked) own started (by kernel_rfl) Try.func4
    (ChangeSpec.witness6 (enc := enc) (C := Try.checked) false ⟨#[], #[.agg #[.int .i64 0, .int .i64 0, .int .i64 0, .int .i64 0, .int .i64 0, .int .i64 0, .slice none 0 0, .slice none 0 0, .slice none 0 0, .slice none 0 0, .slice none 0 0, .slice none 0 0, .slice none 0 0, .slice none 0 0]], []⟩ 8 (by kernel_rfl) (by kernel_rfl) (by kernel_rfl) (by kernel_rfl)) ?_
  intro W base args ds gs before hval0 hW hcnd _
  have hval : ∀ (j : Nat) t v, Try.f4.params[j]? = some t → args[j]? = some v → Value.okWide Try.prog W .any base t v := hval0
  have hW' := hW
  obtain ⟨p, q, hA0, hV, rfl, hfz, hnd⟩ := hW
  have hA : DataW.TrodAll enc Try.prog W 0 (fun _ => true) true Try.f4.params.toList args.toList ds p := hA0
  rw [Try.params4] at hA hval
  obtain ⟨v0, vs0, d0, ds0, p0, q0, hargs, rfl, rfl, h0, r0⟩ := trodAll_cons hA
  obtain ⟨rfl, rfl, rfl⟩ := trodAll_nil r0
  obtain rfl : args = #[v0] := by cases args; simp_all
  obtain ⟨rfl, rfl⟩ := trodVars_none hV
  have k0 := h0
  have lt0 : ∀ x ∈ p0, x.block < W.heap.size := by obtain ⟨m, hm⟩ := k0; exact DataW.trod_lt m _ _ _ hm
  obtain ⟨s0, rfl, hs0, hf0⟩ := struct_trod Try.underlying37 (hval 0 37 v0 rfl rfl) h0
  rw [kS0] at hs0
  obtain ⟨x0x0, x0x1, x0x2, x0x3, x0x4, x0x5, x0x6, x0x7, x0x8, x0x9, x0x10, x0x11, x0x12, x0x13, rfl⟩ := len14 hs0
  obtain ⟨n0x0, y0x0, t0x0⟩ := hf0 0 2 0 rfl
  obtain ⟨n0x1, y0x1, t0x1⟩ := hf0 1 2 1 rfl
  obtain ⟨n0x2, y0x2, t0x2⟩ := hf0 2 2 2 rfl
  obtain ⟨n0x3, y0x3, t0x3⟩ := hf0 3 2 3 rfl
  obtain ⟨n0x4, y0x4, t0x4⟩ := hf0 4 2 4 rfl
  obtain ⟨n0x5, y0x5, t0x5⟩ := hf0 5 2 5 rfl
  obtain ⟨n0x6, y0x6, t0x6⟩ := hf0 6 25 6 rfl
  obtain ⟨n0x7, y0x7, t0x7⟩ := hf0 7 25 7 rfl
  obtain ⟨n0x8, y0x8, t0x8⟩ := hf0 8 25 8 rfl
  obtain ⟨n0x9, y0x9, t0x9⟩ := hf0 9 25 9 rfl
  obtain ⟨n0x10, y0x10, t0x10⟩ := hf0 10 25 10 rfl
  obtain ⟨n0x11, y0x11, t0x11⟩ := hf0 11 25 11 rfl
  obtain ⟨n0x12, y0x12, t0x12⟩ := hf0 12 25 12 rfl
  obtain ⟨n0x13, y0x13, t0x13⟩ := hf0 13 22 13 rfl
  simp only [k_int64, k_opts, k_slice, List.drop_zero, List.drop_succ_cons, List.take_succ_cons, List.take_zero] at t0x0 t0x1 t0x2 t0x3 t0x4 t0x5 t0x6 t0x7 t0x8 t0x9 t0x10 t0x11 t0x12 t0x13
  obtain ⟨e0x0, rfl, w0x0⟩ := int_trod Try.underlying2 t0x0
  obtain ⟨e0x1, rfl, w0x1⟩ := int_trod Try.underlying2 t0x1
  obtain ⟨e0x2, rfl, w0x2⟩ := int_trod Try.underlying2 t0x2
  obtain ⟨e0x3, rfl, w0x3⟩ := int_trod Try.underlying2 t0x3
  obtain ⟨e0x4, rfl, w0x4⟩ := int_trod Try.underlying2 t0x4
  obtain ⟨e0x5, rfl, w0x5⟩ := int_trod Try.underlying2 t0x5
  obtain ⟨a0x6, b0x6, c0x6, l0x6, rfl, i0x6⟩ := slice_trod Try.underlying25 Try.underlying5 k_uint8 t0x6
  obtain ⟨a0x7, b0x7, c0x7, l0x7, rfl, i0x7⟩ := slice_trod Try.underlying25 Try.underlying5 k_uint8 t0x7
  obtain ⟨a0x8, b0x8, c0x8, l0x8, rfl, i0x8⟩ := slice_trod Try.underlying25 Try.underlying5 k_uint8 t0x8
  obtain ⟨a0x9, b0x9, c0x9, l0x9, rfl, i0x9⟩ := slice_trod Try.underlying25 Try.underlying5 k_uint8 t0x9
  obtain ⟨a0x10, b0x10, c0x10, l0x10, rfl, i0x10⟩ := slice_trod Try.underlying25 Try.underlying5 k_uint8 t0x10
  obtain ⟨a0x11, b0x11, c0x11, l0x11, rfl, i0x11⟩ := slice_trod Try.underlying25 Try.underlying5 k_uint8 t0x11
  obtain ⟨a0x12, b0x12, c0x12, l0x12, rfl, i0x12⟩ := slice_trod Try.underlying25 Try.underlying5 k_uint8 t0x12
  obtain ⟨a0x13, b0x13, c0x13, l0x13, rfl, i0x13⟩ := isOpts_trod t0x13
  clear hA0 hval0
  refine (lawDHCPWritten_calls e0x0 e0x1 e0x2 e0x3 e0x4 e0x5 a0x6 b0x6 c0x6 a0x7 b0x7 c0x7 a0x8 b0x8 c0x8 a0x9 b0x9 c0x9 a0x10 b0x10 c0x10 a0x11 b0x11 c0x11 a0x12 b0x12 c0x12 a0x13 b0x13 c0x13 l0x6 l0x7 l0x8 l0x9 l0x10 l0x11 l0x12 l0x13 W i0x6 i0x7 i0x8 i0x9 i0x10 i0x11 i0x12 i0x13).mono fun e W' ⟨he, gr⟩ => ?_
  subst he
  exact ⟨_, rfl, _, _, _, [], _, [], hW', trodAll_mk1 (shut_bool Try.underlying4 _), (trodAll_cons_mk (Below.trod laidOut (by kernel_rfl) (of_decide_eq_true (by kernel_rfl)) k0 gr.below lt0) trodAll_mk0), rfl, gr.below.frame _, fun h => by cases h⟩

theorem over : Rows.fnDHCPWrittenRow.holds Try.pinned (OpenSpec.ofChange Rows.fnDHCPWrittenSpec) :=
  OpenClaim.holds_of_wide 4 Try.f4 rfl rfl rfl rfl rfl rfl rfl ⟨rfl, rfl, rfl, rfl, rfl⟩ rfl rfl rfl rfl rfl (by kernel_rfl) Try.func4 (by kernel_rfl)
    (of_decide_eq_true (by kernel_rfl)) (by unfold Func.isWrapper; first | (rw [if_pos (by decide +kernel)]; kernel_rfl) | (rw [if_neg (by decide +kernel)]; exact ⟨rfl, rfl⟩))
    (fun os started H enc _ => lifted os started H enc)

theorem proved : Rows.FnDHCPWrittenSaid := over
#print axioms proved
end Go.Proofs.Ytdpffedmgmllbaa.dhcpWritten
