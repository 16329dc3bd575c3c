/- The statement FnVLANRead: for every tag of a virtual network (a priority up to 7, a number up to 4095, a type of two bytes) and every list of bytes behind it (2000 at most) the bytes of the tag are read back as that tag, and what stands behind it is carried; all other arguments let the law answer true at once. -/
import Derived.Test.YtbdbaapdiklnhaaLawVLANRead
import Derived.Test.YtbdbaapdiklnhaaOpen
namespace Go.Proofs.Ytbdbaapdiklnhaa.vlanRead
open Go.ChangeShapes Go.WideShapes Go.ChangeAt Go.RowKit
open Go.ChangeMaps (open_string shut_string)

theorem own : ownKnob Try.prog.godebug = none := by kernel_rfl
theorem laidOut : laidOutB Try.prog = true := by kernel_rfl
theorem c1 : Try.prog.cellsOf 23 = 4 := by kernel_rfl
theorem k_int64 : Try.prog.cellsOf 2 = 1 := by kernel_rfl
theorem k_bool : Try.prog.cellsOf 4 = 1 := by kernel_rfl
theorem k_u8 : Try.prog.cellsOf 5 = 1 := by kernel_rfl
theorem k_sl : Try.prog.cellsOf 24 = 1 := by kernel_rfl

set_option maxRecDepth 100000 in
theorem lifted (os : Os) (started : os.Started) (H : Type) (enc : TypeId × Value → H) :
    ReturnsInHanded {} Try.checked os 3 .any (Rows.fnVLANReadSpec.pre6 enc Try.prog Try.f3 Rows.fnVLANReadRow.domain false) (Rows.fnVLANReadSpec.post enc Try.prog Try.f3 false true false false) := by
  refine returnsInHanded_of_change (C := Try.checked) own started (by kernel_rfl) Try.func3
    (ChangeSpec.witness6 (enc := enc) (C := Try.checked) false ⟨#[], #[.agg #[.int .i64 0, .bool false, .int .i64 0, .int .i64 0], .slice none 0 0], []⟩ 8 (by kernel_rfl) (by kernel_rfl) (by kernel_rfl) (by kernel_rfl)) ?_
  intro W base args ds gs before hval0 hW hcnd _
  have hval : ∀ (j : Nat) t v, Try.f3.params[j]? = some t → args[j]? = some v → Value.okWide Try.prog W .any base t v := hval0
  have hW' := hW
  obtain ⟨p, q, hA0, hV, rfl, hfz, hnd⟩ := hW
  have hA : DataW.TrodAll enc Try.prog W 0 (fun _ => true) true Try.f3.params.toList args.toList ds p := hA0
  rw [Try.params3] at hA hval
  obtain ⟨v0, vs0, d0, ds0, p0, q0, hargs, rfl, rfl, h0, r0⟩ := trodAll_cons hA
  obtain ⟨v1, vs1, d1, ds1, p1, q1, rfl, rfl, rfl, h1, r1⟩ := trodAll_cons r0
  obtain ⟨rfl, rfl, rfl⟩ := trodAll_nil r1
  obtain rfl : args = #[v0, v1] := by cases args; simp_all
  obtain ⟨rfl, rfl⟩ := trodVars_none hV
  have k0 := h0
  have lt0 : ∀ x ∈ p0, x.block < W.heap.size := by obtain ⟨m, hm⟩ := k0; exact DataW.trod_lt m _ _ _ hm
  have k1 := h1
  have lt1 : ∀ x ∈ p1, x.block < W.heap.size := by obtain ⟨m, hm⟩ := k1; exact DataW.trod_lt m _ _ _ hm
  obtain ⟨s0, rfl, hs0, hf0⟩ := struct_trod Try.underlying23 (hval 0 23 v0 rfl rfl) h0
  rw [c1] at hs0
  obtain ⟨x0, x1, x2, x3, rfl⟩ := len4 hs0
  obtain ⟨n0, y0, t0⟩ := hf0 0 2 0 rfl
  obtain ⟨n1, y1, t1⟩ := hf0 1 4 1 rfl
  obtain ⟨n2, y2, t2⟩ := hf0 2 2 2 rfl
  obtain ⟨n3, y3, t3⟩ := hf0 3 2 3 rfl
  simp only [k_int64, k_bool, List.drop_zero, List.drop_succ_cons, List.take_succ_cons, List.take_zero] at t0 t1 t2 t3
  obtain ⟨a0, rfl, -⟩ := int_trod Try.underlying2 t0
  obtain ⟨a1, rfl⟩ := bool_trod Try.underlying4 t1
  obtain ⟨a2, rfl, -⟩ := int_trod Try.underlying2 t2
  obtain ⟨a3, rfl, -⟩ := int_trod Try.underlying2 t3
  obtain ⟨b0, n4, b1, rfl⟩ := okWide_slice Try.underlying24 (hval 1 24 v1 rfl rfl)
  obtain ⟨m1, hm1⟩ := h1
  obtain ⟨e0, e1, e2, l1, he1, hl1⟩ := isB_trod Try.underlying24 Try.underlying5 k_u8 hm1
  simp [Value.cells] at he1
  obtain ⟨rfl, rfl, rfl⟩ := he1
  clear hA0 hval0
  refine (law_calls a0 a2 a3 a1 _ _ _ l1 W hl1).mono fun e W' ⟨he, gr⟩ => ?_
  subst he
  exact ⟨_, rfl, _, _, _, [], _, [], hW', trodAll_mk1 (shut_bool Try.underlying4 _), (trodAll_cons_mk (Below.trod laidOut (by kernel_rfl) (of_decide_eq_true (by kernel_rfl)) k0 gr.below lt0) (trodAll_cons_mk (Below.trod laidOut (by kernel_rfl) (of_decide_eq_true (by kernel_rfl)) k1 gr.below lt1) trodAll_mk0)), rfl, gr.below.frame _, fun h => by cases h⟩

theorem over : Rows.fnVLANReadRow.holds Try.pinned (OpenSpec.ofChange Rows.fnVLANReadSpec) :=
  OpenClaim.holds_of_wide 3 Try.f3 rfl rfl rfl rfl rfl rfl rfl ⟨rfl, rfl, rfl, rfl, rfl⟩ rfl rfl rfl rfl rfl (by kernel_rfl) Try.func3 (by kernel_rfl)
    (of_decide_eq_true (by kernel_rfl)) (by unfold Func.isWrapper; first | (rw [if_pos (by decide +kernel)]; kernel_rfl) | (rw [if_neg (by decide +kernel)]; exact ⟨rfl, rfl⟩))
    (fun os started H enc _ => lifted os started H enc)

theorem proved : Rows.FnVLANReadSaid := over
#print axioms proved
end Go.Proofs.Ytbdbaapdiklnhaa.vlanRead
