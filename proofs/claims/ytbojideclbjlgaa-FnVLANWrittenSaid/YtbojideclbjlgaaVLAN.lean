/-
  The tag of a virtual network: the law's own functions, and reading.
-/
import Derived.Test.YtbojideclbjlgaaBase
import Derived.Deep.RegionHeld3
import Derived.RegionTactic
namespace Go.Proofs.Ytbojideclbjlgaa
open Go.RowKit

/-- all parts of a tag have their sizes -/
def isVLAN (p i t : Int) : Bool := upto p 7 && upto i 4095 && upto t 65535

set_option maxHeartbeats 400000 in
theorem isVLAN_calls (p i t : Int) (d : Bool) (w : World) :
    Calls Try.prog 25 #[.agg #[.int .i64 p, .bool d, .int .i64 i, .int .i64 t]] w fun e w' => e = .returned (.bool (isVLAN p i t)) ∧ Gr w w' := by
  cases h1 : upto p 7 with
  | false =>
    go_enter Try.func25, Try.ntmps25
    go_wp2_with (go_at_call 66; refine (upTo_calls _ _ _).mono ?_; rintro e w' ⟨rfl, rfl⟩)
    go_ret
    exact ⟨by simp [isVLAN, h1], (Gr.refl w).alloc _⟩
  | true =>
    cases h2 : upto i 4095 with
    | false =>
      go_enter Try.func25, Try.ntmps25
      go_wp2_with (go_at_call 66; refine (upTo_calls _ _ _).mono ?_; rintro e w' ⟨rfl, rfl⟩)
      go_ret
      exact ⟨by simp [isVLAN, h1, h2], (Gr.refl w).alloc _⟩
    | true =>
      go_enter Try.func25, Try.ntmps25
      go_wp2_with (go_at_call 66; refine (upTo_calls _ _ _).mono ?_; rintro e w' ⟨rfl, rfl⟩)
      go_ret
      exact ⟨by simp [isVLAN, h1, h2], (Gr.refl w).alloc _⟩

/-- a tag as bytes -/
def vlan (p i t : Int) (d : Bool) : List Int := sh (p * 8192 + bi d * 4096 + i) ++ sh t

set_option maxRecDepth 100000 in
set_option maxHeartbeats 1000000 in
theorem vlan_calls (p i t : Int) (d : Bool) (w : World) (hv : isVLAN p i t = true) :
    Calls Try.prog 27 #[.agg #[.int .i64 p, .bool d, .int .i64 i, .int .i64 t]] w (RetB w (vlan p i t d)) := by
  simp only [isVLAN, Bool.and_eq_true, upto_iff] at hv
  obtain ⟨⟨⟨p0, p1⟩, i0, i1⟩, t0, t1⟩ := hv
  have d01 := bi_le d
  have d0 := d01.1
  have d1 := d01.2
  clear d01
  have q1 : IntKind.i64.wrap (p * 8192) = p * 8192 := w64 (by omega) (by omega)
  have q2 : IntKind.i64.wrap (bi d * 4096) = bi d * 4096 := w64 (by omega) (by omega)
  have e1 : bits .or .i64 (p * 8192) (bi d * 4096) = p * 8192 + bi d * 4096 := bor .i64 13 (by omega) (by omega) (by omega) (by omega) (by rw [max_i64]; omega)
  have e2 : bits .or .i64 (p * 8192 + bi d * 4096) i = p * 8192 + bi d * 4096 + i := bor .i64 12 (by omega) (by omega) (by omega) (by omega) (by rw [max_i64]; omega)
  go_enter Try.func27, Try.ntmps27
  go_wp2_with fail
  go_region_held3 (fun w' => w'.cell? ⟨w.heap.size, 0, none⟩ = some (.int .i64 p) ∧ w'.cell? ⟨w.heap.size, 1, none⟩ = some (.bool d) ∧ w'.cell? ⟨w.heap.size, 2, none⟩ = some (.int .i64 i) ∧ w'.cell? ⟨w.heap.size, 3, none⟩ = some (.int .i64 t)) (first | exact And.imp (Gr.cell (by assumption)) (And.imp (Gr.cell (by assumption)) (And.imp (Gr.cell (by assumption)) (Gr.cell (by assumption)))) (by assumption) | go_keep) (first | (go_at_call 72; refine (bit_calls _ _).mono ?_; rintro e w' ⟨rfl, rfl⟩) | (go_at_call 74; refine (short_calls _ _).mono ?_; rintro e w1 ⟨_, _, _, rfl, ho1, hg1⟩) | (go_at_call 23; refine (joined_calls _ [sh (p * 8192 + bi d * 4096 + i), sh t] _ (isBs_lit _ _ [sh (p * 8192 + bi d * 4096 + i), sh t] _ ?_ _ rfl) ?_ ?_).mono ?_; (refine ⟨?_, ?_, trivial⟩ <;> solve_by_elim (maxDepth := 8) [Own.isB, IsB.gr]); (simp [sh]); (simp); rintro e w1 ⟨_, _, _, rfl, ho1, hg1⟩))
  go_wp2
  go_ret
  have e : vlan p i t d = [sh (p * 8192 + bi d * 4096 + i), sh t].flatten := by simp [vlan]
  rw [e]
  exact RetB.after (by repeat (with_reducible first | exact Gr.refl _ | refine Gr.alloc ?_ _ | refine Gr.drew ?_ | refine Gr.trans ?_ (by assumption))) ho1 hg1

end Go.Proofs.Ytbojideclbjlgaa
