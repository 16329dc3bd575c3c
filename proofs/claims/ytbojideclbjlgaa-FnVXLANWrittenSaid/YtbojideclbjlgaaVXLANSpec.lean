/-
  A header of a virtual extensible network: the law's own functions.
-/
import Derived.Test.YtbojideclbjlgaaLib2
import Derived.Test.YtbojideclbjlgaaLib3
import Derived.Test.YtbojideclbjlgaaBase
import Derived.Deep.RegionHeld3
import Derived.Deep.RegionWith
namespace Go.Proofs.Ytbojideclbjlgaa
open Go.RowKit

def isVXLAN (n : Int) (po st ap : Bool) (g : Int) : Bool := upto n 16777215 && upto g 65535 && !ap && (po || (!st && (g == 0)))

set_option maxRecDepth 100000 in
set_option maxHeartbeats 1000000 in
theorem isVXLAN_calls (v : Bool) (n : Int) (po st ap : Bool) (g : Int) (w : World)  :
    Calls Try.prog 28 #[.agg #[.bool v, .int .i64 n, .bool po, .bool st, .bool ap, .int .i64 g]] w fun e w' => e = .returned (.bool (isVXLAN n po st ap g)) ∧ Gr w w' := by
  cases hc0 : (upto n 16777215 : Bool) with
  | false =>
    go_enter Try.func28, Try.ntmps28
    go_wp2_with ((first | (go_at_call 66; refine (upTo_calls _ _ _).mono ?_; rintro e w9 ⟨rfl, rfl⟩)))
    go_ret
    exact ⟨by simp [isVXLAN, hc0], (by repeat (with_reducible first | exact Gr.refl _ | assumption | refine Gr.alloc ?_ _ | refine Gr.drew ?_ | refine Gr.drewN ?_ _ | refine Gr.trans ?_ (by assumption)))⟩
  | true =>
    cases hc1 : (upto g 65535 : Bool) with
    | false =>
      go_enter Try.func28, Try.ntmps28
      go_wp2_with ((first | (go_at_call 66; refine (upTo_calls _ _ _).mono ?_; rintro e w9 ⟨rfl, rfl⟩)))
      go_ret
      exact ⟨by simp [isVXLAN, hc0, hc1], (by repeat (with_reducible first | exact Gr.refl _ | assumption | refine Gr.alloc ?_ _ | refine Gr.drew ?_ | refine Gr.drewN ?_ _ | refine Gr.trans ?_ (by assumption)))⟩
    | true =>
      cases ap with
      | false =>
        cases po with
        | false =>
          cases st with
          | false =>
            cases hc5 : (g == 0 : Bool) with
            | false =>
              go_enter Try.func28, Try.ntmps28
              go_wp2_with ((first | (go_at_call 66; refine (upTo_calls _ _ _).mono ?_; rintro e w9 ⟨rfl, rfl⟩)))
              go_ret
              exact ⟨by simp [isVXLAN, hc0, hc1, hc5], (by repeat (with_reducible first | exact Gr.refl _ | assumption | refine Gr.alloc ?_ _ | refine Gr.drew ?_ | refine Gr.drewN ?_ _ | refine Gr.trans ?_ (by assumption)))⟩
            | true =>
              go_enter Try.func28, Try.ntmps28
              go_wp2_with ((first | (go_at_call 66; refine (upTo_calls _ _ _).mono ?_; rintro e w9 ⟨rfl, rfl⟩)))
              go_ret
              exact ⟨by simp [isVXLAN, hc0, hc1, hc5], (by repeat (with_reducible first | exact Gr.refl _ | assumption | refine Gr.alloc ?_ _ | refine Gr.drew ?_ | refine Gr.drewN ?_ _ | refine Gr.trans ?_ (by assumption)))⟩
          | true =>
            go_enter Try.func28, Try.ntmps28
            go_wp2_with ((first | (go_at_call 66; refine (upTo_calls _ _ _).mono ?_; rintro e w9 ⟨rfl, rfl⟩)))
            go_ret
            exact ⟨by simp [isVXLAN, hc0, hc1], (by repeat (with_reducible first | exact Gr.refl _ | assumption | refine Gr.alloc ?_ _ | refine Gr.drew ?_ | refine Gr.drewN ?_ _ | refine Gr.trans ?_ (by assumption)))⟩
        | true =>
          go_enter Try.func28, Try.ntmps28
          go_wp2_with ((first | (go_at_call 66; refine (upTo_calls _ _ _).mono ?_; rintro e w9 ⟨rfl, rfl⟩)))
          go_ret
          exact ⟨by simp [isVXLAN, hc0, hc1], (by repeat (with_reducible first | exact Gr.refl _ | assumption | refine Gr.alloc ?_ _ | refine Gr.drew ?_ | refine Gr.drewN ?_ _ | refine Gr.trans ?_ (by assumption)))⟩
      | true =>
        go_enter Try.func28, Try.ntmps28
        go_wp2_with ((first | (go_at_call 66; refine (upTo_calls _ _ _).mono ?_; rintro e w9 ⟨rfl, rfl⟩)))
        go_ret
        exact ⟨by simp [isVXLAN, hc0, hc1], (by repeat (with_reducible first | exact Gr.refl _ | assumption | refine Gr.alloc ?_ _ | refine Gr.drew ?_ | refine Gr.drewN ?_ _ | refine Gr.trans ?_ (by assumption)))⟩

def vxlan (v : Bool) (n : Int) (po st ap : Bool) (g : Int) : List Int := [[bi po * 128 + bi v * 8, bi st * 64 + bi ap * 8], sh g, lo (n * 256)].flatten

set_option maxRecDepth 100000 in
set_option maxHeartbeats 1000000 in
theorem vxlan_calls (v : Bool) (n : Int) (po st ap : Bool) (g : Int) (w : World) (hn : 0 ≤ n ∧ n ≤ 16777215) :
    Calls Try.prog 30 #[.agg #[.bool v, .int .i64 n, .bool po, .bool st, .bool ap, .int .i64 g]] w (RetB w (vxlan v n po st ap g)) := by
  have d1 := bi_le v
  have d2 := bi_le po
  have d3 := bi_le st
  have d4 := bi_le ap
  have q1 : IntKind.i64.wrap (bi po * 128) = bi po * 128 := w64 (by omega) (by omega)
  have q2 : IntKind.i64.wrap (bi v * 8) = bi v * 8 := w64 (by omega) (by omega)
  have q3 : IntKind.i64.wrap (bi st * 64) = bi st * 64 := w64 (by omega) (by omega)
  have q4 : IntKind.i64.wrap (bi ap * 8) = bi ap * 8 := w64 (by omega) (by omega)
  have q5 : IntKind.i64.wrap (n * 256) = n * 256 := w64 (by omega) (by omega)
  have e1 : bits .or .i64 (bi po * 128) (bi v * 8) = bi po * 128 + bi v * 8 := bor .i64 7 (by omega) (by omega) (by omega) (by omega) (by rw [max_i64]; omega)
  have e2 : bits .or .i64 (bi st * 64) (bi ap * 8) = bi st * 64 + bi ap * 8 := bor .i64 6 (by omega) (by omega) (by omega) (by omega) (by rw [max_i64]; omega)
  have z1 : IntKind.u8.wrap (bi po * 128 + bi v * 8) = bi po * 128 + bi v * 8 := by simp [IntKind.wrap, IntKind.bits, IntKind.signed]; omega
  have z2 : IntKind.u8.wrap (bi st * 64 + bi ap * 8) = bi st * 64 + bi ap * 8 := by simp [IntKind.wrap, IntKind.bits, IntKind.signed]; omega
  go_enter Try.func30, Try.ntmps30
  go_wp2_with fail
  go_region_held3 (fun w' => w'.cell? ⟨w.heap.size, 0, none⟩ = some (.bool v) ∧ w'.cell? ⟨w.heap.size, 1, none⟩ = some (.int .i64 n) ∧ w'.cell? ⟨w.heap.size, 2, none⟩ = some (.bool po) ∧ w'.cell? ⟨w.heap.size, 3, none⟩ = some (.bool st) ∧ w'.cell? ⟨w.heap.size, 4, none⟩ = some (.bool ap) ∧ w'.cell? ⟨w.heap.size, 5, none⟩ = some (.int .i64 g)) (first | exact And.imp (Gr.cell (by assumption)) (And.imp (Gr.cell (by assumption)) (And.imp (Gr.cell (by assumption)) (And.imp (Gr.cell (by assumption)) (And.imp (Gr.cell (by assumption)) (Gr.cell (by assumption)))))) (by assumption) | go_keep) (first | (go_at_call 72; refine (bit_calls _ _).mono ?_; rintro e w' ⟨rfl, rfl⟩))
  go_wp2_with fail
  go_region_held3 (fun w' => w'.cell? ⟨w.heap.size, 0, none⟩ = some (.bool v) ∧ w'.cell? ⟨w.heap.size, 1, none⟩ = some (.int .i64 n) ∧ w'.cell? ⟨w.heap.size, 2, none⟩ = some (.bool po) ∧ w'.cell? ⟨w.heap.size, 3, none⟩ = some (.bool st) ∧ w'.cell? ⟨w.heap.size, 4, none⟩ = some (.bool ap) ∧ w'.cell? ⟨w.heap.size, 5, none⟩ = some (.int .i64 g)) (first | exact And.imp (Gr.cell (by assumption)) (And.imp (Gr.cell (by assumption)) (And.imp (Gr.cell (by assumption)) (And.imp (Gr.cell (by assumption)) (And.imp (Gr.cell (by assumption)) (Gr.cell (by assumption)))))) (by assumption) | go_keep) (first | (go_at_call 72; refine (bit_calls _ _).mono ?_; rintro e w' ⟨rfl, rfl⟩))
  go_wp2_with fail
  go_region_held3 (fun w' => w'.cell? ⟨w.heap.size, 0, none⟩ = some (.bool v) ∧ w'.cell? ⟨w.heap.size, 1, none⟩ = some (.int .i64 n) ∧ w'.cell? ⟨w.heap.size, 2, none⟩ = some (.bool po) ∧ w'.cell? ⟨w.heap.size, 3, none⟩ = some (.bool st) ∧ w'.cell? ⟨w.heap.size, 4, none⟩ = some (.bool ap) ∧ w'.cell? ⟨w.heap.size, 5, none⟩ = some (.int .i64 g)) (first | exact And.imp (Gr.cell (by assumption)) (And.imp (Gr.cell (by assumption)) (And.imp (Gr.cell (by assumption)) (And.imp (Gr.cell (by assumption)) (And.imp (Gr.cell (by assumption)) (Gr.cell (by assumption)))))) (by assumption) | go_keep) (first
    | (go_at_call 74; refine (short_calls _ _).mono ?_; rintro e w9 ⟨_, _, _, rfl, ho9, hg9⟩; have hb9 := ho9.isB)
    | (go_at_call 71; refine (long_calls _ _).mono ?_; rintro e w9 ⟨_, _, _, rfl, ho9, hg9⟩; have hb9 := ho9.isB)
    | (go_at_call 23; refine (joined_calls _ [[bi po * 128 + bi v * 8, bi st * 64 + bi ap * 8], sh g, lo (n * 256)] _ (isBs_at _ _ [[bi po * 128 + bi v * 8, bi st * 64 + bi ap * 8], sh g, lo (n * 256)] _ (Reads.cons (lit2_gr (by repeat (with_reducible first | exact Gr.refl _ | assumption | refine Gr.alloc ?_ _ | refine Gr.drew ?_ | refine Gr.drewN ?_ _ | refine Gr.trans ?_ (by assumption))) (by simp) (by omega) (by omega)) (Reads.cons (IsB.gr (by assumption) (by repeat (with_reducible first | exact Gr.refl _ | assumption | refine Gr.alloc ?_ _ | refine Gr.drew ?_ | refine Gr.drewN ?_ _ | refine Gr.trans ?_ (by assumption)))) (Reads.cons (IsB.gr (by assumption) (by repeat (with_reducible first | exact Gr.refl _ | assumption | refine Gr.alloc ?_ _ | refine Gr.drew ?_ | refine Gr.drewN ?_ _ | refine Gr.trans ?_ (by assumption)))) (Reads.nil _)))) _ rfl _ (by simp)) (by simp [sh, lo]) (by simp)).mono ?_; rintro e w9 ⟨_, _, _, rfl, ho9, hg9⟩))
  go_wp2
  all_goals (go_ret; exact RetB.after (by repeat (with_reducible first | exact Gr.refl _ | assumption | refine Gr.alloc ?_ _ | refine Gr.drew ?_ | refine Gr.drewN ?_ _ | refine Gr.trans ?_ (by assumption))) ho9 hg9)

end Go.Proofs.Ytbojideclbjlgaa
