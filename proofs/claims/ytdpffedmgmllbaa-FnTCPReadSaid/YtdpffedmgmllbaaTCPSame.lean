/-
  Two headers of segments that are the same, but for the ends of their options.
-/
import Derived.Test.YtdpffedmgmllbaaIP4H
import Derived.Test.YtdpffedmgmllbaaOpts
import Derived.Deep.RegionHeld3
namespace Go.Proofs.Ytdpffedmgmllbaa
open Go.RowKit

/-- what holds ahead of a round -/
def SameRel (w : World) (os : List Opt) (i : Value) (wr : World) : Prop := ∃ k : Nat, k ≤ os.length ∧ i = .int .i64 k ∧ Gr w wr

set_option linter.unusedSimpArgs false in
set_option maxRecDepth 100000 in
set_option maxHeartbeats 4000000 in
theorem sameOpts_calls (u v : Value) (os : List Opt) (w : World) (hg0 : IsOpts w u (os ++ padO os)) (hd0 : IsOpts w v os) :
    Calls Try.prog 48 #[u, v] w fun e w' => e = .returned (.bool true) ∧ Gr w w' := by
  have hlg := hg0.len
  have hld := hd0.len
  have hm := hg0.max
  unfold maxLen at hm
  obtain ⟨gs, hgs⟩ : ∃ gs, gs = os ++ padO os := ⟨_, rfl⟩
  rw [← hgs] at hg0 hlg hm
  have hle : gs.length = os.length ∨ gs.length = os.length + 1 ∧ (gs.getD os.length Opt.zero).kind = 0 := by
    rw [hgs]
    unfold padO
    split
    · left; simp
    · right
      refine ⟨by simp, ?_⟩
      rw [List.getD_eq_getElem?_getD, List.getElem?_append_right (Nat.le_refl _)]
      simp
  have HGS := Lib.hid (show ∀ k, k < os.length → gs.getD k Opt.zero = os.getD k Opt.zero from fun k hk => by rw [hgs, List.getD_eq_getElem?_getD, List.getD_eq_getElem?_getD, List.getElem?_append_left hk])
  have HG := Lib.hid hg0
  have HD := Lib.hid hd0
  have HLE := Lib.hid hle
  have n1 : ¬ ((gs.length : Int) < (os.length : Int)) := by omega
  have n0 : decide ((gs.length : Int) < (os.length : Int)) = false := decide_eq_false n1
  clear hg0 hd0 hgs
  go_enter Try.func48, Try.ntmps48
  go_wp2_with fail
  go_loopw [14, 5] (fun i _ wr => SameRel w os i wr) (fun i _ _ => os.length - (intOf i).toNat)
  case atStart => exact ⟨0, Nat.zero_le _, rfl, Gr.refl w⟩
  case round =>
    obtain ⟨k, hk, rfl, hg⟩ := hrel
    by_cases hlt : k < os.length
    · obtain ⟨b, o, ix, hx⟩ := HD.out.idx .i64 k k rfl hlt
      obtain ⟨b', o', ix', hx'⟩ := HG.out.idx .i64 k k rfl (by omega)
      rw [HGS.out k hlt] at hx'
      obtain ⟨x, hxe⟩ : ∃ x, x = os.getD k Opt.zero := ⟨_, rfl⟩
      rw [← hxe] at hx hx'
      clear hxe
      obtain ⟨kd, ln, d⟩ := x
      obtain ⟨-, -, c0, c1, a, n, c, c2, hI⟩ := hx
      obtain ⟨-, -, c0', c1', a', n', c', c2', hI'⟩ := hx'
      have c0 := hg.cell c0
      have c1 := hg.cell c1
      have c2 := hg.cell c2
      have y0 := Gr.cell ((Gr.refl _).alloc (.cells #[.int .i64 kd, .int .i64 ln, .slice a n c] 96)) (hg.cell c0')
      have y1 := Gr.cell ((Gr.refl _).alloc (.cells #[.int .i64 kd, .int .i64 ln, .slice a n c] 96)) (hg.cell c1')
      have y2 := Gr.cell ((Gr.refl _).alloc (.cells #[.int .i64 kd, .int .i64 ln, .slice a n c] 96)) (hg.cell c2')
      simp only at c0 c1 c2 hI hI' y0 y1 y2
      have HI := Lib.hid (hI.gr hg)
      have HI' := Lib.hid (hI'.gr hg)
      clear hI hI' c0' c1' c2'
      go_wp2_with fail
      obtain ⟨Y, hY⟩ : ∃ Y, Y = wr.alloc (.cells #[.int .i64 kd, .int .i64 ln, .slice a n c] 96) := ⟨_, rfl⟩
      have gY : Gr wr Y := by rw [hY]; exact (Gr.refl _).alloc _
      have x0 : Y.cell? ⟨wr.heap.size, 0, none⟩ = some (.int .i64 kd) := by rw [hY]; exact cell_of_heap (cs := [_, _, _]) (heap_alloc_new wr _) 0 _ rfl
      have x1 : Y.cell? ⟨wr.heap.size, 1, none⟩ = some (.int .i64 ln) := by rw [hY]; exact cell_of_heap (cs := [_, _, _]) (heap_alloc_new wr _) 1 _ rfl
      have x2 : Y.cell? ⟨wr.heap.size, 2, none⟩ = some (.slice a n c) := by rw [hY]; exact cell_of_heap (cs := [_, _, _]) (heap_alloc_new wr _) 2 _ rfl
      try rw [← hY] at y0 y1 y2
      rw [← hY]
      have GY := Lib.hid (hg.trans gY)
      have HJ := Lib.hid (HI.out.gr gY)
      have HJ' := Lib.hid (HI'.out.gr gY)
      clear hY gY c0 c1 c2
      go_region_held3 (fun w' => w'.cell? ⟨wr.heap.size, 0, none⟩ = some (.int .i64 kd) ∧ w'.cell? ⟨wr.heap.size, 1, none⟩ = some (.int .i64 ln) ∧ w'.cell? ⟨wr.heap.size, 2, none⟩ = some (.slice a n c) ∧ w'.cell? ⟨b', o', none⟩ = some (.int .i64 kd) ∧ w'.cell? ⟨b', o' + 1, none⟩ = some (.int .i64 ln) ∧ w'.cell? ⟨b', o' + 2, none⟩ = some (.slice a' n' c'))
        (first | exact ⟨x0, x1, x2, y0, y1, y2⟩ | go_keep) (first
        | (go_at_call 18; refine (same_calls _ _ d d _ ?_ ?_).mono ?_; (exact HJ'.out.drew); (exact HJ.out.drew); rintro e w9 ⟨rfl, rfl⟩))
      go_wp2_with fail
      go_roundw
      case rel => exact ⟨k + 1, by omega, by go_num, GY.out.drew⟩
      case measure => simp [intOf]; omega
    · have e : k = os.length := by omega
      subst e
      rcases HLE.out with h | ⟨h, h0⟩
      · have b1 : ((gs.length : Int) == (os.length : Int)) = true := by simp [h]
        go_wp2_with fail
        go_ret
        exact ⟨by rfl, hg⟩
      · have b1 : ((gs.length : Int) == (os.length : Int)) = false := by simp [h]; omega
        obtain ⟨b', o', ix', hx'⟩ := HG.out.idx .i64 os.length os.length rfl (by omega)
        obtain ⟨-, -, c0', -⟩ := hx'
        rw [h0] at c0'
        have c0' := hg.cell c0'
        go_wp2_with fail
        go_ret
        exact ⟨by rfl, hg⟩

set_option maxRecDepth 100000 in
set_option maxHeartbeats 1000000 in
theorem sameTCP_calls (s d q a wo fl wi ck ur : Int) (ao : Option Addr) (no co : Nat) (eo : Option Addr) (po qo : Nat) (os : List Opt) (w : World) (h0 : IsOpts w (.slice ao no co) os) (h0' : IsOpts w (.slice eo po qo) (os ++ padO os)) :
    Calls Try.prog 17 #[.agg #[.int .i64 s, .int .i64 d, .int .i64 q, .int .i64 a, .int .i64 wo, .int .i64 fl, .int .i64 wi, .int .i64 ck, .int .i64 ur, .slice eo po qo], .agg #[.int .i64 s, .int .i64 d, .int .i64 q, .int .i64 a, .int .i64 wo, .int .i64 fl, .int .i64 wi, .int .i64 ck, .int .i64 ur, .slice ao no co]] w fun e w' => e = .returned (.bool true) ∧ Gr w w' := by
  have HO := Lib.hid h0
  have HO' := Lib.hid h0'
  clear h0 h0'
  go_enter Try.func17, Try.ntmps17
  go_wp2_with (first
      | (go_at_call 18; refine (same_calls _ _ _ _ _ (IsB.gr (by assumption) (by (repeat (with_reducible first | exact Gr.refl _ | assumption | refine Gr.alloc ?_ _ | refine Gr.drew ?_ | refine Gr.drewN ?_ _ | refine Gr.trans ?_ (by assumption))); done)) (IsB.gr (by assumption) (by (repeat (with_reducible first | exact Gr.refl _ | assumption | refine Gr.alloc ?_ _ | refine Gr.drew ?_ | refine Gr.drewN ?_ _ | refine Gr.trans ?_ (by assumption))); done))).mono ?_; rintro e w9 ⟨rfl, rfl⟩)
      | (go_at_call 48; refine (sameOpts_calls _ _ os _ (HO'.out.gr (by (repeat (with_reducible first | exact Gr.refl _ | assumption | refine Gr.alloc ?_ _ | refine Gr.drew ?_ | refine Gr.drewN ?_ _ | refine Gr.trans ?_ (by assumption))); done)) (HO.out.gr (by (repeat (with_reducible first | exact Gr.refl _ | assumption | refine Gr.alloc ?_ _ | refine Gr.drew ?_ | refine Gr.drewN ?_ _ | refine Gr.trans ?_ (by assumption))); done))).mono ?_; rintro e w9 ⟨rfl, hg9⟩))
  go_ret
  exact ⟨by simp, (by (repeat (with_reducible first | exact Gr.refl _ | assumption | refine Gr.alloc ?_ _ | refine Gr.drew ?_ | refine Gr.drewN ?_ _ | refine Gr.trans ?_ (by assumption))); done)⟩

end Go.Proofs.Ytdpffedmgmllbaa
