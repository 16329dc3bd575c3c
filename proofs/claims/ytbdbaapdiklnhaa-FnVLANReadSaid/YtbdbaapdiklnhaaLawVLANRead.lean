/-
  The law FnVLANRead: a tag of a virtual network is read back, with what stands behind it.
-/
import Derived.Test.YtbdbaapdiklnhaaVLAN
namespace Go.Proofs.Ytbdbaapdiklnhaa.vlanRead
open Go.RowKit

theorem back (p i t : Int) (d : Bool) (l : List Int) (hv : isVLAN p i t = true) :
    bt (vlan p i t d ++ l) 0 / 32 = p ∧ (bt (vlan p i t d ++ l) 0 / 16 % 2 * 16 != 0) = d ∧ (bt (vlan p i t d ++ l) 0 * 256 + bt (vlan p i t d ++ l) 1) % 4096 = i ∧ bt (vlan p i t d ++ l) 2 * 256 + bt (vlan p i t d ++ l) 3 = t := by
  simp only [isVLAN, Bool.and_eq_true, upto_iff] at hv
  have e0 : bt (vlan p i t d ++ l) 0 = (p * 8192 + bi d * 4096 + i) / 256 % 256 := rfl
  have e1 : bt (vlan p i t d ++ l) 1 = (p * 8192 + bi d * 4096 + i) % 256 := rfl
  have e2 : bt (vlan p i t d ++ l) 2 = t / 256 % 256 := rfl
  have e3 : bt (vlan p i t d ++ l) 3 = t % 256 := rfl
  rw [e0, e1, e2, e3]
  have hd := bi_le d
  refine ⟨by omega, ?_, by omega, by omega⟩
  cases d with
  | false => simp only [bi] at *; rw [bne_eq_false_iff_eq]; simp; omega
  | true => simp only [bi] at *; rw [bne_iff_ne]; simp; omega

set_option maxRecDepth 100000 in
set_option maxHeartbeats 1000000 in
theorem law_calls (p i t : Int) (d : Bool) (a0 : Option Addr) (n0 c0 : Nat) (l : List Int) (w : World) (h : IsB w (.slice a0 n0 c0) l) :
    Calls Try.prog 3 #[.agg #[.int .i64 p, .bool d, .int .i64 i, .int .i64 t], .slice a0 n0 c0] w fun e w' => e = .returned (.bool true) ∧ Gr w w' := by
  have g1 := fun ty => h.len (P := Try.prog) 24 ty 5 Try.underlying24
  by_cases hbig : (l.length : Int) > 2147483647
  · go_enter Try.func3, Try.ntmps3
    go_wp2_with fail
    go_ret
    exact ⟨rfl, (Gr.refl w).alloc _⟩
  · have H := Lib.hid h
    clear h
    cases hv : isVLAN p i t with
    | false =>
      go_enter Try.func3, Try.ntmps3
      go_wp2_with (go_at_call 15; refine (isVLAN_calls _ _ _ _ _).mono ?_; rintro e w1 ⟨rfl, hg1⟩)
      go_ret
      exact ⟨rfl, ((Gr.refl w).alloc _).trans hg1⟩
    | true =>
      cases hp : isPay l with
      | false =>
        go_enter Try.func3, Try.ntmps3
        go_wp2_with fail
        refine (isVLAN_calls _ _ _ _ _).mono ?_
        rintro e w1 ⟨rfl, hg1⟩
        go_wp2_with fail
        refine (isPayload_calls _ l _ (H.out.gr (((Gr.refl w).alloc _).trans hg1))).mono ?_
        rintro e w1 ⟨rfl, rfl⟩
        go_wp2_with fail
        go_ret
        exact ⟨rfl, ((Gr.refl w).alloc _).trans hg1⟩
      | true =>
        have HV := Lib.hid hv
        have hl2 := isPay_iff.1 hp
        go_enter Try.func3, Try.ntmps3
        go_wp2_with fail
        refine (isVLAN_calls _ _ _ _ _).mono ?_
        rintro e w1 ⟨rfl, hg1⟩
        have k0 := hg1.cell (cell_of_heap (cs := [_, _, _, _]) (heap_alloc_new w (.cells #[.int .i64 p, .bool d, .int .i64 i, .int .i64 t] 23)) 0 _ rfl)
        have k1 := hg1.cell (cell_of_heap (cs := [_, _, _, _]) (heap_alloc_new w (.cells #[.int .i64 p, .bool d, .int .i64 i, .int .i64 t] 23)) 1 _ rfl)
        have k2 := hg1.cell (cell_of_heap (cs := [_, _, _, _]) (heap_alloc_new w (.cells #[.int .i64 p, .bool d, .int .i64 i, .int .i64 t] 23)) 2 _ rfl)
        have k3 := hg1.cell (cell_of_heap (cs := [_, _, _, _]) (heap_alloc_new w (.cells #[.int .i64 p, .bool d, .int .i64 i, .int .i64 t] 23)) 3 _ rfl)
        go_wp2_with fail
        refine (isPayload_calls _ l _ (H.out.gr (((Gr.refl w).alloc _).trans hg1))).mono ?_
        rintro e w1 ⟨rfl, rfl⟩
        go_wp2_with fail
        refine (vlan_calls _ _ _ _ _ HV.out).mono ?_
        rintro e w2 ⟨a2, n2, c2, rfl, ho2, hg2⟩
        go_wp2_with fail
        refine (joined_calls _ [vlan p i t d, l] _ (isBs_lit _ _ [vlan p i t d, l] _ ?_ _ rfl) ?_ ?_).mono ?_
        · exact ⟨ho2.isB, H.out.gr ((((Gr.refl w).alloc _).trans hg1).trans hg2), trivial⟩
        · simp [vlan, sh]; omega
        · simp
        rintro e w3 ⟨a3, n3, c3, rfl, ho3, hg3⟩
        go_wp2_with fail
        refine (vlanRead_calls _ _ _ ho3.isB ?_ ?_).mono ?_
        · simp [vlan, sh]
        · simp [vlan, sh]; omega
        rintro e w4 ⟨a4, n4, c4, rfl, hb4, hg4⟩
        have G := ((hg2.alloc _).trans hg3).trans hg4
        have k0 := G.cell k0
        have k1 := G.cell k1
        have k2 := G.cell k2
        have k3 := G.cell k3
        have hs : w.heap.size < w4.heap.size := by have h1 := hg1.size; have h2 := G.size; rw [World.size_alloc] at h1; omega
        obtain ⟨x0, x1, x2, x3⟩ := back p i t d l HV.out
        go_wp2_with fail
        refine (same_calls _ _ l l _ ?_ ?_).mono ?_
        · have e : [vlan p i t d, l].flatten.drop 4 = l := by simp [vlan, sh]
          rw [e] at hb4
          exact hb4.gr ((Gr.refl _).alloc _)
        · exact H.out.gr (((((Gr.refl w).alloc _).trans hg1).trans G).alloc _)
        rintro e w5 ⟨rfl, rfl⟩
        go_wp2_with fail
        go_ret
        refine ⟨by simp, ((((Gr.refl w).alloc _).trans hg1).trans G).alloc _⟩
end Go.Proofs.Ytbdbaapdiklnhaa.vlanRead
