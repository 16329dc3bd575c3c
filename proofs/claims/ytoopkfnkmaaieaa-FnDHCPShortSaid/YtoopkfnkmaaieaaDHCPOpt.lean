/-
  A message for addresses: reading.
-/
import Derived.Test.YtoopkfnkmaaieaaRecs2
import Derived.Test.YtoopkfnkmaaieaaKinds
import Derived.Test.YtoopkfnkmaaieaaIP4
import Derived.Test.YtoopkfnkmaaieaaLib2
import Derived.Test.YtoopkfnkmaaieaaLib3
import Derived.Test.YtoopkfnkmaaieaaTrunc
import Derived.Test.YtoopkfnkmaaieaaBase
import Derived.Deep.RegionHeld3
import Derived.Deep.RegionWith
namespace Go.Proofs.Ytoopkfnkmaaieaa
open Go.RowKit

theorem info_dh : (Try.prog.info? 122).map (fun i => (i.zero, i.size, i.bytes)) = some (some (.agg #[.int .u8 0, .int .u8 0, .slice none 0 0]), 3, 32) := by kernel_rfl
theorem nil_dh (k : IntKind) (w : World) : (Instr.sliceAt 117 (.slice none 0 0) none (some (.int k 0)) none).run Try.prog w = .ok (.slice none 0 0) w := by
  obtain ⟨i, hi, he⟩ := Option.map_eq_some_iff.1 info_dh
  simp only [Prod.mk.injEq] at he
  have hE : Try.prog.elem 117 = 122 := by simp [Program.elem, Try.underlying117]
  rw [run_sliceAt_slice w 117 _ _ _ _ (by rw [hE]; exact Try.underlying117), run_slice_h w 117 _ _ _ (by rw [hE]; exact Try.underlying117) k 0 (by omega) (by omega)]
  simp [sizeOf, typeInfo, hE, hi, he.2.1, Result.andThen, sliced]

set_option linter.unusedSimpArgs false in
set_option maxRecDepth 100000 in
set_option maxHeartbeats 2000000 in
theorem dhcpOpt0_calls (T : Nat) (av : Option Addr) (nv cv : Nat) (l rest : List Int) (kd : Int) (w : World) (hT : Has w T) (h : IsB w (.slice av nv cv) l) (hne : (Value.slice av nv cv).ownBlock ≠ some T) (hl : l = kd :: rest) (hk : kd = 0 ∨ kd = 255) :
    Calls Try.prog 75 #[.pointer (some ⟨T, 0, none⟩), .slice av nv cv] (rowW w T [.int .u8 0, .int .u8 0, .slice none 0 0] 122) fun e w' => e = .returned .nilIface ∧ ∃ q, w' = rowW (w.drewN q) T [.int .u8 kd, .int .u8 0, .slice none 0 0] 122 := by
  have hlen := fun ty => h.len (P := Try.prog) 25 ty 5 Try.underlying25
  obtain ⟨w1, rfl⟩ : ∃ w1 : World, w = w1.drewN 0 := ⟨w, rfl⟩
  have h : IsB w1 (.slice av nv cv) l := h
  obtain ⟨i, hi, hz0, hz1, hz2⟩ := info_parts info_u8
  obtain ⟨b0, o0, i0, c0, z0⟩ := h.idx (P := Try.prog) 25 5 i Try.underlying25 hi hz1 .i64 0 0 rfl (by rw [hl]; simp)
  have e0 : b0 ≠ T := by rintro rfl; exact hne z0
  rw [show bt l 0 = kd by rw [hl]; rfl] at c0
  have n1 : decide ((l.length : Int) < 1) = false := by rw [hl]; simp; omega
  have n2 : ¬ ((l.length : Int) < 1) := by rw [hl]; simp; omega
  clear hl z0 hne
  rcases hk with rfl | rfl
  · go_enter Try.func75, Try.ntmps75
    go_wp2_with fail
    go_ret
    exact ⟨rfl, _, rfl⟩
  · go_enter Try.func75, Try.ntmps75
    go_wp2_with fail
    go_ret
    exact ⟨rfl, _, rfl⟩

set_option linter.unusedSimpArgs false in
set_option maxRecDepth 100000 in
set_option maxHeartbeats 2000000 in
theorem dhcpOpt_calls (T : Nat) (av : Option Addr) (nv cv : Nat) (l d rest : List Int) (kd : Int) (w : World) (hT : Has w T) (h : IsB w (.slice av nv cv) l) (hne : (Value.slice av nv cv).ownBlock ≠ some T) (hl : l = [kd, (d.length : Int)] ++ (d ++ rest)) (k0 : kd ≠ 0) (k1 : kd ≠ 255) (hd : d.length ≤ 255) :
    Calls Try.prog 75 #[.pointer (some ⟨T, 0, none⟩), .slice av nv cv] (rowW w T [.int .u8 0, .int .u8 0, .slice none 0 0] 122) fun e w' => e = .returned .nilIface ∧ ∃ q ad nd md, w' = rowW (w.drewN q) T [.int .u8 kd, .int .u8 (d.length : Int), .slice ad nd md] 122 ∧ IsB w (.slice ad nd md) d ∧ (Value.slice ad nd md).ownBlock = (Value.slice av nv cv).ownBlock := by
  have hlen := fun ty => h.len (P := Try.prog) 25 ty 5 Try.underlying25
  obtain ⟨w1, rfl⟩ : ∃ w1 : World, w = w1.drewN 0 := ⟨w, rfl⟩
  have h : IsB w1 (.slice av nv cv) l := h
  have hT : Has w1 T := hT
  obtain ⟨N, hN⟩ : ∃ N, N = d.length := ⟨_, rfl⟩
  have hll : l.length = N + 2 + rest.length := by rw [hl, hN]; simp; omega
  obtain ⟨i, hi, hz0, hz1, hz2⟩ := info_parts info_u8
  obtain ⟨b0, o0, i0, c0, z0⟩ := h.idx (P := Try.prog) 25 5 i Try.underlying25 hi hz1 .i64 0 0 rfl (by omega)
  obtain ⟨b1, o1, i1, c1, z1⟩ := h.idx (P := Try.prog) 25 5 i Try.underlying25 hi hz1 .i64 1 1 rfl (by omega)
  obtain ⟨a2, n2, m2, h2, hb2, s2⟩ := h.cutL (P := Try.prog) 25 5 i Try.underlying25 hi hz1 2 2 rfl (by omega)
  obtain ⟨ad, nd, md, hD, hbD, sd⟩ := h.cutLH (P := Try.prog) 25 5 i Try.underlying25 hi hz1 2 (2 + (N : Int)) 2 (2 + N) rfl (by omega) (by omega) (by omega)
  have hl2 := fun ty => h2.len (P := Try.prog) 25 ty 5 Try.underlying25
  have e2 : (l.drop 2).length = N + rest.length := by rw [List.length_drop]; omega
  rw [e2] at hl2
  have e0 : b0 ≠ T := by rintro rfl; exact hne z0
  have e1 : b1 ≠ T := by rintro rfl; exact hne z1
  rw [show bt l 0 = kd by rw [hl]; rfl] at c0
  rw [show bt l 1 = (N : Int) by rw [hl, hN]; rfl] at c1
  have eD : (l.take (2 + N)).drop 2 = d := by rw [hl, hN]; simp [Nat.add_comm]
  rw [eD] at hD
  rw [← hN] at hd ⊢
  have HDd := Lib.hid (show IsB w1 (.slice ad nd md) d from hD)
  have HBD := Lib.hid hbD
  have n1 : decide ((l.length : Int) < 1) = false := by simp; omega
  have n2' : ¬ ((l.length : Int) < 1) := by omega
  have n3 : decide ((l.length : Int) < 2) = false := by simp; omega
  have n4 : ¬ ((l.length : Int) < 2) := by omega
  have t0 : (kd == 0) = false := beq_eq_false_iff_ne.2 k0
  have t1 : (kd == 255) = false := beq_eq_false_iff_ne.2 k1
  have w1' : IntKind.i64.wrap (N : Int) = (N : Int) := w64 (by omega) (by omega)
  have w2' : IntKind.i64.wrap (2 + (N : Int)) = 2 + (N : Int) := w64 (by omega) (by omega)
  have n5 : decide (((N + rest.length : Nat) : Int) < (N : Int)) = false := by simp; omega
  have n6 : ¬ (((N + rest.length : Nat) : Int) < (N : Int)) := by omega
  clear hl eD hD hbD h2 hb2 e2 z0 z1 hne hN
  go_enter Try.func75, Try.ntmps75
  go_wp2_with fail
  go_region_held3 (fun w' => w'.cell? ⟨T, 1, none⟩ = some (.int .u8 (N : Int))) (first | exact rowW_cell (show Has (w1.drewN _) T from hT) 1 | go_keep) (fail)
  go_wp2_with fail
  go_ret
  exact ⟨rfl, _, _, _, _, rfl, HDd.out, HBD.out⟩

end Go.Proofs.Ytoopkfnkmaaieaa
