/-
  The sum of a pseudo header, and the checksum over it.
-/
import Derived.Test.YtdpffedmgmllbaaW4Pre
import Derived.Test.YtdpffedmgmllbaaIP6To
import Derived.Deep.RegionHeld3
import Derived.Deep.RegionWith
namespace Go.Proofs.Ytdpffedmgmllbaa
open Go.RowKit

theorem isB_out4 {w : World} {v : Value} {l : List Int} (h : IsB w v l) (hp : 0 < l.length) : ∃ ad n c, v = .slice (some ad) n c := by
  obtain ⟨a, c, rfl, h1, h2, h3, h4⟩ := h
  rcases h4 with ⟨-, rfl⟩ | ⟨ad, rfl, -⟩
  · omega
  · exact ⟨_, _, _, rfl⟩
theorem four_of {l : List Int} (h : l.length = 4) : ∃ a b c d, l = [a, b, c, d] := by
  match l, h with
  | [a, b, c, d], _ => exact ⟨a, b, c, d, rfl⟩
set_option maxRecDepth 100000 in
set_option maxHeartbeats 4000000 in
theorem pseudo4_calls (Q : Nat) (cs : List Value) (sa da : Option Addr) (sc dc : Nat) (ls ld : List Int) (w : World) (hQ : w.heap[Q]? = some (.cells cs.toArray 179 (0, 0))) (h1 : cs[12]? = some (.slice sa 4 sc)) (h2 : cs[13]? = some (.slice da 4 dc)) (hs : IsB w (.slice sa 4 sc) ls) (hd : IsB w (.slice da 4 dc) ld) :
    Calls Try.prog 111 #[.pointer (some ⟨Q, 0, none⟩)] w fun e w' => e = .returned (.tuple #[.int .u32 (tot ls + tot ld), .nilIface]) ∧ ∃ r, w' = w.drewN r := by
  have z1 := hs.count
  have z2 := hd.count
  obtain ⟨i0, hi, hz0, hz1, hz2⟩ := info_parts info_u8
  obtain ⟨sa, _, _, e⟩ := isB_out4 hs (by omega)
  obtain ⟨rfl, -, -⟩ := Value.slice.inj e
  obtain ⟨da, _, _, e⟩ := isB_out4 hd (by omega)
  obtain ⟨rfl, -, -⟩ := Value.slice.inj e
  have k12 := cell_of_heap hQ 12 _ h1
  have k13 := cell_of_heap hQ 13 _ h2
  obtain ⟨a0, a1, a2, a3, rfl⟩ := four_of z1.symm
  obtain ⟨b0, b1, b2, b3, rfl⟩ := four_of z2.symm
  obtain ⟨ap0, ao0, ai0, ac0, -⟩ := hs.idx (P := Try.prog) 103 5 i0 Try.underlying103 hi hz1 .i64 0 0 rfl (by simp)
  have ar0 : 0 ≤ a0 ∧ a0 ≤ 255 := hs.bytes a0 (by simp)
  have ac0 : w.cell? ⟨ap0, ao0, none⟩ = some (.int .u8 a0) := ac0
  have au0 : IntKind.u32.wrap (a0) = a0 := by simp [IntKind.wrap, IntKind.bits, IntKind.signed]; omega
  obtain ⟨ap1, ao1, ai1, ac1, -⟩ := hs.idx (P := Try.prog) 103 5 i0 Try.underlying103 hi hz1 .i64 1 1 rfl (by simp)
  have ar1 : 0 ≤ a1 ∧ a1 ≤ 255 := hs.bytes a1 (by simp)
  have ac1 : w.cell? ⟨ap1, ao1, none⟩ = some (.int .u8 a1) := ac1
  have au1 : IntKind.u32.wrap (a1) = a1 := by simp [IntKind.wrap, IntKind.bits, IntKind.signed]; omega
  obtain ⟨ap2, ao2, ai2, ac2, -⟩ := hs.idx (P := Try.prog) 103 5 i0 Try.underlying103 hi hz1 .i64 2 2 rfl (by simp)
  have ar2 : 0 ≤ a2 ∧ a2 ≤ 255 := hs.bytes a2 (by simp)
  have ac2 : w.cell? ⟨ap2, ao2, none⟩ = some (.int .u8 a2) := ac2
  have au2 : IntKind.u32.wrap (a2) = a2 := by simp [IntKind.wrap, IntKind.bits, IntKind.signed]; omega
  obtain ⟨ap3, ao3, ai3, ac3, -⟩ := hs.idx (P := Try.prog) 103 5 i0 Try.underlying103 hi hz1 .i64 3 3 rfl (by simp)
  have ar3 : 0 ≤ a3 ∧ a3 ≤ 255 := hs.bytes a3 (by simp)
  have ac3 : w.cell? ⟨ap3, ao3, none⟩ = some (.int .u8 a3) := ac3
  have au3 : IntKind.u32.wrap (a3) = a3 := by simp [IntKind.wrap, IntKind.bits, IntKind.signed]; omega
  obtain ⟨bp0, bo0, bi0, bc0, -⟩ := hd.idx (P := Try.prog) 103 5 i0 Try.underlying103 hi hz1 .i64 0 0 rfl (by simp)
  have br0 : 0 ≤ b0 ∧ b0 ≤ 255 := hd.bytes b0 (by simp)
  have bc0 : w.cell? ⟨bp0, bo0, none⟩ = some (.int .u8 b0) := bc0
  have bu0 : IntKind.u32.wrap (b0) = b0 := by simp [IntKind.wrap, IntKind.bits, IntKind.signed]; omega
  obtain ⟨bp1, bo1, bi1, bc1, -⟩ := hd.idx (P := Try.prog) 103 5 i0 Try.underlying103 hi hz1 .i64 1 1 rfl (by simp)
  have br1 : 0 ≤ b1 ∧ b1 ≤ 255 := hd.bytes b1 (by simp)
  have bc1 : w.cell? ⟨bp1, bo1, none⟩ = some (.int .u8 b1) := bc1
  have bu1 : IntKind.u32.wrap (b1) = b1 := by simp [IntKind.wrap, IntKind.bits, IntKind.signed]; omega
  obtain ⟨bp2, bo2, bi2, bc2, -⟩ := hd.idx (P := Try.prog) 103 5 i0 Try.underlying103 hi hz1 .i64 2 2 rfl (by simp)
  have br2 : 0 ≤ b2 ∧ b2 ≤ 255 := hd.bytes b2 (by simp)
  have bc2 : w.cell? ⟨bp2, bo2, none⟩ = some (.int .u8 b2) := bc2
  have bu2 : IntKind.u32.wrap (b2) = b2 := by simp [IntKind.wrap, IntKind.bits, IntKind.signed]; omega
  obtain ⟨bp3, bo3, bi3, bc3, -⟩ := hd.idx (P := Try.prog) 103 5 i0 Try.underlying103 hi hz1 .i64 3 3 rfl (by simp)
  have br3 : 0 ≤ b3 ∧ b3 ≤ 255 := hd.bytes b3 (by simp)
  have bc3 : w.cell? ⟨bp3, bo3, none⟩ = some (.int .u8 b3) := bc3
  have bu3 : IntKind.u32.wrap (b3) = b3 := by simp [IntKind.wrap, IntKind.bits, IntKind.signed]; omega
  have v0 : IntKind.u32.wrap (a0 + a2) = a0 + a2 := by simp [IntKind.wrap, IntKind.bits, IntKind.signed]; omega
  have v1 : IntKind.u32.wrap ((a0 + a2) * 256) = (a0 + a2) * 256 := by simp [IntKind.wrap, IntKind.bits, IntKind.signed]; omega
  have v2 : IntKind.u32.wrap (a1 + a3) = a1 + a3 := by simp [IntKind.wrap, IntKind.bits, IntKind.signed]; omega
  have v3 : IntKind.u32.wrap ((a0 + a2) * 256 + (a1 + a3)) = (a0 + a2) * 256 + (a1 + a3) := by simp [IntKind.wrap, IntKind.bits, IntKind.signed]; omega
  have v4 : IntKind.u32.wrap (b0 + b2) = b0 + b2 := by simp [IntKind.wrap, IntKind.bits, IntKind.signed]; omega
  have v5 : IntKind.u32.wrap ((b0 + b2) * 256) = (b0 + b2) * 256 := by simp [IntKind.wrap, IntKind.bits, IntKind.signed]; omega
  have v6 : IntKind.u32.wrap ((a0 + a2) * 256 + (a1 + a3) + (b0 + b2) * 256) = (a0 + a2) * 256 + (a1 + a3) + (b0 + b2) * 256 := by simp [IntKind.wrap, IntKind.bits, IntKind.signed]; omega
  have v7 : IntKind.u32.wrap (b1 + b3) = b1 + b3 := by simp [IntKind.wrap, IntKind.bits, IntKind.signed]; omega
  have v8 : IntKind.u32.wrap ((a0 + a2) * 256 + (a1 + a3) + (b0 + b2) * 256 + (b1 + b3)) = (a0 + a2) * 256 + (a1 + a3) + (b0 + b2) * 256 + (b1 + b3) := by simp [IntKind.wrap, IntKind.bits, IntKind.signed]; omega
  have HE := Lib.hid (show (a0 + a2) * 256 + (a1 + a3) + (b0 + b2) * 256 + (b1 + b3) = tot [a0, a1, a2, a3] + tot [b0, b1, b2, b3] by simp only [tot]; omega)
  have HQ := Lib.hid (And.intro hQ (And.intro h1 h2))
  clear hi hz0 hz1 hz2 hQ h1 h2 hs hd z1 z2
  go_enter Try.func111, Try.ntmps111
  go_wp2_with (go_at_call 80; refine (addr4_calls Q cs sa da sc dc w HQ.out.1 HQ.out.2.1 HQ.out.2.2).mono ?_; rintro e w9 ⟨rfl, rfl⟩)
  go_region_held3 (fun w' => w'.cell? ⟨Q, 12, none⟩ = some (.slice (some sa) 4 sc) ∧ w'.cell? ⟨ap0, ao0, none⟩ = some (.int .u8 a0) ∧ w'.cell? ⟨ap2, ao2, none⟩ = some (.int .u8 a2)) (first | exact ⟨k12, ac0, ac2⟩ | go_keep) (fail)
  go_wp2_with fail
  go_region_held3 (fun w' => w'.cell? ⟨Q, 12, none⟩ = some (.slice (some sa) 4 sc) ∧ w'.cell? ⟨ap1, ao1, none⟩ = some (.int .u8 a1) ∧ w'.cell? ⟨ap3, ao3, none⟩ = some (.int .u8 a3)) (first | exact ⟨k12, ac1, ac3⟩ | go_keep) (fail)
  go_wp2_with fail
  go_region_held3 (fun w' => w'.cell? ⟨Q, 13, none⟩ = some (.slice (some da) 4 dc) ∧ w'.cell? ⟨bp0, bo0, none⟩ = some (.int .u8 b0) ∧ w'.cell? ⟨bp2, bo2, none⟩ = some (.int .u8 b2)) (first | exact ⟨k13, bc0, bc2⟩ | go_keep) (fail)
  go_wp2_with fail
  go_region_held3 (fun w' => w'.cell? ⟨Q, 13, none⟩ = some (.slice (some da) 4 dc) ∧ w'.cell? ⟨bp1, bo1, none⟩ = some (.int .u8 b1) ∧ w'.cell? ⟨bp3, bo3, none⟩ = some (.int .u8 b3)) (first | exact ⟨k13, bc1, bc3⟩ | go_keep) (fail)
  go_wp2_with fail
  refine bodyPost_ret (v := .tuple #[.int .u32 ((a0 + a2) * 256 + (a1 + a3) + (b0 + b2) * 256 + (b1 + b3)), .nilIface]) (by simp [results, Try.results111, go_sem]) rfl ⟨by rw [HE.out], ?_⟩
  first | exact ⟨4, rfl⟩ | exact ⟨_, rfl⟩

theorem tot_step {l : List Int} {k : Nat} (h : k + 1 < l.length) : tot (l.drop k) = bt l k * 256 + bt l (k + 1) + tot (l.drop (k + 2)) := tot_step2 h
set_option maxRecDepth 100000 in
set_option maxHeartbeats 4000000 in
theorem pseudo6_calls (Q : Nat) (sa da : Option Addr) (sc dc : Nat) (ls ld : List Int) (w : World) (k8 : w.cell? ⟨Q, 8, none⟩ = some (.slice sa 16 sc)) (k9 : w.cell? ⟨Q, 9, none⟩ = some (.slice da 16 dc)) (hs : IsB w (.slice sa 16 sc) ls) (hd : IsB w (.slice da 16 dc) ld) :
    Calls Try.prog 127 #[.pointer (some ⟨Q, 0, none⟩)] w fun e w' => e = .returned (.tuple #[.int .u32 (tot ls + tot ld), .nilIface]) ∧ ∃ r, w' = w.drewN r := by
  have z1 := hs.count
  have z2 := hd.count
  obtain ⟨i0, hi, hz0, hz1, hz2⟩ := info_parts info_u8
  have HI := Lib.hid (And.intro hi hz1)
  have HS := Lib.hid hs
  have HD := Lib.hid hd
  have hT := tot_bd ls hs.bytes
  have hT2 := tot_bd ld hd.bytes
  have hTT : tot ls + tot ld ≤ 3000000 := by rw [← z1] at hT; rw [← z2] at hT2; omega
  have HT := Lib.hid hTT
  have hz1' := z1.symm
  have hz2' := z2.symm
  clear hi hz0 hz1 hz2 hs hd hT hT2 hTT z1 z2
  go_enter Try.func127, Try.ntmps127
  go_wp2_with (go_at_call 123; refine (to16_calls Q sa da sc dc w k8 k9).mono ?_; rintro e w9 ⟨rfl, rfl⟩)
  go_loop [2, 5] (fun c i => ∃ (s : Int) (k : Nat), k ≤ 16 ∧ k % 2 = 0 ∧ c = .int .u32 s ∧ i = .int .i64 k ∧ 0 ≤ s ∧ s + (tot (ls.drop k) + tot (ld.drop k)) = tot ls + tot ld) (fun _ i => 18 - (intOf i).toNat)
  case atStart => exact ⟨0, 0, by omega, rfl, rfl, rfl, by omega, by simp⟩
  case round =>
    obtain ⟨s, k, hk, hk2, rfl, rfl, hs0, hck⟩ := hrel
    have HC := Lib.hid hck
    have t1 := (tot_bd (ls.drop k) (HS.out.bytes.drop k)).1
    have t2 := (tot_bd (ld.drop k) (HD.out.bytes.drop k)).1
    have t3 := HT.out
    have hsb : s ≤ 3000000 := by omega
    clear hck t1 t2 t3
    by_cases hlt : k < 16
    · have hlt2 : k + 1 < 16 := by omega
      obtain ⟨p0, o0, j0, c0, -⟩ := HS.out.idx (P := Try.prog) 103 5 i0 Try.underlying103 HI.out.1 HI.out.2 .i64 k k rfl (by omega)
      obtain ⟨p1, o1, j1, c1, -⟩ := HS.out.idx (P := Try.prog) 103 5 i0 Try.underlying103 HI.out.1 HI.out.2 .i64 ((k : Int) + 1) (k + 1) (by omega) (by omega)
      obtain ⟨p2, o2, j2, c2, -⟩ := HD.out.idx (P := Try.prog) 103 5 i0 Try.underlying103 HI.out.1 HI.out.2 .i64 k k rfl (by omega)
      obtain ⟨p3, o3, j3, c3, -⟩ := HD.out.idx (P := Try.prog) 103 5 i0 Try.underlying103 HI.out.1 HI.out.2 .i64 ((k : Int) + 1) (k + 1) (by omega) (by omega)
      have HS1 := Lib.hid (tot_step (l := ls) (k := k) (by omega))
      have HS2 := Lib.hid (tot_step (l := ld) (k := k) (by omega))
      have r0 := HS.out.bytes.bt0 k
      have r0' := HS.out.bytes.bt1 k
      have r1 := HS.out.bytes.bt0 (k + 1)
      have r1' := HS.out.bytes.bt1 (k + 1)
      have r2 := HD.out.bytes.bt0 k
      have r2' := HD.out.bytes.bt1 k
      have r3 := HD.out.bytes.bt0 (k + 1)
      have r3' := HD.out.bytes.bt1 (k + 1)
      obtain ⟨x0, hx0⟩ : ∃ x, x = bt ls k := ⟨_, rfl⟩
      obtain ⟨x1, hx1⟩ : ∃ x, x = bt ls (k + 1) := ⟨_, rfl⟩
      obtain ⟨x2, hx2⟩ : ∃ x, x = bt ld k := ⟨_, rfl⟩
      obtain ⟨x3, hx3⟩ : ∃ x, x = bt ld (k + 1) := ⟨_, rfl⟩
      rw [← hx0] at c0 r0 r0'
      rw [← hx1] at c1 r1 r1'
      rw [← hx2] at c2 r2 r2'
      rw [← hx3] at c3 r3 r3'
      have HX := Lib.hid (And.intro hx0 (And.intro hx1 (And.intro hx2 hx3)))
      clear hx0 hx1 hx2 hx3
      have d0 : decide ((k : Int) < 16) = true := by simp; omega
      have v0 : IntKind.u32.wrap (x0) = x0 := by simp [IntKind.wrap, IntKind.bits, IntKind.signed]; omega
      have v1 : IntKind.u32.wrap (x1) = x1 := by simp [IntKind.wrap, IntKind.bits, IntKind.signed]; omega
      have v2 : IntKind.u32.wrap (x2) = x2 := by simp [IntKind.wrap, IntKind.bits, IntKind.signed]; omega
      have v3 : IntKind.u32.wrap (x3) = x3 := by simp [IntKind.wrap, IntKind.bits, IntKind.signed]; omega
      have v4 : IntKind.u32.wrap (x0 * 256) = x0 * 256 := by simp [IntKind.wrap, IntKind.bits, IntKind.signed]; omega
      have v5 : IntKind.u32.wrap (s + x0 * 256) = s + x0 * 256 := by simp [IntKind.wrap, IntKind.bits, IntKind.signed]; omega
      have v6 : IntKind.u32.wrap (s + x0 * 256 + x1) = s + x0 * 256 + x1 := by simp [IntKind.wrap, IntKind.bits, IntKind.signed]; omega
      have v7 : IntKind.u32.wrap (x2 * 256) = x2 * 256 := by simp [IntKind.wrap, IntKind.bits, IntKind.signed]; omega
      have v8 : IntKind.u32.wrap (s + x0 * 256 + x1 + x2 * 256) = s + x0 * 256 + x1 + x2 * 256 := by simp [IntKind.wrap, IntKind.bits, IntKind.signed]; omega
      have v9 : IntKind.u32.wrap (s + x0 * 256 + x1 + x2 * 256 + x3) = s + x0 * 256 + x1 + x2 * 256 + x3 := by simp [IntKind.wrap, IntKind.bits, IntKind.signed]; omega
      go_wp2_with fail
      go_round
      case rel => exact ⟨_, k + 2, by omega, by omega, rfl, by go_num, by omega, by have := HC.out; have h1 := HS1.out; have h2 := HS2.out; rw [← HX.out.1, ← HX.out.2.1] at h1; rw [← HX.out.2.2.1, ← HX.out.2.2.2] at h2; omega⟩
      case measure => simp [intOf]; omega
    · have hk16 : k = 16 := by omega
      have hs2 : s = tot ls + tot ld := by
        have := HC.out
        rw [List.drop_of_length_le (by omega), List.drop_of_length_le (by omega)] at this
        simp only [tot] at this; omega
      have d0 : decide ((k : Int) < 16) = false := by simp; omega
      have HS2 := Lib.hid hs2
      clear hs2 hk16
      go_wp2_with fail
      exact bodyPost_ret (v := .tuple #[.int .u32 s, .nilIface]) (by simp [results, Try.results127, go_sem]) rfl ⟨by rw [HS2.out], 0, rfl⟩

theorem pseudo4_method (w : World) (p : Addr) : (method 333 139 (.pointer (some p)) "loop.example/pub-g01478/pub/gopacketlayers.pseudoheaderChecksum").run Try.prog w = .ok (111, .pointer (some p)) w := by kernel_rfl
theorem pseudo6_method (w : World) (p : Addr) : (method 333 185 (.pointer (some p)) "loop.example/pub-g01478/pub/gopacketlayers.pseudoheaderChecksum").run Try.prog w = .ok (127, .pointer (some p)) w := by kernel_rfl
set_option linter.unusedSimpArgs false in
set_option linter.unusedVariables false in
theorem assert44 (p : Value) (x : TypeId) (w : World) : (Instr.typeAssert (.iface 139 p) x 139 true).run Try.prog w = .ok (.tuple #[p, .bool true]) w := by
  have hz : (Try.prog.info? 139).map (·.zero) = some (some (.pointer none)) := by kernel_rfl
  obtain ⟨i, hi, hz⟩ := Option.map_eq_some_iff.1 hz
  simp [Instr.typeAssert, run_underlying Try.underlying139, zeroValue, typeInfo, go_sem, hi, hz]
set_option linter.unusedSimpArgs false in
set_option linter.unusedVariables false in
theorem assert46 (p : Value) (x : TypeId) (w : World) : (Instr.typeAssert (.iface 139 p) x 185 true).run Try.prog w = .ok (.tuple #[.pointer none, .bool false]) w := by
  have hz : (Try.prog.info? 185).map (·.zero) = some (some (.pointer none)) := by kernel_rfl
  obtain ⟨i, hi, hz⟩ := Option.map_eq_some_iff.1 hz
  simp [Instr.typeAssert, run_underlying Try.underlying185, zeroValue, typeInfo, go_sem, hi, hz]
set_option linter.unusedSimpArgs false in
set_option linter.unusedVariables false in
theorem assert64 (p : Value) (x : TypeId) (w : World) : (Instr.typeAssert (.iface 185 p) x 139 true).run Try.prog w = .ok (.tuple #[.pointer none, .bool false]) w := by
  have hz : (Try.prog.info? 139).map (·.zero) = some (some (.pointer none)) := by kernel_rfl
  obtain ⟨i, hi, hz⟩ := Option.map_eq_some_iff.1 hz
  simp [Instr.typeAssert, run_underlying Try.underlying139, zeroValue, typeInfo, go_sem, hi, hz]
set_option linter.unusedSimpArgs false in
set_option linter.unusedVariables false in
theorem assert66 (p : Value) (x : TypeId) (w : World) : (Instr.typeAssert (.iface 185 p) x 185 true).run Try.prog w = .ok (.tuple #[p, .bool true]) w := by
  have hz : (Try.prog.info? 185).map (·.zero) = some (some (.pointer none)) := by kernel_rfl
  obtain ⟨i, hi, hz⟩ := Option.map_eq_some_iff.1 hz
  simp [Instr.typeAssert, run_underlying Try.underlying185, zeroValue, typeInfo, go_sem, hi, hz]

set_option maxRecDepth 100000 in
set_option maxHeartbeats 4000000 in
theorem compute4_calls (V Q : Nat) (sa da : Option Addr) (sc dc : Nat) (ls ld : List Int) (v : Value) (l : List Int) (w : World) (cs : List Value) (hQ : w.heap[Q]? = some (.cells cs.toArray 179 (0, 0))) (h1 : cs[12]? = some (.slice sa 4 sc)) (h2 : cs[13]? = some (.slice da 4 dc)) (hs : IsB w (.slice sa 4 sc) ls) (hd : IsB w (.slice da 4 dc) ld) (hV : w.cell? ⟨V, 8, none⟩ = some (.iface 139 (.pointer (some ⟨Q, 0, none⟩)))) (h : IsB w v l) (hl : l.length ≤ 60000) :
    Calls Try.prog 82 #[.pointer (some ⟨V, 8, none⟩), v, .int .u8 17] w fun e w' => e = .returned (.tuple #[.int .u16 (65535 - fd (tot ls + tot ld + 17 + (l.length : Int) + tot l)), .nilIface]) ∧ ∃ r, w' = w.drewN r := by
  have hmt := pseudo4_method
  have hlen := fun ty => h.len (P := Try.prog) 25 ty 5 Try.underlying25
  have z1 := hs.count
  have z2 := hd.count
  have hT := tot_bd ls hs.bytes
  have hT2 := tot_bd ld hd.bytes
  rw [← z1] at hT
  rw [← z2] at hT2
  obtain ⟨S, hS⟩ : ∃ S, S = tot ls + tot ld := ⟨_, rfl⟩
  have hS0 : 0 ≤ S ∧ S ≤ 3000000 := by omega
  rw [← hS]
  have HQ := Lib.hid (And.intro hQ (And.intro h1 h2))
  have HSD := Lib.hid (And.intro hs hd)
  have HH := Lib.hid h
  have HS := Lib.hid hS.symm
  have v0 : IntKind.u32.wrap (l.length : Int) = l.length := by simp [IntKind.wrap, IntKind.bits, IntKind.signed]; omega
  have v1 : IntKind.u32.wrap (S + 17) = S + 17 := by simp [IntKind.wrap, IntKind.bits, IntKind.signed]; omega
  have v2 : bits .and .u32 (l.length : Int) 65535 = (l.length : Int) := by rw [bmask .u32 16 (by omega) (by rw [max_u32]; omega) (by decide) (by decide)]; omega
  have v3 : IntKind.u32.wrap (S + 17 + (l.length : Int)) = S + 17 + (l.length : Int) := by simp [IntKind.wrap, IntKind.bits, IntKind.signed]; omega
  have v4 : (l.length : Int) / 65536 = 0 := by omega
  have v5 : IntKind.u32.wrap 17 = 17 := by decide
  clear hs hd h hT hT2 hS hQ h1 h2 z1 z2
  go_enter Try.func82, Try.ntmps82
  go_wp2_with (first
    | (go_at_call 111; refine (pseudo4_calls Q cs sa da sc dc ls ld _ HQ.out.1 HQ.out.2.1 HQ.out.2.2 HSD.out.1 HSD.out.2).mono ?_; rintro e w9 ⟨rfl, r9, rfl⟩; rw [HS.out])
    | (go_at_call 85; refine (tcpip_calls v l (S + 17 + (l.length : Int)) (w.drewN r9) (HH.out.gr ((Gr.refl w).drewN r9)) hl (by omega) (by omega)).mono ?_; rintro e w8 ⟨rfl, rfl⟩))
  exact bodyPost_ret (v := .tuple #[.int .u16 (65535 - fd (S + 17 + (l.length : Int) + tot l)), .nilIface]) (by simp [results, Try.results82, go_sem]) rfl ⟨rfl, r9, rfl⟩

set_option maxRecDepth 100000 in
set_option maxHeartbeats 4000000 in
theorem compute6_calls (V Q : Nat) (sa da : Option Addr) (sc dc : Nat) (ls ld : List Int) (v : Value) (l : List Int) (w : World) (h1 : w.cell? ⟨Q, 8, none⟩ = some (.slice sa 16 sc)) (h2 : w.cell? ⟨Q, 9, none⟩ = some (.slice da 16 dc)) (hs : IsB w (.slice sa 16 sc) ls) (hd : IsB w (.slice da 16 dc) ld) (hV : w.cell? ⟨V, 8, none⟩ = some (.iface 185 (.pointer (some ⟨Q, 0, none⟩)))) (h : IsB w v l) (hl : l.length ≤ 60000) :
    Calls Try.prog 82 #[.pointer (some ⟨V, 8, none⟩), v, .int .u8 17] w fun e w' => e = .returned (.tuple #[.int .u16 (65535 - fd (tot ls + tot ld + 17 + (l.length : Int) + tot l)), .nilIface]) ∧ ∃ r, w' = w.drewN r := by
  have hmt := pseudo6_method
  have hlen := fun ty => h.len (P := Try.prog) 25 ty 5 Try.underlying25
  have z1 := hs.count
  have z2 := hd.count
  have hT := tot_bd ls hs.bytes
  have hT2 := tot_bd ld hd.bytes
  rw [← z1] at hT
  rw [← z2] at hT2
  obtain ⟨S, hS⟩ : ∃ S, S = tot ls + tot ld := ⟨_, rfl⟩
  have hS0 : 0 ≤ S ∧ S ≤ 3000000 := by omega
  rw [← hS]
  have HQ := Lib.hid (And.intro h1 h2)
  have HSD := Lib.hid (And.intro hs hd)
  have HH := Lib.hid h
  have HS := Lib.hid hS.symm
  have v0 : IntKind.u32.wrap (l.length : Int) = l.length := by simp [IntKind.wrap, IntKind.bits, IntKind.signed]; omega
  have v1 : IntKind.u32.wrap (S + 17) = S + 17 := by simp [IntKind.wrap, IntKind.bits, IntKind.signed]; omega
  have v2 : bits .and .u32 (l.length : Int) 65535 = (l.length : Int) := by rw [bmask .u32 16 (by omega) (by rw [max_u32]; omega) (by decide) (by decide)]; omega
  have v3 : IntKind.u32.wrap (S + 17 + (l.length : Int)) = S + 17 + (l.length : Int) := by simp [IntKind.wrap, IntKind.bits, IntKind.signed]; omega
  have v4 : (l.length : Int) / 65536 = 0 := by omega
  have v5 : IntKind.u32.wrap 17 = 17 := by decide
  clear hs hd h hT hT2 hS h1 h2 z1 z2
  go_enter Try.func82, Try.ntmps82
  go_wp2_with (first
    | (go_at_call 127; refine (pseudo6_calls Q sa da sc dc ls ld _ HQ.out.1 HQ.out.2 HSD.out.1 HSD.out.2).mono ?_; rintro e w9 ⟨rfl, r9, rfl⟩; rw [HS.out])
    | (go_at_call 85; refine (tcpip_calls v l (S + 17 + (l.length : Int)) (w.drewN r9) (HH.out.gr ((Gr.refl w).drewN r9)) hl (by omega) (by omega)).mono ?_; rintro e w8 ⟨rfl, rfl⟩))
  exact bodyPost_ret (v := .tuple #[.int .u16 (65535 - fd (S + 17 + (l.length : Int) + tot l)), .nilIface]) (by simp [results, Try.results82, go_sem]) rfl ⟨rfl, r9, rfl⟩
end Go.Proofs.Ytdpffedmgmllbaa
