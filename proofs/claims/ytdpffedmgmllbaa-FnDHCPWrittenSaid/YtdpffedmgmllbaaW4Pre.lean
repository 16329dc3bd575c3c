/-
  Ahead of the writing of a header of the fourth version: the size of its options, its addresses, its checksum.
-/
import Derived.Test.YtdpffedmgmllbaaSerV
import Derived.Test.YtdpffedmgmllbaaW4Rd
namespace Go.Proofs.Ytdpffedmgmllbaa
open Go.RowKit

theorem size_o4 : (Try.prog.info? 181).map (·.size) = some 3 := by kernel_rfl
/-- what holds ahead of a round -/
def SzRel (w : World) (os : List Opt) (u i : Value) (wr : World) : Prop := ∃ k : Nat, k ≤ os.length ∧ i = .int .i64 k ∧ u = .int .u8 (optsRaw (os.take k)).length ∧ Gr w wr

set_option linter.unusedVariables false in
set_option maxRecDepth 100000 in
set_option maxHeartbeats 4000000 in
theorem optSize_calls (V : Nat) (v : Value) (rs : List (Opt × Value)) (os : List Opt) (bad : Nat → Prop) (w : World) (hv : w.cell? ⟨V, 14, none⟩ = some v) (h : RdO .u8 .u8 w v rs bad) (hrs : rs.map Prod.fst = os) (hok : ∀ x ∈ os, OkOpt x) (hraw : (optsRaw os).length ≤ 40) :
    Calls Try.prog 78 #[.pointer (some ⟨V, 0, none⟩)] w fun e w' => e = .returned (.int .u8 (optsB os).length) ∧ Gr w w' := by
  have hlen := fun ty => h.len (P := Try.prog) 177 181 Try.underlying177 ty
  have hll : rs.length = os.length := by rw [← hrs, List.length_map]
  rw [hll] at hlen
  obtain ⟨vs, hvs⟩ : ∃ a n c, v = .slice a n c := by rcases h with ⟨rfl, -⟩ | ⟨g, c, rfl, -⟩ <;> exact ⟨_, _, _, rfl⟩
  obtain ⟨nv, cv, rfl⟩ := hvs
  have H := Lib.hid h
  have HRS := Lib.hid hrs
  have HOK := Lib.hid hok
  have HRAW := Lib.hid hraw
  clear h hrs hok hraw
  have hB : (optsB os).length = (optsRaw os).length + (4 - (optsRaw os).length % 4) % 4 := by unfold optsB; rw [List.length_append, List.length_replicate]
  have HB := Lib.hid hB
  clear hB
  go_enter Try.func78, Try.ntmps78
  go_wp2_with fail
  go_loopw [3, 11] (SzRel w os) (fun _ i _ => os.length - (intOf i).toNat)
  case atStart => exact ⟨0, Nat.zero_le _, rfl, by simp [optsRaw], Gr.refl w⟩
  case round =>
    obtain ⟨k, hk, rfl, rfl, hg⟩ := hrel
    have hle := raw_le os k
    have hle40 := HRAW.out
    have hol := Nat.le_trans (len_raw os) hle40
    by_cases hlt : k < os.length
    · obtain ⟨p, hp⟩ : ∃ p, rs[k]? = some p := ⟨_, List.getElem?_eq_getElem (by omega)⟩
      obtain ⟨b, o, ix, -, c0, c1, c2, hI, -⟩ := H.out.idx (P := Try.prog) 177 181 Try.underlying177 size_o4 .i64 k p hp
      obtain ⟨hr1, hr2⟩ := raw_take_le HOK.out hlt
      have hx : os.getD k Opt.zero = p.1 := by rw [← HRS.out, List.getD_eq_getElem?_getD, List.getElem?_map, hp]; rfl
      have hokx := HOK.out p.1 (by rw [← hx, List.getD_eq_getElem?_getD, List.getElem?_eq_getElem hlt]; exact List.getElem_mem hlt)
      rw [hx] at hr1 hr2
      obtain ⟨⟨kd, ln, d⟩, pv⟩ := p
      obtain ⟨pa, pn, pc, rfl⟩ : ∃ a n c, pv = .slice a n c := by obtain ⟨a, c, e, -⟩ := hI; exact ⟨_, _, _, e⟩
      simp only at c0 c1 c2 hr1 hr2 hokx
      have c0 := hg.cell c0
      have c1 := hg.cell c1
      have c2 := hg.cell c2
      have HG := Lib.hid hg
      obtain ⟨hoc, hk1, hk2⟩ := hokx
      simp only at hoc hk1 hk2
      have z0 : (kd == 0) = false := by simp; omega
      obtain ⟨R0, hR0⟩ : ∃ R0 : Nat, R0 = (optsRaw (os.take k)).length := ⟨_, rfl⟩
      rw [← hR0] at hle hr1 hr2 ⊢
      obtain ⟨R1, hR1⟩ : ∃ R1 : Nat, R1 = (optsRaw (os.take (k + 1))).length := ⟨_, rfl⟩
      rw [← hR1] at hr2
      have HR1 := Lib.hid hR1
      clear hI hg hp hx hR0 hR1
      by_cases h1 : kd = 1
      · have z1 : (kd == 1) = true := by simp [h1]
        have hln : ln = 1 := by rcases hoc with ⟨-, h, -⟩ | ⟨h, -⟩; exact h; exact absurd h1 h
        have e1 : IntKind.u8.wrap ((R0 : Int) + 1) = (R1 : Int) := by rw [hr2, hln]; simp [IntKind.wrap, IntKind.bits, IntKind.signed]; omega
        clear hoc
        go_wp2_with fail
        go_roundw
        case rel => exact ⟨k + 1, by omega, by go_num, by rw [← HR1.out, hr2, hln], HG.out.alloc _⟩
        case measure => simp [intOf]; omega
      · have z1 : (kd == 1) = false := by simp [h1]
        have e1 : IntKind.u8.wrap ((R0 : Int) + ln) = (R1 : Int) := by rw [hr2]; simp [IntKind.wrap, IntKind.bits, IntKind.signed]; omega
        clear hoc
        go_wp2_with fail
        go_roundw
        case rel => exact ⟨k + 1, by omega, by go_num, by rw [← HR1.out, hr2], HG.out.alloc _⟩
        case measure => simp [intOf]; omega
    · have e : k = os.length := by omega
      subst e
      rw [List.take_length]
      obtain ⟨R, hR⟩ : ∃ R : Nat, R = (optsRaw os).length := ⟨_, rfl⟩
      have HBR := HB.out
      rw [← hR] at hle40 HBR ⊢
      have HBR := Lib.hid HBR
      clear hle hlt hR
      have e0 : (R : Int).tmod 4 = ((R % 4 : Nat) : Int) := by rw [Int.tmod_eq_emod_of_nonneg (by omega)]; omega
      obtain ⟨M, hM⟩ : ∃ M : Nat, M = R % 4 := ⟨_, rfl⟩
      have hM4 : M < 4 := by omega
      rw [← hM] at e0
      have HM := Lib.hid (show (optsB os).length = R + (4 - M) % 4 by rw [HBR.out, hM])
      clear HBR hM
      by_cases hz : M = 0
      · subst hz
        go_wp2_with fail
        go_ret
        exact ⟨show Ending.returned (.int .u8 (R : Int)) = _ by rw [HM.out]; rfl, hg⟩
      · have z2 : ((M : Int) != 0) = true := by simp; omega
        have e2 : IntKind.u8.wrap (4 - (M : Int)) = ((4 - M : Nat) : Int) := by simp [IntKind.wrap, IntKind.bits, IntKind.signed]; omega
        have e3 : IntKind.u8.wrap ((R : Int) + ((4 - M : Nat) : Int)) = ((R + (4 - M) % 4 : Nat) : Int) := by simp [IntKind.wrap, IntKind.bits, IntKind.signed]; omega
        go_wp2_with fail
        go_ret
        exact ⟨show Ending.returned (.int .u8 ((R : Int) + ((4 - M : Nat) : Int) % 4)) = _ by rw [HM.out]; simp, hg⟩

theorem to4_calls (a : Option Addr) (c : Nat) (w : World) : Calls Try.prog 73 #[.slice a 4 c] w fun e w' => e = .returned (.slice a 4 c) ∧ w = w' := by
  have g := fun ty w' => (show (Builtin.len_ #[103] ty #[.slice a 4 c]).run Try.prog w' = .ok (.int .i64 4) w' by simp [Builtin.len_, run_underlying Try.underlying103, goInt])
  go_enter Try.func73, Try.ntmps73
  go_wp2_with fail
  go_ret
  exact ⟨rfl, rfl⟩
theorem check4_calls (ad : Addr) (c : Nat) (w : World) : Calls Try.prog 84 #[.slice (some ad) 4 c] w fun e w' => e = .returned (.tuple #[.slice (some ad) 4 c, .nilIface]) ∧ w = w' := by
  go_enter Try.func84, Try.ntmps84
  go_wp2_with (go_at_call 73; refine (to4_calls _ _ _).mono ?_; rintro e w9 ⟨rfl, rfl⟩)
  exact bodyPost_ret (v := .tuple #[.slice (some ad) 4 c, .nilIface]) (by simp [results, Try.results84, go_sem]) rfl ⟨rfl, rfl⟩
theorem set_same {cs : List Value} {i : Nat} {v : Value} (h : cs[i]? = some v) : cs.set i v = cs := by
  apply List.ext_getElem?
  intro j
  rw [List.getElem?_set]
  split
  · next e => subst e; rw [h]; simp [(List.getElem?_eq_some_iff.1 h).1]
  · rfl
set_option maxRecDepth 100000 in
set_option maxHeartbeats 4000000 in
theorem addr4_row (V : Nat) (cs : List Value) (sa da : Addr) (sc dc : Nat) (w : World) (hd : Has w V) (h1 : cs[12]? = some (.slice (some sa) 4 sc)) (h2 : cs[13]? = some (.slice (some da) 4 dc)) (s1 : cs.set 12 (.slice (some sa) 4 sc) = cs) (s2 : cs.set 13 (.slice (some da) 4 dc) = cs) :
    Calls Try.prog 80 #[.pointer (some ⟨V, 0, none⟩)] (rowW w V cs 179) fun e w' => e = .returned .nilIface ∧ rowW w V cs 179 = w' := by
  go_enter Try.func80, Try.ntmps80
  go_wp2_with (go_at_call 84; refine (check4_calls _ _ _).mono ?_; rintro e w9 ⟨rfl, rfl⟩)
  go_ret
  exact ⟨rfl, rfl⟩
theorem addr4_calls (V : Nat) (cs : List Value) (sa da : Addr) (sc dc : Nat) (w : World) (hV : w.heap[V]? = some (.cells cs.toArray 179 (0, 0))) (h1 : cs[12]? = some (.slice (some sa) 4 sc)) (h2 : cs[13]? = some (.slice (some da) 4 dc)) :
    Calls Try.prog 80 #[.pointer (some ⟨V, 0, none⟩)] w fun e w' => e = .returned .nilIface ∧ w = w' := by
  have key := addr4_row V cs sa da sc dc w (Array.getElem?_eq_some_iff.1 hV).1 h1 h2 (set_same h1) (set_same h2)
  rw [rowW_self hV] at key
  exact key
theorem flags_calls (V : Nat) (fl fo : Int) (w : World) (h1 : w.cell? ⟨V, 7, none⟩ = some (.int .u8 fl)) (h2 : w.cell? ⟨V, 8, none⟩ = some (.int .u16 fo)) (hfl : 0 ≤ fl ∧ fl ≤ 7) (hfo : 0 ≤ fo ∧ fo ≤ 8191) :
    Calls Try.prog 79 #[.pointer (some ⟨V, 0, none⟩)] w fun e w' => e = .returned (.int .u16 (fl * 8192 + fo)) ∧ w = w' := by
  have e1 : IntKind.u16.wrap fl = fl := by simp [IntKind.wrap, IntKind.bits, IntKind.signed]; omega
  have e2 : IntKind.u16.wrap (fl * 8192) = fl * 8192 := by simp [IntKind.wrap, IntKind.bits, IntKind.signed]; omega
  have e3 : bits .or .u16 0 (fl * 8192) = fl * 8192 := by rw [bor' .u16 13 (by omega) (by omega) (by omega) (by omega) (by rw [max_u16]; omega)]; omega
  have e4 : bits .or .u16 (fl * 8192) fo = fl * 8192 + fo := bor .u16 13 (by omega) (by omega) (by omega) (by omega) (by rw [max_u16]; omega)
  go_enter Try.func79, Try.ntmps79
  go_wp2_with fail
  go_ret
  exact ⟨rfl, rfl⟩

set_option maxRecDepth 100000 in
set_option maxHeartbeats 4000000 in
/-- the checksum of bytes whose own place is 0 already: nothing is written but what is there -/
theorem sum4_calls (N : Nat) (n c : Nat) (R : List Value) (l : List Int) (z : World) (hd : Has z N) (hcn : n = l.length) (hbl : AllB l) (hRl : ∀ k, k < l.length → R[k]? = some (.int .u8 (bt l k))) (h12 : 12 ≤ l.length) (h2 : l.length % 2 = 0) (hl : l.length ≤ 1000) (r0 : R[10]? = some (.int .u8 0)) (r1 : R[11]? = some (.int .u8 0)) :
    Calls Try.prog 81 #[.slice (some ⟨N, 0, none⟩) n c] (rowW z N R 5) fun e w' => e = .returned (.int .u16 (cks l)) ∧ rowW z N R 5 = w' := by
  have hlen := fun ty w' => (show (Builtin.len_ #[25] ty #[.slice (some ⟨N, 0, none⟩) n c]).run Try.prog w' = .ok (.int .i64 l.length) w' by rw [hcn]; simp [Builtin.len_, run_underlying Try.underlying25, goInt])
  obtain ⟨i0, hi, hz0, hz1, hz2⟩ := info_parts info_u8
  have HI := Lib.hid (And.intro hi hz1)
  have s0 := set_same r0
  have s1 := set_same r1
  have l0 := (List.getElem?_eq_some_iff.1 r0).1
  have l1 := (List.getElem?_eq_some_iff.1 r1).1
  have x0 := fun K w' => at_i (P := Try.prog) 25 5 i0 Try.underlying25 hi hz1 N 0 n c 10 10 10 rfl (by omega) rfl K w'
  have x1 := fun K w' => at_i (P := Try.prog) 25 5 i0 Try.underlying25 hi hz1 N 0 n c 11 11 11 rfl (by omega) rfl K w'
  have HH := Lib.hid (And.intro hbl hRl)
  have hT := tot_bd l hbl
  have HT := Lib.hid hT
  have HR := Lib.hid (cks_fd hbl)
  clear hi hz0 hz1 hz2 hbl hRl hT r0 r1
  go_enter Try.func81, Try.ntmps81
  go_wp2_with fail
  go_loop [3, 4] (fun t i => ∃ (s : Int) (k : Nat), k ≤ l.length ∧ k % 2 = 0 ∧ t = .int .u32 s ∧ i = .int .i64 k ∧ 0 ≤ s ∧ s + tot (l.drop k) = tot l) (fun _ i => l.length + 2 - (intOf i).toNat)
  case atStart => exact ⟨0, 0, by omega, rfl, rfl, rfl, by omega, by simp⟩
  case round =>
    obtain ⟨s, k, hk, hk2, rfl, rfl, hs0, hck⟩ := hrel
    have HC := Lib.hid hck
    have hTk := tot_bd (l.drop k) (HH.out.1.drop k)
    have hT := HT.out
    have hsb : s ≤ 70000000 := by omega
    clear hck hTk hT
    by_cases h2' : k < l.length
    · have h2' : k + 1 < l.length := by omega
      have j0 := fun K w' => at_i (P := Try.prog) 25 5 i0 Try.underlying25 HI.out.1 HI.out.2 N 0 n c k k k rfl (by omega) (by omega) K w'
      have b0 := HH.out.2 k (by omega)
      have p0 := HH.out.1.bt0 k
      have p1 := HH.out.1.bt1 k
      have j1 := fun K w' => at_i (P := Try.prog) 25 5 i0 Try.underlying25 HI.out.1 HI.out.2 N 0 n c (k + 1) (k + 1) ((k : Int) + 1) (by omega) (by omega) (by omega) K w'
      have b1 := HH.out.2 (k + 1) h2'
      have p2 := HH.out.1.bt0 (k + 1)
      have p3 := HH.out.1.bt1 (k + 1)
      have HS := Lib.hid (tot_step2 h2')
      have d0 : decide ((k : Int) < (l.length : Int)) = true := by simp; omega
      have u0 : IntKind.u32.wrap (bt l k) = bt l k := by simp [IntKind.wrap, IntKind.bits, IntKind.signed]; omega
      have u1 : IntKind.u32.wrap (bt l k * 256) = bt l k * 256 := by simp [IntKind.wrap, IntKind.bits, IntKind.signed]; omega
      have u2 : IntKind.u32.wrap (s + bt l k * 256) = s + bt l k * 256 := by simp [IntKind.wrap, IntKind.bits, IntKind.signed]; omega
      have u3 : IntKind.u32.wrap (bt l (k + 1)) = bt l (k + 1) := by simp [IntKind.wrap, IntKind.bits, IntKind.signed]; omega
      have u4 : IntKind.u32.wrap (s + bt l k * 256 + bt l (k + 1)) = s + bt l k * 256 + bt l (k + 1) := by simp [IntKind.wrap, IntKind.bits, IntKind.signed]; omega
      go_wp2_with fail
      go_round
      case rel => exact ⟨_, k + 2, by omega, by omega, rfl, by go_num, by omega, by have := HC.out; have := HS.out; omega⟩
      case measure => simp [intOf]; omega
    · have hs2 : s = tot l := by have := HC.out; rw [List.drop_of_length_le (by omega), tot, Int.add_zero] at this; exact this
      have d0 : decide ((k : Int) < (l.length : Int)) = false := by simp; omega
      have HS := Lib.hid hs2
      clear hs2
      go_wp2_with fail
      go_loop [3] (fun t => ∃ (s2 : Int), t = .int .u32 s2 ∧ 0 ≤ s2 ∧ s2 ≤ 4294967295 ∧ fd s2 = fd (tot l)) (fun t => (intOf t).toNat)
      case atStart => exact ⟨_, rfl, by omega, by omega, by rw [← HS.out]⟩
      case round =>
        obtain ⟨s2, rfl, g0, g1, g2⟩ := hrel
        have HG := Lib.hid g2
        clear g2
        have u7 : IntKind.u16.wrap s2 = s2 % 65536 := by simp [IntKind.wrap, IntKind.bits, IntKind.signed]
        have u6 : IntKind.u32.wrap (s2 % 65536) = s2 % 65536 := by simp [IntKind.wrap, IntKind.bits, IntKind.signed]; omega
        have u9 : IntKind.u32.wrap (s2 / 65536 + s2 % 65536) = s2 / 65536 + s2 % 65536 := by simp [IntKind.wrap, IntKind.bits, IntKind.signed]; omega
        by_cases h9 : 65535 < s2
        · have d9 : decide (s2 ≤ 65535) = false := by simp; omega
          go_wp2_with fail
          go_round
          case rel => exact ⟨_, rfl, by omega, by omega, by rw [← HG.out]; exact fd_step h9⟩
          case measure => simp [intOf]; omega
        · have d9 : decide (s2 ≤ 65535) = true := by simp; omega
          have HFD := Lib.hid (show 65535 - s2 = cks l by rw [HR.out, ← HG.out, fd_small g0 (by omega)])
          have x9 := bnot16 g0 (show s2 ≤ 65535 by omega)
          go_wp2_with fail
          go_ret
          refine ⟨?_, rfl⟩
          rw [← HFD.out, ← bnot16 g0 (show s2 ≤ 65535 by omega)]
          have u8 : s2 % 65536 = s2 := by omega
          show Ending.returned (.int .u16 (bits .xor .u16 IntKind.u16.max (s2 % 65536))) = _
          rw [u8]
end Go.Proofs.Ytdpffedmgmllbaa
