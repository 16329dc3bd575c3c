/-
  Ahead of the writing of a message for addresses: its length, and an option that is written.
-/
import Derived.Test.YtdpffedmgmllbaaW4Mid
import Derived.Test.YtdpffedmgmllbaaKinds
import Derived.Deep.RegionLaw
namespace Go.Proofs.Ytdpffedmgmllbaa
open Go.RowKit

/-- an option with the length of its data -/
def outT (x : Opt) : Opt := ⟨x.kind, (x.data.length : Int), x.data⟩
theorem typB_len (x : Opt) : ((typB x).length : Int) = if x.kind = 0 then 1 else (x.data.length : Int) + 2 := by
  unfold typB
  split
  · simp
  · simp only [List.length_append, List.length_cons, List.length_nil]; omega
theorem typed_take {os : List Opt} {k : Nat} (hk : k < os.length) : ((typedB (os.take (k + 1))).length : Int) = ((typedB (os.take k)).length : Int) + (if (os.getD k Opt.zero).kind = 0 then 1 else ((os.getD k Opt.zero).data.length : Int) + 2) ∧ (typedB (os.take (k + 1))).length ≤ (typedB os).length := by
  refine ⟨?_, typed_le os (k + 1)⟩
  rw [typed_snoc hk, List.length_append, ← typB_len]
  omega
theorem size_d4 : (Try.prog.info? 111).map (·.size) = some 3 := by kernel_rfl
/-- what holds ahead of a round -/
def DSzRel (w : World) (os : List Opt) (u i : Value) (wr : World) : Prop := ∃ k : Nat, k ≤ os.length ∧ i = .int .i64 k ∧ u = .int .u16 (240 + ((typedB (os.take k)).length : Int)) ∧ Gr w wr

set_option linter.unusedVariables false in
set_option maxRecDepth 100000 in
set_option maxHeartbeats 4000000 in
theorem dhcpLen_calls (V : Nat) (v : Value) (rs : List (Opt × Value)) (os : List Opt) (bad : Nat → Prop) (w : World) (hv : w.cell? ⟨V, 16, none⟩ = some v) (h : RdO .u8 .u8 w v rs bad) (hrs : rs.map Prod.fst = os.map outT) (hok : ∀ x ∈ os, x.data.length ≤ 255) (hlo : os.length ≤ 30) (hraw : (typedB os).length ≤ 9000) :
    Calls Try.prog 70 #[.pointer (some ⟨V, 0, none⟩)] w fun e w' => e = .returned (.int .u16 (241 + ((typedB os).length : Int))) ∧ Gr w w' := by
  have hlen := fun ty => h.len (P := Try.prog) 106 111 Try.underlying106 ty
  have hll : rs.length = os.length := by have e := congrArg List.length hrs; rw [List.length_map, List.length_map] at e; exact e
  rw [hll] at hlen
  obtain ⟨vs, hvs⟩ : ∃ a n c, v = .slice a n c := by rcases h with ⟨rfl, -⟩ | ⟨g, c, rfl, -⟩ <;> exact ⟨_, _, _, rfl⟩
  obtain ⟨nv, cv, rfl⟩ := hvs
  have H := Lib.hid h
  have HRS := Lib.hid hrs
  have HOK := Lib.hid hok
  have HRAW := Lib.hid hraw
  clear h hrs hok hraw
  go_enter Try.func70, Try.ntmps70
  go_wp2_with fail
  go_loopw [3, 11] (DSzRel w os) (fun _ i _ => os.length - (intOf i).toNat)
  case atStart => exact ⟨0, Nat.zero_le _, rfl, by simp [typedB], Gr.refl w⟩
  case round =>
    obtain ⟨k, hk, rfl, rfl, hg⟩ := hrel
    have hle40 := HRAW.out
    by_cases hlt : k < os.length
    · obtain ⟨p, hp⟩ : ∃ p, rs[k]? = some p := ⟨_, List.getElem?_eq_getElem (by omega)⟩
      obtain ⟨b, o, ix, -, c0, c1, c2, hI, -⟩ := H.out.idx (P := Try.prog) 106 111 Try.underlying106 size_d4 .i64 k p hp
      obtain ⟨hr1, hr2⟩ := typed_take hlt
      have hx : p.1 = outT (os.getD k Opt.zero) := by
        have e : (rs.map Prod.fst)[k]? = (os.map outT)[k]? := by rw [HRS.out]
        rw [List.getElem?_map, List.getElem?_map, hp, List.getElem?_eq_getElem hlt] at e
        rw [List.getD_eq_getElem?_getD, List.getElem?_eq_getElem hlt]
        exact Option.some.inj e
      have hd255 := HOK.out (os.getD k Opt.zero) (by rw [List.getD_eq_getElem?_getD, List.getElem?_eq_getElem hlt]; exact List.getElem_mem hlt)
      obtain ⟨⟨kd, ln, d⟩, ho⟩ : ∃ x, x = os.getD k Opt.zero := ⟨_, rfl⟩
      rw [← ho] at hr1 hx hd255
      obtain ⟨p1, pv⟩ := p
      simp only at hx c0 c1 c2 hI
      subst hx
      obtain ⟨pa, pn, pc, rfl⟩ : ∃ a n c, pv = .slice a n c := by obtain ⟨a, c, e, -⟩ := hI; exact ⟨_, _, _, e⟩
      simp only [outT] at c0 c1 c2 hr1 hd255
      have c0 := hg.cell c0
      have c1 := hg.cell c1
      have c2 := hg.cell c2
      have HG := Lib.hid hg
      obtain ⟨R0, hR0⟩ : ∃ R0 : Nat, R0 = (typedB (os.take k)).length := ⟨_, rfl⟩
      rw [← hR0] at hr1 ⊢
      obtain ⟨R1, hR1⟩ : ∃ R1 : Nat, R1 = (typedB (os.take (k + 1))).length := ⟨_, rfl⟩
      rw [← hR1] at hr1 hr2
      have HR1 := Lib.hid hR1
      clear hI hg hp ho hR0 hR1
      by_cases h1 : kd = 0
      · have z1 : (kd == 0) = true := by simp [h1]
        rw [if_pos h1] at hr1
        have e1 : IntKind.u16.wrap (240 + (R0 : Int) + 1) = 240 + (R1 : Int) := by rw [hr1]; simp [IntKind.wrap, IntKind.bits, IntKind.signed]; omega
        have e2 : 240 + (R0 : Int) + 1 = 240 + (R1 : Int) := by omega
        have E2 := Lib.hid e2
        clear hr1 e2 h1
        go_wp2_with fail
        go_roundw
        case rel => exact ⟨k + 1, by omega, by go_num, by first | rw [← HR1.out] | rw [← HR1.out, ← E2.out], HG.out.alloc _⟩
        case measure => simp [intOf]; omega
      · have z1 : (kd == 0) = false := by simp [h1]
        rw [if_neg h1] at hr1
        have e0 : IntKind.u16.wrap (d.length : Int) = (d.length : Int) := by simp [IntKind.wrap, IntKind.bits, IntKind.signed]; omega
        have e1 : IntKind.u16.wrap ((d.length : Int) + 2) = (d.length : Int) + 2 := by simp [IntKind.wrap, IntKind.bits, IntKind.signed]; omega
        have e2 : IntKind.u16.wrap (240 + (R0 : Int) + ((d.length : Int) + 2)) = 240 + (R1 : Int) := by rw [hr1]; simp [IntKind.wrap, IntKind.bits, IntKind.signed]; omega
        have E2 := Lib.hid (show 240 + (R0 : Int) + ((d.length : Int) + 2) = 240 + (R1 : Int) by omega)
        clear hr1
        go_wp2_with fail
        go_roundw
        case rel => exact ⟨k + 1, by omega, by go_num, by first | rw [← HR1.out] | rw [← HR1.out, ← E2.out], HG.out.alloc _⟩
        case measure => simp [intOf]; omega
    · have e : k = os.length := by omega
      subst e
      rw [List.take_length]
      obtain ⟨R, hR⟩ : ∃ R : Nat, R = (typedB os).length := ⟨_, rfl⟩
      rw [← hR] at hle40 ⊢
      have HR := Lib.hid hR
      have e1 : IntKind.u16.wrap (240 + (R : Int) + 1) = 241 + (R : Int) := by simp [IntKind.wrap, IntKind.bits, IntKind.signed]; omega
      clear hlt hR
      go_wp2_with fail
      go_ret
      exact ⟨by first | (rw [← HR.out]; rfl) | (rw [← HR.out, show 241 + (R : Int) = 240 + R + 1 by omega]; rfl), hg⟩

set_option linter.unusedVariables false in
set_option linter.unusedSimpArgs false in
set_option maxRecDepth 100000 in
set_option maxHeartbeats 4000000 in
/-- an option of one byte is written -/
theorem encode1_calls (N b c n cap L : Nat) (kd : Int) (r : List Int) (T : List Value) (z : World) (hd : Has z N) (hb : b ≠ N) (hk : kd = 0 ∨ kd = 255) (c0 : z.cell? ⟨b, 0, none⟩ = some (.int .u8 kd)) (hc : c = r.length) (hr : r.length < L) (hn : 1 ≤ n) :
    Calls Try.prog 74 #[.pointer (some ⟨b, 0, none⟩), .slice (some ⟨N, c, none⟩) n cap] (rowW z N (serRow [] r L T) 5) fun e w' => e = .returned .nilIface ∧ w' = rowW z N (serRow [] (r ++ [kd]) L T) 5 := by
  obtain ⟨i0, hi, hz0, hz1, hz2⟩ := info_parts info_u8
  have x0 := fun K w' => at_i (P := Try.prog) 25 5 i0 Try.underlying25 hi hz1 N c n cap 0 c 0 rfl (by omega) rfl K w'
  have hset : (serRow [] r L T).set c (.int .u8 kd) = serRow [] (r ++ [kd]) L T := ser_one hr (by simp [hc]) kd
  have hl : c < (serRow [] r L T).length := by rw [ser_len (by omega)]; simp; omega
  obtain ⟨R1, hR1⟩ : ∃ R1, R1 = r ++ [kd] := ⟨_, rfl⟩
  rw [← hR1] at hset ⊢
  clear hi hz0 hz1 hz2 hc hR1
  rcases hk with rfl | rfl
  all_goals
    go_enter Try.func74, Try.ntmps74
    go_wp2_with fail
    go_ret
    exact ⟨rfl, rfl⟩

set_option linter.unusedVariables false in
set_option linter.unusedSimpArgs false in
set_option maxRecDepth 100000 in
set_option maxHeartbeats 4000000 in
/-- an option with data is written -/
theorem encode2_calls (N b c n cap L : Nat) (kd : Int) (d r : List Int) (pa : Option Addr) (pc : Nat) (T : List Value) (z : World) (hd : Has z N) (hb : b ≠ N) (hk : kd ≠ 0 ∧ kd ≠ 255) (c0 : z.cell? ⟨b, 0, none⟩ = some (.int .u8 kd)) (c1 : z.cell? ⟨b, 1, none⟩ = some (.int .u8 (d.length : Int))) (c2 : z.cell? ⟨b, 2, none⟩ = some (.slice pa d.length pc)) (hI : ∀ R, IsB (rowW z N R 5) (.slice pa d.length pc) d) (hc : c = r.length) (hr : r.length + d.length + 2 ≤ L) (hn : d.length + 3 ≤ n) (hcap : n ≤ cap) :
    Calls Try.prog 74 #[.pointer (some ⟨b, 0, none⟩), .slice (some ⟨N, c, none⟩) n cap] (rowW z N (serRow [] r L T) 5) fun e w' => e = .returned .nilIface ∧ w' = rowW z.drew N (serRow [] (r ++ ([kd, (d.length : Int)] ++ d)) L T) 5 := by
  obtain ⟨i0, hi, hz0, hz1, hz2⟩ := info_parts info_u8
  have x0 := fun K w' => at_i (P := Try.prog) 25 5 i0 Try.underlying25 hi hz1 N c n cap 0 c 0 rfl (by omega) rfl K w'
  have x1 := fun K w' => at_i (P := Try.prog) 25 5 i0 Try.underlying25 hi hz1 N c n cap 1 (c + 1) 1 rfl (by omega) rfl K w'
  have s2 := fun K w' => at_l (P := Try.prog) 25 5 i0 Try.underlying25 hi hz1 N c n cap 2 (n - 2) (cap - 2) (c + 2) 2 rfl (by omega) (by omega) hcap (by omega) rfl K w'
  obtain ⟨R1, hR1⟩ : ∃ R1, R1 = r ++ [kd] := ⟨_, rfl⟩
  obtain ⟨R2, hR2⟩ : ∃ R2, R2 = R1 ++ [(d.length : Int)] := ⟨_, rfl⟩
  have hR1l : R1.length = r.length + 1 := by rw [hR1]; simp
  have hR2l : R2.length = r.length + 2 := by rw [hR2]; simp [hR1l]
  have hset1 : (serRow [] r L T).set c (.int .u8 kd) = serRow [] R1 L T := by rw [hR1]; exact ser_one (by omega) (by simp [hc]) kd
  have hset2 : (serRow [] R1 L T).set (c + 1) (.int .u8 (d.length : Int)) = serRow [] R2 L T := by rw [hR2]; exact ser_one (by omega) (by simp; omega) _
  have hl0 : c < (serRow [] r L T).length := by rw [ser_len (by omega)]; simp; omega
  have hl1 : c + 1 < (serRow [] R1 L T).length := by rw [ser_len (by omega)]; simp; omega
  have e9 : splice (serRow [] R2 L T) (c + 2) (bcells d) = serRow [] (r ++ ([kd, (d.length : Int)] ++ d)) L T := by
    rw [ser_copy (by omega) (by simp; omega), hR2, hR1]; simp
  have hfit : c + 2 + (bcells d).length ≤ (serRow [] R2 L T).length := by rw [ser_len (by omega), bcells_length]; simp; omega
  obtain ⟨R3, hR3⟩ : ∃ R3, R3 = r ++ ([kd, (d.length : Int)] ++ d) := ⟨_, rfl⟩
  rw [← hR3] at e9 ⊢
  have z0 : (kd == 0) = false := by simp [hk.1]
  have z1 : (kd == 255) = false := by simp [hk.2]
  have HE9 := Lib.hid e9
  have HFIT := Lib.hid hfit
  have HI := Lib.hid hI
  clear hi hz0 hz1 hz2 hc hR1 hR2 hR3 hR1l hR2l e9 hfit hI
  go_enter Try.func74, Try.ntmps74
  go_wp2_with fail
  have hsr := (HI.out (serRow [] R2 L T)).src
  go_region_law (refine step_copy_row (z := z.drew) rfl (.tmp 22) (.tmp 26) 25 25 rfl 5 Try.underlying25 size_u8 (some ⟨N, c + 2, none⟩) pa (n - 2) (cap - 2) d.length pc (by simp [Act.eval, Act.put]) (by simp [Act.eval, Act.put]) N (c + 2) (serRow [] R2 L T) 5 hd (bcells d) (by rw [bcells_length]; exact (Nat.min_eq_left (by omega)).symm) (fun hp => ⟨rfl, hsr (by rw [bcells_length] at hp; exact hp)⟩) HFIT.out (bcells_one d) ?_)
  all_goals
    rw [HE9.out]
    go_wp2
    go_ret
    exact ⟨rfl, rfl⟩

/-- the end of options, made -/
theorem newEnd_calls (w : World) : Calls Try.prog 75 #[.int .u8 255, .slice none 0 0] w fun e w' => e = .returned (.agg #[.int .u8 255, .int .u8 0, .slice none 0 0]) ∧ ∃ o1 o2, w' = (w.alloc o1).alloc o2 := by
  go_enter Try.func75, Try.ntmps75
  go_wp2
  exact bodyPost_ret (v := .agg #[.int .u8 255, .int .u8 0, .slice none 0 0]) (by simp [results, Try.results75, go_sem]) rfl ⟨rfl, _, _, rfl⟩
end Go.Proofs.Ytdpffedmgmllbaa
