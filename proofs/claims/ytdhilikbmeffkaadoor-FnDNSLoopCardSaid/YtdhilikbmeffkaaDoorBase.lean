/-
  Contracts of the small functions that the statements of this seat reach: copied, short, Same, beUint16, Joined and their like.
-/
import Derived.Test.YtdhilikbmeffkaaDoorRows
import Derived.Test.YtdhilikbmeffkaaDoorLib
import Derived.KernelRfl
import Derived.Deep.QuietTactic
import Derived.BigQuiet
namespace Go.Proofs.YtdhilikbmeffkaaDoor
open Go.RowKit

theorem info_u8 : (Tryd.prog.info? 5).map (fun i => (i.zero, i.size, i.bytes)) = some (some (.int .u8 0), 1, 1) := by kernel_rfl

theorem own_empty (w : World) : Own (w.alloc (.cells #[] 5)) w.heap.size (.slice (some ⟨w.heap.size, 0, none⟩) 0 0) [] := own_lit w [] allB_nil (by simp)

set_option maxHeartbeats 400000 in
theorem copied_calls (v : Value) (l : List Int) (w : World) (h : IsB w v l) (hl : l.length ≤ 70368744177664) :
    Calls Tryd.prog 24 #[v] w (RetB w l) := by
  go_enter Tryd.func24, Tryd.ntmps24
  go_wp2_with (at_builtin; refine wpList_appB rfl _ _ 27 rfl Tryd.underlying27 info_u8 w.heap.size _ _ [] l rfl (own_empty w) rfl (h.gr ((Gr.refl w).alloc _)) ?c1 ?c2 ?_)
  case c1 => simp; omega
  case c2 => simp
  intro v' w' ho hg
  go_wp2
  go_ret
  exact RetB.mk ho (grownBy_step ((Gr.refl w).alloc _) hg (fun k hk => by simp [Value.ownBlock] at hk; omega))

theorem two_bytes (x y : Int) (hx : 0 ≤ x ∧ x ≤ 255) (hy : 0 ≤ y ∧ y ≤ 255) : AllB [x, y] := by
  intro z hz
  simp at hz
  rcases hz with rfl | rfl <;> assumption

set_option maxHeartbeats 400000 in
theorem short_exact (n : Int) (w : World) :
    Calls Tryd.prog 20 #[.int .i64 n] w fun e w' => e = .returned (.slice (some ⟨w.heap.size, 0, none⟩) 2 2) ∧ w' = w.alloc (.cells #[.int .u8 (n / 256 % 256), .int .u8 (n % 256)] 5) := by
  go_enter Tryd.func20, Tryd.ntmps20
  go_wp2
  go_ret
  exact ⟨rfl, rfl⟩

/-- a number as two bytes -/
def sh (n : Int) : List Int := [n / 256 % 256, n % 256]
theorem sh_bytes (n : Int) : AllB (sh n) := two_bytes _ _ (by omega) (by omega)

theorem short_calls (n : Int) (w : World) : Calls Tryd.prog 20 #[.int .i64 n] w (RetB w (sh n)) :=
  (short_exact n w).mono fun _ _ ⟨he, hw⟩ => by
    subst he; subst hw
    exact RetB.mk (own_lit w (sh n) (sh_bytes n) (by simp [sh, maxLen])) ((Gr.refl w).alloc _)

/-- a number as four bytes -/
def lo (n : Int) : List Int := sh (n / 65536) ++ sh n
theorem lo_bytes (n : Int) : AllB (lo n) := (sh_bytes _).append (sh_bytes _)

set_option maxHeartbeats 400000 in
theorem long_calls (n : Int) (w : World) : Calls Tryd.prog 33 #[.int .i64 n] w (RetB w (lo n)) := by
  go_enter Tryd.func33, Tryd.ntmps33
  go_wp2_with fail
  refine (short_calls _ _).mono ?_
  rintro e w1 ⟨_, _, _, rfl, ho1, hg1⟩
  go_wp2_with fail
  refine (short_calls _ _).mono ?_
  rintro e w2 ⟨_, _, _, rfl, ho2, hg2⟩
  go_wp2_with (at_builtin; refine wpList_appB rfl _ _ 27 rfl Tryd.underlying27 info_u8 w.heap.size _ _ _ _ rfl (ho1.gr hg2) rfl ho2.isB ?c1 ?c2 ?_)
  case c1 => simp [sh]
  case c2 => exact Nat.le_trans hg1.size hg2.size
  intro v' w' ho hg
  go_wp2
  go_ret
  exact RetB.mk ho (grownBy_step (hg1.trans hg2) hg (fun k hk => .inl (ho1.fresh k hk)))

set_option maxHeartbeats 400000 in
theorem same_calls (v v' : Value) (l l' : List Int) (w : World) (h : IsB w v l) (h' : IsB w v' l') :
    Calls Tryd.prog 39 #[v, v'] w fun e w' => e = .returned (.bool (l == l')) ∧ w = w' := by
  have e1 := h.str (P := Tryd.prog) 27 5 Tryd.underlying27 Tryd.underlying5 9 Tryd.underlying9
  have e2 := h'.str (P := Tryd.prog) 27 5 Tryd.underlying27 Tryd.underlying5 9 Tryd.underlying9
  have e3 := strOfNums_beq h.bytes h'.bytes
  have E3 := Lib.hid e3; clear e3
  go_enter Tryd.func39, Tryd.ntmps39
  go_wp2
  go_ret
  exact ⟨by rw [← E3.out]; rfl, rfl⟩

set_option maxHeartbeats 400000 in
theorem be16_calls (v : Value) (l : List Int) (w : World) (h : IsB w v l) (hl : 2 ≤ l.length) :
    Calls Tryd.prog 35 #[v] w fun e w' => e = .returned (.int .u16 (bt l 0 * 256 + bt l 1)) ∧ ∃ n, w' = w.drewN n := by
  obtain ⟨i, hi, hz0, hz1, hz2⟩ := info_parts info_u8
  obtain ⟨b0, o0, i0, c0, -⟩ := h.idx (P := Tryd.prog) 27 5 i Tryd.underlying27 hi hz1 .i64 0 0 rfl (by omega)
  obtain ⟨b1, o1, i1, c1, -⟩ := h.idx (P := Tryd.prog) 27 5 i Tryd.underlying27 hi hz1 .i64 1 1 rfl (by omega)
  have b00 := h.bytes.bt0 0
  have b01 := h.bytes.bt1 0
  have b10 := h.bytes.bt0 1
  have b11 := h.bytes.bt1 1
  clear hi hz0 hz1 hz2 h hl
  go_enter Tryd.func35, Tryd.ntmps35
  go_wp2_with fail
  go_quiet (fail)
  go_wp2
  go_ret
  exact ⟨congrArg (fun x => Ending.returned (.int .u16 x)) ((bor' .u16 8 b10 (by omega) (by omega) (by omega) (by rw [max_u16]; omega)).trans (by omega)), nq, rfl⟩

theorem flat_snoc (ls : List (List Int)) (k : Nat) (h : k < ls.length) : (ls.take (k + 1)).flatten = (ls.take k).flatten ++ ls.getD k [] := by
  rw [List.take_succ_eq_append_getElem h, List.flatten_append, List.getD_eq_getElem?_getD, List.getElem?_eq_getElem h]
  simp
theorem flat_le (ls : List (List Int)) (k : Nat) : (ls.take k).flatten.length ≤ ls.flatten.length := by
  conv => rhs; rw [← List.take_append_drop k ls]
  rw [List.flatten_append, List.length_append]
  omega

set_option maxHeartbeats 400000 in
theorem joined_calls (v : Value) (ls : List (List Int)) (w : World) (h : IsBs w v ls) (hl : ls.flatten.length ≤ 70368744177664) (hn : ls.length ≤ 1000000) :
    Calls Tryd.prog 12 #[v] w (RetB w ls.flatten) := by
  obtain ⟨i, hi, hz0, hz1, hz2⟩ := info_parts info_u8
  have H := Lib.hid hi; have H0 := Lib.hid hz0; have H1 := Lib.hid hz1; have H2 := Lib.hid hz2
  clear hi hz0 hz1 hz2
  obtain ⟨b, o, c, vs, rfl, hv⟩ := h
  have HV := Lib.hid hv; clear hv
  have HL := Lib.hid hl; clear hl
  go_enter Tryd.func12, Tryd.ntmps12
  go_wp2_with fail
  go_loopw [3, 9] (fun u i wr => ∃ k : Nat, k ≤ ls.length ∧ i = .int .i64 k ∧ Own wr w.heap.size u (ls.take k).flatten ∧ Gr w wr) (fun _ i _ => ls.length - (intOf i).toNat)
  case atStart => exact ⟨0, Nat.zero_le _, rfl, own_empty w, (Gr.refl w).alloc _⟩
  case round =>
    obtain ⟨k, hk, rfl, ho, hg⟩ := hrel
    by_cases hlt : k < ls.length
    · obtain ⟨hc, hb⟩ := HV.out k hlt
      have hc' := hg.cell hc
      have HB := Lib.hid hb; clear hb hc
      go_wp2_with (at_builtin; refine wpList_appB rfl _ _ 27 rfl Tryd.underlying27 info_u8 w.heap.size _ _ _ _ rfl ho rfl (HB.out.gr hg) ?c1 ?c2 ?_)
      case c1 =>
        have h1 := flat_snoc ls k hlt
        have h2 := flat_le ls (k + 1)
        have h3 := HL.out
        rw [h1, List.length_append] at h2
        omega
      case c2 => exact hg.size
      intro v' w' ho' hg'
      go_wp2
      go_roundw
      case rel => exact ⟨k + 1, by omega, by go_num, by rw [flat_snoc ls k hlt, List.getD_eq_getElem?_getD, List.getElem?_eq_getElem hlt]; exact ho', grownBy_step hg hg' (fun k hk => .inl (ho.fresh k hk))⟩
      case measure => simp [intOf]; omega
    · go_wp2
      go_ret
      have e : k = ls.length := by omega
      exact RetB.mk (by rw [e, List.take_length] at ho; exact ho) hg
/-- 'from 0 to m' -/
def upto (n m : Int) : Bool := decide (0 ≤ n) && decide (n ≤ m)
theorem upto_iff {n m : Int} : upto n m = true ↔ 0 ≤ n ∧ n ≤ m := by simp [upto]

set_option maxHeartbeats 400000 in
theorem upTo_calls (n m : Int) (w : World) : Calls Tryd.prog 17 #[.int .i64 n, .int .i64 m] w fun e w' => e = .returned (.bool (upto n m)) ∧ w = w' := by
  by_cases h : 0 ≤ n
  · go_enter Tryd.func17, Tryd.ntmps17
    go_wp2
    go_ret
    exact ⟨by simp [upto, h], rfl⟩
  · go_enter Tryd.func17, Tryd.ntmps17
    go_wp2
    go_ret
    exact ⟨by unfold upto; rw [decide_eq_false (by omega)]; rfl, rfl⟩

/-- 1 for true -/
def bi (b : Bool) : Int := if b then 1 else 0
theorem bi_le (b : Bool) : 0 ≤ bi b ∧ bi b ≤ 1 := by cases b <;> simp [bi]

set_option maxHeartbeats 400000 in
theorem bit_calls (b : Bool) (w : World) : Calls Tryd.prog 19 #[.bool b] w fun e w' => e = .returned (.int .i64 (bi b)) ∧ w = w' := by
  cases b
  all_goals
    go_enter Tryd.func19, Tryd.ntmps19
    go_wp2
    go_ret
    exact ⟨rfl, rfl⟩

/-- few enough bytes to be carried -/
def isPay (l : List Int) : Bool := decide ((l.length : Int) ≤ 2000)
theorem isPay_iff {l : List Int} : isPay l = true ↔ l.length ≤ 2000 := by simp [isPay]; omega

set_option maxHeartbeats 400000 in
theorem nilFeedback_calls (w : World) : Calls Tryd.prog 25 #[] w fun e w' => e = .returned (.iface 104 (.agg #[])) ∧ w = w' := by
  go_enter Tryd.func25, Tryd.ntmps25
  go_wp2
  go_ret
  exact ⟨rfl, rfl⟩

set_option maxHeartbeats 400000 in
theorem errNew_calls (s : ByteArray) (w : World) : Calls Tryd.prog 44 #[.string s] w fun e w' => (∃ a, e = .returned (.iface 119 (.pointer (some a)))) ∧ Gr w w' := by
  go_enter Tryd.func44, Tryd.ntmps44
  go_wp2
  go_ret
  exact ⟨⟨_, rfl⟩, (Gr.refl w).alloc _⟩

set_option maxHeartbeats 400000 in
theorem be32_calls (v : Value) (l : List Int) (w : World) (h : IsB w v l) (hl : 4 ≤ l.length) :
    Calls Tryd.prog 42 #[v] w fun e w' => e = .returned (.int .u32 (bt l 0 * 16777216 + bt l 1 * 65536 + bt l 2 * 256 + bt l 3)) ∧ ∃ n, w' = w.drewN n := by
  obtain ⟨i, hi, hz0, hz1, hz2⟩ := info_parts info_u8
  obtain ⟨b0, o0, i0, c0, -⟩ := h.idx (P := Tryd.prog) 27 5 i Tryd.underlying27 hi hz1 .i64 0 0 rfl (by omega)
  obtain ⟨b1, o1, i1, c1, -⟩ := h.idx (P := Tryd.prog) 27 5 i Tryd.underlying27 hi hz1 .i64 1 1 rfl (by omega)
  obtain ⟨b2, o2, i2, c2, -⟩ := h.idx (P := Tryd.prog) 27 5 i Tryd.underlying27 hi hz1 .i64 2 2 rfl (by omega)
  obtain ⟨b3, o3, i3, c3, -⟩ := h.idx (P := Tryd.prog) 27 5 i Tryd.underlying27 hi hz1 .i64 3 3 rfl (by omega)
  have b00 := h.bytes.bt0 0
  have b01 := h.bytes.bt1 0
  have b10 := h.bytes.bt0 1
  have b11 := h.bytes.bt1 1
  have b20 := h.bytes.bt0 2
  have b21 := h.bytes.bt1 2
  have b30 := h.bytes.bt0 3
  have b31 := h.bytes.bt1 3
  clear hi hz0 hz1 hz2 h hl
  go_enter Tryd.func42, Tryd.ntmps42
  go_wp2_with fail
  go_quiet (fail)
  go_wp2
  go_ret
  refine ⟨congrArg (fun x => Ending.returned (.int .u32 x)) ?_, nq, rfl⟩
  rw [bor' .u32 8 (x := bt l 3) (y := bt l 2 * 256) b30 (by omega) (by omega) (by omega) (by rw [max_u32]; omega), bor' .u32 16 (x := bt l 3 + bt l 2 * 256) (y := bt l 1 * 65536) (by omega) (by omega) (by omega) (by omega) (by rw [max_u32]; omega), bor' .u32 24 (by omega) (by omega) (by omega) (by omega) (by rw [max_u32]; omega)]
  omega

end Go.Proofs.YtdhilikbmeffkaaDoor
