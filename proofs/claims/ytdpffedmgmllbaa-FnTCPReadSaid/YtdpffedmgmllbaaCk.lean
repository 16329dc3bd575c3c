/-
  The checksum by RFC 1071, as the reference reckons it.
-/
import Derived.Test.YtdpffedmgmllbaaBase
namespace Go.Proofs.Ytdpffedmgmllbaa
open Go.RowKit

/-- a carry is added at the low end -/
def red (n : Int) : Int := if n > 65535 then n - 65535 else n
/-- the sum of all numbers of two bytes, carries added; a last byte alone is the higher one -/
def ckAcc : Int → List Int → Int
  | s, [] => s
  | s, [x] => red (s + x * 256)
  | s, x :: y :: r => ckAcc (red (s + (x * 256 + y))) r
/-- the checksum -/
def cks (l : List Int) : Int := 65535 - ckAcc 0 l

theorem red_bd {s x : Int} (h0 : 0 ≤ s) (h1 : s ≤ 65535) (h2 : 0 ≤ x) (h3 : x ≤ 65535) : 0 ≤ red (s + x) ∧ red (s + x) ≤ 65535 := by
  unfold red; split <;> omega

theorem ckAcc_bd : ∀ (l : List Int) (s : Int), AllB l → 0 ≤ s → s ≤ 65535 → 0 ≤ ckAcc s l ∧ ckAcc s l ≤ 65535
  | [], s, _, h0, h1 => ⟨h0, h1⟩
  | [x], s, hb, h0, h1 => by
    have hx := hb x (by simp)
    exact red_bd h0 h1 (by omega) (by omega)
  | x :: y :: r, s, hb, h0, h1 => by
    have hx := hb x (by simp)
    have hy := hb y (by simp)
    have hr := red_bd (s := s) (x := x * 256 + y) h0 h1 (by omega) (by omega)
    exact ckAcc_bd r _ (fun z hz => hb z (by simp [hz])) hr.1 hr.2

theorem cks_bd {l : List Int} (h : AllB l) : 0 ≤ cks l ∧ cks l ≤ 65535 := by
  have := ckAcc_bd l 0 h (by omega) (by omega)
  unfold cks; omega

theorem drop_two {l : List Int} {i : Nat} (h : i + 1 < l.length) : l.drop i = bt l i :: bt l (i + 1) :: l.drop (i + 2) := by
  rw [List.drop_eq_getElem_cons (by omega), List.drop_eq_getElem_cons (by omega)]
  simp [bt, List.getD, h, show i < l.length by omega]
theorem drop_last {l : List Int} {i : Nat} (h : i < l.length) (h2 : ¬ i + 1 < l.length) : l.drop i = [bt l i] := by
  rw [List.drop_eq_getElem_cons h, List.drop_of_length_le (by omega)]
  simp [bt, List.getD, h]

theorem ck_step2 {l : List Int} {i : Nat} {s : Int} (h : i + 1 < l.length) : ckAcc s (l.drop i) = ckAcc (red (s + (bt l i * 256 + bt l (i + 1)))) (l.drop (i + 2)) := by
  rw [drop_two h, ckAcc]
theorem ck_step1 {l : List Int} {i : Nat} {s : Int} (h : i < l.length) (h2 : ¬ i + 1 < l.length) : ckAcc s (l.drop i) = ckAcc (red (s + bt l i * 256)) (l.drop (i + 2)) := by
  rw [drop_last h h2, List.drop_of_length_le (show l.length ≤ i + 2 by omega), ckAcc, ckAcc]
theorem red_hi {n : Int} (h : 65535 < n) : red n = n - 65535 := if_pos h
theorem red_lo {n : Int} (h : n ≤ 65535) : red n = n := if_neg (by omega)

set_option maxRecDepth 100000 in
set_option maxHeartbeats 1000000 in
theorem checksum_calls (v : Value) (l : List Int) (w : World) (h : IsB w v l) (hl : l.length ≤ 1000000) :
    Calls Try.prog 33 #[v] w fun e w' => e = .returned (.int .i64 (cks l)) ∧ w = w' := by
  have hlen := fun ty => h.len (P := Try.prog) 25 ty 5 Try.underlying25
  obtain ⟨i0, hi, hz0, hz1, hz2⟩ := info_parts info_u8
  have HI := Lib.hid (And.intro hi hz1)
  have HH := Lib.hid h
  clear hi hz0 hz1 hz2 h
  go_enter Try.func33, Try.ntmps33
  go_wp2_with fail
  go_loop [3, 4] (fun t i => ∃ (s : Int) (k : Nat), k ≤ l.length + 1 ∧ t = .int .i64 s ∧ i = .int .i64 k ∧ 0 ≤ s ∧ s ≤ 65535 ∧ ckAcc s (l.drop k) = ckAcc 0 l) (fun _ i => l.length + 2 - (intOf i).toNat)
  case atStart => exact ⟨0, 0, by omega, rfl, rfl, by omega, by omega, by simp⟩
  case round =>
    obtain ⟨s, k, hk, rfl, rfl, hs0, hs1, hck⟩ := hrel
    have HC := Lib.hid hck
    clear hck
    by_cases hlt : k < l.length
    · obtain ⟨b, o, j0, c0, -⟩ := HH.out.idx (P := Try.prog) 25 5 i0 Try.underlying25 HI.out.1 HI.out.2 .i64 k k rfl hlt
      have p0 := HH.out.bytes.bt0 k
      have p1 := HH.out.bytes.bt1 k
      by_cases h2 : k + 1 < l.length
      · obtain ⟨b', o', j1, c1, -⟩ := HH.out.idx (P := Try.prog) 25 5 i0 Try.underlying25 HI.out.1 HI.out.2 .i64 ((k : Int) + 1) (k + 1) (by omega) h2
        have p2 := HH.out.bytes.bt0 (k + 1)
        have p3 := HH.out.bytes.bt1 (k + 1)
        have hor : bits .or .i64 (bt l k * 256) (bt l (k + 1)) = bt l k * 256 + bt l (k + 1) := bor .i64 8 (by omega) p2 (by omega) (by omega) (by rw [max_i64]; omega)
        go_wp2_with fail
        · go_round
          case rel =>
            have hb : 65535 < s + (bt l k * 256 + bt l (k + 1)) := by assumption
            exact ⟨_, k + 2, by omega, rfl, by go_num, by omega, by omega, by rw [← HC.out, ck_step2 h2, red_hi hb]⟩
          case measure => simp [intOf]; omega
        · go_round
          case rel =>
            have hb : s + (bt l k * 256 + bt l (k + 1)) ≤ 65535 := by assumption
            exact ⟨_, k + 2, by omega, rfl, by go_num, by omega, by omega, by rw [← HC.out, ck_step2 h2, red_lo hb]⟩
          case measure => simp [intOf]; omega
      · go_wp2_with fail
        · go_round
          case rel =>
            have hb : 65535 < s + bt l k * 256 := by assumption
            exact ⟨_, k + 2, by omega, rfl, by go_num, by omega, by omega, by rw [← HC.out, ck_step1 hlt h2, red_hi hb]⟩
          case measure => simp [intOf]; omega
        · go_round
          case rel =>
            have hb : s + bt l k * 256 ≤ 65535 := by assumption
            exact ⟨_, k + 2, by omega, rfl, by go_num, by omega, by omega, by rw [← HC.out, ck_step1 hlt h2, red_lo hb]⟩
          case measure => simp [intOf]; omega
    · go_wp2_with fail
      go_ret
      refine ⟨congrArg (fun x => Ending.returned (.int .i64 x)) ?_, rfl⟩
      have := HC.out
      rw [List.drop_of_length_le (by omega), ckAcc] at this
      rw [cks, ← this]

end Go.Proofs.Ytdpffedmgmllbaa
