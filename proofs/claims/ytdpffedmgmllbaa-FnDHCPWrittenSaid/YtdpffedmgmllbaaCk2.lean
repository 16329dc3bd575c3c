/-
  The checksum by RFC 1071, as the program reckons it: all numbers first, then the carries.
-/
import Derived.Test.YtdpffedmgmllbaaCk
namespace Go.Proofs.Ytdpffedmgmllbaa
open Go.RowKit

/-- the sum of all numbers of two bytes; a last byte alone is the higher one -/
def tot : List Int → Int
  | [] => 0
  | [x] => x * 256
  | x :: y :: r => x * 256 + y + tot r
/-- a sum with its carries added at the low end -/
def fd (n : Int) : Int := if n = 0 then 0 else (n - 1) % 65535 + 1

theorem bnot16 {s : Int} (h0 : 0 ≤ s) (h1 : s ≤ 65535) : bits .xor .u16 IntKind.u16.max s = 65535 - s := by
  have e : (BitVec.ofInt 16 IntKind.u16.max ^^^ BitVec.ofInt 16 s).toNat = 65535 - s.toNat := by
    have e1 : BitVec.ofInt 16 IntKind.u16.max = BitVec.allOnes 16 := by decide
    rw [e1, BitVec.allOnes_xor, BitVec.toNat_not, ofInt_in 16 s h0 (by omega)]
  show IntKind.u16.wrap ((BitVec.ofInt 16 IntKind.u16.max ^^^ BitVec.ofInt 16 s).toNat : Int) = _
  rw [e]
  have : ((65535 - s.toNat : Nat) : Int) = 65535 - s := by omega
  rw [this]
  simp [IntKind.wrap, IntKind.bits, IntKind.signed]; omega
theorem fd_small {n : Int} (h0 : 0 ≤ n) (h1 : n ≤ 65535) : fd n = n := by
  unfold fd; split <;> omega
theorem fd_bd {n : Int} : 0 ≤ fd n ∧ fd n ≤ 65535 := by
  unfold fd; split <;> omega
theorem fd_step {n : Int} (h : 65535 < n) : fd (n / 65536 + n % 65536) = fd n := by
  unfold fd
  rw [if_neg (by omega), if_neg (by omega)]
  omega
theorem fd_red {s x t : Int} (h3 : 0 ≤ t) : fd (red (s + x) + t) = fd (s + x + t) := by
  unfold red
  split
  · unfold fd
    rw [if_neg (by omega), if_neg (by omega)]
    omega
  · rfl
theorem tot_bd : ∀ (l : List Int), AllB l → 0 ≤ tot l ∧ tot l ≤ 65535 * l.length
  | [], _ => by simp [tot]
  | [x], h => by
    have := h x (by simp)
    simp only [tot, List.length_singleton]
    omega
  | x :: y :: r, h => by
    have hx := h x (by simp)
    have hy := h y (by simp)
    have := tot_bd r (fun z hz => h z (by simp [hz]))
    simp only [tot, List.length_cons]
    omega
theorem ck_fd : ∀ (l : List Int) (s : Int), AllB l → 0 ≤ s → s ≤ 65535 → ckAcc s l = fd (s + tot l)
  | [], s, _, h0, h1 => by rw [ckAcc, tot, Int.add_zero, fd_small h0 h1]
  | [x], s, hb, h0, h1 => by
    have hx := hb x (by simp)
    have hr := red_bd (s := s) (x := x * 256) h0 h1 (by omega) (by omega)
    have := fd_red (s := s) (x := x * 256) (t := 0) (by omega)
    rw [ckAcc, tot]
    rw [Int.add_zero, Int.add_zero, fd_small hr.1 hr.2] at this
    exact this
  | x :: y :: r, s, hb, h0, h1 => by
    have hx := hb x (by simp)
    have hy := hb y (by simp)
    have hbr : AllB r := fun z hz => hb z (by simp [hz])
    have hr := red_bd (s := s) (x := x * 256 + y) h0 h1 (by omega) (by omega)
    rw [ckAcc, ck_fd r _ hbr hr.1 hr.2, fd_red (tot_bd r hbr).1, tot]
    congr 1
    omega
theorem cks_fd {l : List Int} (h : AllB l) : cks l = 65535 - fd (tot l) := by
  rw [cks, ck_fd l 0 h (by omega) (by omega), Int.zero_add]
theorem tot_step2 {l : List Int} {k : Nat} (h : k + 1 < l.length) : tot (l.drop k) = bt l k * 256 + bt l (k + 1) + tot (l.drop (k + 2)) := by
  rw [drop_two h, tot]
theorem tot_last {l : List Int} {k : Nat} (h : k < l.length) (h2 : ¬ k + 1 < l.length) : tot (l.drop k) = bt l k * 256 := by
  rw [drop_last h h2, tot]

set_option maxRecDepth 100000 in
set_option maxHeartbeats 2000000 in
theorem tcpip_calls (v : Value) (l : List Int) (c0 : Int) (w : World) (h : IsB w v l) (hl : l.length ≤ 60000) (hc0 : 0 ≤ c0) (hc1 : c0 ≤ 100000000) :
    Calls Try.prog 85 #[v, .int .u32 c0] w fun e w' => e = .returned (.int .u16 (65535 - fd (c0 + tot l))) ∧ w = w' := by
  have hlen := fun ty => h.len (P := Try.prog) 25 ty 5 Try.underlying25
  obtain ⟨i0, hi, hz0, hz1, hz2⟩ := info_parts info_u8
  have HI := Lib.hid (And.intro hi hz1)
  have HH := Lib.hid h
  have hT := tot_bd l h.bytes
  have HT := Lib.hid hT
  have ul : IntKind.i64.wrap ((l.length : Int) - 1) = (l.length : Int) - 1 := w64 (by omega) (by omega)
  clear hi hz0 hz1 hz2 h hT
  go_enter Try.func85, Try.ntmps85
  go_wp2_with fail
  go_loop [1, 6] (fun t i => ∃ (s : Int) (k : Nat), k ≤ l.length ∧ k % 2 = 0 ∧ t = .int .u32 s ∧ i = .int .i64 k ∧ 0 ≤ s ∧ s + tot (l.drop k) = c0 + tot l) (fun _ i => l.length + 2 - (intOf i).toNat)
  case atStart => exact ⟨c0, 0, by omega, rfl, rfl, rfl, hc0, by simp⟩
  case round =>
    obtain ⟨s, k, hk, hk2, rfl, rfl, hs0, hck⟩ := hrel
    have HC := Lib.hid hck
    clear hck
    have hTk := tot_bd (l.drop k) (HH.out.bytes.drop k)
    have HTk := Lib.hid hTk
    clear hTk
    by_cases h2 : k + 1 < l.length
    · obtain ⟨b, o, j0, b0, -⟩ := HH.out.idx (P := Try.prog) 25 5 i0 Try.underlying25 HI.out.1 HI.out.2 .i64 k k rfl (by omega)
      have p0 := HH.out.bytes.bt0 k
      have p1 := HH.out.bytes.bt1 k
      obtain ⟨b', o', j1, b1, -⟩ := HH.out.idx (P := Try.prog) 25 5 i0 Try.underlying25 HI.out.1 HI.out.2 .i64 ((k : Int) + 1) (k + 1) (by omega) h2
      have p2 := HH.out.bytes.bt0 (k + 1)
      have p3 := HH.out.bytes.bt1 (k + 1)
      have hst := tot_step2 h2
      have hT2 := tot_bd (l.drop (k + 2)) (HH.out.bytes.drop (k + 2))
      have hb := HT.out
      have hc := HC.out
      have hd : decide ((k : Int) < (l.length : Int) - 1) = true := by simp; omega
      have u0 : IntKind.u32.wrap (bt l k) = bt l k := by simp [IntKind.wrap, IntKind.bits, IntKind.signed]; omega
      have u1 : IntKind.u32.wrap (bt l k * 256) = bt l k * 256 := by simp [IntKind.wrap, IntKind.bits, IntKind.signed]; omega
      have u2 : IntKind.u32.wrap (s + bt l k * 256) = s + bt l k * 256 := by simp [IntKind.wrap, IntKind.bits, IntKind.signed]; omega
      have u3 : IntKind.u32.wrap (bt l (k + 1)) = bt l (k + 1) := by simp [IntKind.wrap, IntKind.bits, IntKind.signed]; omega
      have u4 : IntKind.u32.wrap (s + bt l k * 256 + bt l (k + 1)) = s + bt l k * 256 + bt l (k + 1) := by simp [IntKind.wrap, IntKind.bits, IntKind.signed]; omega
      have HS := Lib.hid hst
      clear hst hT2 hb hc
      go_wp2_with fail
      go_round
      case rel => exact ⟨_, k + 2, by omega, by omega, rfl, by go_num, by omega, by have := HC.out; have := HS.out; omega⟩
      case measure => simp [intOf]; omega
    · have hd : decide ((k : Int) < (l.length : Int) - 1) = false := by simp; omega
      have hb := HT.out
      have hc := HC.out
      have hTk := HTk.out
      have hsb : s ≤ 4294967295 := by omega
      clear hb hc hTk
      have key : ∀ (s2 : Int), 0 ≤ s2 → s2 = c0 + tot l → s2 ≤ 4294967295 := fun s2 _ h => by have := HT.out; omega
      have KEY := Lib.hid key
      clear key
      by_cases h3 : k < l.length
      · obtain ⟨b, o, j0, b0, -⟩ := HH.out.idx (P := Try.prog) 25 5 i0 Try.underlying25 HI.out.1 HI.out.2 .i64 ((l.length : Int) - 1) k (by omega) h3
        have p0 := HH.out.bytes.bt0 k
        have p1 := HH.out.bytes.bt1 k
        have hs2 : s + bt l k * 256 = c0 + tot l := by have := HC.out; rw [tot_last h3 h2] at this; exact this
        have hs3 := KEY.out _ (by omega) hs2
        have u0 : IntKind.u32.wrap (bt l k) = bt l k := by simp [IntKind.wrap, IntKind.bits, IntKind.signed]; omega
        have u1 : IntKind.u32.wrap (bt l k * 256) = bt l k * 256 := by simp [IntKind.wrap, IntKind.bits, IntKind.signed]; omega
        have u2 : IntKind.u32.wrap (s + bt l k * 256) = s + bt l k * 256 := by simp [IntKind.wrap, IntKind.bits, IntKind.signed]; omega
        have hr : ((l.length : Int)).tmod 2 = 1 := by rw [Int.tmod_eq_emod_of_nonneg (by omega)]; omega
        have HS := Lib.hid hs2
        clear hs2
        go_wp2_with fail
        go_loop [1] (fun t => ∃ (s2 : Int), t = .int .u32 s2 ∧ 0 ≤ s2 ∧ s2 ≤ 4294967295 ∧ fd s2 = fd (c0 + tot l)) (fun t => (intOf t).toNat)
        case atStart => exact ⟨_, rfl, by omega, by omega, by rw [← HS.out]⟩
        case round =>
          obtain ⟨s2, rfl, g0, g1, g2⟩ := hrel
          have HG := Lib.hid g2
          clear g2
          have m1 : bits .and .u32 s2 65535 = s2 % 65536 := bmask .u32 16 g0 (by rw [max_u32]; omega) (by decide) (by decide)
          have u9 : IntKind.u32.wrap (s2 / 65536 + s2 % 65536) = s2 / 65536 + s2 % 65536 := by simp [IntKind.wrap, IntKind.bits, IntKind.signed]; omega
          by_cases h9 : 65535 < s2
          · have d9 : decide (65535 < s2) = true := by simp; omega
            go_wp2_with fail
            go_round
            case rel => exact ⟨_, rfl, by omega, by omega, by rw [← HG.out]; exact fd_step h9⟩
            case measure => simp [intOf]; omega
          · have d9 : decide (65535 < s2) = false := by simp; omega
            have hfd : fd (c0 + tot l) = s2 := by rw [← HG.out]; exact fd_small g0 (by omega)
            have x9 := bnot16 g0 (show s2 ≤ 65535 by omega)
            have u8 : IntKind.u16.wrap s2 = s2 := by simp [IntKind.wrap, IntKind.bits, IntKind.signed]; omega
            go_wp2_with fail
            go_ret
            exact ⟨rfl, rfl⟩
      · have hs2 : s = c0 + tot l := by have := HC.out; rw [List.drop_of_length_le (by omega), tot, Int.add_zero] at this; exact this
        have hr : ((l.length : Int)).tmod 2 = 0 := by rw [Int.tmod_eq_emod_of_nonneg (by omega)]; omega
        have HS := Lib.hid hs2
        clear hs2
        go_wp2_with fail
        go_loop [1] (fun t => ∃ (s2 : Int), t = .int .u32 s2 ∧ 0 ≤ s2 ∧ s2 ≤ 4294967295 ∧ fd s2 = fd (c0 + tot l)) (fun t => (intOf t).toNat)
        case atStart => exact ⟨_, rfl, by omega, by omega, by rw [← HS.out]⟩
        case round =>
          obtain ⟨s2, rfl, g0, g1, g2⟩ := hrel
          have HG := Lib.hid g2
          clear g2
          have m1 : bits .and .u32 s2 65535 = s2 % 65536 := bmask .u32 16 g0 (by rw [max_u32]; omega) (by decide) (by decide)
          have u9 : IntKind.u32.wrap (s2 / 65536 + s2 % 65536) = s2 / 65536 + s2 % 65536 := by simp [IntKind.wrap, IntKind.bits, IntKind.signed]; omega
          by_cases h9 : 65535 < s2
          · have d9 : decide (65535 < s2) = true := by simp; omega
            go_wp2_with fail
            go_round
            case rel => exact ⟨_, rfl, by omega, by omega, by rw [← HG.out]; exact fd_step h9⟩
            case measure => simp [intOf]; omega
          · have d9 : decide (65535 < s2) = false := by simp; omega
            have hfd : fd (c0 + tot l) = s2 := by rw [← HG.out]; exact fd_small g0 (by omega)
            have x9 := bnot16 g0 (show s2 ≤ 65535 by omega)
            have u8 : IntKind.u16.wrap s2 = s2 := by simp [IntKind.wrap, IntKind.bits, IntKind.signed]; omega
            go_wp2_with fail
            go_ret
            exact ⟨rfl, rfl⟩
end Go.Proofs.Ytdpffedmgmllbaa
