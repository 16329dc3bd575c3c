/-
  The header of a datagram with its checksum.
-/
import Derived.Test.YtdpffedmgmllbaaUDPSpec
import Derived.Test.YtdpffedmgmllbaaLib3
namespace Go.Proofs.Ytdpffedmgmllbaa
open Go.RowKit

/-- the checksum of a datagram over its addresses -/
def udpCk (s d : Int) (ls ld l : List Int) : Int := cks [psd ls ld 17 (8 + l.length), [udp s d (8 + l.length) 0, l].flatten].flatten
def udpSum (s d : Int) (ls ld l : List Int) : Int := if udpCk s d ls ld l = 0 then 65535 else udpCk s d ls ld l

theorem psd_len (ls ld : List Int) (p n : Int) (h0 : ls.length ≤ 16) (h1 : ld.length ≤ 16) : (psd ls ld p n).length ≤ 40 := by
  unfold psd
  split <;> simp [sh, lo] <;> omega

set_option maxRecDepth 100000 in
set_option maxHeartbeats 2000000 in
theorem wholeUDP_calls (s d n c : Int) (a0 : Option Addr) (n0 c0 : Nat) (a1 : Option Addr) (n1 c1 : Nat) (a2 : Option Addr) (n2 c2 : Nat) (ls ld l : List Int) (w : World)
    (hs : IsB w (.slice a0 n0 c0) ls) (hd : IsB w (.slice a1 n1 c1) ld) (h : IsB w (.slice a2 n2 c2) l) (h0 : ls.length ≤ 16) (h1 : ld.length ≤ 16) (hl : l.length ≤ 2000) :
    Calls Try.prog 35 #[.agg #[.int .i64 s, .int .i64 d, .int .i64 n, .int .i64 c], .slice a0 n0 c0, .slice a1 n1 c1, .slice a2 n2 c2] w fun e w' =>
      e = .returned (.agg #[.int .i64 s, .int .i64 d, .int .i64 (8 + l.length), .int .i64 (udpSum s d ls ld l)]) ∧ Gr w w' := by
  have g2 := fun ty => h.len (P := Try.prog) 25 ty 5 Try.underlying25
  have FA := Lib.hid (heap_gr (World.grownBy_alloc (w.alloc (.cells [.int .i64 s, .int .i64 d, .int .i64 (8 + l.length), .int .i64 0].toArray 59)) (.cells [.int .i64 0, .int .i64 0, .int .i64 0, .int .i64 0].toArray 59) none) (heap_alloc_new w _))
  have FB := heap_alloc_new (w.alloc (.cells [.int .i64 s, .int .i64 d, .int .i64 (8 + l.length), .int .i64 0].toArray 59)) (.cells [.int .i64 0, .int .i64 0, .int .i64 0, .int .i64 0].toArray 59)
  rw [World.size_alloc] at FB
  replace FB := Lib.hid FB
  have NE : w.heap.size + 1 ≠ w.heap.size := by omega
  have NE' : w.heap.size ≠ w.heap.size + 1 := by omega
  have Q1 := Lib.hid (show [udp s d (8 + l.length) 0, l].flatten.length = 8 + l.length by simp [udp, sh]; omega)
  have Q2 := Lib.hid (psd_len ls ld 17 (8 + l.length) h0 h1)
  have QS := Lib.hid (show udpSum s d ls ld l = if udpCk s d ls ld l = 0 then 65535 else udpCk s d ls ld l from rfl)
  have hck : ∃ k, k = udpCk s d ls ld l := ⟨_, rfl⟩
  obtain ⟨k, hk⟩ := hck
  have HK := Lib.hid hk
  clear hk
  have QS' := Lib.hid (show udpSum s d ls ld l = if k = 0 then 65535 else k by rw [HK.out]; rfl)
  by_cases hz : k = 0
  case pos =>
    have hz' : (k == 0) = true := by simp [hz]
    have HZ := Lib.hid hz
    clear hz
    go_enter Try.func35, Try.ntmps35
    go_wp2_with (first
      | (go_at_call 37; refine (udp_calls _ _ _ _ _).mono ?_; rintro e w9 ⟨_, _, _, rfl, ho9, hg9⟩; have hb9 := ho9.isB)
      | (go_at_call 15; refine (joined_calls _ [udp s d (8 + l.length) 0, l] _ (isBs_at _ _ [udp s d (8 + l.length) 0, l] _ (Reads.cons (IsB.gr (by assumption) (by repeat (with_reducible first | exact Gr.refl _ | assumption | refine Gr.alloc ?_ _ | refine Gr.drew ?_ | refine Gr.drewN ?_ _ | refine Gr.trans ?_ (by assumption)))) (Reads.cons (IsB.gr (by assumption) (by repeat (with_reducible first | exact Gr.refl _ | assumption | refine Gr.alloc ?_ _ | refine Gr.drew ?_ | refine Gr.drewN ?_ _ | refine Gr.trans ?_ (by assumption)))) (Reads.nil _))) _ rfl _ (by simp)) (by rw [Q1.out]; omega) (by simp)).mono ?_; rintro e w9 ⟨_, _, _, rfl, ho9, hg9⟩; have hb9 := ho9.isB; have g9 := fun ty => hb9.len (P := Try.prog) 25 ty 5 Try.underlying25; rw [Q1.out] at g9; simp only [Int.natCast_add, Int.cast_ofNat_Int] at g9)
      | (go_at_call 42; refine (pseudo_calls _ _ _ _ _ _ ls ld _ _ _ (IsB.gr (by assumption) (by repeat (with_reducible first | exact Gr.refl _ | assumption | refine Gr.alloc ?_ _ | refine Gr.drew ?_ | refine Gr.drewN ?_ _ | refine Gr.trans ?_ (by assumption)))) (IsB.gr (by assumption) (by repeat (with_reducible first | exact Gr.refl _ | assumption | refine Gr.alloc ?_ _ | refine Gr.drew ?_ | refine Gr.drewN ?_ _ | refine Gr.trans ?_ (by assumption)))) (by assumption) (by assumption)).mono ?_; rintro e w9 ⟨_, _, _, rfl, ho9, hg9⟩; have hb9 := ho9.isB)
      | (go_at_call 15; refine (joined_calls _ [psd ls ld 17 (8 + l.length), [udp s d (8 + l.length) 0, l].flatten] _ (isBs_at _ _ [psd ls ld 17 (8 + l.length), [udp s d (8 + l.length) 0, l].flatten] _ (Reads.cons (IsB.gr (by assumption) (by repeat (with_reducible first | exact Gr.refl _ | assumption | refine Gr.alloc ?_ _ | refine Gr.drew ?_ | refine Gr.drewN ?_ _ | refine Gr.trans ?_ (by assumption)))) (Reads.cons (IsB.gr (by assumption) (by repeat (with_reducible first | exact Gr.refl _ | assumption | refine Gr.alloc ?_ _ | refine Gr.drew ?_ | refine Gr.drewN ?_ _ | refine Gr.trans ?_ (by assumption)))) (Reads.nil _))) _ rfl _ (by simp)) (by have := Q1.out; have := Q2.out; simp only [List.flatten_cons, List.flatten_nil, List.append_nil, List.length_append] at *; omega) (by simp)).mono ?_; rintro e w9 ⟨_, _, _, rfl, ho9, hg9⟩; have hb9 := ho9.isB; have hx := two_rows (w' := w9) (A := w.heap.size) (B := w.heap.size + 1) FA.out FB.out (by repeat (with_reducible first | exact Gr.refl _ | assumption | refine Gr.alloc ?_ _ | refine Gr.drew ?_ | refine Gr.drewN ?_ _ | refine Gr.trans ?_ (by assumption))); have hgZ : Gr w w9 := (by repeat (with_reducible first | exact Gr.refl _ | assumption | refine Gr.alloc ?_ _ | refine Gr.drew ?_ | refine Gr.drewN ?_ _ | refine Gr.trans ?_ (by assumption))); obtain ⟨wX, hA, hB, rfl⟩ := hx)
      | (go_at_call 33; refine (checksum_calls _ _ _ (by assumption) (by have := Q1.out; have := Q2.out; simp only [List.flatten_cons, List.flatten_nil, List.append_nil, List.length_append] at *; omega)).mono ?_; rintro e w8 ⟨rfl, rfl⟩; rw [← udpCk.eq_def, ← HK.out]))

    exact bodyPost_ret (v := .agg #[.int .i64 s, .int .i64 d, .int .i64 (8 + l.length), .int .i64 65535]) (by simp [results, Try.results35, go_sem, hB]) rfl ⟨by rw [QS'.out, if_pos HZ.out], Gr.row2 NE' hgZ (Nat.le_refl _) (Nat.le_succ _)⟩
  case neg =>
    have hz' : (k == 0) = false := by simp [hz]
    have HZ := Lib.hid hz
    clear hz
    go_enter Try.func35, Try.ntmps35
    go_wp2_with (first
      | (go_at_call 37; refine (udp_calls _ _ _ _ _).mono ?_; rintro e w9 ⟨_, _, _, rfl, ho9, hg9⟩; have hb9 := ho9.isB)
      | (go_at_call 15; refine (joined_calls _ [udp s d (8 + l.length) 0, l] _ (isBs_at _ _ [udp s d (8 + l.length) 0, l] _ (Reads.cons (IsB.gr (by assumption) (by repeat (with_reducible first | exact Gr.refl _ | assumption | refine Gr.alloc ?_ _ | refine Gr.drew ?_ | refine Gr.drewN ?_ _ | refine Gr.trans ?_ (by assumption)))) (Reads.cons (IsB.gr (by assumption) (by repeat (with_reducible first | exact Gr.refl _ | assumption | refine Gr.alloc ?_ _ | refine Gr.drew ?_ | refine Gr.drewN ?_ _ | refine Gr.trans ?_ (by assumption)))) (Reads.nil _))) _ rfl _ (by simp)) (by rw [Q1.out]; omega) (by simp)).mono ?_; rintro e w9 ⟨_, _, _, rfl, ho9, hg9⟩; have hb9 := ho9.isB; have g9 := fun ty => hb9.len (P := Try.prog) 25 ty 5 Try.underlying25; rw [Q1.out] at g9; simp only [Int.natCast_add, Int.cast_ofNat_Int] at g9)
      | (go_at_call 42; refine (pseudo_calls _ _ _ _ _ _ ls ld _ _ _ (IsB.gr (by assumption) (by repeat (with_reducible first | exact Gr.refl _ | assumption | refine Gr.alloc ?_ _ | refine Gr.drew ?_ | refine Gr.drewN ?_ _ | refine Gr.trans ?_ (by assumption)))) (IsB.gr (by assumption) (by repeat (with_reducible first | exact Gr.refl _ | assumption | refine Gr.alloc ?_ _ | refine Gr.drew ?_ | refine Gr.drewN ?_ _ | refine Gr.trans ?_ (by assumption)))) (by assumption) (by assumption)).mono ?_; rintro e w9 ⟨_, _, _, rfl, ho9, hg9⟩; have hb9 := ho9.isB)
      | (go_at_call 15; refine (joined_calls _ [psd ls ld 17 (8 + l.length), [udp s d (8 + l.length) 0, l].flatten] _ (isBs_at _ _ [psd ls ld 17 (8 + l.length), [udp s d (8 + l.length) 0, l].flatten] _ (Reads.cons (IsB.gr (by assumption) (by repeat (with_reducible first | exact Gr.refl _ | assumption | refine Gr.alloc ?_ _ | refine Gr.drew ?_ | refine Gr.drewN ?_ _ | refine Gr.trans ?_ (by assumption)))) (Reads.cons (IsB.gr (by assumption) (by repeat (with_reducible first | exact Gr.refl _ | assumption | refine Gr.alloc ?_ _ | refine Gr.drew ?_ | refine Gr.drewN ?_ _ | refine Gr.trans ?_ (by assumption)))) (Reads.nil _))) _ rfl _ (by simp)) (by have := Q1.out; have := Q2.out; simp only [List.flatten_cons, List.flatten_nil, List.append_nil, List.length_append] at *; omega) (by simp)).mono ?_; rintro e w9 ⟨_, _, _, rfl, ho9, hg9⟩; have hb9 := ho9.isB; have hx := two_rows (w' := w9) (A := w.heap.size) (B := w.heap.size + 1) FA.out FB.out (by repeat (with_reducible first | exact Gr.refl _ | assumption | refine Gr.alloc ?_ _ | refine Gr.drew ?_ | refine Gr.drewN ?_ _ | refine Gr.trans ?_ (by assumption))); have hgZ : Gr w w9 := (by repeat (with_reducible first | exact Gr.refl _ | assumption | refine Gr.alloc ?_ _ | refine Gr.drew ?_ | refine Gr.drewN ?_ _ | refine Gr.trans ?_ (by assumption))); obtain ⟨wX, hA, hB, rfl⟩ := hx)
      | (go_at_call 33; refine (checksum_calls _ _ _ (by assumption) (by have := Q1.out; have := Q2.out; simp only [List.flatten_cons, List.flatten_nil, List.append_nil, List.length_append] at *; omega)).mono ?_; rintro e w8 ⟨rfl, rfl⟩; rw [← udpCk.eq_def, ← HK.out]))

    exact bodyPost_ret (v := .agg #[.int .i64 s, .int .i64 d, .int .i64 (8 + l.length), .int .i64 k]) (by simp [results, Try.results35, go_sem, hB]) rfl ⟨by rw [QS'.out, if_neg HZ.out], Gr.row2 NE' hgZ (Nat.le_refl _) (Nat.le_succ _)⟩
end Go.Proofs.Ytdpffedmgmllbaa
