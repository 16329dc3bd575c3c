/-
  The whole header of a segment: with its length and its checksum.
-/
import Derived.Test.YtdpffedmgmllbaaIP4Whole
import Derived.Test.YtdpffedmgmllbaaUDPSpec
import Derived.Test.YtdpffedmgmllbaaTCPSpec
import Derived.Test.YtdpffedmgmllbaaWholeUDP
namespace Go.Proofs.Ytdpffedmgmllbaa
open Go.RowKit

/-- the checksum of a segment over its addresses -/
def tcpCk (s d q a fl wi ur : Int) (os : List Opt) (ls ld l : List Int) : Int := cks [psd ls ld 6 ((tcpB s d q a (wordsOf os) fl wi 0 ur os).length + l.length), [tcpB s d q a (wordsOf os) fl wi 0 ur os, l].flatten].flatten
theorem tcp_len (s d q a wo fl wi ck ur : Int) (os : List Opt) : (tcpB s d q a wo fl wi ck ur os).length = 20 + (optsB os).length := by simp [tcpB, sh, lo]; omega

set_option maxRecDepth 100000 in
set_option maxHeartbeats 4000000 in
theorem wholeTCP_calls (s d q a wo fl wi ck ur : Int) (ao : Option Addr) (no co : Nat) (os : List Opt) (s0 : Option Addr) (sn sc : Nat) (d0 : Option Addr) (dn dc : Nat) (p0 : Option Addr) (pn pc : Nat) (ls ld l : List Int) (w : World) (h0 : IsOpts w (.slice ao no co) os) (hs : IsB w (.slice s0 sn sc) ls) (hd : IsB w (.slice d0 dn dc) ld) (h : IsB w (.slice p0 pn pc) l) (hl : (optsRaw os).length ≤ 40) (hls : ls.length ≤ 16) (hld : ld.length ≤ 16) (hlp : l.length ≤ 2000) (hfl : 0 ≤ fl ∧ fl ≤ 4095) :
    Calls Try.prog 13 #[.agg #[.int .i64 s, .int .i64 d, .int .i64 q, .int .i64 a, .int .i64 wo, .int .i64 fl, .int .i64 wi, .int .i64 ck, .int .i64 ur, .slice ao no co], .slice s0 sn sc, .slice d0 dn dc, .slice p0 pn pc] w fun e w' =>
      e = .returned (.agg #[.int .i64 s, .int .i64 d, .int .i64 q, .int .i64 a, .int .i64 (wordsOf os), .int .i64 fl, .int .i64 wi, .int .i64 (tcpCk s d q a fl wi ur os ls ld l), .int .i64 ur, .slice ao no co]) ∧ Gr w w' := by
  have FA := Lib.hid (heap_gr (World.grownBy_alloc (w.alloc (.cells [.int .i64 s, .int .i64 d, .int .i64 q, .int .i64 a, .int .i64 wo, .int .i64 fl, .int .i64 wi, .int .i64 ck, .int .i64 ur, .slice ao no co].toArray 24)) (.cells [.int .i64 0, .int .i64 0, .int .i64 0, .int .i64 0, .int .i64 0, .int .i64 0, .int .i64 0, .int .i64 0, .int .i64 0, .slice none 0 0].toArray 24) none) (heap_alloc_new w _))
  have FB := heap_alloc_new (w.alloc (.cells [.int .i64 s, .int .i64 d, .int .i64 q, .int .i64 a, .int .i64 wo, .int .i64 fl, .int .i64 wi, .int .i64 ck, .int .i64 ur, .slice ao no co].toArray 24)) (.cells [.int .i64 0, .int .i64 0, .int .i64 0, .int .i64 0, .int .i64 0, .int .i64 0, .int .i64 0, .int .i64 0, .int .i64 0, .slice none 0 0].toArray 24)
  rw [World.size_alloc] at FB
  replace FB := Lib.hid FB
  have NE : w.heap.size + 1 ≠ w.heap.size := by omega
  have NE' : w.heap.size ≠ w.heap.size + 1 := by omega
  have hwb := words_bd hl
  obtain ⟨L, hL⟩ : ∃ L, L = (optsB os).length := ⟨_, rfl⟩
  have hlen := fun (a : Option Addr) (n c : Nat) (w : World) (h : IsB w (.slice a n c) (optsB os)) ty => h.len (P := Try.prog) 25 ty 5 Try.underlying25
  rw [← hL] at hlen
  obtain ⟨WO, hWO⟩ : ∃ WO, WO = wordsOf os := ⟨_, rfl⟩
  have hW : 5 + (L : Int) / 4 = WO := by rw [hWO, hL]; rfl
  have hLb : L ≤ 43 := by rw [hL]; unfold optsB; rw [List.length_append, List.length_replicate]; omega
  rw [← hWO] at hwb ⊢
  have b1 := Lib.hid (show ((0 : Int) ≤ (L : Int) / 4 ∧ (L : Int) / 4 < 1000) ∧ 0 ≤ WO ∧ WO < 1000 from by omega)
  have HW := Lib.hid hW
  obtain ⟨TH, hTH⟩ : ∃ TH, TH = tcpB s d q a WO fl wi 0 ur os := ⟨_, rfl⟩
  have hTL : TH.length = 20 + L := by rw [hTH, tcp_len, ← hL]
  obtain ⟨LN, hLN⟩ : ∃ LN : Nat, LN = TH.length + l.length := ⟨_, rfl⟩
  obtain ⟨ZC, hZC⟩ : ∃ ZC, ZC = tcpCk s d q a fl wi ur os ls ld l := ⟨_, rfl⟩
  rw [← hZC]
  have HZC := Lib.hid (show cks [psd ls ld 6 (LN : Int), [TH, l].flatten].flatten = ZC by rw [hZC, hLN, hTH, hWO]; simp only [Int.natCast_add]; rfl)
  have HTH := Lib.hid hTH
  have Q1 := Lib.hid (show [TH, l].flatten.length = LN by simp [hLN])
  have Q2 := Lib.hid (psd_len ls ld 6 (LN : Int) hls hld)
  have Q3 := Lib.hid (show LN ≤ 3000 by omega)
  have HN := Lib.hid (show (optsRaw os).length ≤ 1000 ∧ (0 ≤ WO ∧ WO ≤ 15) ∧ ls.length ≤ 16 ∧ ld.length ≤ 16 by omega)
  have HO := Lib.hid h0
  have HS := Lib.hid hs
  have HD := Lib.hid hd
  have HP := Lib.hid h
  have HF := Lib.hid hfl
  have uLN : IntKind.i64.wrap (LN : Int) = (LN : Int) := w64 (by omega) (by omega)
  clear hL hWO hZC h0 hs hd h hfl hl hwb hW hLb hls hld hlp hTH hTL hLN
  have w1 : wrap64 ((L : Int) / 4) = (L : Int) / 4 := wrap64_sm b1.out.1
  have w2 : wrap64 (5 + (L : Int) / 4) = WO := by rw [HW.out]; exact wrap64_sm b1.out.2
  go_enter Try.func13, Try.ntmps13
  go_wp2_with (first
      | (go_at_call 41; refine (options_calls _ os _ (HO.out.gr (by (repeat (with_reducible first | exact Gr.refl _ | assumption | refine Gr.alloc ?_ _ | refine Gr.drew ?_ | refine Gr.drewN ?_ _ | refine Gr.trans ?_ (by assumption))); done)) (by have := HN.out.1; omega)).mono ?_; rintro e w9 ⟨_, _, _, rfl, ho9, hg9⟩; have hb9 := ho9.isB; have hgZ : Gr w w9 := (by (repeat (with_reducible first | exact Gr.refl _ | assumption | refine Gr.alloc ?_ _ | refine Gr.drew ?_ | refine Gr.drewN ?_ _ | refine Gr.trans ?_ (by assumption))); done); have hx := two_rows (w' := w9) (A := w.heap.size) (B := w.heap.size + 1) FA.out FB.out (by (repeat (with_reducible first | exact Gr.refl _ | assumption | refine Gr.alloc ?_ _ | refine Gr.drew ?_ | refine Gr.drewN ?_ _ | refine Gr.trans ?_ (by assumption))); done); obtain ⟨wX, hA, hB, rfl⟩ := hx; have g9 := hlen _ _ _ _ hb9; clear hb9 ho9)
      | (go_at_call 16; refine (tcpB_calls _ _ _ _ _ _ _ _ _ _ _ _ os _ (HO.out.gr (Gr.trans (Gr.row2 NE' hgZ (Nat.le_refl _) (Nat.le_succ _)) (by (repeat (with_reducible first | exact Gr.refl _ | assumption | refine Gr.alloc ?_ _ | refine Gr.drew ?_ | refine Gr.drewN ?_ _ | refine Gr.trans ?_ (by assumption))); done))) HN.out.1 HN.out.2.1.1 HN.out.2.1.2 HF.out.1 HF.out.2).mono ?_; rintro e w8 ⟨_, _, _, rfl, ho8, hg8⟩; have hb8 := ho8.isB; rw [← HTH.out] at hb8; have hgY : Gr w w8 := (Gr.row2 NE' hgZ (Nat.le_refl _) (Nat.le_succ _)).trans hg8)
      | (go_at_call 15; refine (joined_calls _ [TH, l] _ (isBs_at _ _ [TH, l] _ (Reads.cons (IsB.gr (by assumption) (by (repeat (with_reducible first | exact Gr.refl _ | assumption | refine Gr.alloc ?_ _ | refine Gr.drew ?_ | refine Gr.drewN ?_ _ | refine Gr.trans ?_ (by assumption))); done)) (Reads.cons (IsB.gr HP.out (by (repeat (with_reducible first | exact Gr.refl _ | assumption | refine Gr.alloc ?_ _ | refine Gr.drew ?_ | refine Gr.drewN ?_ _ | refine Gr.trans ?_ (by assumption))); done)) (Reads.nil _))) _ rfl _ (by simp)) (by rw [Q1.out]; have := Q3.out; omega) (by simp)).mono ?_; rintro e w7 ⟨_, _, _, rfl, ho7, hg7⟩; have hb7 := ho7.isB; have g7 := fun ty => hb7.len (P := Try.prog) 25 ty 5 Try.underlying25; rw [Q1.out] at g7)
      | (go_at_call 42; refine (pseudo_calls _ _ _ _ _ _ ls ld _ _ _ (IsB.gr HS.out (by (repeat (with_reducible first | exact Gr.refl _ | assumption | refine Gr.alloc ?_ _ | refine Gr.drew ?_ | refine Gr.drewN ?_ _ | refine Gr.trans ?_ (by assumption))); done)) (IsB.gr HD.out (by (repeat (with_reducible first | exact Gr.refl _ | assumption | refine Gr.alloc ?_ _ | refine Gr.drew ?_ | refine Gr.drewN ?_ _ | refine Gr.trans ?_ (by assumption))); done)) HN.out.2.2.1 HN.out.2.2.2).mono ?_; rintro e w6 ⟨_, _, _, rfl, ho6, hg6⟩; have hb6 := ho6.isB)
      | (go_at_call 15; refine (joined_calls _ [psd ls ld 6 (LN : Int), [TH, l].flatten] _ (isBs_at _ _ [psd ls ld 6 (LN : Int), [TH, l].flatten] _ (Reads.cons (IsB.gr (by assumption) (by (repeat (with_reducible first | exact Gr.refl _ | assumption | refine Gr.alloc ?_ _ | refine Gr.drew ?_ | refine Gr.drewN ?_ _ | refine Gr.trans ?_ (by assumption))); done)) (Reads.cons (IsB.gr (by assumption) (by (repeat (with_reducible first | exact Gr.refl _ | assumption | refine Gr.alloc ?_ _ | refine Gr.drew ?_ | refine Gr.drewN ?_ _ | refine Gr.trans ?_ (by assumption))); done)) (Reads.nil _))) _ rfl _ (by simp)) (by have := Q1.out; have := Q2.out; have := Q3.out; simp only [List.flatten_cons, List.flatten_nil, List.append_nil, List.length_append] at *; omega) (by simp)).mono ?_; rintro e w5 ⟨_, _, _, rfl, ho5, hg5⟩; have hb5 := ho5.isB; have hgV' := Lib.hid (show Gr w w5 from (by (repeat (with_reducible first | exact Gr.refl _ | assumption | refine Gr.alloc ?_ _ | refine Gr.drew ?_ | refine Gr.drewN ?_ _ | refine Gr.trans ?_ (by assumption))); done)); have hx := rows_again (w' := w5) (ca := [.int .i64 s, .int .i64 d, .int .i64 q, .int .i64 a, .int .i64 WO, .int .i64 fl, .int .i64 wi, .int .i64 0, .int .i64 ur, .slice ao no co]) (cb := [.int .i64 0, .int .i64 0, .int .i64 0, .int .i64 0, .int .i64 0, .int .i64 0, .int .i64 0, .int .i64 0, .int .i64 0, .slice none 0 0]) (ta := 24) (tb := 24) hA hB NE' (by (repeat (with_reducible first | exact Gr.refl _ | assumption | refine Gr.alloc ?_ _ | refine Gr.drew ?_ | refine Gr.drewN ?_ _ | refine Gr.trans ?_ (by assumption))); done); have hgV := hgV'.out; obtain ⟨wY, hA', hB', rfl⟩ := hx)
      | (go_at_call 33; refine (checksum_calls _ _ _ (by assumption) (by have := Q1.out; have := Q2.out; have := Q3.out; simp only [List.flatten_cons, List.flatten_nil, List.append_nil, List.length_append] at *; omega)).mono ?_; rintro e w4 ⟨rfl, rfl⟩; rw [HZC.out]))
  exact bodyPost_ret (v := .agg #[.int .i64 s, .int .i64 d, .int .i64 q, .int .i64 a, .int .i64 WO, .int .i64 fl, .int .i64 wi, .int .i64 ZC, .int .i64 ur, .slice ao no co]) (by simp [results, Try.results13, go_sem, hB']) rfl ⟨rfl, Gr.row2 NE' hgV (Nat.le_refl _) (Nat.le_succ _)⟩

end Go.Proofs.Ytdpffedmgmllbaa
