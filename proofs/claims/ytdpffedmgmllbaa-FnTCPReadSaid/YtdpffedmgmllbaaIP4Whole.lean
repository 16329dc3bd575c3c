/-
  The whole header of a packet of the fourth version: with its lengths and its checksum.
-/
import Derived.Test.YtdpffedmgmllbaaIP4Spec
namespace Go.Proofs.Ytdpffedmgmllbaa
open Go.RowKit

theorem wrap64_sm {n m : Int} (h : 0 ≤ n ∧ n < m) (hm : m ≤ 2000000 := by decide) : wrap64 n = n := by unfold wrap64; omega
/-- two rows that stay -/
theorem rows_again {w' wX : World} {A B : Nat} {ca cb : List Value} {ta tb : TypeId} (hA : Has wX A) (hB : Has wX B) (hne : A ≠ B) (hg : Gr (rowW (rowW wX B cb tb) A ca ta) w') : ∃ w2, Has w2 A ∧ Has w2 B ∧ w' = rowW (rowW w2 B cb tb) A ca ta :=
  two_rows (rowW_heap (by rw [has_rowW]; exact hA)) (by rw [rowW_other (Ne.symm hne)]; exact rowW_heap hB) hg
/-- how many words a header has -/
def wordsOf (os : List Opt) : Int := 5 + ((optsB os).length : Int) / 4
/-- the checksum -/
def ip4Ck (sv ln idn fl fo tt pr : Int) (l1 l2 : List Int) (os : List Opt) : Int := cks (ip4B (wordsOf os) sv ln idn fl fo tt pr 0 l1 l2 os)
theorem words_bd {os : List Opt} (h : (optsRaw os).length ≤ 40) : 5 ≤ wordsOf os ∧ wordsOf os ≤ 15 := by
  unfold wordsOf optsB
  rw [List.length_append, List.length_replicate]
  omega

set_option maxRecDepth 100000 in
set_option maxHeartbeats 4000000 in
theorem wholeIPv4_calls (wo sv ln idn fl fo tt pr ck : Int) (a1 : Option Addr) (n1 c1 : Nat) (a2 : Option Addr) (n2 c2 : Nat) (ao : Option Addr) (no co : Nat) (l1 l2 : List Int) (os : List Opt) (P : Nat) (w : World) (h1 : IsB w (.slice a1 n1 c1) l1) (h2 : IsB w (.slice a2 n2 c2) l2) (h0 : IsOpts w (.slice ao no co) os) (hl : (optsRaw os).length ≤ 40) (hl1 : l1.length ≤ 1000) (hl2 : l2.length ≤ 1000) (hsv : 0 ≤ sv ∧ sv ≤ 255) (hfl : 0 ≤ fl ∧ fl ≤ 7) (hfo : 0 ≤ fo ∧ fo ≤ 8191) (htt : 0 ≤ tt ∧ tt ≤ 255) (hpr : 0 ≤ pr ∧ pr ≤ 255) (hP : P ≤ 1000000) :
    Calls Try.prog 32 #[.agg #[.int .i64 wo, .int .i64 sv, .int .i64 ln, .int .i64 idn, .int .i64 fl, .int .i64 fo, .int .i64 tt, .int .i64 pr, .int .i64 ck, .slice a1 n1 c1, .slice a2 n2 c2, .slice ao no co], .int .i64 P] w fun e w' =>
      e = .returned (.agg #[.int .i64 (wordsOf os), .int .i64 sv, .int .i64 (4 * wordsOf os + (P : Int)), .int .i64 idn, .int .i64 fl, .int .i64 fo, .int .i64 tt, .int .i64 pr, .int .i64 (ip4Ck sv (4 * wordsOf os + (P : Int)) idn fl fo tt pr l1 l2 os), .slice a1 n1 c1, .slice a2 n2 c2, .slice ao no co]) ∧ Gr w w' := by
  have FA := Lib.hid (heap_gr (World.grownBy_alloc (w.alloc (.cells [.int .i64 wo, .int .i64 sv, .int .i64 ln, .int .i64 idn, .int .i64 fl, .int .i64 fo, .int .i64 tt, .int .i64 pr, .int .i64 ck, .slice a1 n1 c1, .slice a2 n2 c2, .slice ao no co].toArray 51)) (.cells [.int .i64 0, .int .i64 0, .int .i64 0, .int .i64 0, .int .i64 0, .int .i64 0, .int .i64 0, .int .i64 0, .int .i64 0, .slice none 0 0, .slice none 0 0, .slice none 0 0].toArray 51) none) (heap_alloc_new w _))
  have FB := heap_alloc_new (w.alloc (.cells [.int .i64 wo, .int .i64 sv, .int .i64 ln, .int .i64 idn, .int .i64 fl, .int .i64 fo, .int .i64 tt, .int .i64 pr, .int .i64 ck, .slice a1 n1 c1, .slice a2 n2 c2, .slice ao no co].toArray 51)) (.cells [.int .i64 0, .int .i64 0, .int .i64 0, .int .i64 0, .int .i64 0, .int .i64 0, .int .i64 0, .int .i64 0, .int .i64 0, .slice none 0 0, .slice none 0 0, .slice none 0 0].toArray 51)
  rw [World.size_alloc] at FB
  replace FB := Lib.hid FB
  have NE : w.heap.size + 1 ≠ w.heap.size := by omega
  have NE' : w.heap.size ≠ w.heap.size + 1 := by omega
  have hwb := words_bd hl
  obtain ⟨L, hL⟩ : ∃ L, L = (optsB os).length := ⟨_, rfl⟩
  have hlen := fun (a : Option Addr) (n c : Nat) (w : World) (h : IsB w (.slice a n c) (optsB os)) ty => h.len (P := Try.prog) 25 ty 5 Try.underlying25
  rw [← hL] at hlen
  obtain ⟨WO, hWO⟩ : ∃ WO, WO = wordsOf os := ⟨_, rfl⟩
  have hW : 5 + (L : Int) / 4 = WO := by rw [hWO, hL]; rfl
  have hLb : L ≤ 43 := by rw [hL]; unfold optsB; rw [List.length_append, List.length_replicate]; omega
  rw [← hWO] at hwb ⊢
  have b1 := Lib.hid (show ((0 : Int) ≤ (L : Int) / 4 ∧ (L : Int) / 4 < 1000) ∧ (0 ≤ 4 * WO ∧ 4 * WO < 1000) ∧ (0 ≤ 4 * WO + (P : Int) ∧ 4 * WO + (P : Int) < 2000000) ∧ 0 ≤ WO ∧ WO < 1000 from by omega)
  obtain ⟨LN, hLN⟩ : ∃ LN, LN = 4 * WO + (P : Int) := ⟨_, rfl⟩
  rw [← hLN]
  have HLN := Lib.hid hLN
  have HW := Lib.hid hW
  obtain ⟨ZC, hZC⟩ : ∃ ZC, ZC = ip4Ck sv LN idn fl fo tt pr l1 l2 os := ⟨_, rfl⟩
  rw [← hZC]
  have HZC := Lib.hid (show cks (ip4B WO sv LN idn fl fo tt pr 0 l1 l2 os) = ZC by rw [hZC, hWO]; rfl)
  have HN := Lib.hid (show (optsRaw os).length ≤ 1000 ∧ l1.length ≤ 1000 ∧ l2.length ≤ 1000 ∧ (0 ≤ WO ∧ WO ≤ 15) by omega)
  have HO := Lib.hid h0
  have H1 := Lib.hid h1
  have H2 := Lib.hid h2
  have HR := Lib.hid (And.intro hsv (And.intro hfl (And.intro hfo (And.intro htt hpr))))
  have HBL := Lib.hid (show (ip4B WO sv LN idn fl fo tt pr 0 l1 l2 os).length ≤ 1000000 by
    have e : (optsB os).length ≤ 43 := by rw [← hL]; exact hLb
    simp [ip4B, sh]; omega)
  clear hLN hL hWO hZC h0 h1 h2 hsv hfl hfo htt hpr hl hwb hW hLb hl1 hl2 hP
  have w1 : wrap64 ((L : Int) / 4) = (L : Int) / 4 := wrap64_sm b1.out.1
  have w2 : wrap64 (5 + (L : Int) / 4) = WO := by rw [HW.out]; exact wrap64_sm b1.out.2.2.2
  have w3 : wrap64 (4 * WO) = 4 * WO := wrap64_sm b1.out.2.1
  have w4 : wrap64 (4 * WO + (P : Int)) = LN := by rw [HLN.out]; exact wrap64_sm b1.out.2.2.1
  go_enter Try.func32, Try.ntmps32
  go_wp2_with (first
      | (go_at_call 41; refine (options_calls _ os _ (HO.out.gr (by (repeat (with_reducible first | exact Gr.refl _ | assumption | refine Gr.alloc ?_ _ | refine Gr.drew ?_ | refine Gr.drewN ?_ _ | refine Gr.trans ?_ (by assumption))); done)) (by have := HN.out.1; omega)).mono ?_; rintro e w9 ⟨_, _, _, rfl, ho9, hg9⟩; have hb9 := ho9.isB; have hgZ : Gr w w9 := (by (repeat (with_reducible first | exact Gr.refl _ | assumption | refine Gr.alloc ?_ _ | refine Gr.drew ?_ | refine Gr.drewN ?_ _ | refine Gr.trans ?_ (by assumption))); done); have hx := two_rows (w' := w9) (A := w.heap.size) (B := w.heap.size + 1) FA.out FB.out (by (repeat (with_reducible first | exact Gr.refl _ | assumption | refine Gr.alloc ?_ _ | refine Gr.drew ?_ | refine Gr.drewN ?_ _ | refine Gr.trans ?_ (by assumption))); done); obtain ⟨wX, hA, hB, rfl⟩ := hx; have g9 := hlen _ _ _ _ hb9; clear hb9 ho9)
      | (go_at_call 31; refine (ip4B_calls _ _ _ _ _ _ _ _ _ _ _ _ _ _ _ _ _ _ l1 l2 os _ (H1.out.gr (Gr.trans (Gr.row2 NE' hgZ (Nat.le_refl _) (Nat.le_succ _)) (by (repeat (with_reducible first | exact Gr.refl _ | assumption | refine Gr.alloc ?_ _ | refine Gr.drew ?_ | refine Gr.drewN ?_ _ | refine Gr.trans ?_ (by assumption))); done))) (H2.out.gr (Gr.trans (Gr.row2 NE' hgZ (Nat.le_refl _) (Nat.le_succ _)) (by (repeat (with_reducible first | exact Gr.refl _ | assumption | refine Gr.alloc ?_ _ | refine Gr.drew ?_ | refine Gr.drewN ?_ _ | refine Gr.trans ?_ (by assumption))); done))) (HO.out.gr (Gr.trans (Gr.row2 NE' hgZ (Nat.le_refl _) (Nat.le_succ _)) (by (repeat (with_reducible first | exact Gr.refl _ | assumption | refine Gr.alloc ?_ _ | refine Gr.drew ?_ | refine Gr.drewN ?_ _ | refine Gr.trans ?_ (by assumption))); done))) HN.out.1 HN.out.2.1 HN.out.2.2.1 HN.out.2.2.2 HR.out.1 HR.out.2.1 HR.out.2.2.1 HR.out.2.2.2.1 HR.out.2.2.2.2).mono ?_; rintro e w8 ⟨_, _, _, rfl, ho8, hg8⟩; have hb8 := ho8.isB; have hgY : Gr w w8 := (Gr.row2 NE' hgZ (Nat.le_refl _) (Nat.le_succ _)).trans hg8; obtain ⟨wY, hA', hB', rfl⟩ := rows_again hA hB NE' hg8)
      | (go_at_call 33; refine (checksum_calls _ _ _ (by assumption) HBL.out).mono ?_; rintro e w7 ⟨rfl, rfl⟩; rw [HZC.out]))
  exact bodyPost_ret (v := .agg #[.int .i64 WO, .int .i64 sv, .int .i64 LN, .int .i64 idn, .int .i64 fl, .int .i64 fo, .int .i64 tt, .int .i64 pr, .int .i64 ZC, .slice a1 n1 c1, .slice a2 n2 c2, .slice ao no co]) (by simp [results, Try.results32, go_sem, hB']) rfl ⟨rfl, Gr.row2 NE' hgY (Nat.le_refl _) (Nat.le_succ _)⟩

end Go.Proofs.Ytdpffedmgmllbaa
