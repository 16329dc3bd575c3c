/-
  The bytes of a header of a segment, read back: no program in sight.
-/
import Derived.Test.YtdpffedmgmllbaaTCPWhole
import Derived.Test.YtdpffedmgmllbaaTCPCopy
import Derived.Test.YtdpffedmgmllbaaIP4PlainW
namespace Go.Proofs.Ytdpffedmgmllbaa
open Go.RowKit

set_option maxRecDepth 100000 in
set_option maxHeartbeats 1000000 in
theorem fits7_calls (s d q a wo fl wi ck ur : Int) (ao : Option Addr) (no co : Nat) (os : List Opt) (w : World) (h0 : IsOpts w (.slice ao no co) os) :
    Calls Try.prog 9 #[.agg #[.int .i64 s, .int .i64 d, .int .i64 q, .int .i64 a, .int .i64 wo, .int .i64 fl, .int .i64 wi, .int .i64 ck, .int .i64 ur, .slice ao no co]] w fun e w' => e = .returned (.bool (fitB os)) ∧ Gr w w' := by
  have h := Lib.hid h0
  clear h0
  obtain ⟨F, hF⟩ : ∃ F, F = fitB os := ⟨_, rfl⟩
  have HF := Lib.hid hF
  rw [← hF]
  clear hF
  go_enter Try.func9, Try.ntmps9
  cases F with
  | false =>
    go_wp2_with (go_at_call 38; refine (fits4_calls _ os _ (h.out.gr (by (repeat (with_reducible first | exact Gr.refl _ | assumption | refine Gr.alloc ?_ _ | refine Gr.drew ?_ | refine Gr.drewN ?_ _ | refine Gr.trans ?_ (by assumption))); done))).mono ?_; rintro e w9 ⟨rfl, hg9⟩; rw [← HF.out])
    go_ret
    exact ⟨rfl, (by (repeat (with_reducible first | exact Gr.refl _ | assumption | refine Gr.alloc ?_ _ | refine Gr.drew ?_ | refine Gr.drewN ?_ _ | refine Gr.trans ?_ (by assumption))); done)⟩
  | true =>
    go_wp2_with (go_at_call 38; refine (fits4_calls _ os _ (h.out.gr (by (repeat (with_reducible first | exact Gr.refl _ | assumption | refine Gr.alloc ?_ _ | refine Gr.drew ?_ | refine Gr.drewN ?_ _ | refine Gr.trans ?_ (by assumption))); done))).mono ?_; rintro e w9 ⟨rfl, hg9⟩; rw [← HF.out])
    go_ret
    exact ⟨rfl, (by (repeat (with_reducible first | exact Gr.refl _ | assumption | refine Gr.alloc ?_ _ | refine Gr.drew ?_ | refine Gr.drewN ?_ _ | refine Gr.trans ?_ (by assumption))); done)⟩

theorem low_flags : ∀ n : Fin 256, (((((((((0 : Int) + (if fb (n.val : Int) 1 = true then 2 ^ 0 else 0)) + (if fb (n.val : Int) 2 = true then 2 ^ 1 else 0)) + (if fb (n.val : Int) 4 = true then 2 ^ 2 else 0)) + (if fb (n.val : Int) 8 = true then 2 ^ 3 else 0)) + (if fb (n.val : Int) 16 = true then 2 ^ 4 else 0)) + (if fb (n.val : Int) 32 = true then 2 ^ 5 else 0)) + (if fb (n.val : Int) 64 = true then 2 ^ 6 else 0)) + (if fb (n.val : Int) 128 = true then 2 ^ 7 else 0)) = (n.val : Int) := by decide +kernel
theorem top_flag : ∀ n : Fin 256, fb (n.val : Int) 1 = decide ((n.val : Int) % 2 = 1) := by decide +kernel
theorem flags_back (l : List Int) (h0 : 0 ≤ bt l 13 ∧ bt l 13 ≤ 255) (h1 : 0 ≤ bt l 12 ∧ bt l 12 ≤ 255) : fsum (flagsOf l) 9 = bt l 13 + (if bt l 12 % 2 = 1 then 256 else 0) := by
  obtain ⟨n, hn⟩ : ∃ n : Nat, bt l 13 = (n : Int) := ⟨(bt l 13).toNat, by omega⟩
  obtain ⟨m, hm⟩ : ∃ m : Nat, bt l 12 = (m : Int) := ⟨(bt l 12).toNat, by omega⟩
  have e1 := low_flags ⟨n, by omega⟩
  have e2 := top_flag ⟨m, by omega⟩
  simp only at e1 e2
  have e : fsum (flagsOf l) 9 = (((((((((0 : Int) + (if fb (bt l 13) 1 = true then 2 ^ 0 else 0)) + (if fb (bt l 13) 2 = true then 2 ^ 1 else 0)) + (if fb (bt l 13) 4 = true then 2 ^ 2 else 0)) + (if fb (bt l 13) 8 = true then 2 ^ 3 else 0)) + (if fb (bt l 13) 16 = true then 2 ^ 4 else 0)) + (if fb (bt l 13) 32 = true then 2 ^ 5 else 0)) + (if fb (bt l 13) 64 = true then 2 ^ 6 else 0)) + (if fb (bt l 13) 128 = true then 2 ^ 7 else 0)) + (if fb (bt l 12) 1 = true then 2 ^ 8 else 0) := rfl
  rw [e, hn, hm, e1, e2]
  by_cases h : (m : Int) % 2 = 1
  · rw [if_pos (by simp [h]), if_pos h]; rfl
  · rw [if_neg (by simp [h]), if_neg h]
theorem tcp_flat (s d q a wo fl wi ck ur : Int) (os : List Opt) (l : List Int) : tcpB s d q a wo fl wi ck ur os ++ l = (sh s ++ (sh d ++ (lo q ++ (lo a ++ (sh (wo * 4096 + fl) ++ (sh wi ++ (sh ck ++ sh ur))))))) ++ (optsB os ++ l) := by simp [tcpB]
theorem tcp_at (s d q a wo fl wi ck ur : Int) (os : List Opt) (l : List Int) (h0 : 0 ≤ s ∧ s ≤ 65535) (h1 : 0 ≤ d ∧ d ≤ 65535) (h2 : 0 ≤ q ∧ q ≤ 4294967295) (h3 : 0 ≤ a ∧ a ≤ 4294967295) (h4 : 0 ≤ wo ∧ wo ≤ 15) (h5 : 0 ≤ fl ∧ fl ≤ 511) (h6 : 0 ≤ wi ∧ wi ≤ 65535) (h7 : 0 ≤ ck ∧ ck ≤ 65535) (h8 : 0 ≤ ur ∧ ur ≤ 65535) :
    bt (tcpB s d q a wo fl wi ck ur os ++ l) 12 / 16 = wo ∧ bt (tcpB s d q a wo fl wi ck ur os ++ l) 0 * 256 + bt (tcpB s d q a wo fl wi ck ur os ++ l) 1 = s ∧ bt (tcpB s d q a wo fl wi ck ur os ++ l) 2 * 256 + bt (tcpB s d q a wo fl wi ck ur os ++ l) 3 = d ∧ bt (tcpB s d q a wo fl wi ck ur os ++ l) 4 * 16777216 + bt (tcpB s d q a wo fl wi ck ur os ++ l) 5 * 65536 + bt (tcpB s d q a wo fl wi ck ur os ++ l) 6 * 256 + bt (tcpB s d q a wo fl wi ck ur os ++ l) 7 = q ∧ bt (tcpB s d q a wo fl wi ck ur os ++ l) 8 * 16777216 + bt (tcpB s d q a wo fl wi ck ur os ++ l) 9 * 65536 + bt (tcpB s d q a wo fl wi ck ur os ++ l) 10 * 256 + bt (tcpB s d q a wo fl wi ck ur os ++ l) 11 = a ∧ bt (tcpB s d q a wo fl wi ck ur os ++ l) 14 * 256 + bt (tcpB s d q a wo fl wi ck ur os ++ l) 15 = wi ∧ bt (tcpB s d q a wo fl wi ck ur os ++ l) 16 * 256 + bt (tcpB s d q a wo fl wi ck ur os ++ l) 17 = ck ∧ bt (tcpB s d q a wo fl wi ck ur os ++ l) 18 * 256 + bt (tcpB s d q a wo fl wi ck ur os ++ l) 19 = ur ∧ fsum (flagsOf (tcpB s d q a wo fl wi ck ur os ++ l)) 9 = fl := by
  have e12 : bt (tcpB s d q a wo fl wi ck ur os ++ l) 12 = (wo * 4096 + fl) / 256 % 256 := rfl
  have e13 : bt (tcpB s d q a wo fl wi ck ur os ++ l) 13 = (wo * 4096 + fl) % 256 := rfl
  have hf := flags_back (tcpB s d q a wo fl wi ck ur os ++ l) (by rw [e13]; omega) (by rw [e12]; omega)
  refine ⟨?_, ?_, ?_, ?_, ?_, ?_, ?_, ?_, ?_⟩
  · rw [e12]; omega
  · show s / 256 % 256 * 256 + s % 256 = s; omega
  · show d / 256 % 256 * 256 + d % 256 = d; omega
  · show q / 65536 / 256 % 256 * 16777216 + q / 65536 % 256 * 65536 + q / 256 % 256 * 256 + q % 256 = q; omega
  · show a / 65536 / 256 % 256 * 16777216 + a / 65536 % 256 * 65536 + a / 256 % 256 * 256 + a % 256 = a; omega
  · show wi / 256 % 256 * 256 + wi % 256 = wi; omega
  · show ck / 256 % 256 * 256 + ck % 256 = ck; omega
  · show ur / 256 % 256 * 256 + ur % 256 = ur; omega
  · rw [hf, e12, e13]
    split <;> omega
theorem tcp_cut (s d q a wo fl wi ck ur : Int) (os : List Opt) (l : List Int) (n : Nat) (hn : n = 20 + (optsB os).length) : ((tcpB s d q a wo fl wi ck ur os ++ l).take n).drop 20 = optsB os ∧ (tcpB s d q a wo fl wi ck ur os ++ l).drop n = l := by
  rw [tcp_flat]
  have hh : ((sh s ++ (sh d ++ (lo q ++ (lo a ++ (sh (wo * 4096 + fl) ++ (sh wi ++ (sh ck ++ sh ur)))))))).length = 20 := by simp [sh, lo]
  subst hn
  refine ⟨take_mid hh (by omega), ?_⟩
  rw [← List.append_assoc]
  exact drop_pre (by rw [List.length_append, hh])
theorem psd_bytes {ls ld : List Int} (p n : Int) (h0 : AllB ls) (h1 : AllB ld) : AllB (psd ls ld p n) := by
  unfold psd
  split
  · refine AllB.flat fun x hx => ?_
    simp only [List.mem_cons, List.not_mem_nil, or_false] at hx
    rcases hx with rfl | rfl | rfl | rfl
    · exact h0
    · exact h1
    · exact two_bytes _ _ (by omega) (by omega)
    · exact sh_bytes _
  · refine AllB.flat fun x hx => ?_
    simp only [List.mem_cons, List.not_mem_nil, or_false] at hx
    rcases hx with rfl | rfl | rfl | rfl
    · exact h0
    · exact h1
    · exact lo_bytes _
    · exact (two_bytes 0 0 (by omega) (by omega)).append (two_bytes 0 (p % 256) (by omega) (by omega))
theorem isTCP_iff {s d q a fl wi ur : Int} {os : List Opt} : isTCP s d q a fl wi ur os = true ↔ (((((((0 ≤ s ∧ s ≤ 65535) ∧ (0 ≤ d ∧ d ≤ 65535)) ∧ (0 ≤ q ∧ q ≤ 4294967295)) ∧ (0 ≤ a ∧ a ≤ 4294967295)) ∧ (0 ≤ fl ∧ fl ≤ 511)) ∧ (0 ≤ wi ∧ wi ≤ 65535)) ∧ (0 ≤ ur ∧ ur ≤ 65535)) ∧ optsOk 0 os = true := by
  simp only [isTCP, Bool.and_eq_true, upto_iff]
theorem tcp_bytes (s d q a wo fl wi ck ur : Int) (os : List Opt) (ao : ∀ x ∈ os, AllB x.data) : AllB (tcpB s d q a wo fl wi ck ur os) := by
  unfold tcpB
  refine AllB.flat fun x hx => ?_
  simp only [List.mem_cons, List.not_mem_nil, or_false] at hx
  rcases hx with rfl | rfl | rfl | rfl | rfl
  · refine AllB.flat fun x hx => ?_
    simp only [List.mem_cons, List.not_mem_nil, or_false] at hx
    rcases hx with rfl | rfl | rfl | rfl | rfl
    · exact sh_bytes _
    · exact sh_bytes _
    · exact lo_bytes _
    · exact lo_bytes _
    · exact sh_bytes _
  · exact sh_bytes _
  · exact sh_bytes _
  · exact sh_bytes _
  · exact optsB_bytes ao

end Go.Proofs.Ytdpffedmgmllbaa
