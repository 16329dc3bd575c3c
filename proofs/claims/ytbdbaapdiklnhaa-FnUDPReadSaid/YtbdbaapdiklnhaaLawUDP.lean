/-
  The laws FnUDPRead and FnUDPShort.
-/
import Derived.Test.YtbdbaapdiklnhaaUDP
import Derived.Test.YtbdbaapdiklnhaaWholeUDP
namespace Go.Proofs.Ytbdbaapdiklnhaa
open Go.RowKit

theorem psd_bytes {ls ld : List Int} (p n : Int) (h0 : AllB ls) (h1 : AllB ld) : AllB (psd ls ld p n) := by
  unfold psd
  split
  · refine AllB.flat fun x hx => ?_
    simp only [List.mem_cons, List.not_mem_nil, or_false] at hx
    rcases hx with rfl | rfl | rfl | rfl
    · exact h0
    · exact h1
    · exact two_bytes _ _ (by omega) (by omega)
    · exact sh_bytes _
  · refine AllB.flat fun x hx => ?_
    simp only [List.mem_cons, List.not_mem_nil, or_false] at hx
    rcases hx with rfl | rfl | rfl | rfl
    · exact h0
    · exact h1
    · exact lo_bytes _
    · exact (two_bytes 0 0 (by omega) (by omega)).append (two_bytes 0 (p % 256) (by omega) (by omega))
theorem udp_bytes (s d n c : Int) : AllB (udp s d n c) := by
  refine AllB.flat fun x hx => ?_
  simp only [List.mem_cons, List.not_mem_nil, or_false] at hx
  rcases hx with rfl | rfl | rfl | rfl <;> exact sh_bytes _
theorem udpSum_bd (s d : Int) {ls ld l : List Int} (h0 : AllB ls) (h1 : AllB ld) (h : AllB l) : 0 ≤ udpSum s d ls ld l ∧ udpSum s d ls ld l ≤ 65535 := by
  unfold udpSum udpCk
  have hb : AllB [psd ls ld 17 (8 + l.length), [udp s d (8 + l.length) 0, l].flatten].flatten := by
    refine AllB.flat fun x hx => ?_
    simp only [List.mem_cons, List.not_mem_nil, or_false] at hx
    rcases hx with rfl | rfl
    · exact psd_bytes _ _ h0 h1
    · refine AllB.flat fun x hx => ?_
      simp only [List.mem_cons, List.not_mem_nil, or_false] at hx
      rcases hx with rfl | rfl
      · exact udp_bytes _ _ _ _
      · exact h
  have := cks_bd hb
  split <;> omega
theorem udp_flat (s d n c : Int) (l b : List Int) : [udp s d n c, l, b].flatten = udp s d n c ++ (l ++ b) := by simp
theorem udp_at (s d n c : Int) (l : List Int) (hs : 0 ≤ s ∧ s ≤ 65535) (hd : 0 ≤ d ∧ d ≤ 65535) (hn : 0 ≤ n ∧ n ≤ 65535) (hc : 0 ≤ c ∧ c ≤ 65535) :
    bt (udp s d n c ++ l) 0 * 256 + bt (udp s d n c ++ l) 1 = s ∧ bt (udp s d n c ++ l) 2 * 256 + bt (udp s d n c ++ l) 3 = d ∧ bt (udp s d n c ++ l) 4 * 256 + bt (udp s d n c ++ l) 5 = n ∧ bt (udp s d n c ++ l) 6 * 256 + bt (udp s d n c ++ l) 7 = c := by
  refine ⟨?_, ?_, ?_, ?_⟩
  · show s / 256 % 256 * 256 + s % 256 = s; omega
  · show d / 256 % 256 * 256 + d % 256 = d; omega
  · show n / 256 % 256 * 256 + n % 256 = n; omega
  · show c / 256 % 256 * 256 + c % 256 = c; omega
theorem udp_len (s d n c : Int) : (udp s d n c).length = 8 := by simp [udp, sh]

set_option maxRecDepth 100000 in
set_option maxHeartbeats 2000000 in
theorem lawUDPRead_calls (s d n c : Int) (a0 : Option Addr) (n0 c0 : Nat) (a1 : Option Addr) (n1 c1 : Nat) (a2 : Option Addr) (n2 c2 : Nat) (a3 : Option Addr) (n3 c3 : Nat) (ls ld l lb : List Int) (w : World) (hs : IsB w (.slice a0 n0 c0) ls) (hd : IsB w (.slice a1 n1 c1) ld) (h : IsB w (.slice a2 n2 c2) l) (hb : IsB w (.slice a3 n3 c3) lb) :
    Calls Try.prog 9 #[.agg #[.int .i64 s, .int .i64 d, .int .i64 n, .int .i64 c], .slice a0 n0 c0, .slice a1 n1 c1, .slice a2 n2 c2, .slice a3 n3 c3] w fun e w' => e = .returned (.bool true) ∧ Gr w w' := by
  have g0 := fun ty => hs.len (P := Try.prog) 24 ty 5 Try.underlying24
  have g1 := fun ty => hd.len (P := Try.prog) 24 ty 5 Try.underlying24
  have g2 := fun ty => h.len (P := Try.prog) 24 ty 5 Try.underlying24
  have g3 := fun ty => hb.len (P := Try.prog) 24 ty 5 Try.underlying24
  by_cases hc0 : (ls.length : Int) ≤ 2147483647
  case neg =>
    have hd0 := decide_eq_false hc0
    go_enter Try.func9, Try.ntmps9
    go_wp2_with (first
      | (go_at_call 37; refine (isUDP_calls _ _ _ _ _).mono ?_; rintro e w9 ⟨rfl, hg9⟩; obtain ⟨hs9, hc9⟩ := Gr.boxed (w := w) (cs := [.int .i64 s, .int .i64 d, .int .i64 n, .int .i64 c]) (t := 61) (w' := w9) (by repeat (with_reducible first | exact Gr.refl _ | assumption | refine Gr.alloc ?_ _ | refine Gr.drew ?_ | refine Gr.drewN ?_ _ | refine Gr.trans ?_ (by assumption))))
      | (go_at_call 38; refine (areAddr_calls _ _ _ _ _ _ ls ld _ (IsB.gr (by assumption) (by repeat (with_reducible first | exact Gr.refl _ | assumption | refine Gr.alloc ?_ _ | refine Gr.drew ?_ | refine Gr.drewN ?_ _ | refine Gr.trans ?_ (by assumption)))) (IsB.gr (by assumption) (by repeat (with_reducible first | exact Gr.refl _ | assumption | refine Gr.alloc ?_ _ | refine Gr.drew ?_ | refine Gr.drewN ?_ _ | refine Gr.trans ?_ (by assumption))))).mono ?_; rintro e w9 ⟨rfl, hg9⟩; obtain ⟨hs9, hc9⟩ := Gr.boxed (w := w) (cs := [.int .i64 s, .int .i64 d, .int .i64 n, .int .i64 c]) (t := 61) (w' := w9) (by repeat (with_reducible first | exact Gr.refl _ | assumption | refine Gr.alloc ?_ _ | refine Gr.drew ?_ | refine Gr.drewN ?_ _ | refine Gr.trans ?_ (by assumption))))
      | (go_at_call_of 16 (Value.slice a2 n2 c2); refine (isPayload_calls _ l _ (IsB.gr (by assumption) (by repeat (with_reducible first | exact Gr.refl _ | assumption | refine Gr.alloc ?_ _ | refine Gr.drew ?_ | refine Gr.drewN ?_ _ | refine Gr.trans ?_ (by assumption))))).mono ?_; rintro e w9 ⟨rfl, rfl⟩)
      | (go_at_call_of 16 (Value.slice a3 n3 c3); refine (isPayload_calls _ lb _ (IsB.gr (by assumption) (by repeat (with_reducible first | exact Gr.refl _ | assumption | refine Gr.alloc ?_ _ | refine Gr.drew ?_ | refine Gr.drewN ?_ _ | refine Gr.trans ?_ (by assumption))))).mono ?_; rintro e w9 ⟨rfl, rfl⟩))
    go_ret
    exact ⟨rfl, (by repeat (with_reducible first | exact Gr.refl _ | assumption | refine Gr.alloc ?_ _ | refine Gr.drew ?_ | refine Gr.drewN ?_ _ | refine Gr.trans ?_ (by assumption)))⟩
  case pos =>
    by_cases hc1 : (ld.length : Int) ≤ 2147483647
    case neg =>
      have hd1 := decide_eq_false hc1
      go_enter Try.func9, Try.ntmps9
      go_wp2_with (first
      | (go_at_call 37; refine (isUDP_calls _ _ _ _ _).mono ?_; rintro e w9 ⟨rfl, hg9⟩; obtain ⟨hs9, hc9⟩ := Gr.boxed (w := w) (cs := [.int .i64 s, .int .i64 d, .int .i64 n, .int .i64 c]) (t := 61) (w' := w9) (by repeat (with_reducible first | exact Gr.refl _ | assumption | refine Gr.alloc ?_ _ | refine Gr.drew ?_ | refine Gr.drewN ?_ _ | refine Gr.trans ?_ (by assumption))))
      | (go_at_call 38; refine (areAddr_calls _ _ _ _ _ _ ls ld _ (IsB.gr (by assumption) (by repeat (with_reducible first | exact Gr.refl _ | assumption | refine Gr.alloc ?_ _ | refine Gr.drew ?_ | refine Gr.drewN ?_ _ | refine Gr.trans ?_ (by assumption)))) (IsB.gr (by assumption) (by repeat (with_reducible first | exact Gr.refl _ | assumption | refine Gr.alloc ?_ _ | refine Gr.drew ?_ | refine Gr.drewN ?_ _ | refine Gr.trans ?_ (by assumption))))).mono ?_; rintro e w9 ⟨rfl, hg9⟩; obtain ⟨hs9, hc9⟩ := Gr.boxed (w := w) (cs := [.int .i64 s, .int .i64 d, .int .i64 n, .int .i64 c]) (t := 61) (w' := w9) (by repeat (with_reducible first | exact Gr.refl _ | assumption | refine Gr.alloc ?_ _ | refine Gr.drew ?_ | refine Gr.drewN ?_ _ | refine Gr.trans ?_ (by assumption))))
      | (go_at_call_of 16 (Value.slice a2 n2 c2); refine (isPayload_calls _ l _ (IsB.gr (by assumption) (by repeat (with_reducible first | exact Gr.refl _ | assumption | refine Gr.alloc ?_ _ | refine Gr.drew ?_ | refine Gr.drewN ?_ _ | refine Gr.trans ?_ (by assumption))))).mono ?_; rintro e w9 ⟨rfl, rfl⟩)
      | (go_at_call_of 16 (Value.slice a3 n3 c3); refine (isPayload_calls _ lb _ (IsB.gr (by assumption) (by repeat (with_reducible first | exact Gr.refl _ | assumption | refine Gr.alloc ?_ _ | refine Gr.drew ?_ | refine Gr.drewN ?_ _ | refine Gr.trans ?_ (by assumption))))).mono ?_; rintro e w9 ⟨rfl, rfl⟩))
      go_ret
      exact ⟨rfl, (by repeat (with_reducible first | exact Gr.refl _ | assumption | refine Gr.alloc ?_ _ | refine Gr.drew ?_ | refine Gr.drewN ?_ _ | refine Gr.trans ?_ (by assumption)))⟩
    case pos =>
      by_cases hc2 : (l.length : Int) ≤ 2147483647
      case neg =>
        have hd2 := decide_eq_false hc2
        go_enter Try.func9, Try.ntmps9
        go_wp2_with (first
      | (go_at_call 37; refine (isUDP_calls _ _ _ _ _).mono ?_; rintro e w9 ⟨rfl, hg9⟩; obtain ⟨hs9, hc9⟩ := Gr.boxed (w := w) (cs := [.int .i64 s, .int .i64 d, .int .i64 n, .int .i64 c]) (t := 61) (w' := w9) (by repeat (with_reducible first | exact Gr.refl _ | assumption | refine Gr.alloc ?_ _ | refine Gr.drew ?_ | refine Gr.drewN ?_ _ | refine Gr.trans ?_ (by assumption))))
      | (go_at_call 38; refine (areAddr_calls _ _ _ _ _ _ ls ld _ (IsB.gr (by assumption) (by repeat (with_reducible first | exact Gr.refl _ | assumption | refine Gr.alloc ?_ _ | refine Gr.drew ?_ | refine Gr.drewN ?_ _ | refine Gr.trans ?_ (by assumption)))) (IsB.gr (by assumption) (by repeat (with_reducible first | exact Gr.refl _ | assumption | refine Gr.alloc ?_ _ | refine Gr.drew ?_ | refine Gr.drewN ?_ _ | refine Gr.trans ?_ (by assumption))))).mono ?_; rintro e w9 ⟨rfl, hg9⟩; obtain ⟨hs9, hc9⟩ := Gr.boxed (w := w) (cs := [.int .i64 s, .int .i64 d, .int .i64 n, .int .i64 c]) (t := 61) (w' := w9) (by repeat (with_reducible first | exact Gr.refl _ | assumption | refine Gr.alloc ?_ _ | refine Gr.drew ?_ | refine Gr.drewN ?_ _ | refine Gr.trans ?_ (by assumption))))
      | (go_at_call_of 16 (Value.slice a2 n2 c2); refine (isPayload_calls _ l _ (IsB.gr (by assumption) (by repeat (with_reducible first | exact Gr.refl _ | assumption | refine Gr.alloc ?_ _ | refine Gr.drew ?_ | refine Gr.drewN ?_ _ | refine Gr.trans ?_ (by assumption))))).mono ?_; rintro e w9 ⟨rfl, rfl⟩)
      | (go_at_call_of 16 (Value.slice a3 n3 c3); refine (isPayload_calls _ lb _ (IsB.gr (by assumption) (by repeat (with_reducible first | exact Gr.refl _ | assumption | refine Gr.alloc ?_ _ | refine Gr.drew ?_ | refine Gr.drewN ?_ _ | refine Gr.trans ?_ (by assumption))))).mono ?_; rintro e w9 ⟨rfl, rfl⟩))
        go_ret
        exact ⟨rfl, (by repeat (with_reducible first | exact Gr.refl _ | assumption | refine Gr.alloc ?_ _ | refine Gr.drew ?_ | refine Gr.drewN ?_ _ | refine Gr.trans ?_ (by assumption)))⟩
      case pos =>
        by_cases hc3 : (lb.length : Int) ≤ 2147483647
        case neg =>
          have hd3 := decide_eq_false hc3
          go_enter Try.func9, Try.ntmps9
          go_wp2_with (first
      | (go_at_call 37; refine (isUDP_calls _ _ _ _ _).mono ?_; rintro e w9 ⟨rfl, hg9⟩; obtain ⟨hs9, hc9⟩ := Gr.boxed (w := w) (cs := [.int .i64 s, .int .i64 d, .int .i64 n, .int .i64 c]) (t := 61) (w' := w9) (by repeat (with_reducible first | exact Gr.refl _ | assumption | refine Gr.alloc ?_ _ | refine Gr.drew ?_ | refine Gr.drewN ?_ _ | refine Gr.trans ?_ (by assumption))))
      | (go_at_call 38; refine (areAddr_calls _ _ _ _ _ _ ls ld _ (IsB.gr (by assumption) (by repeat (with_reducible first | exact Gr.refl _ | assumption | refine Gr.alloc ?_ _ | refine Gr.drew ?_ | refine Gr.drewN ?_ _ | refine Gr.trans ?_ (by assumption)))) (IsB.gr (by assumption) (by repeat (with_reducible first | exact Gr.refl _ | assumption | refine Gr.alloc ?_ _ | refine Gr.drew ?_ | refine Gr.drewN ?_ _ | refine Gr.trans ?_ (by assumption))))).mono ?_; rintro e w9 ⟨rfl, hg9⟩; obtain ⟨hs9, hc9⟩ := Gr.boxed (w := w) (cs := [.int .i64 s, .int .i64 d, .int .i64 n, .int .i64 c]) (t := 61) (w' := w9) (by repeat (with_reducible first | exact Gr.refl _ | assumption | refine Gr.alloc ?_ _ | refine Gr.drew ?_ | refine Gr.drewN ?_ _ | refine Gr.trans ?_ (by assumption))))
      | (go_at_call_of 16 (Value.slice a2 n2 c2); refine (isPayload_calls _ l _ (IsB.gr (by assumption) (by repeat (with_reducible first | exact Gr.refl _ | assumption | refine Gr.alloc ?_ _ | refine Gr.drew ?_ | refine Gr.drewN ?_ _ | refine Gr.trans ?_ (by assumption))))).mono ?_; rintro e w9 ⟨rfl, rfl⟩)
      | (go_at_call_of 16 (Value.slice a3 n3 c3); refine (isPayload_calls _ lb _ (IsB.gr (by assumption) (by repeat (with_reducible first | exact Gr.refl _ | assumption | refine Gr.alloc ?_ _ | refine Gr.drew ?_ | refine Gr.drewN ?_ _ | refine Gr.trans ?_ (by assumption))))).mono ?_; rintro e w9 ⟨rfl, rfl⟩))
          go_ret
          exact ⟨rfl, (by repeat (with_reducible first | exact Gr.refl _ | assumption | refine Gr.alloc ?_ _ | refine Gr.drew ?_ | refine Gr.drewN ?_ _ | refine Gr.trans ?_ (by assumption)))⟩
        case pos =>
          cases hc4 : (isUDP s d : Bool) with
          | false =>
            go_enter Try.func9, Try.ntmps9
            go_wp2_with (first
      | (go_at_call 37; refine (isUDP_calls _ _ _ _ _).mono ?_; rintro e w9 ⟨rfl, hg9⟩; obtain ⟨hs9, hc9⟩ := Gr.boxed (w := w) (cs := [.int .i64 s, .int .i64 d, .int .i64 n, .int .i64 c]) (t := 61) (w' := w9) (by repeat (with_reducible first | exact Gr.refl _ | assumption | refine Gr.alloc ?_ _ | refine Gr.drew ?_ | refine Gr.drewN ?_ _ | refine Gr.trans ?_ (by assumption))))
      | (go_at_call 38; refine (areAddr_calls _ _ _ _ _ _ ls ld _ (IsB.gr (by assumption) (by repeat (with_reducible first | exact Gr.refl _ | assumption | refine Gr.alloc ?_ _ | refine Gr.drew ?_ | refine Gr.drewN ?_ _ | refine Gr.trans ?_ (by assumption)))) (IsB.gr (by assumption) (by repeat (with_reducible first | exact Gr.refl _ | assumption | refine Gr.alloc ?_ _ | refine Gr.drew ?_ | refine Gr.drewN ?_ _ | refine Gr.trans ?_ (by assumption))))).mono ?_; rintro e w9 ⟨rfl, hg9⟩; obtain ⟨hs9, hc9⟩ := Gr.boxed (w := w) (cs := [.int .i64 s, .int .i64 d, .int .i64 n, .int .i64 c]) (t := 61) (w' := w9) (by repeat (with_reducible first | exact Gr.refl _ | assumption | refine Gr.alloc ?_ _ | refine Gr.drew ?_ | refine Gr.drewN ?_ _ | refine Gr.trans ?_ (by assumption))))
      | (go_at_call_of 16 (Value.slice a2 n2 c2); refine (isPayload_calls _ l _ (IsB.gr (by assumption) (by repeat (with_reducible first | exact Gr.refl _ | assumption | refine Gr.alloc ?_ _ | refine Gr.drew ?_ | refine Gr.drewN ?_ _ | refine Gr.trans ?_ (by assumption))))).mono ?_; rintro e w9 ⟨rfl, rfl⟩)
      | (go_at_call_of 16 (Value.slice a3 n3 c3); refine (isPayload_calls _ lb _ (IsB.gr (by assumption) (by repeat (with_reducible first | exact Gr.refl _ | assumption | refine Gr.alloc ?_ _ | refine Gr.drew ?_ | refine Gr.drewN ?_ _ | refine Gr.trans ?_ (by assumption))))).mono ?_; rintro e w9 ⟨rfl, rfl⟩))
            go_ret
            exact ⟨rfl, (by repeat (with_reducible first | exact Gr.refl _ | assumption | refine Gr.alloc ?_ _ | refine Gr.drew ?_ | refine Gr.drewN ?_ _ | refine Gr.trans ?_ (by assumption)))⟩
          | true =>
            cases hc5 : (areAddr ls ld : Bool) with
            | false =>
              go_enter Try.func9, Try.ntmps9
              go_wp2_with (first
      | (go_at_call 37; refine (isUDP_calls _ _ _ _ _).mono ?_; rintro e w9 ⟨rfl, hg9⟩; obtain ⟨hs9, hc9⟩ := Gr.boxed (w := w) (cs := [.int .i64 s, .int .i64 d, .int .i64 n, .int .i64 c]) (t := 61) (w' := w9) (by repeat (with_reducible first | exact Gr.refl _ | assumption | refine Gr.alloc ?_ _ | refine Gr.drew ?_ | refine Gr.drewN ?_ _ | refine Gr.trans ?_ (by assumption))))
      | (go_at_call 38; refine (areAddr_calls _ _ _ _ _ _ ls ld _ (IsB.gr (by assumption) (by repeat (with_reducible first | exact Gr.refl _ | assumption | refine Gr.alloc ?_ _ | refine Gr.drew ?_ | refine Gr.drewN ?_ _ | refine Gr.trans ?_ (by assumption)))) (IsB.gr (by assumption) (by repeat (with_reducible first | exact Gr.refl _ | assumption | refine Gr.alloc ?_ _ | refine Gr.drew ?_ | refine Gr.drewN ?_ _ | refine Gr.trans ?_ (by assumption))))).mono ?_; rintro e w9 ⟨rfl, hg9⟩; obtain ⟨hs9, hc9⟩ := Gr.boxed (w := w) (cs := [.int .i64 s, .int .i64 d, .int .i64 n, .int .i64 c]) (t := 61) (w' := w9) (by repeat (with_reducible first | exact Gr.refl _ | assumption | refine Gr.alloc ?_ _ | refine Gr.drew ?_ | refine Gr.drewN ?_ _ | refine Gr.trans ?_ (by assumption))))
      | (go_at_call_of 16 (Value.slice a2 n2 c2); refine (isPayload_calls _ l _ (IsB.gr (by assumption) (by repeat (with_reducible first | exact Gr.refl _ | assumption | refine Gr.alloc ?_ _ | refine Gr.drew ?_ | refine Gr.drewN ?_ _ | refine Gr.trans ?_ (by assumption))))).mono ?_; rintro e w9 ⟨rfl, rfl⟩)
      | (go_at_call_of 16 (Value.slice a3 n3 c3); refine (isPayload_calls _ lb _ (IsB.gr (by assumption) (by repeat (with_reducible first | exact Gr.refl _ | assumption | refine Gr.alloc ?_ _ | refine Gr.drew ?_ | refine Gr.drewN ?_ _ | refine Gr.trans ?_ (by assumption))))).mono ?_; rintro e w9 ⟨rfl, rfl⟩))
              go_ret
              exact ⟨rfl, (by repeat (with_reducible first | exact Gr.refl _ | assumption | refine Gr.alloc ?_ _ | refine Gr.drew ?_ | refine Gr.drewN ?_ _ | refine Gr.trans ?_ (by assumption)))⟩
            | true =>
              cases hc6 : (isPay l : Bool) with
              | false =>
                go_enter Try.func9, Try.ntmps9
                go_wp2_with (first
      | (go_at_call 37; refine (isUDP_calls _ _ _ _ _).mono ?_; rintro e w9 ⟨rfl, hg9⟩; obtain ⟨hs9, hc9⟩ := Gr.boxed (w := w) (cs := [.int .i64 s, .int .i64 d, .int .i64 n, .int .i64 c]) (t := 61) (w' := w9) (by repeat (with_reducible first | exact Gr.refl _ | assumption | refine Gr.alloc ?_ _ | refine Gr.drew ?_ | refine Gr.drewN ?_ _ | refine Gr.trans ?_ (by assumption))))
      | (go_at_call 38; refine (areAddr_calls _ _ _ _ _ _ ls ld _ (IsB.gr (by assumption) (by repeat (with_reducible first | exact Gr.refl _ | assumption | refine Gr.alloc ?_ _ | refine Gr.drew ?_ | refine Gr.drewN ?_ _ | refine Gr.trans ?_ (by assumption)))) (IsB.gr (by assumption) (by repeat (with_reducible first | exact Gr.refl _ | assumption | refine Gr.alloc ?_ _ | refine Gr.drew ?_ | refine Gr.drewN ?_ _ | refine Gr.trans ?_ (by assumption))))).mono ?_; rintro e w9 ⟨rfl, hg9⟩; obtain ⟨hs9, hc9⟩ := Gr.boxed (w := w) (cs := [.int .i64 s, .int .i64 d, .int .i64 n, .int .i64 c]) (t := 61) (w' := w9) (by repeat (with_reducible first | exact Gr.refl _ | assumption | refine Gr.alloc ?_ _ | refine Gr.drew ?_ | refine Gr.drewN ?_ _ | refine Gr.trans ?_ (by assumption))))
      | (go_at_call_of 16 (Value.slice a2 n2 c2); refine (isPayload_calls _ l _ (IsB.gr (by assumption) (by repeat (with_reducible first | exact Gr.refl _ | assumption | refine Gr.alloc ?_ _ | refine Gr.drew ?_ | refine Gr.drewN ?_ _ | refine Gr.trans ?_ (by assumption))))).mono ?_; rintro e w9 ⟨rfl, rfl⟩)
      | (go_at_call_of 16 (Value.slice a3 n3 c3); refine (isPayload_calls _ lb _ (IsB.gr (by assumption) (by repeat (with_reducible first | exact Gr.refl _ | assumption | refine Gr.alloc ?_ _ | refine Gr.drew ?_ | refine Gr.drewN ?_ _ | refine Gr.trans ?_ (by assumption))))).mono ?_; rintro e w9 ⟨rfl, rfl⟩))
                go_ret
                exact ⟨rfl, (by repeat (with_reducible first | exact Gr.refl _ | assumption | refine Gr.alloc ?_ _ | refine Gr.drew ?_ | refine Gr.drewN ?_ _ | refine Gr.trans ?_ (by assumption)))⟩
              | true =>
                cases hc7 : (isPay lb : Bool) with
                | false =>
                  go_enter Try.func9, Try.ntmps9
                  go_wp2_with (first
      | (go_at_call 37; refine (isUDP_calls _ _ _ _ _).mono ?_; rintro e w9 ⟨rfl, hg9⟩; obtain ⟨hs9, hc9⟩ := Gr.boxed (w := w) (cs := [.int .i64 s, .int .i64 d, .int .i64 n, .int .i64 c]) (t := 61) (w' := w9) (by repeat (with_reducible first | exact Gr.refl _ | assumption | refine Gr.alloc ?_ _ | refine Gr.drew ?_ | refine Gr.drewN ?_ _ | refine Gr.trans ?_ (by assumption))))
      | (go_at_call 38; refine (areAddr_calls _ _ _ _ _ _ ls ld _ (IsB.gr (by assumption) (by repeat (with_reducible first | exact Gr.refl _ | assumption | refine Gr.alloc ?_ _ | refine Gr.drew ?_ | refine Gr.drewN ?_ _ | refine Gr.trans ?_ (by assumption)))) (IsB.gr (by assumption) (by repeat (with_reducible first | exact Gr.refl _ | assumption | refine Gr.alloc ?_ _ | refine Gr.drew ?_ | refine Gr.drewN ?_ _ | refine Gr.trans ?_ (by assumption))))).mono ?_; rintro e w9 ⟨rfl, hg9⟩; obtain ⟨hs9, hc9⟩ := Gr.boxed (w := w) (cs := [.int .i64 s, .int .i64 d, .int .i64 n, .int .i64 c]) (t := 61) (w' := w9) (by repeat (with_reducible first | exact Gr.refl _ | assumption | refine Gr.alloc ?_ _ | refine Gr.drew ?_ | refine Gr.drewN ?_ _ | refine Gr.trans ?_ (by assumption))))
      | (go_at_call_of 16 (Value.slice a2 n2 c2); refine (isPayload_calls _ l _ (IsB.gr (by assumption) (by repeat (with_reducible first | exact Gr.refl _ | assumption | refine Gr.alloc ?_ _ | refine Gr.drew ?_ | refine Gr.drewN ?_ _ | refine Gr.trans ?_ (by assumption))))).mono ?_; rintro e w9 ⟨rfl, rfl⟩)
      | (go_at_call_of 16 (Value.slice a3 n3 c3); refine (isPayload_calls _ lb _ (IsB.gr (by assumption) (by repeat (with_reducible first | exact Gr.refl _ | assumption | refine Gr.alloc ?_ _ | refine Gr.drew ?_ | refine Gr.drewN ?_ _ | refine Gr.trans ?_ (by assumption))))).mono ?_; rintro e w9 ⟨rfl, rfl⟩))
                  go_ret
                  exact ⟨rfl, (by repeat (with_reducible first | exact Gr.refl _ | assumption | refine Gr.alloc ?_ _ | refine Gr.drew ?_ | refine Gr.drewN ?_ _ | refine Gr.trans ?_ (by assumption)))⟩
                | true =>
                  have HU := hc4
                  have HA := hc5
                  simp only [isUDP, Bool.and_eq_true, upto_iff] at HU
                  simp only [areAddr, Bool.and_eq_true, Bool.or_eq_true, beq_iff_eq] at HA
                  have hl2 := isPay_iff.1 hc6
                  have hl3 := isPay_iff.1 hc7
                  have X0 := Lib.hid (show ls.length ≤ 16 ∧ ld.length ≤ 16 ∧ l.length ≤ 2000 by omega)
                  obtain ⟨S, hS⟩ : ∃ S, S = udpSum s d ls ld l := ⟨_, rfl⟩
                  have hSb := udpSum_bd s d hs.bytes hd.bytes h.bytes
                  rw [← hS] at hSb
                  have HS := Lib.hid hS
                  clear hS
                  have hfl := udp_flat s d (8 + l.length) S l lb
                  have hln := udp_len s d (8 + l.length) S
                  obtain ⟨x1, x2, x3, x4⟩ := udp_at s d (8 + l.length) S (l ++ lb) HU.1 HU.2 (by omega) hSb
                  rw [← hfl] at x1 x2 x3 x4
                  have hlen : [udp s d (8 + l.length) S, l, lb].flatten.length = 8 + l.length + lb.length := by rw [hfl]; simp [hln]; omega
                  have x5 : (([udp s d (8 + l.length) S, l, lb].flatten.take (bt [udp s d (8 + l.length) S, l, lb].flatten 4 * 256 + bt [udp s d (8 + l.length) S, l, lb].flatten 5).toNat).drop 8) = l := by
                    rw [x3, hfl]
                    exact take_mid hln (by omega)
                  have XL := Lib.hid (show [udp s d (8 + l.length) S, l, lb].flatten.length ≤ 70368744177664 ∧ 8 ≤ [udp s d (8 + l.length) S, l, lb].flatten.length ∧ 8 ≤ bt [udp s d (8 + l.length) S, l, lb].flatten 4 * 256 + bt [udp s d (8 + l.length) S, l, lb].flatten 5 ∧ bt [udp s d (8 + l.length) S, l, lb].flatten 4 * 256 + bt [udp s d (8 + l.length) S, l, lb].flatten 5 ≤ [udp s d (8 + l.length) S, l, lb].flatten.length ∧ [udp s d (8 + l.length) S, l, lb].flatten.length ≤ 1000000 by rw [hlen, x3]; omega)
                  have X1 := Lib.hid x1
                  have X2 := Lib.hid x2
                  have X3 := Lib.hid x3
                  have X4 := Lib.hid x4
                  have X5 := Lib.hid x5
                  clear x1 x2 x3 x4 x5 hfl hln hlen HU HA hl2 hl3 hSb
                  go_enter Try.func9, Try.ntmps9
                  go_wp2_with (first
      | (go_at_call 37; refine (isUDP_calls _ _ _ _ _).mono ?_; rintro e w9 ⟨rfl, hg9⟩; obtain ⟨hs9, hc9⟩ := Gr.boxed (w := w) (cs := [.int .i64 s, .int .i64 d, .int .i64 n, .int .i64 c]) (t := 61) (w' := w9) (by repeat (with_reducible first | exact Gr.refl _ | assumption | refine Gr.alloc ?_ _ | refine Gr.drew ?_ | refine Gr.drewN ?_ _ | refine Gr.trans ?_ (by assumption))))
      | (go_at_call 38; refine (areAddr_calls _ _ _ _ _ _ ls ld _ (IsB.gr (by assumption) (by repeat (with_reducible first | exact Gr.refl _ | assumption | refine Gr.alloc ?_ _ | refine Gr.drew ?_ | refine Gr.drewN ?_ _ | refine Gr.trans ?_ (by assumption)))) (IsB.gr (by assumption) (by repeat (with_reducible first | exact Gr.refl _ | assumption | refine Gr.alloc ?_ _ | refine Gr.drew ?_ | refine Gr.drewN ?_ _ | refine Gr.trans ?_ (by assumption))))).mono ?_; rintro e w9 ⟨rfl, hg9⟩; obtain ⟨hs9, hc9⟩ := Gr.boxed (w := w) (cs := [.int .i64 s, .int .i64 d, .int .i64 n, .int .i64 c]) (t := 61) (w' := w9) (by repeat (with_reducible first | exact Gr.refl _ | assumption | refine Gr.alloc ?_ _ | refine Gr.drew ?_ | refine Gr.drewN ?_ _ | refine Gr.trans ?_ (by assumption))))
      | (go_at_call_of 16 (Value.slice a2 n2 c2); refine (isPayload_calls _ l _ (IsB.gr (by assumption) (by repeat (with_reducible first | exact Gr.refl _ | assumption | refine Gr.alloc ?_ _ | refine Gr.drew ?_ | refine Gr.drewN ?_ _ | refine Gr.trans ?_ (by assumption))))).mono ?_; rintro e w9 ⟨rfl, rfl⟩)
      | (go_at_call_of 16 (Value.slice a3 n3 c3); refine (isPayload_calls _ lb _ (IsB.gr (by assumption) (by repeat (with_reducible first | exact Gr.refl _ | assumption | refine Gr.alloc ?_ _ | refine Gr.drew ?_ | refine Gr.drewN ?_ _ | refine Gr.trans ?_ (by assumption))))).mono ?_; rintro e w9 ⟨rfl, rfl⟩)
      | (go_at_call 39; refine (wholeUDP_calls _ _ _ _ _ _ _ _ _ _ _ _ _ ls ld l _ (IsB.gr (by assumption) (by repeat (with_reducible first | exact Gr.refl _ | assumption | refine Gr.alloc ?_ _ | refine Gr.drew ?_ | refine Gr.drewN ?_ _ | refine Gr.trans ?_ (by assumption)))) (IsB.gr (by assumption) (by repeat (with_reducible first | exact Gr.refl _ | assumption | refine Gr.alloc ?_ _ | refine Gr.drew ?_ | refine Gr.drewN ?_ _ | refine Gr.trans ?_ (by assumption)))) (IsB.gr (by assumption) (by repeat (with_reducible first | exact Gr.refl _ | assumption | refine Gr.alloc ?_ _ | refine Gr.drew ?_ | refine Gr.drewN ?_ _ | refine Gr.trans ?_ (by assumption)))) X0.out.1 X0.out.2.1 X0.out.2.2).mono ?_; rintro e wU ⟨rfl, hgU⟩; rw [← HS.out]; obtain ⟨hs9, hc9⟩ := Gr.boxed (w := w) (cs := [.int .i64 s, .int .i64 d, .int .i64 n, .int .i64 c]) (t := 61) (w' := wU) (by repeat (with_reducible first | exact Gr.refl _ | assumption | refine Gr.alloc ?_ _ | refine Gr.drew ?_ | refine Gr.drewN ?_ _ | refine Gr.trans ?_ (by assumption))))
      | (go_at_call 41; refine (udp_calls _ _ _ _ _).mono ?_; rintro e w9 ⟨_, _, _, rfl, ho9, hg9⟩; have hb9 := ho9.isB; obtain ⟨hs9, hc9⟩ := Gr.boxed (w := w) (cs := [.int .i64 s, .int .i64 d, .int .i64 n, .int .i64 c]) (t := 61) (w' := w9) (by repeat (with_reducible first | exact Gr.refl _ | assumption | refine Gr.alloc ?_ _ | refine Gr.drew ?_ | refine Gr.drewN ?_ _ | refine Gr.trans ?_ (by assumption))); obtain ⟨hs8, hc8⟩ := Gr.boxed (w := wU) (cs := [.int .i64 s, .int .i64 d, .int .i64 (8 + l.length), .int .i64 S]) (t := 61) (w' := w9) (by repeat (with_reducible first | exact Gr.refl _ | assumption | refine Gr.alloc ?_ _ | refine Gr.drew ?_ | refine Gr.drewN ?_ _ | refine Gr.trans ?_ (by assumption))))
      | (go_at_call 18; refine (joined_calls _ [udp s d (8 + l.length) S, l, lb] _ (isBs_at _ _ [udp s d (8 + l.length) S, l, lb] _ (Reads.cons (IsB.gr (by assumption) (by repeat (with_reducible first | exact Gr.refl _ | assumption | refine Gr.alloc ?_ _ | refine Gr.drew ?_ | refine Gr.drewN ?_ _ | refine Gr.trans ?_ (by assumption)))) (Reads.cons (IsB.gr (by assumption) (by repeat (with_reducible first | exact Gr.refl _ | assumption | refine Gr.alloc ?_ _ | refine Gr.drew ?_ | refine Gr.drewN ?_ _ | refine Gr.trans ?_ (by assumption)))) (Reads.cons (IsB.gr (by assumption) (by repeat (with_reducible first | exact Gr.refl _ | assumption | refine Gr.alloc ?_ _ | refine Gr.drew ?_ | refine Gr.drewN ?_ _ | refine Gr.trans ?_ (by assumption)))) (Reads.nil _)))) _ rfl _ (by simp)) XL.out.1 (by simp)).mono ?_; rintro e w9 ⟨_, _, _, rfl, ho9, hg9⟩; have hb9 := ho9.isB; obtain ⟨hs9, hc9⟩ := Gr.boxed (w := w) (cs := [.int .i64 s, .int .i64 d, .int .i64 n, .int .i64 c]) (t := 61) (w' := w9) (by repeat (with_reducible first | exact Gr.refl _ | assumption | refine Gr.alloc ?_ _ | refine Gr.drew ?_ | refine Gr.drewN ?_ _ | refine Gr.trans ?_ (by assumption))); obtain ⟨hs8, hc8⟩ := Gr.boxed (w := wU) (cs := [.int .i64 s, .int .i64 d, .int .i64 (8 + l.length), .int .i64 S]) (t := 61) (w' := w9) (by repeat (with_reducible first | exact Gr.refl _ | assumption | refine Gr.alloc ?_ _ | refine Gr.drew ?_ | refine Gr.drewN ?_ _ | refine Gr.trans ?_ (by assumption))))
      | (go_at_call 40; refine (udpRead_calls _ _ _ (by assumption) XL.out.2.1 XL.out.2.2.1 XL.out.2.2.2.1 XL.out.2.2.2.2).mono ?_; rintro e w9 ⟨_, _, _, rfl, hbp, hg9⟩; rw [X1.out, X2.out, X3.out, X4.out]; rw [X5.out] at hbp; obtain ⟨hs9, hc9⟩ := Gr.boxed (w := w) (cs := [.int .i64 s, .int .i64 d, .int .i64 n, .int .i64 c]) (t := 61) (w' := w9) (by repeat (with_reducible first | exact Gr.refl _ | assumption | refine Gr.alloc ?_ _ | refine Gr.drew ?_ | refine Gr.drewN ?_ _ | refine Gr.trans ?_ (by assumption))); obtain ⟨hs8, hc8⟩ := Gr.boxed (w := wU) (cs := [.int .i64 s, .int .i64 d, .int .i64 (8 + l.length), .int .i64 S]) (t := 61) (w' := w9) (by repeat (with_reducible first | exact Gr.refl _ | assumption | refine Gr.alloc ?_ _ | refine Gr.drew ?_ | refine Gr.drewN ?_ _ | refine Gr.trans ?_ (by assumption))))
      | (go_at_call 20; refine (same_calls _ _ _ _ _ (IsB.gr (by assumption) (by repeat (with_reducible first | exact Gr.refl _ | assumption | refine Gr.alloc ?_ _ | refine Gr.drew ?_ | refine Gr.drewN ?_ _ | refine Gr.trans ?_ (by assumption)))) (IsB.gr (by assumption) (by repeat (with_reducible first | exact Gr.refl _ | assumption | refine Gr.alloc ?_ _ | refine Gr.drew ?_ | refine Gr.drewN ?_ _ | refine Gr.trans ?_ (by assumption))))).mono ?_; rintro e w9 ⟨rfl, rfl⟩))
                  go_ret
                  exact ⟨by simp, (by repeat (with_reducible first | exact Gr.refl _ | assumption | refine Gr.alloc ?_ _ | refine Gr.drew ?_ | refine Gr.drewN ?_ _ | refine Gr.trans ?_ (by assumption)))⟩

def shorterU (l : List Int) (k : Int) : Bool := decide (0 ≤ k) && decide (k < (l.length : Int))

set_option maxRecDepth 100000 in
set_option maxHeartbeats 1000000 in
theorem shorterU_calls (a : Option Addr) (n c : Nat) (k : Int) (l : List Int) (w : World) (h : IsB w (.slice a n c) l) :
    Calls Try.prog 30 #[.slice a n c, .int .i64 k] w fun e w' => e = .returned (.bool (shorterU l k)) ∧ Gr w w' := by
  have g0 := fun ty => h.len (P := Try.prog) 24 ty 5 Try.underlying24
  by_cases hc0 : 0 ≤ k
  case neg =>
    have hd0 := decide_eq_false hc0
    go_enter Try.func30, Try.ntmps30
    go_wp2_with (fail)
    go_ret
    exact ⟨by simp [shorterU, hd0], (by repeat (with_reducible first | exact Gr.refl _ | assumption | refine Gr.alloc ?_ _ | refine Gr.drew ?_ | refine Gr.drewN ?_ _ | refine Gr.trans ?_ (by assumption)))⟩
  case pos =>
    have hd0 := decide_eq_true hc0
    by_cases hc1 : k < (l.length : Int)
    case neg =>
      have hd1 := decide_eq_false hc1
      go_enter Try.func30, Try.ntmps30
      go_wp2_with (fail)
      go_ret
      exact ⟨by simp [shorterU, hd0, hd1], (by repeat (with_reducible first | exact Gr.refl _ | assumption | refine Gr.alloc ?_ _ | refine Gr.drew ?_ | refine Gr.drewN ?_ _ | refine Gr.trans ?_ (by assumption)))⟩
    case pos =>
      have hd1 := decide_eq_true hc1
      go_enter Try.func30, Try.ntmps30
      go_wp2_with (fail)
      go_ret
      exact ⟨by simp [shorterU, hd0, hd1], (by repeat (with_reducible first | exact Gr.refl _ | assumption | refine Gr.alloc ?_ _ | refine Gr.drew ?_ | refine Gr.drewN ?_ _ | refine Gr.trans ?_ (by assumption)))⟩

set_option maxRecDepth 100000 in
set_option maxHeartbeats 2000000 in
theorem lawUDPShort_calls (s d n c : Int) (k : Int) (w : World)  :
    Calls Try.prog 10 #[.agg #[.int .i64 s, .int .i64 d, .int .i64 n, .int .i64 c], .int .i64 k] w fun e w' => e = .returned (.bool true) ∧ Gr w w' := by
  cases hc0 : (isUDP s d : Bool) with
  | false =>
    go_enter Try.func10, Try.ntmps10
    go_wp2_with (first
      | (go_at_call 37; refine (isUDP_calls _ _ _ _ _).mono ?_; rintro e w9 ⟨rfl, hg9⟩; obtain ⟨hs9, hc9⟩ := Gr.boxed (w := w) (cs := [.int .i64 s, .int .i64 d, .int .i64 8, .int .i64 0]) (t := 61) (w' := w9) (by repeat (with_reducible first | exact Gr.refl _ | assumption | refine Gr.alloc ?_ _ | refine Gr.drew ?_ | refine Gr.drewN ?_ _ | refine Gr.trans ?_ (by assumption))))
      | (go_at_call 41; refine (udp_calls _ _ _ _ _).mono ?_; rintro e w9 ⟨_, _, _, rfl, ho9, hg9⟩; have hb9 := ho9.isB; obtain ⟨hs9, hc9⟩ := Gr.boxed (w := w) (cs := [.int .i64 s, .int .i64 d, .int .i64 8, .int .i64 0]) (t := 61) (w' := w9) (by repeat (with_reducible first | exact Gr.refl _ | assumption | refine Gr.alloc ?_ _ | refine Gr.drew ?_ | refine Gr.drewN ?_ _ | refine Gr.trans ?_ (by assumption))))
      | (go_at_call 30; refine (shorterU_calls _ _ _ _ _ _ (IsB.gr (by assumption) (by repeat (with_reducible first | exact Gr.refl _ | assumption | refine Gr.alloc ?_ _ | refine Gr.drew ?_ | refine Gr.drewN ?_ _ | refine Gr.trans ?_ (by assumption))))).mono ?_; rintro e w9 ⟨rfl, hg9⟩; obtain ⟨hs9, hc9⟩ := Gr.boxed (w := w) (cs := [.int .i64 s, .int .i64 d, .int .i64 8, .int .i64 0]) (t := 61) (w' := w9) (by repeat (with_reducible first | exact Gr.refl _ | assumption | refine Gr.alloc ?_ _ | refine Gr.drew ?_ | refine Gr.drewN ?_ _ | refine Gr.trans ?_ (by assumption)))))
    go_ret
    exact ⟨rfl, (by repeat (with_reducible first | exact Gr.refl _ | assumption | refine Gr.alloc ?_ _ | refine Gr.drew ?_ | refine Gr.drewN ?_ _ | refine Gr.trans ?_ (by assumption)))⟩
  | true =>
    cases hc1 : (shorterU (udp s d 8 0) k : Bool) with
    | false =>
      go_enter Try.func10, Try.ntmps10
      go_wp2_with (first
      | (go_at_call 37; refine (isUDP_calls _ _ _ _ _).mono ?_; rintro e w9 ⟨rfl, hg9⟩; obtain ⟨hs9, hc9⟩ := Gr.boxed (w := w) (cs := [.int .i64 s, .int .i64 d, .int .i64 8, .int .i64 0]) (t := 61) (w' := w9) (by repeat (with_reducible first | exact Gr.refl _ | assumption | refine Gr.alloc ?_ _ | refine Gr.drew ?_ | refine Gr.drewN ?_ _ | refine Gr.trans ?_ (by assumption))))
      | (go_at_call 41; refine (udp_calls _ _ _ _ _).mono ?_; rintro e w9 ⟨_, _, _, rfl, ho9, hg9⟩; have hb9 := ho9.isB; obtain ⟨hs9, hc9⟩ := Gr.boxed (w := w) (cs := [.int .i64 s, .int .i64 d, .int .i64 8, .int .i64 0]) (t := 61) (w' := w9) (by repeat (with_reducible first | exact Gr.refl _ | assumption | refine Gr.alloc ?_ _ | refine Gr.drew ?_ | refine Gr.drewN ?_ _ | refine Gr.trans ?_ (by assumption))))
      | (go_at_call 30; refine (shorterU_calls _ _ _ _ _ _ (IsB.gr (by assumption) (by repeat (with_reducible first | exact Gr.refl _ | assumption | refine Gr.alloc ?_ _ | refine Gr.drew ?_ | refine Gr.drewN ?_ _ | refine Gr.trans ?_ (by assumption))))).mono ?_; rintro e w9 ⟨rfl, hg9⟩; obtain ⟨hs9, hc9⟩ := Gr.boxed (w := w) (cs := [.int .i64 s, .int .i64 d, .int .i64 8, .int .i64 0]) (t := 61) (w' := w9) (by repeat (with_reducible first | exact Gr.refl _ | assumption | refine Gr.alloc ?_ _ | refine Gr.drew ?_ | refine Gr.drewN ?_ _ | refine Gr.trans ?_ (by assumption)))))
      go_ret
      exact ⟨rfl, (by repeat (with_reducible first | exact Gr.refl _ | assumption | refine Gr.alloc ?_ _ | refine Gr.drew ?_ | refine Gr.drewN ?_ _ | refine Gr.trans ?_ (by assumption)))⟩
    | true =>
      have HU := hc0
      simp only [isUDP, Bool.and_eq_true, upto_iff] at HU
      have hln := udp_len s d 8 0
      obtain ⟨-, -, x3, -⟩ := udp_at s d 8 0 [] HU.1 HU.2 (by omega) (by omega)
      rw [List.append_nil] at x3
      simp only [shorterU, Bool.and_eq_true, decide_eq_true_eq] at hc1
      have XN := Lib.hid (show k = (k.toNat : Int) by omega)
      have XM := Lib.hid (show k.toNat ≤ (udp s d 8 0).length by omega)
      have XS := Lib.hid (show ((udp s d 8 0).take k.toNat).length < 8 by rw [List.length_take]; omega)
      have XL := Lib.hid (show 8 ≤ (udp s d 8 0).length ∧ 8 ≤ bt (udp s d 8 0) 4 * 256 + bt (udp s d 8 0) 5 ∧ bt (udp s d 8 0) 4 * 256 + bt (udp s d 8 0) 5 ≤ (udp s d 8 0).length ∧ (udp s d 8 0).length ≤ 1000000 by omega)
      obtain ⟨i, hi, hz0, hz1, hz2⟩ := info_parts info_u8
      have XI := Lib.hid (And.intro hi hz1)
      clear hi hz0 hz1 hz2 x3
      have hc1 : shorterU (udp s d 8 0) k = true := by simp [shorterU]; omega
      clear hln HU
      go_enter Try.func10, Try.ntmps10
      go_wp2_with (first
      | (go_at_call 37; refine (isUDP_calls _ _ _ _ _).mono ?_; rintro e w9 ⟨rfl, hg9⟩; obtain ⟨hs9, hc9⟩ := Gr.boxed (w := w) (cs := [.int .i64 s, .int .i64 d, .int .i64 8, .int .i64 0]) (t := 61) (w' := w9) (by repeat (with_reducible first | exact Gr.refl _ | assumption | refine Gr.alloc ?_ _ | refine Gr.drew ?_ | refine Gr.drewN ?_ _ | refine Gr.trans ?_ (by assumption))))
      | (go_at_call 41; refine (udp_calls _ _ _ _ _).mono ?_; rintro e w9 ⟨ae, ne, ce, rfl, ho9, hg9⟩; have hb9 := ho9.isB; obtain ⟨ak, nk, ck, hvs, -, hcut⟩ := hb9.cutH (P := Try.prog) 24 5 i Try.underlying24 XI.out.1 XI.out.2 k k.toNat XN.out XM.out; obtain ⟨hs9, hc9⟩ := Gr.boxed (w := w) (cs := [.int .i64 s, .int .i64 d, .int .i64 8, .int .i64 0]) (t := 61) (w' := w9) (by repeat (with_reducible first | exact Gr.refl _ | assumption | refine Gr.alloc ?_ _ | refine Gr.drew ?_ | refine Gr.drewN ?_ _ | refine Gr.trans ?_ (by assumption))))
      | (go_at_call 30; refine (shorterU_calls _ _ _ _ _ _ (IsB.gr (by assumption) (by repeat (with_reducible first | exact Gr.refl _ | assumption | refine Gr.alloc ?_ _ | refine Gr.drew ?_ | refine Gr.drewN ?_ _ | refine Gr.trans ?_ (by assumption))))).mono ?_; rintro e w9 ⟨rfl, hg9⟩; obtain ⟨hs9, hc9⟩ := Gr.boxed (w := w) (cs := [.int .i64 s, .int .i64 d, .int .i64 8, .int .i64 0]) (t := 61) (w' := w9) (by repeat (with_reducible first | exact Gr.refl _ | assumption | refine Gr.alloc ?_ _ | refine Gr.drew ?_ | refine Gr.drewN ?_ _ | refine Gr.trans ?_ (by assumption))))
      | (go_at_call_of 40 (Value.slice ak nk ck); refine (udpReadShort_calls _ _ _ (IsB.gr (by assumption) (by repeat (with_reducible first | exact Gr.refl _ | assumption | refine Gr.alloc ?_ _ | refine Gr.drew ?_ | refine Gr.drewN ?_ _ | refine Gr.trans ?_ (by assumption)))) XS.out).mono ?_; rintro e w9 ⟨rfl, hg9⟩; obtain ⟨hs9, hc9⟩ := Gr.boxed (w := w) (cs := [.int .i64 s, .int .i64 d, .int .i64 8, .int .i64 0]) (t := 61) (w' := w9) (by repeat (with_reducible first | exact Gr.refl _ | assumption | refine Gr.alloc ?_ _ | refine Gr.drew ?_ | refine Gr.drewN ?_ _ | refine Gr.trans ?_ (by assumption))))
      | (go_at_call_of 40 (Value.slice ae ne ce); refine (udpRead_calls _ _ _ (IsB.gr (by assumption) (by repeat (with_reducible first | exact Gr.refl _ | assumption | refine Gr.alloc ?_ _ | refine Gr.drew ?_ | refine Gr.drewN ?_ _ | refine Gr.trans ?_ (by assumption)))) XL.out.1 XL.out.2.1 XL.out.2.2.1 XL.out.2.2.2).mono ?_; rintro e w9 ⟨_, _, _, rfl, hbp, hg9⟩; obtain ⟨hs9, hc9⟩ := Gr.boxed (w := w) (cs := [.int .i64 s, .int .i64 d, .int .i64 8, .int .i64 0]) (t := 61) (w' := w9) (by repeat (with_reducible first | exact Gr.refl _ | assumption | refine Gr.alloc ?_ _ | refine Gr.drew ?_ | refine Gr.drewN ?_ _ | refine Gr.trans ?_ (by assumption)))))
      go_ret
      exact ⟨by simp, (by repeat (with_reducible first | exact Gr.refl _ | assumption | refine Gr.alloc ?_ _ | refine Gr.drew ?_ | refine Gr.drewN ?_ _ | refine Gr.trans ?_ (by assumption)))⟩

end Go.Proofs.Ytbdbaapdiklnhaa
