/-
  A datagram, written in front of what it carries.
-/
import Derived.Test.YtdpffedmgmllbaaUSer
namespace Go.Proofs.Ytdpffedmgmllbaa
open Go.RowKit

set_option linter.unusedSimpArgs false in
set_option maxRecDepth 100000 in
set_option maxHeartbeats 4000000 in
theorem udpWritten4_calls (s d n c : Int) (a0 : Option Addr) (n0 c0 : Nat) (a1 : Option Addr) (n1 c1 : Nat) (a2 : Option Addr) (n2 c2 : Nat) (ls ld l : List Int) (w : World) (hs : IsB w (.slice a0 n0 c0) ls) (hd : IsB w (.slice a1 n1 c1) ld) (h : IsB w (.slice a2 n2 c2) l) (hl : l.length ≤ 2000) (us : 0 ≤ s ∧ s ≤ 65535) (ud : 0 ≤ d ∧ d ≤ 65535) (z1 : ls.length = 4) (z2 : ld.length = 4) :
    Calls Try.prog 36 #[.agg #[.int .i64 s, .int .i64 d, .int .i64 n, .int .i64 c], .slice a0 n0 c0, .slice a1 n1 c1, .slice a2 n2 c2] w fun e w' => ∃ f9 g9 j9, e = .returned (.tuple #[.slice f9 g9 j9, .bool true]) ∧ IsB w' (.slice f9 g9 j9) (udp s d (8 + l.length) (udpCk s d ls ld l) ++ l) ∧ Gr w w' := by
  have hal := hs.bytes
  have had := hd.bytes
  have HL : (udp s d (8 + l.length) (udpCk s d ls ld l) ++ l).length ≤ 1000000 := by rw [List.length_append]; simp [udp, sh]; omega
  obtain ⟨BY, hBY⟩ : ∃ BY, BY = udp s d (8 + l.length) (udpCk s d ls ld l) := ⟨_, rfl⟩
  rw [← hBY] at HL ⊢
  have HBY := Lib.hid hBY
  have H0 := Lib.hid hs
  have H1 := Lib.hid hd
  have H2 := Lib.hid h
  have HLL := Lib.hid HL
  have HAL := Lib.hid (And.intro hal had)
  clear hs hd h HL hBY hal had
  go_enter Try.func36, Try.ntmps36
  go_wp2_with (first
      | (go_at_call 62; refine (mkUDP_calls s d n c _ us ud).mono ?_; rintro e w5 ⟨V, rfl, hVge, hV5, hg5⟩; rw [World.size_alloc] at hVge; have hVl : V < w5.heap.size := (Array.getElem?_eq_some_iff.1 hV5).1; have HV5 := Lib.hid hV5; have HG5 := Lib.hid (show Gr w w5 from (by (repeat (with_reducible first | exact Gr.refl _ | assumption | refine Gr.alloc ?_ _ | refine Gr.drew ?_ | refine Gr.drewN ?_ _ | refine Gr.trans ?_ (by assumption))); done)); clear hV5 hg5))
  go_region_held3 (fun _ => True) (trivial) (first
      | (go_at_call 64; refine (network4_calls a0 n0 c0 a1 n1 c1 ls ld _ (H0.out.gr HG5.out.drew) (H1.out.gr HG5.out.drew) z1 z2).mono ?_; rintro e w6 ⟨Q, rfl, hg6, hn6⟩; have HN6 := Lib.hid hn6; have HG6 := Lib.hid (show Gr w5 w6 from (Gr.refl w5).drew.trans hg6); have hV6 := heap_gr HG6.out HV5.out; have HG60 := Lib.hid (HG5.out.trans HG6.out); obtain ⟨y, hyV, rfl⟩ : ∃ y, Has y V ∧ w6 = rowW y V [.slice none 0 0, .slice none 0 0, .int .u16 s, .int .u16 d, .int .u16 0, .int .u16 0, .slice none 0 0, .slice none 0 0, .nilIface] 146 := ⟨w6, (Array.getElem?_eq_some_iff.1 hV6).1, (rowW_self hV6).symm⟩; clear hn6 hg6 hV6)
      | (go_at_call 63; refine (setNet4_calls V Q [.slice none 0 0, .slice none 0 0, .int .u16 s, .int .u16 d, .int .u16 0, .int .u16 0, .slice none 0 0, .slice none 0 0, .nilIface] y hyV (by simp)).mono ?_; rintro e w7 ⟨rfl, rfl⟩))
  have HG7 := Lib.hid (show Gr w (rowW y V [.slice none 0 0, .slice none 0 0, .int .u16 s, .int .u16 d, .int .u16 0, .int .u16 0, .slice none 0 0, .slice none 0 0, (.iface 139 (.pointer (some ⟨Q, 0, none⟩)))] 146) from HG60.out.row (by omega))
  have HN7 := Lib.hid (show IsNet4 (rowW y V [.slice none 0 0, .slice none 0 0, .int .u16 s, .int .u16 d, .int .u16 0, .int .u16 0, .slice none 0 0, .slice none 0 0, (.iface 139 (.pointer (some ⟨Q, 0, none⟩)))] 146) Q ls ld (fun j => j < w5.heap.size) from HN6.out.keep (fun j hj hb => by
    have hb' : ¬ j < w5.heap.size := hb
    rw [rowW_other (show j ≠ V by omega), rowW_other (show j ≠ V by omega)]))
  have hsz7 := HG6.out.size
  rw [rowW_size] at hsz7
  clear HG60
  go_wp2_with (first
      | (go_at_call 58; refine (carried_calls a2 n2 c2 l _ (H2.out.gr HG7.out) hl).mono ?_; rintro e w8 ⟨P, rfl, hg8, hC⟩; have hCl := hC.lt; obtain ⟨_, hPge, -⟩ := id hC; rw [rowW_size] at hPge; have HC := Lib.hid hC; have HV8 := Lib.hid (heap_gr hg8 (rowW_heap hyV)); have HN8 := Lib.hid ((HN7.out.to (bad' := fun j => j = V ∨ j = P) (fun k hk => hk.elim (fun e => .inl (by rw [e]; exact hVl)) (fun e => .inr (by rw [e, rowW_size]; exact hPge)))).gr hg8); have HG8 := Lib.hid (HG7.out.trans hg8); clear hC hg8)
      | (go_at_call 61; refine (whole_calls _).mono ?_; rintro e w9 ⟨rfl, hg9⟩; have HC9 := Lib.hid ((HC.out.to (C := w.heap.size) (by rw [rowW_size]; have := HG5.out.size; omega)).gr (w' := w9) hg9); have hGw : Gr w w9 := HG8.out.trans hg9)
      | (go_at_call 65; refine (udpSer4_calls V P Q s d ls ld w.heap.size l _ (heap_gr hg9 HV8.out) HC9.out (by omega) (by omega) hGw.size hl (HN8.out.gr hg9) us ud z1 z2 HAL.out.1 HAL.out.2).mono ?_; rintro e w3 ⟨rfl, hb3, a', n', pp, qq, ly, hP3, hB3⟩; rw [← HBY.out] at hB3; have HP3 := Lib.hid hP3; clear hP3; have hG3 : Gr w w3 := gr_of_below (hGw.below.trans hb3))
      | (go_at_call 51; refine (written_calls P a' n' n' pp qq ly _ _ HP3.out hB3 HLL.out).mono ?_; rintro e w4 ⟨f9, g9, j9, rfl, hb4, hg4⟩; have hG4 : Gr w w4 := hG3.trans hg4))
  exact bodyPost_ret (v := .tuple #[.slice f9 g9 j9, .bool true]) (by simp [results, Try.results36, go_sem]) rfl ⟨_, _, _, rfl, hb4, hG4⟩

set_option linter.unusedSimpArgs false in
set_option maxRecDepth 100000 in
set_option maxHeartbeats 4000000 in
theorem udpWritten6_calls (s d n c : Int) (a0 : Option Addr) (n0 c0 : Nat) (a1 : Option Addr) (n1 c1 : Nat) (a2 : Option Addr) (n2 c2 : Nat) (ls ld l : List Int) (w : World) (hs : IsB w (.slice a0 n0 c0) ls) (hd : IsB w (.slice a1 n1 c1) ld) (h : IsB w (.slice a2 n2 c2) l) (hl : l.length ≤ 2000) (us : 0 ≤ s ∧ s ≤ 65535) (ud : 0 ≤ d ∧ d ≤ 65535) (z1 : ls.length = 16) (z2 : ld.length = 16) :
    Calls Try.prog 36 #[.agg #[.int .i64 s, .int .i64 d, .int .i64 n, .int .i64 c], .slice a0 n0 c0, .slice a1 n1 c1, .slice a2 n2 c2] w fun e w' => ∃ f9 g9 j9, e = .returned (.tuple #[.slice f9 g9 j9, .bool true]) ∧ IsB w' (.slice f9 g9 j9) (udp s d (8 + l.length) (udpCk s d ls ld l) ++ l) ∧ Gr w w' := by
  have hal := hs.bytes
  have had := hd.bytes
  have HL : (udp s d (8 + l.length) (udpCk s d ls ld l) ++ l).length ≤ 1000000 := by rw [List.length_append]; simp [udp, sh]; omega
  obtain ⟨BY, hBY⟩ : ∃ BY, BY = udp s d (8 + l.length) (udpCk s d ls ld l) := ⟨_, rfl⟩
  rw [← hBY] at HL ⊢
  have HBY := Lib.hid hBY
  have H0 := Lib.hid hs
  have H1 := Lib.hid hd
  have H2 := Lib.hid h
  have HLL := Lib.hid HL
  have HAL := Lib.hid (And.intro hal had)
  clear hs hd h HL hBY hal had
  go_enter Try.func36, Try.ntmps36
  go_wp2_with (first
      | (go_at_call 62; refine (mkUDP_calls s d n c _ us ud).mono ?_; rintro e w5 ⟨V, rfl, hVge, hV5, hg5⟩; rw [World.size_alloc] at hVge; have hVl : V < w5.heap.size := (Array.getElem?_eq_some_iff.1 hV5).1; have HV5 := Lib.hid hV5; have HG5 := Lib.hid (show Gr w w5 from (by (repeat (with_reducible first | exact Gr.refl _ | assumption | refine Gr.alloc ?_ _ | refine Gr.drew ?_ | refine Gr.drewN ?_ _ | refine Gr.trans ?_ (by assumption))); done)); clear hV5 hg5))
  go_region_held3 (fun _ => True) (trivial) (first
      | (go_at_call 64; refine (network6_calls a0 n0 c0 a1 n1 c1 ls ld _ (H0.out.gr HG5.out.drew) (H1.out.gr HG5.out.drew) z1 z2).mono ?_; rintro e w6 ⟨Q, rfl, hg6, hn6⟩; have HN6 := Lib.hid hn6; have HG6 := Lib.hid (show Gr w5 w6 from (Gr.refl w5).drew.trans hg6); have hV6 := heap_gr HG6.out HV5.out; have HG60 := Lib.hid (HG5.out.trans HG6.out); obtain ⟨y, hyV, rfl⟩ : ∃ y, Has y V ∧ w6 = rowW y V [.slice none 0 0, .slice none 0 0, .int .u16 s, .int .u16 d, .int .u16 0, .int .u16 0, .slice none 0 0, .slice none 0 0, .nilIface] 146 := ⟨w6, (Array.getElem?_eq_some_iff.1 hV6).1, (rowW_self hV6).symm⟩; clear hn6 hg6 hV6)
      | (go_at_call 63; refine (setNet6_calls V Q [.slice none 0 0, .slice none 0 0, .int .u16 s, .int .u16 d, .int .u16 0, .int .u16 0, .slice none 0 0, .slice none 0 0, .nilIface] y hyV (by simp)).mono ?_; rintro e w7 ⟨rfl, rfl⟩))
  have HG7 := Lib.hid (show Gr w (rowW y V [.slice none 0 0, .slice none 0 0, .int .u16 s, .int .u16 d, .int .u16 0, .int .u16 0, .slice none 0 0, .slice none 0 0, (.iface 185 (.pointer (some ⟨Q, 0, none⟩)))] 146) from HG60.out.row (by omega))
  have HN7 := Lib.hid (show IsNet6 (rowW y V [.slice none 0 0, .slice none 0 0, .int .u16 s, .int .u16 d, .int .u16 0, .int .u16 0, .slice none 0 0, .slice none 0 0, (.iface 185 (.pointer (some ⟨Q, 0, none⟩)))] 146) Q ls ld (fun j => j < w5.heap.size) from HN6.out.keep (fun j hj hb => by
    have hb' : ¬ j < w5.heap.size := hb
    rw [rowW_other (show j ≠ V by omega), rowW_other (show j ≠ V by omega)]))
  have hsz7 := HG6.out.size
  rw [rowW_size] at hsz7
  clear HG60
  go_wp2_with (first
      | (go_at_call 58; refine (carried_calls a2 n2 c2 l _ (H2.out.gr HG7.out) hl).mono ?_; rintro e w8 ⟨P, rfl, hg8, hC⟩; have hCl := hC.lt; obtain ⟨_, hPge, -⟩ := id hC; rw [rowW_size] at hPge; have HC := Lib.hid hC; have HV8 := Lib.hid (heap_gr hg8 (rowW_heap hyV)); have HN8 := Lib.hid ((HN7.out.to (bad' := fun j => j = V ∨ j = P) (fun k hk => hk.elim (fun e => .inl (by rw [e]; exact hVl)) (fun e => .inr (by rw [e, rowW_size]; exact hPge)))).gr hg8); have HG8 := Lib.hid (HG7.out.trans hg8); clear hC hg8)
      | (go_at_call 61; refine (whole_calls _).mono ?_; rintro e w9 ⟨rfl, hg9⟩; have HC9 := Lib.hid ((HC.out.to (C := w.heap.size) (by rw [rowW_size]; have := HG5.out.size; omega)).gr (w' := w9) hg9); have hGw : Gr w w9 := HG8.out.trans hg9)
      | (go_at_call 65; refine (udpSer6_calls V P Q s d ls ld w.heap.size l _ (heap_gr hg9 HV8.out) HC9.out (by omega) (by omega) hGw.size hl (HN8.out.gr hg9) us ud z1 z2 HAL.out.1 HAL.out.2).mono ?_; rintro e w3 ⟨rfl, hb3, a', n', pp, qq, ly, hP3, hB3⟩; rw [← HBY.out] at hB3; have HP3 := Lib.hid hP3; clear hP3; have hG3 : Gr w w3 := gr_of_below (hGw.below.trans hb3))
      | (go_at_call 51; refine (written_calls P a' n' n' pp qq ly _ _ HP3.out hB3 HLL.out).mono ?_; rintro e w4 ⟨f9, g9, j9, rfl, hb4, hg4⟩; have hG4 : Gr w w4 := hG3.trans hg4))
  exact bodyPost_ret (v := .tuple #[.slice f9 g9 j9, .bool true]) (by simp [results, Try.results36, go_sem]) rfl ⟨_, _, _, rfl, hb4, hG4⟩

theorem udpWritten_calls (s d n c : Int) (a0 : Option Addr) (n0 c0 : Nat) (a1 : Option Addr) (n1 c1 : Nat) (a2 : Option Addr) (n2 c2 : Nat) (ls ld l : List Int) (w : World) (hs : IsB w (.slice a0 n0 c0) ls) (hd : IsB w (.slice a1 n1 c1) ld) (h : IsB w (.slice a2 n2 c2) l) (hl : l.length ≤ 2000) (us : 0 ≤ s ∧ s ≤ 65535) (ud : 0 ≤ d ∧ d ≤ 65535) (hz : (ls.length = 4 ∧ ld.length = 4) ∨ (ls.length = 16 ∧ ld.length = 16)) :
    Calls Try.prog 36 #[.agg #[.int .i64 s, .int .i64 d, .int .i64 n, .int .i64 c], .slice a0 n0 c0, .slice a1 n1 c1, .slice a2 n2 c2] w fun e w' => ∃ f9 g9 j9, e = .returned (.tuple #[.slice f9 g9 j9, .bool true]) ∧ IsB w' (.slice f9 g9 j9) (udp s d (8 + l.length) (udpCk s d ls ld l) ++ l) ∧ Gr w w' := by
  rcases hz with ⟨z1, z2⟩ | ⟨z1, z2⟩
  · exact udpWritten4_calls s d n c a0 n0 c0 a1 n1 c1 a2 n2 c2 ls ld l w hs hd h hl us ud z1 z2
  · exact udpWritten6_calls s d n c a0 n0 c0 a1 n1 c1 a2 n2 c2 ls ld l w hs hd h hl us ud z1 z2

end Go.Proofs.Ytdpffedmgmllbaa
