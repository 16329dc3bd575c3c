/-
  The layer with two addresses, and a datagram as a layer.
-/
import Derived.Test.YtdpffedmgmllbaaUPre
import Derived.Test.YtdpffedmgmllbaaWholeUDP
namespace Go.Proofs.Ytdpffedmgmllbaa
open Go.RowKit

theorem tot_appu : ∀ (A B : List Int), A.length % 2 = 0 → tot (A ++ B) = tot A + tot B
  | [], B, _ => by simp [tot]
  | [x], B, h => by simp at h
  | x :: y :: r, B, h => by
    have ih := tot_appu r B (by simp only [List.length_cons] at h; omega)
    simp only [List.cons_append, tot, ih]
    omega
theorem psd_tot {ls ld : List Int} {n : Int} (hn : 0 ≤ n ∧ n ≤ 65535) (h : (ls.length = 4 ∧ ld.length = 4) ∨ (ls.length = 16 ∧ ld.length = 16)) : tot (psd ls ld 17 n) = tot ls + tot ld + 17 + n ∧ (psd ls ld 17 n).length % 2 = 0 := by
  rcases h with ⟨h1, h2⟩ | ⟨h1, h2⟩
  · unfold psd
    rw [if_pos h1]
    constructor
    · simp only [List.flatten_cons, List.flatten_nil, List.append_nil]
      rw [tot_appu _ _ (by omega), tot_appu _ _ (by omega)]
      simp only [sh, List.cons_append, List.nil_append, tot]
      omega
    · simp [sh]; omega
  · unfold psd
    rw [if_neg (by omega)]
    constructor
    · simp only [List.flatten_cons, List.flatten_nil, List.append_nil]
      rw [tot_appu _ _ (by omega), tot_appu _ _ (by omega)]
      simp only [lo, sh, List.cons_append, List.nil_append, tot]
      omega
    · simp [lo, sh]; omega
theorem udpCk_eq {s d : Int} {ls ld l : List Int} (hl : l.length ≤ 2000) (h : (ls.length = 4 ∧ ld.length = 4) ∨ (ls.length = 16 ∧ ld.length = 16)) (a1 : AllB ls) (a2 : AllB ld) (a3 : AllB l) :
    65535 - fd (tot ls + tot ld + 17 + ((udp s d (8 + l.length) 0 ++ l).length : Int) + tot (udp s d (8 + l.length) 0 ++ l)) = udpCk s d ls ld l := by
  have hp := psd_tot (n := 8 + (l.length : Int)) (by omega) h
  have hlen : ((udp s d (8 + l.length) 0 ++ l).length : Int) = 8 + l.length := by simp [udp, sh]; omega
  have hb : AllB (psd ls ld 17 (8 + l.length) ++ (udp s d (8 + l.length) 0 ++ l)) := by
    refine AllB.append ?_ (AllB.append ?_ a3)
    · unfold psd
      split
      all_goals
        refine AllB.flat fun x hx => ?_
        simp only [List.mem_cons, List.not_mem_nil, or_false] at hx
        rcases hx with rfl | rfl | rfl | rfl
        · exact a1
        · exact a2
        · first | exact lo_bytes _ | (intro y hy; simp at hy; rcases hy with rfl | rfl <;> omega)
        · first | exact sh_bytes _ | (intro y hy; simp at hy; rcases hy with rfl | rfl | rfl | rfl <;> omega)
    · unfold udp
      refine AllB.flat fun x hx => ?_
      simp only [List.mem_cons, List.not_mem_nil, or_false] at hx
      rcases hx with rfl | rfl | rfl | rfl <;> exact sh_bytes _
  unfold udpCk
  have e : [psd ls ld 17 (8 + (l.length : Int)), [udp s d (8 + l.length) 0, l].flatten].flatten = psd ls ld 17 (8 + l.length) ++ (udp s d (8 + l.length) 0 ++ l) := by simp
  rw [e, cks_fd hb, tot_appu _ _ hp.2, hp.1, hlen]

/-- a layer with two addresses -/
def IsNet4 (w : World) (Q : Nat) (ls ld : List Int) (bad : Nat → Prop) : Prop := ∃ (cs : List Value) (sa : Option Addr) (sc : Nat) (da : Option Addr) (dc : Nat), ¬ bad Q ∧ w.heap[Q]? = some (.cells cs.toArray 179 (0, 0)) ∧ cs[12]? = some (.slice sa 4 sc) ∧ cs[13]? = some (.slice da 4 dc) ∧ IsB w (.slice sa 4 sc) ls ∧ IsB w (.slice da 4 dc) ld ∧ (∀ k, bad k → Aside (.slice sa 4 sc) ls k) ∧ (∀ k, bad k → Aside (.slice da 4 dc) ld k)
theorem IsNet4.keep {w w' : World} {Q : Nat} {ls ld : List Int} {bad : Nat → Prop} (h : IsNet4 w Q ls ld bad) (hk : ∀ j, j < w.heap.size → ¬ bad j → w'.heap[j]? = w.heap[j]?) : IsNet4 w' Q ls ld bad := by
  obtain ⟨cs, sa, sc, da, dc, h0, h1, h2, h3, h4, h5, h6, h7⟩ := h
  exact ⟨cs, sa, sc, da, dc, h0, (hk Q (Array.getElem?_eq_some_iff.1 h1).1 h0).trans h1, h2, h3, h4.keepB hk h6, h5.keepB hk h7, h6, h7⟩
theorem IsNet4.gr {w w' : World} {Q : Nat} {ls ld : List Int} {bad : Nat → Prop} (h : IsNet4 w Q ls ld bad) (hg : Gr w w') : IsNet4 w' Q ls ld bad := h.keep fun j hj _ => hg.block j hj (by simp)
theorem IsNet4.to {w : World} {Q : Nat} {ls ld : List Int} {bad bad' : Nat → Prop} (h : IsNet4 w Q ls ld bad) (hb : ∀ k, bad' k → bad k ∨ w.heap.size ≤ k) : IsNet4 w Q ls ld bad' := by
  obtain ⟨cs, sa, sc, da, dc, h0, h1, h2, h3, h4, h5, h6, h7⟩ := h
  refine ⟨cs, sa, sc, da, dc, fun x => ?_, h1, h2, h3, h4, h5, fun k hk => ?_, fun k hk => ?_⟩
  · rcases hb _ x with x | x
    · exact h0 x
    · have := (Array.getElem?_eq_some_iff.1 h1).1; omega
  · rcases hb _ hk with x | x
    · exact h6 k x
    · exact h4.aside x
  · rcases hb _ hk with x | x
    · exact h7 k x
    · exact h5.aside x
theorem computeN4_calls (V Q : Nat) (ls ld : List Int) (bad : Nat → Prop) (v : Value) (l : List Int) (w : World) (hn : IsNet4 w Q ls ld bad) (hV : w.cell? ⟨V, 8, none⟩ = some (.iface 139 (.pointer (some ⟨Q, 0, none⟩)))) (h : IsB w v l) (hl : l.length ≤ 60000) :
    Calls Try.prog 82 #[.pointer (some ⟨V, 8, none⟩), v, .int .u8 17] w fun e w' => e = .returned (.tuple #[.int .u16 (65535 - fd (tot ls + tot ld + 17 + (l.length : Int) + tot l)), .nilIface]) ∧ ∃ r, w' = w.drewN r := by
  obtain ⟨cs, sa, sc, da, dc, -, h1, h2, h3, h4, h5, -, -⟩ := hn
  exact compute4_calls V Q sa da sc dc ls ld v l w cs h1 h2 h3 h4 h5 hV h hl

set_option maxRecDepth 100000 in
set_option maxHeartbeats 4000000 in
theorem network4_calls (a0 : Option Addr) (n0 c0 : Nat) (a1 : Option Addr) (n1 c1 : Nat) (ls ld : List Int) (w : World) (hs : IsB w (.slice a0 n0 c0) ls) (hd : IsB w (.slice a1 n1 c1) ld) (z1 : ls.length = 4) (z2 : ld.length = 4) :
    Calls Try.prog 64 #[.slice a0 n0 c0, .slice a1 n1 c1, .int .u8 17] w fun e w' => ∃ Q, e = .returned (.iface 139 (.pointer (some ⟨Q, 0, none⟩))) ∧ Gr w w' ∧ IsNet4 w' Q ls ld (fun j => j < w.heap.size) := by
  have g0 := fun ty => hs.len (P := Try.prog) 25 ty 5 Try.underlying25
  rw [z1] at g0
  have H1 := Lib.hid hs
  have H2 := Lib.hid hd
  clear hs hd
  go_enter Try.func64, Try.ntmps64
  go_wp2_with (first
      | (go_at_call_of 44 (Value.slice a0 n0 c0); refine (copied_calls _ ls _ (H1.out.gr (by (repeat (with_reducible first | exact Gr.refl _ | assumption | refine Gr.alloc ?_ _ | refine Gr.drew ?_ | refine Gr.drewN ?_ _ | refine Gr.trans ?_ (by assumption))); done)) (by omega)).mono ?_; rintro e w9 ⟨sa, s9, sc, rfl, hoS, hgS⟩; have hbS := hoS.isB; obtain rfl : s9 = 4 := (by rw [hbS.count, z1]))
      | (go_at_call_of 44 (Value.slice a1 n1 c1); refine (copied_calls _ ld _ (H2.out.gr (by (repeat (with_reducible first | exact Gr.refl _ | assumption | refine Gr.alloc ?_ _ | refine Gr.drew ?_ | refine Gr.drewN ?_ _ | refine Gr.trans ?_ (by assumption))); done)) (by omega)).mono ?_; rintro e x9 ⟨da, d9, dc, rfl, hoD, hgD⟩; have hbD := hoD.isB; obtain rfl : d9 = 4 := (by rw [hbD.count, z2])))
  go_ret
  have hss := hgS.size
  have hdd := hgD.size
  exact ⟨x9.heap.size, rfl, (by (repeat (with_reducible first | exact Gr.refl _ | assumption | refine Gr.alloc ?_ _ | refine Gr.drew ?_ | refine Gr.drewN ?_ _ | refine Gr.trans ?_ (by assumption))); done), [.slice none 0 0, .slice none 0 0, .int .u8 0, .int .u8 0, .int .u8 0, .int .u16 0, .int .u16 0, .int .u8 0, .int .u16 0, .int .u8 0, .int .u8 17, .int .u16 0, .slice sa 4 sc, .slice da 4 dc, .slice none 0 0, .slice none 0 0], sa, sc, da, dc, (by omega), heap_alloc_new x9 (.cells [.slice none 0 0, .slice none 0 0, .int .u8 0, .int .u8 0, .int .u8 0, .int .u16 0, .int .u16 0, .int .u8 0, .int .u16 0, .int .u8 0, .int .u8 17, .int .u16 0, .slice sa 4 sc, .slice da 4 dc, .slice none 0 0, .slice none 0 0].toArray 179), rfl, rfl, hbS.gr (by (repeat (with_reducible first | exact Gr.refl _ | assumption | refine Gr.alloc ?_ _ | refine Gr.drew ?_ | refine Gr.drewN ?_ _ | refine Gr.trans ?_ (by assumption))); done), hbD.gr (by (repeat (with_reducible first | exact Gr.refl _ | assumption | refine Gr.alloc ?_ _ | refine Gr.drew ?_ | refine Gr.drewN ?_ _ | refine Gr.trans ?_ (by assumption))); done), fun j hj => hoS.aside hj, fun j hj => hoD.aside (by omega)⟩

set_option maxRecDepth 100000 in
set_option maxHeartbeats 2000000 in
theorem setNet4_calls (V Q : Nat) (cs : List Value) (w : World) (hV : Has w V) (hc : 8 < cs.length) :
    Calls Try.prog 63 #[.pointer (some ⟨V, 8, none⟩), .iface 139 (.pointer (some ⟨Q, 0, none⟩))] (rowW w V cs 146) fun e w' => e = .returned .nilIface ∧ w' = rowW w V (cs.set 8 (.iface 139 (.pointer (some ⟨Q, 0, none⟩)))) 146 := by
  have as1 := assert44
  have as2 := assert46
  go_enter Try.func63, Try.ntmps63
  go_wp2_with fail
  go_ret
  exact ⟨rfl, rfl⟩

/-- a layer with two addresses -/
def IsNet6 (w : World) (Q : Nat) (ls ld : List Int) (bad : Nat → Prop) : Prop := ∃ (cs : List Value) (sa : Option Addr) (sc : Nat) (da : Option Addr) (dc : Nat), ¬ bad Q ∧ w.heap[Q]? = some (.cells cs.toArray 187 (0, 0)) ∧ cs[8]? = some (.slice sa 16 sc) ∧ cs[9]? = some (.slice da 16 dc) ∧ IsB w (.slice sa 16 sc) ls ∧ IsB w (.slice da 16 dc) ld ∧ (∀ k, bad k → Aside (.slice sa 16 sc) ls k) ∧ (∀ k, bad k → Aside (.slice da 16 dc) ld k)
theorem IsNet6.keep {w w' : World} {Q : Nat} {ls ld : List Int} {bad : Nat → Prop} (h : IsNet6 w Q ls ld bad) (hk : ∀ j, j < w.heap.size → ¬ bad j → w'.heap[j]? = w.heap[j]?) : IsNet6 w' Q ls ld bad := by
  obtain ⟨cs, sa, sc, da, dc, h0, h1, h2, h3, h4, h5, h6, h7⟩ := h
  exact ⟨cs, sa, sc, da, dc, h0, (hk Q (Array.getElem?_eq_some_iff.1 h1).1 h0).trans h1, h2, h3, h4.keepB hk h6, h5.keepB hk h7, h6, h7⟩
theorem IsNet6.gr {w w' : World} {Q : Nat} {ls ld : List Int} {bad : Nat → Prop} (h : IsNet6 w Q ls ld bad) (hg : Gr w w') : IsNet6 w' Q ls ld bad := h.keep fun j hj _ => hg.block j hj (by simp)
theorem IsNet6.to {w : World} {Q : Nat} {ls ld : List Int} {bad bad' : Nat → Prop} (h : IsNet6 w Q ls ld bad) (hb : ∀ k, bad' k → bad k ∨ w.heap.size ≤ k) : IsNet6 w Q ls ld bad' := by
  obtain ⟨cs, sa, sc, da, dc, h0, h1, h2, h3, h4, h5, h6, h7⟩ := h
  refine ⟨cs, sa, sc, da, dc, fun x => ?_, h1, h2, h3, h4, h5, fun k hk => ?_, fun k hk => ?_⟩
  · rcases hb _ x with x | x
    · exact h0 x
    · have := (Array.getElem?_eq_some_iff.1 h1).1; omega
  · rcases hb _ hk with x | x
    · exact h6 k x
    · exact h4.aside x
  · rcases hb _ hk with x | x
    · exact h7 k x
    · exact h5.aside x
theorem computeN6_calls (V Q : Nat) (ls ld : List Int) (bad : Nat → Prop) (v : Value) (l : List Int) (w : World) (hn : IsNet6 w Q ls ld bad) (hV : w.cell? ⟨V, 8, none⟩ = some (.iface 185 (.pointer (some ⟨Q, 0, none⟩)))) (h : IsB w v l) (hl : l.length ≤ 60000) :
    Calls Try.prog 82 #[.pointer (some ⟨V, 8, none⟩), v, .int .u8 17] w fun e w' => e = .returned (.tuple #[.int .u16 (65535 - fd (tot ls + tot ld + 17 + (l.length : Int) + tot l)), .nilIface]) ∧ ∃ r, w' = w.drewN r := by
  obtain ⟨cs, sa, sc, da, dc, -, h1, h2, h3, h4, h5, -, -⟩ := hn
  exact compute6_calls V Q sa da sc dc ls ld v l w (cell_of_heap h1 8 _ h2) (cell_of_heap h1 9 _ h3) h4 h5 hV h hl

set_option maxRecDepth 100000 in
set_option maxHeartbeats 4000000 in
theorem network6_calls (a0 : Option Addr) (n0 c0 : Nat) (a1 : Option Addr) (n1 c1 : Nat) (ls ld : List Int) (w : World) (hs : IsB w (.slice a0 n0 c0) ls) (hd : IsB w (.slice a1 n1 c1) ld) (z1 : ls.length = 16) (z2 : ld.length = 16) :
    Calls Try.prog 64 #[.slice a0 n0 c0, .slice a1 n1 c1, .int .u8 17] w fun e w' => ∃ Q, e = .returned (.iface 185 (.pointer (some ⟨Q, 0, none⟩))) ∧ Gr w w' ∧ IsNet6 w' Q ls ld (fun j => j < w.heap.size) := by
  have g0 := fun ty => hs.len (P := Try.prog) 25 ty 5 Try.underlying25
  rw [z1] at g0
  have H1 := Lib.hid hs
  have H2 := Lib.hid hd
  clear hs hd
  go_enter Try.func64, Try.ntmps64
  go_wp2_with (first
      | (go_at_call_of 44 (Value.slice a0 n0 c0); refine (copied_calls _ ls _ (H1.out.gr (by (repeat (with_reducible first | exact Gr.refl _ | assumption | refine Gr.alloc ?_ _ | refine Gr.drew ?_ | refine Gr.drewN ?_ _ | refine Gr.trans ?_ (by assumption))); done)) (by omega)).mono ?_; rintro e w9 ⟨sa, s9, sc, rfl, hoS, hgS⟩; have hbS := hoS.isB; obtain rfl : s9 = 16 := (by rw [hbS.count, z1]))
      | (go_at_call_of 44 (Value.slice a1 n1 c1); refine (copied_calls _ ld _ (H2.out.gr (by (repeat (with_reducible first | exact Gr.refl _ | assumption | refine Gr.alloc ?_ _ | refine Gr.drew ?_ | refine Gr.drewN ?_ _ | refine Gr.trans ?_ (by assumption))); done)) (by omega)).mono ?_; rintro e x9 ⟨da, d9, dc, rfl, hoD, hgD⟩; have hbD := hoD.isB; obtain rfl : d9 = 16 := (by rw [hbD.count, z2])))
  go_ret
  have hss := hgS.size
  have hdd := hgD.size
  exact ⟨x9.heap.size, rfl, (by (repeat (with_reducible first | exact Gr.refl _ | assumption | refine Gr.alloc ?_ _ | refine Gr.drew ?_ | refine Gr.drewN ?_ _ | refine Gr.trans ?_ (by assumption))); done), [.slice none 0 0, .slice none 0 0, .int .u8 0, .int .u8 0, .int .u32 0, .int .u16 0, .int .u8 17, .int .u8 0, .slice sa 16 sc, .slice da 16 dc, .pointer none, .slice none 0 0, .slice none 0 0, .int .u8 0, .int .u8 0, .int .i64 0, .slice none 0 0], sa, sc, da, dc, (by omega), heap_alloc_new x9 (.cells [.slice none 0 0, .slice none 0 0, .int .u8 0, .int .u8 0, .int .u32 0, .int .u16 0, .int .u8 17, .int .u8 0, .slice sa 16 sc, .slice da 16 dc, .pointer none, .slice none 0 0, .slice none 0 0, .int .u8 0, .int .u8 0, .int .i64 0, .slice none 0 0].toArray 187), rfl, rfl, hbS.gr (by (repeat (with_reducible first | exact Gr.refl _ | assumption | refine Gr.alloc ?_ _ | refine Gr.drew ?_ | refine Gr.drewN ?_ _ | refine Gr.trans ?_ (by assumption))); done), hbD.gr (by (repeat (with_reducible first | exact Gr.refl _ | assumption | refine Gr.alloc ?_ _ | refine Gr.drew ?_ | refine Gr.drewN ?_ _ | refine Gr.trans ?_ (by assumption))); done), fun j hj => hoS.aside hj, fun j hj => hoD.aside (by omega)⟩

set_option maxRecDepth 100000 in
set_option maxHeartbeats 2000000 in
theorem setNet6_calls (V Q : Nat) (cs : List Value) (w : World) (hV : Has w V) (hc : 8 < cs.length) :
    Calls Try.prog 63 #[.pointer (some ⟨V, 8, none⟩), .iface 185 (.pointer (some ⟨Q, 0, none⟩))] (rowW w V cs 146) fun e w' => e = .returned .nilIface ∧ w' = rowW w V (cs.set 8 (.iface 185 (.pointer (some ⟨Q, 0, none⟩)))) 146 := by
  have as1 := assert64
  have as2 := assert66
  go_enter Try.func63, Try.ntmps63
  go_wp2_with fail
  go_ret
  exact ⟨rfl, rfl⟩

set_option maxRecDepth 100000 in
set_option maxHeartbeats 2000000 in
theorem mkUDP_calls (s d n c : Int) (w : World) (us : 0 ≤ s ∧ s ≤ 65535) (ud : 0 ≤ d ∧ d ≤ 65535) :
    Calls Try.prog 62 #[.agg #[.int .i64 s, .int .i64 d, .int .i64 n, .int .i64 c]] w fun e w' => ∃ V, e = .returned (.pointer (some ⟨V, 0, none⟩)) ∧ w.heap.size ≤ V ∧ w'.heap[V]? = some (.cells [.slice none 0 0, .slice none 0 0, .int .u16 s, .int .u16 d, .int .u16 0, .int .u16 0, .slice none 0 0, .slice none 0 0, .nilIface].toArray 146 (0, 0)) ∧ Gr w w' := by
  have y0 : IntKind.u16.wrap s = s := by simp [IntKind.wrap, IntKind.bits, IntKind.signed]; omega
  have y1 : IntKind.u16.wrap d = d := by simp [IntKind.wrap, IntKind.bits, IntKind.signed]; omega
  go_enter Try.func62, Try.ntmps62
  go_wp2_with fail
  go_ret
  have h := heap_alloc_new (w.alloc (.cells [.int .i64 s, .int .i64 d, .int .i64 n, .int .i64 c].toArray 59)) (.cells [.slice none 0 0, .slice none 0 0, .int .u16 s, .int .u16 d, .int .u16 0, .int .u16 0, .slice none 0 0, .slice none 0 0, .nilIface].toArray 146)
  rw [World.size_alloc] at h
  exact ⟨w.heap.size + 1, rfl, by omega, h, (by (repeat (with_reducible first | exact Gr.refl _ | assumption | refine Gr.alloc ?_ _ | refine Gr.drew ?_ | refine Gr.drewN ?_ _ | refine Gr.trans ?_ (by assumption))); done)⟩
end Go.Proofs.Ytdpffedmgmllbaa
