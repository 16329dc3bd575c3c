/-
  The buffer: made, filled behind, opened in front, read.
-/
import Derived.Test.YtdpffedmgmllbaaPut
namespace Go.Proofs.Ytdpffedmgmllbaa
open Go.RowKit

theorem append_method (w : World) (p : Addr) : (method 333 157 (.pointer (some p)) "AppendBytes").run Try.prog w = .ok (115, .pointer (some p)) w := by kernel_rfl
theorem prepend_method (w : World) (p : Addr) : (method 333 157 (.pointer (some p)) "PrependBytes").run Try.prog w = .ok (119, .pointer (some p)) w := by kernel_rfl
theorem bytes_method (w : World) (p : Addr) : (method 333 157 (.pointer (some p)) "Bytes").run Try.prog w = .ok (116, .pointer (some p)) w := by kernel_rfl

set_option maxHeartbeats 400000 in
theorem newBuf_calls (w : World) : Calls Try.prog 50 #[] w fun e w' => e = .returned (.iface 157 (.pointer (some ⟨w.heap.size, 0, none⟩))) ∧ w' = w.alloc (.cells [.slice none 0 0, .int .i64 0, .int .i64 0, .int .i64 0, .slice none 0 0].toArray 160) := by
  go_enter Try.func50, Try.ntmps50
  go_wp2
  go_ret
  exact ⟨rfl, rfl⟩

/-- the bytes of a buffer that begins at its data's beginning -/
theorem cut0 {w : World} {a : Option Addr} {n c : Nat} {l : List Int} (h : IsB w (.slice a n c) l) : ∃ a', IsB w (.slice a' n c) l ∧ (Value.slice a' n c).ownBlock = (Value.slice a n c).ownBlock ∧ ∀ (k : IntKind) (w' : World), (Instr.sliceAt 25 (.slice a n c) (some (.int k 0)) none none).run Try.prog w' = .ok (.slice a' n c) w' := by
  obtain ⟨i, hi, hz0, hz1, hz2⟩ := info_parts info_u8
  obtain rfl := h.count
  obtain ⟨a', n', c', h1, h2, h3⟩ := h.cutL (P := Try.prog) 25 5 i Try.underlying25 hi hz1 0 0 rfl (Nat.zero_le _)
  rw [List.drop_zero] at h1
  obtain rfl := h1.count
  obtain ⟨b, c2, e, -⟩ := id h
  have hE : Try.prog.elem 25 = 5 := by simp [Program.elem, Try.underlying25]
  have hr := h3 .i64 w
  rw [run_sliceAt_slice w 25 _ _ _ _ (by rw [hE]; exact Try.underlying25), run_slice_l w 25 _ _ _ (by rw [hE]; exact Try.underlying25) .i64 0 (by omega) (by omega)] at hr
  simp [sizeOf, typeInfo, hE, hi, hz1, Result.andThen, sliced] at hr
  obtain ⟨-, rfl⟩ := hr
  exact ⟨a', h1, h2, h3⟩

set_option maxRecDepth 100000 in
set_option maxHeartbeats 1000000 in
theorem bytes_calls (P : Nat) (a : Option Addr) (n c : Nat) (p q ly : Value) (l : List Int) (w : World) (hP : w.heap[P]? = some (.cells [.slice a n c, .int .i64 0, p, q, ly].toArray 160 (0, 0))) (h : IsB w (.slice a n c) l) :
    Calls Try.prog 116 #[.pointer (some ⟨P, 0, none⟩)] w fun e w' => ∃ a', e = .returned (.slice a' n c) ∧ IsB w' (.slice a' n c) l ∧ ∃ r, w' = w.drewN r := by
  obtain ⟨a', h', -, hs⟩ := cut0 h
  have c0 := cell_of_heap hP 0 _ rfl
  have c1 := cell_of_heap hP 1 _ rfl
  have HB := Lib.hid h'
  clear h h' hP
  go_enter Try.func116, Try.ntmps116
  go_wp2_with fail
  go_quiet (fail)
  go_wp2
  go_ret
  exact ⟨a', rfl, HB.out, nq, rfl⟩

/-- so many noughts -/
def zs (n : Nat) : List Value := List.replicate n (.int .u8 0)
theorem zs_length (n : Nat) : (zs n).length = n := by simp [zs]
theorem made_zs (n : Nat) : madeCells #[.int .u8 0] n = (zs n).toArray := by
  apply Array.ext_getElem?
  intro i
  simp only [madeCells, zs, Array.getElem?_map, List.getElem?_toArray, List.getElem?_replicate]
  by_cases h : i < n
  · simp [h, Nat.mod_one]
  · simp [h]
theorem make_zs (n : Nat) (hn : n ≤ 281474976710656) (w : World) : (Instr.makeSlice 25 (.int .i64 (n : Int)) (.int .i64 (n : Int))).run Try.prog w = .ok (.slice (some ⟨w.heap.size, 0, none⟩) n n) (w.alloc (.cells (zs n).toArray 5)) := by
  rw [run_make_row' (P := Try.prog) 25 5 (.int .u8 0) 1 Try.underlying25 info_u8 rfl .i64 .i64 n (by omega) (by omega) w, made_zs]
theorem nil_l (k : IntKind) (w : World) : (Instr.sliceAt 25 (.slice none 0 0) (some (.int k 0)) none none).run Try.prog w = .ok (.slice none 0 0) w := by
  obtain ⟨i, hi, hz0, hz1, hz2⟩ := info_parts info_u8
  have hE : Try.prog.elem 25 = 5 := by simp [Program.elem, Try.underlying25]
  rw [run_sliceAt_slice w 25 _ _ _ _ (by rw [hE]; exact Try.underlying25), run_slice_l w 25 _ _ _ (by rw [hE]; exact Try.underlying25) k 0 (by omega) (by omega)]
  simp [sizeOf, typeInfo, hE, hi, hz1, Result.andThen, sliced]
theorem nil_h (k : IntKind) (w : World) : (Instr.sliceAt 25 (.slice none 0 0) none (some (.int k 0)) none).run Try.prog w = .ok (.slice none 0 0) w := by
  obtain ⟨i, hi, hz0, hz1, hz2⟩ := info_parts info_u8
  have hE : Try.prog.elem 25 = 5 := by simp [Program.elem, Try.underlying25]
  rw [run_sliceAt_slice w 25 _ _ _ _ (by rw [hE]; exact Try.underlying25), run_slice_h w 25 _ _ _ (by rw [hE]; exact Try.underlying25) k 0 (by omega) (by omega)]
  simp [sizeOf, typeInfo, hE, hi, hz1, Result.andThen, sliced]
theorem row_turn {w0 wC : World} {P : Nat} {c0 c1 c2 : List Value} {e : TypeId} (h : Gr (rowW w0 P c1 e) (rowW wC P c1 e)) : (rowW w0 P c0 e).grownBy (rowW wC P c2 e) (some P) := by
  refine ⟨h.os, h.tape, h.output, ?_, fun k hk hr => ?_⟩
  · have := h.size; rwa [rowW_size, rowW_size] at this ⊢
  · have hkP : k ≠ P := fun e => hr (by rw [e])
    have := h.block k (by rw [rowW_size] at hk ⊢; exact hk) (by simp)
    rwa [rowW_other hkP, rowW_other hkP] at this ⊢

set_option maxRecDepth 100000 in
set_option maxHeartbeats 1000000 in
theorem append0_calls (P : Nat) (w : World) (hP : w.heap[P]? = some (.cells [.slice none 0 0, .int .i64 0, .int .i64 0, .int .i64 0, .slice none 0 0].toArray 160 (0, 0))) :
    Calls Try.prog 115 #[.pointer (some ⟨P, 0, none⟩), .int .i64 0] w fun e w' => e = .returned (.tuple #[.slice none 0 0, .nilIface]) ∧ w' = w := by
  obtain ⟨w0, rfl⟩ : ∃ w0, w = rowW w0 P [.slice none 0 0, .int .i64 0, .int .i64 0, .int .i64 0, .slice none 0 0] 160 := ⟨w, (rowW_self hP).symm⟩
  have hd : Has w0 P := by unfold Has; rw [← rowW_size (cs := [.slice none 0 0, .int .i64 0, .int .i64 0, .int .i64 0, .slice none 0 0]) (e := 160) (D := P)]; exact (Array.getElem?_eq_some_iff.1 hP).1
  clear hP
  have s1 := nil_l
  have s2 := nil_h
  go_enter Try.func115, Try.ntmps115
  go_wp2_with fail
  exact bodyPost_ret (v := .tuple #[.slice none 0 0, .nilIface]) (by simp [results, Try.results115, go_sem]) rfl ⟨rfl, rfl⟩

set_option maxRecDepth 100000 in
set_option maxHeartbeats 2000000 in
theorem appendN_calls (P n : Nat) (w : World) (hP : w.heap[P]? = some (.cells [.slice none 0 0, .int .i64 0, .int .i64 0, .int .i64 0, .slice none 0 0].toArray 160 (0, 0))) (hn0 : 0 < n) (hn : n ≤ 1000000) :
    Calls Try.prog 115 #[.pointer (some ⟨P, 0, none⟩), .int .i64 (n : Int)] w fun e w' => e = .returned (.tuple #[.slice (some ⟨w.heap.size, 0, none⟩) n n, .nilIface]) ∧
      w.grownBy w' (some P) ∧ w'.heap[P]? = some (.cells [.slice (some ⟨w.heap.size, 0, none⟩) n n, .int .i64 0, .int .i64 0, .int .i64 (n : Int), .slice none 0 0].toArray 160 (0, 0)) ∧
      w'.heap[w.heap.size]? = some (.cells (zs n).toArray 5 (0, 0)) := by
  obtain ⟨w0, rfl⟩ : ∃ w0, w = rowW w0 P [.slice none 0 0, .int .i64 0, .int .i64 0, .int .i64 0, .slice none 0 0] 160 := ⟨w, (rowW_self hP).symm⟩
  have hd : Has w0 P := by unfold Has; rw [← rowW_size (cs := [.slice none 0 0, .int .i64 0, .int .i64 0, .int .i64 0, .slice none 0 0]) (e := 160) (D := P)]; exact (Array.getElem?_eq_some_iff.1 hP).1
  clear hP
  rw [rowW_size]
  have hPN : w0.heap.size ≠ P := fun h => by have : P < w0.heap.size := hd; omega
  obtain ⟨i, hi, hz0, hz1, hz2⟩ := info_parts info_u8
  have s1 := nil_l
  have s2 := fun k w => at_l (P := Try.prog) 25 5 i Try.underlying25 hi hz1 w0.heap.size 0 n n 0 n n 0 0 rfl (by omega) (by omega) (by omega) hn0 rfl k w
  have s3 := fun k w => at_h (P := Try.prog) 25 5 i Try.underlying25 hi hz1 w0.heap.size 0 n n 0 0 rfl (by omega) k w
  have s4 := fun k w => at_h (P := Try.prog) 25 5 i Try.underlying25 hi hz1 w0.heap.size 0 0 n n (n : Int) rfl (by omega) k w
  have hmk := make_zs n (by omega)
  have d0 : decide ((n : Int) < 0) = false := by simp
  have d1 : decide ((0 : Int) < (n : Int)) = true := by simp; omega
  have u0 : IntKind.i64.wrap (n : Int) = (n : Int) := w64 (by omega) (by omega)
  clear hi hz0 hz1 hz2
  go_enter Try.func115, Try.ntmps115
  go_wp2_with fail
  have hz : (rowW (w0.alloc (.cells (zs n).toArray 5)) P [.slice none 0 0, .int .i64 0, .int .i64 0, .int .i64 (n : Int), .slice none 0 0] 160).heap[w0.heap.size]? = some (.cells (zs n).toArray 5 (0, 0)) := by
    rw [rowW_other hPN]; exact heap_alloc_new w0 _
  have hG0 : Gr (rowW w0 P [.slice none 0 0, .int .i64 0, .int .i64 0, .int .i64 (n : Int), .slice none 0 0] 160) (rowW (w0.alloc (.cells (zs n).toArray 5)) P [.slice none 0 0, .int .i64 0, .int .i64 0, .int .i64 (n : Int), .slice none 0 0] 160).drew := by
    rw [← rowW_alloc hd]; exact ((Gr.refl _).alloc _).drew
  go_region_law (refine step_copy_splice rfl (.tmp 55) (.tmp 64) 25 25 rfl 5 Try.underlying25 size_u8 (some ⟨w0.heap.size, 0, none⟩) none n n 0 0 (by simp [Act.eval, Act.put]) (by simp [Act.eval, Act.put]) w0.heap.size 0 (zs n) 5 hz [] (by simp) (fun h => absurd h (by simp)) (by simp) (by simp) (rowW w0 P [.slice none 0 0, .int .i64 0, .int .i64 0, .int .i64 (n : Int), .slice none 0 0] 160).heap.size (rowW w0 P [.slice none 0 0, .int .i64 0, .int .i64 0, .int .i64 (n : Int), .slice none 0 0] 160) hG0.below (by rw [rowW_size]; exact Nat.le_refl _) ?_; intro w4 hg4 hb4)
  all_goals
    have G4 := gr_of_below hb4
    clear hb4 hz hG0
    obtain ⟨wC, hdC, rfl⟩ := G4.rowOut hd
    go_wp2_with fail
    exact bodyPost_ret (v := .tuple #[.slice (some ⟨w0.heap.size, 0, none⟩) n n, .nilIface]) (by simp [results, Try.results115, go_sem]) rfl ⟨rfl, row_turn G4, rowW_heap hdC, by have h := hg4.out; rw [rowW_other hPN] at h ⊢; simpa [splice] using h⟩

/-- the part behind a place, at the end too -/
theorem at_l0 {b n c j0 n' : Nat} (zl : Int) (hz : zl = j0) (hn : n = j0 + n') (hc : c = j0 + n') : ∃ dp : Option Addr, (0 < n' → dp = some ⟨b, j0, none⟩) ∧
    ∀ (k : IntKind) (w : World), (Instr.sliceAt 25 (.slice (some ⟨b, 0, none⟩) n c) (some (.int k zl)) none none).run Try.prog w = .ok (.slice dp n' n') w := by
  obtain ⟨i, hi, hz0, hz1, hz2⟩ := info_parts info_u8
  by_cases h : 0 < n'
  · exact ⟨some ⟨b, j0, none⟩, fun _ => rfl, fun k w => at_l (P := Try.prog) 25 5 i Try.underlying25 hi hz1 b 0 n c j0 n' n' j0 zl hz hn hc (by omega) h (by omega) k w⟩
  · obtain rfl : n' = 0 := by omega
    subst hz
    obtain hn' : n = j0 := by omega
    obtain hc' : c = j0 := by omega
    rw [hn', hc']
    refine ⟨some ⟨b, 0, none⟩, fun h => absurd h (by omega), fun k w => ?_⟩
    have hE : Try.prog.elem 25 = 5 := by simp [Program.elem, Try.underlying25]
    rw [run_sliceAt_slice w 25 _ _ _ _ (by rw [hE]; exact Try.underlying25), run_slice_l w 25 _ _ _ (by rw [hE]; exact Try.underlying25) k j0 (by omega) (by omega)]
    simp [sizeOf, typeInfo, hE, hi, hz1, Result.andThen, sliced]
theorem splice_zs (k n : Nat) (cs : List Value) (h : cs.length = n) : splice (zs (n + k)) k cs = zs k ++ cs := by
  subst h
  simp [splice, zs, Nat.add_comm]

set_option maxRecDepth 100000 in
set_option maxHeartbeats 2000000 in
theorem prep_calls (P k : Nat) (a : Option Addr) (n : Nat) (q ly : Value) (l : List Int) (w : World) (hP : w.heap[P]? = some (.cells [.slice a n n, .int .i64 0, .int .i64 0, q, ly].toArray 160 (0, 0))) (h : IsB w (.slice a n n) l) (hne : (Value.slice a n n).ownBlock ≠ some P) (hk0 : 0 < k) (hk : k ≤ 1000000) (hn : n ≤ 1000000) :
    Calls Try.prog 119 #[.pointer (some ⟨P, 0, none⟩), .int .i64 (k : Int)] w fun e w' => e = .returned (.tuple #[.slice (some ⟨w.heap.size, 0, none⟩) k (n + k), .nilIface]) ∧
      w.grownBy w' (some P) ∧ w'.heap[P]? = some (.cells [.slice (some ⟨w.heap.size, 0, none⟩) (n + k) (n + k), .int .i64 0, .int .i64 (k : Int), q, ly].toArray 160 (0, 0)) ∧
      w'.heap[w.heap.size]? = some (.cells (zs k ++ bcells l).toArray 5 (0, 0)) := by
  obtain ⟨w0, rfl⟩ : ∃ w0, w = rowW w0 P [.slice a n n, .int .i64 0, .int .i64 0, q, ly] 160 := ⟨w, (rowW_self hP).symm⟩
  have hd : Has w0 P := by unfold Has; rw [← rowW_size (cs := [.slice a n n, .int .i64 0, .int .i64 0, q, ly]) (e := 160) (D := P)]; exact (Array.getElem?_eq_some_iff.1 hP).1
  clear hP
  replace h := h.unrow hne
  have hnl := h.count
  rw [rowW_size]
  have hPN : w0.heap.size ≠ P := fun h => by have : P < w0.heap.size := hd; omega
  obtain ⟨i, hi, hz0, hz1, hz2⟩ := info_parts info_u8
  obtain ⟨a', h', ho', s1⟩ := cut0 h
  rw [← ho'] at hne
  obtain ⟨N, hN⟩ : ∃ N, N = n + k := ⟨_, rfl⟩
  have hNi : (N : Int) = (n : Int) + (k : Int) := by omega
  have hlen : (bcells l).length = n := by rw [bcells_length]; omega
  obtain ⟨dp, hdp, s2⟩ := at_l0 (b := w0.heap.size) (n := N) (c := N) (j0 := k) (n' := n) (k : Int) rfl (by omega) (by omega)
  have s3 := fun K w => at_h (P := Try.prog) 25 5 i Try.underlying25 hi hz1 w0.heap.size 0 N N N ((k : Int) + (n : Int)) (by omega) (Nat.le_refl _) K w
  have s4 := fun K K' w => at_lh (P := Try.prog) 25 5 i Try.underlying25 hi hz1 w0.heap.size 0 N N 0 k k N 0 0 (k : Int) rfl rfl (by omega) (Nat.le_refl _) (by omega) (by omega) (by omega) rfl K K' w
  have hmk := make_zs N (by omega)
  rw [hNi] at hmk
  have d0 : decide ((k : Int) < 0) = false := by simp
  have d1 : decide ((0 : Int) < (k : Int)) = true := by simp; omega
  have u0 : IntKind.i64.wrap (k : Int) = (k : Int) := w64 (by omega) (by omega)
  have u1 : IntKind.i64.wrap ((n : Int) + (k : Int)) = (n : Int) + (k : Int) := w64 (by omega) (by omega)
  have u2 : IntKind.i64.wrap ((k : Int) + (n : Int)) = (k : Int) + (n : Int) := w64 (by omega) (by omega)
  have HH := Lib.hid h'
  have HL := Lib.hid hnl
  have HN := Lib.hid hN
  clear hi hz0 hz1 hz2 h h' ho' hnl hN hNi
  go_enter Try.func119, Try.ntmps119
  go_wp2_with fail
  have hz : (rowW (w0.alloc (.cells (zs N).toArray 5)) P [.slice a n n, .int .i64 0, .int .i64 (k : Int), q, ly] 160).heap[w0.heap.size]? = some (.cells (zs N).toArray 5 (0, 0)) := by
    rw [rowW_other hPN]; exact heap_alloc_new w0 _
  have hG0 : Gr (rowW w0 P [.slice a n n, .int .i64 0, .int .i64 (k : Int), q, ly] 160) (rowW (w0.alloc (.cells (zs N).toArray 5)) P [.slice a n n, .int .i64 0, .int .i64 (k : Int), q, ly] 160).drew := by
    rw [← rowW_alloc hd]; exact ((Gr.refl _).alloc _).drew
  have hS : IsB (rowW (w0.alloc (.cells (zs N).toArray 5)) P [.slice a n n, .int .i64 0, .int .i64 (k : Int), q, ly] 160).drew (.slice a' n n) l := ((HH.out.gr ((Gr.refl _).alloc _)).rowW hne).drew
  have hsrc : 0 < (bcells l).length → dp = some ⟨w0.heap.size, k, none⟩ ∧ ∃ ad, a' = some ad ∧ ∀ j v, (bcells l)[j]? = some v → (rowW (w0.alloc (.cells (zs N).toArray 5)) P [.slice a n n, .int .i64 0, .int .i64 (k : Int), q, ly] 160).drew.cell? (ad.add j) = some v :=
    fun h0 => ⟨hdp (by omega), hS.src (by rw [bcells_length] at h0; exact h0)⟩
  go_region_law (refine step_copy_splice rfl (.tmp 52) (.tmp 61) 25 25 rfl 5 Try.underlying25 size_u8 dp a' n n n n (by simp [Act.eval, Act.put]) (by simp [Act.eval, Act.put]) w0.heap.size k (zs N) 5 hz (bcells l) (by rw [hlen]; exact (Nat.min_self n).symm) hsrc (by rw [zs_length, hlen]; have := HN.out; omega) (bcells_one l) (rowW w0 P [.slice a n n, .int .i64 0, .int .i64 (k : Int), q, ly] 160).heap.size (rowW w0 P [.slice a n n, .int .i64 0, .int .i64 (k : Int), q, ly] 160) hG0.below (by rw [rowW_size]; exact Nat.le_refl _) ?_; intro w4 hg4 hb4)
  all_goals
    have G4 := gr_of_below hb4
    clear hb4 hz hG0 hS hsrc
    obtain ⟨wC, hdC, rfl⟩ := G4.rowOut hd
    go_wp2_with fail
    go_quiet (fail)
    go_wp2
    have hrow := hg4.out
    rw [HN.out, splice_zs _ _ _ hlen] at hrow
    rw [rowW_other hPN] at hrow
    refine bodyPost_ret (v := .tuple #[.slice (some ⟨w0.heap.size, 0, none⟩) k N, .nilIface]) (by simp [results, Try.results119, go_sem]) rfl ?_
    rw [rowW_drewN]
    refine ⟨by rw [HN.out], row_turn (wC := wC.drewN nq) (show Gr (rowW w0 P [.slice a n n, .int .i64 0, .int .i64 (k : Int), q, ly] 160) (rowW (wC.drewN nq) P [.slice a n n, .int .i64 0, .int .i64 (k : Int), q, ly] 160) from G4.drewN nq), by rw [← HN.out]; exact rowW_heap (w := wC.drewN nq) (show Has (wC.drewN nq) P from hdC), ?_⟩
    rw [rowW_other (w := wC.drewN nq) hPN]
    exact hrow

end Go.Proofs.Ytdpffedmgmllbaa
