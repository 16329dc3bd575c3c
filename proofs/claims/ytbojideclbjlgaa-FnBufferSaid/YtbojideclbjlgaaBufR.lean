/-
  Steps over a buffer, as the program takes them.
-/
import Derived.Test.YtbojideclbjlgaaBufL
import Derived.Test.YtbojideclbjlgaaBuf2
namespace Go.Proofs.Ytbojideclbjlgaa
open Go.RowKit

theorem make_zs2 (n c : Nat) (hn : n ≤ c) (hc : c ≤ 281474976710656) (w : World) : (Instr.makeSlice 22 (.int .i64 (n : Int)) (.int .i64 (c : Int))).run Try.prog w = .ok (.slice (some ⟨w.heap.size, 0, none⟩) n c) (w.alloc (.cells (zs c).toArray 5)) := by
  obtain ⟨i, hi, hz0, hz1, hz2⟩ := info_parts info_u8
  have hb : (i.bytes : Int) * (c : Int) ≤ 281474976710656 := by rw [hz2]; omega
  have hr := run_make (P := Try.prog) w 22 5 i (.int .u8 0) Try.underlying22 hi hz0 .i64 .i64 n c (by omega) (by omega) hb (by omega)
  simp only [Int.toNat_natCast] at hr
  rw [hr, hz1, Nat.mul_one, show (Value.int .u8 0).cells = #[.int .u8 0] from rfl, made_zs]

theorem Buf.gr {w w' : World} {B P s p q : Nat} {l : List Int} (h : Buf w B P s p q l) (hg : Gr w w') : Buf w' B P s p q l := by
  obtain ⟨N, row, b1, b2, b3, b4, b5, b6⟩ := h
  exact ⟨N, row, b1, b2, b3, heap_gr hg b4, heap_gr hg b5, b6⟩
theorem Buf.lt {w : World} {B P s p q : Nat} {l : List Int} (h : Buf w B P s p q l) : P < w.heap.size := by
  obtain ⟨N, row, b1, b2, b3, b4, b5, b6⟩ := h
  exact (Array.getElem?_eq_some_iff.1 b4).1
theorem Buf.base {w : World} {B P s p q : Nat} {l : List Int} (h : Buf w B P s p q l) : B ≤ P := by
  obtain ⟨N, row, b1, b2, b3, b4, b5, b6⟩ := h
  exact b1

set_option maxRecDepth 100000 in
set_option maxHeartbeats 1000000 in
theorem newSized_calls (x y : Nat) (w : World) (hx : x ≤ 1000) (hy : y ≤ 1000) : Calls Try.prog 65 #[.int .i64 (x : Int), .int .i64 (y : Int)] w fun e w' => e = .returned (.iface 179 (.pointer (some ⟨w.heap.size + 1, 0, none⟩))) ∧ Gr w w' ∧ Buf w' w.heap.size (w.heap.size + 1) x x y [] := by
  have hmk := make_zs2 x (x + y) (by omega) (by omega)
  have e0 : ((x + y : Nat) : Int) = (x : Int) + (y : Int) := by omega
  rw [e0] at hmk
  clear e0
  have u0 : IntKind.i64.wrap ((x : Int) + (y : Int)) = (x : Int) + (y : Int) := w64 (by omega) (by omega)
  go_enter Try.func65, Try.ntmps65
  go_wp2_with fail
  go_ret
  have hP := heap_alloc_new (w.alloc (.cells (zs (x + y)).toArray 5)) (.cells #[.slice (some ⟨w.heap.size, 0, none⟩) x (x + y), .int .i64 (x : Int), .int .i64 (x : Int), .int .i64 (y : Int), .slice none 0 0] 182)
  rw [World.size_alloc] at hP
  refine ⟨rfl, ((Gr.refl w).alloc _).alloc _, w.heap.size, zs (x + y), Nat.le_succ _, Nat.le_refl _, by omega, hP, heap_gr ((Gr.refl _).alloc _) (heap_alloc_new w _), zs_length _, fun i hi => absurd hi (by simp), allB_nil, Nat.le_refl _, by simp, by simp⟩

/-- what holds ahead of a round -/
def RunRel (w : World) (P : Nat) (os : List Step) (i : Value) (wr : World) : Prop :=
  ∃ (k s p q : Nat) (l : List Int), k ≤ os.length ∧ i = .int .i64 k ∧ l = stepsB (os.take k) ∧ Buf wr w.heap.size P s p q l ∧ p ≤ 50000 ∧ q ≤ 50000 ∧ Gr w wr

theorem room_row {w : World} {B P N : Nat} {row : List Value} {o k s p q : Nat} {pre post : List Int} (h : Room w B P N row o k s p q pre post) : w.heap[N]? = some (.cells row.toArray 5 (0, 0)) ∧ o + k ≤ row.length ∧ B ≤ N := by
  obtain ⟨h1, h2, h3, h4, h5, h6, h7, h8, h9, h10, h11, h12, h13, h14⟩ := h
  exact ⟨h6, by omega, h2⟩

set_option maxRecDepth 100000 in
set_option maxHeartbeats 4000000 in
theorem buffered_calls (v : Value) (os : List Step) (x y : Nat) (w : World) (h : IsSteps w v os) (hn : os.length ≤ 100) (hd : ∀ x ∈ os, x.data.length ≤ 200 ∧ (x.kind ≠ 0 → x.kind ≠ 1 → x.data = [])) (hx : x ≤ 1000) (hy : y ≤ 1000) : Calls Try.prog 18 #[v, .int .i64 (x : Int), .int .i64 (y : Int)] w (RetB w (stepsB os)) := by
  have hlen := h.len
  have H := Lib.hid h
  have HD := Lib.hid hd
  have ma := append_method
  have mp := prepend_method
  have mb := bytes_method
  have mc := clear_method
  clear h hd
  go_enter Try.func18, Try.ntmps18
  go_wp2_with (go_at_call 65; refine (newSized_calls x y _ hx hy).mono ?_; rintro e w1 ⟨rfl, hg1, hB1⟩)
  obtain ⟨P, hP⟩ : ∃ P, P = w.heap.size + 1 := ⟨_, rfl⟩
  rw [← hP] at hB1 ⊢
  have hPw : w.heap.size ≤ P := by omega
  clear hP
  go_loopw [17] (RunRel w P os) (fun i _ => os.length - (intOf i).toNat)
  case atStart => exact ⟨0, x, x, y, [], Nat.zero_le _, rfl, rfl, hB1, by omega, by omega, hg1⟩
  case round =>
    obtain ⟨k, s, p, q, l, hk, rfl, hl, hB, hp, hq, hg⟩ := hrel
    have HB := Lib.hid hB
    clear hB hB1 hg1
    by_cases hlt : k < os.length
    · obtain ⟨b, o, ix, hxx⟩ := H.out.idx .i64 k k rfl hlt
      have hs := steps_snoc hlt
      have hdk := HD.out _ (step_mem hlt)
      have hl1 := steps_len (fun x hx => (HD.out x hx).1) k hk
      rw [← hl] at hs hl1
      obtain ⟨xx, hxe⟩ : ∃ x, x = os.getD k Step.zero := ⟨_, rfl⟩
      rw [← hxe] at hxx hs hdk
      clear hxe
      have HS := Lib.hid hs
      clear hs hl
      obtain ⟨kd, d⟩ := xx
      obtain ⟨-, c0, a, n, c, c1, hI⟩ := hxx
      obtain ⟨hdk, hd0⟩ := hdk
      have c0 := hg.cell c0
      have c1 := hg.cell c1
      simp only at c0 c1 hdk hI hd0
      obtain rfl := hI.count
      have HD0 := Lib.hid hd0
      have HI := Lib.hid hI
      clear hd0 hI
      have hsz := hg.size
      have hPl := HB.out.lt
      have hmin : d.length = Nat.min d.length d.length := (Nat.min_self _).symm
      have HM := Lib.hid hmin
      clear hmin
      by_cases k0 : kd = 0
      · have e0 : (kd == 0) = true := by simp [k0]
        have hst : stepsB (os.take (k + 1)) = d ++ l := by rw [HS.out]; simp [bstep, k0]
        have HT := Lib.hid hst
        clear hst k0
        go_wp2_with (first
          | (go_at_call 160; refine (prepB_calls w.heap.size P s p q d.length l _ (HB.out.gr ((Gr.refl wr).alloc _)) hp hq (by omega) (by omega) (by rw [World.size_alloc]; omega)).mono ?_; rintro e w2 ⟨a2, c2, N2, row2, o2, p2, rfl, ha2, hg2, hr2, hp2⟩; have HG2 := Lib.hid hg2; have HR2 := Lib.hid hr2; have HA2 := Lib.hid ha2; have cD := World.grownBy.cell hg2 (a := ⟨wr.heap.size, 1, none⟩) (cell_of_heap (cs := [.int .i64 kd, .slice a d.length c]) (heap_alloc_new wr _) 1 _ rfl) (by simp; omega); clear hg2 hr2 ha2)
          | (with_reducible refine wpList_copy_grown rfl (.tmp 47) (.tmp 49) 22 22 rfl 5 Try.underlying22 size_u8 a2 a d.length c2 d.length c (by simp [Act.eval]) (by simp [Act.eval]) N2 o2 row2 5 (room_row HR2.out).1 (bcells d) (by rw [bcells_length]; exact HM.out) (fun h0 => by rw [bcells_length] at h0; exact ⟨HA2.out h0, (((HI.out.gr hg).gr ((Gr.refl wr).alloc _)).kept HG2.out (.inr (HI.out.old h0 hPw))).src h0⟩) (by rw [bcells_length]; exact (room_row HR2.out).2.1) (bcells_one d) ?_; intro w4 hg4 hb4))
        have hF := HR2.out.fill HI.out.bytes rfl hg4.out hb4
        have hGG : Gr w w4 := ((hg.alloc _).step HG2.out hPw).step hb4 (room_row HR2.out).2.2
        clear hb4 hg4
        go_roundw
        case rel => exact ⟨k + 1, o2, p2, q, d ++ l, by omega, by go_num, HT.out.symm, hF, hp2, hq, hGG⟩
        case measure => simp [intOf]; omega
      · by_cases k1 : kd = 1
        · have e0 : (kd == 0) = false := by simp [k0]
          have e1 : (kd == 1) = true := by simp [k1]
          have hst : stepsB (os.take (k + 1)) = l ++ d := by rw [HS.out]; simp [bstep, k1]
          have HT := Lib.hid hst
          clear hst k0 k1
          go_wp2_with (first
            | (go_at_call 156; refine (appB_calls w.heap.size P s p q d.length l _ (HB.out.gr ((Gr.refl wr).alloc _)) hp hq (by omega) (by omega) (by rw [World.size_alloc]; omega)).mono ?_; rintro e w2 ⟨a2, c2, N2, row2, q2, rfl, ha2, hg2, hr2, hq2⟩; have HG2 := Lib.hid hg2; have HR2 := Lib.hid hr2; have HA2 := Lib.hid ha2; have cD := World.grownBy.cell hg2 (a := ⟨wr.heap.size, 1, none⟩) (cell_of_heap (cs := [.int .i64 kd, .slice a d.length c]) (heap_alloc_new wr _) 1 _ rfl) (by simp; omega); clear hg2 hr2 ha2)
            | (with_reducible refine wpList_copy_grown rfl (.tmp 47) (.tmp 49) 22 22 rfl 5 Try.underlying22 size_u8 a2 a d.length c2 d.length c (by simp [Act.eval]) (by simp [Act.eval]) N2 (s + l.length) row2 5 (room_row HR2.out).1 (bcells d) (by rw [bcells_length]; exact HM.out) (fun h0 => by rw [bcells_length] at h0; exact ⟨HA2.out h0, (((HI.out.gr hg).gr ((Gr.refl wr).alloc _)).kept HG2.out (.inr (HI.out.old h0 hPw))).src h0⟩) (by rw [bcells_length]; exact (room_row HR2.out).2.1) (bcells_one d) ?_; intro w4 hg4 hb4))
          have hF := HR2.out.fill HI.out.bytes rfl hg4.out hb4
          have hGG : Gr w w4 := ((hg.alloc _).step HG2.out hPw).step hb4 (room_row HR2.out).2.2
          clear hb4 hg4
          rw [List.append_nil] at hF
          go_roundw
          case rel => exact ⟨k + 1, s, p, q2, l ++ d, by omega, by go_num, HT.out.symm, hF, hp, hq2, hGG⟩
          case measure => simp [intOf]; omega
        · have e0 : (kd == 0) = false := by simp [k0]
          have e1 : (kd == 1) = false := by simp [k1]
          have hst : stepsB (os.take (k + 1)) = [] := by rw [HS.out]; simp [bstep, k0, k1]
          obtain rfl := HD0.out k0 k1
          have HT := Lib.hid hst
          clear hst k0 k1
          go_wp2_with (first
            | (go_at_call 158; refine (clear_calls w.heap.size P s p q l _ (HB.out.gr ((Gr.refl wr).alloc _)) (by omega) (by omega)).mono ?_; rintro e w2 ⟨rfl, hg2, hr2⟩; have HG2 := Lib.hid hg2; have HR2 := Lib.hid hr2; have cD := World.grownBy.cell hg2 (a := ⟨wr.heap.size, 1, none⟩) (cell_of_heap (cs := [.int .i64 kd, .slice a 0 c]) (heap_alloc_new wr _) 1 _ rfl) (by simp; omega); clear hg2 hr2)
            | (with_reducible refine wpList_copy_nothing rfl (.tmp 47) (.tmp 49) 22 22 rfl 5 Try.underlying22 size_u8 none a 0 0 0 c (by simp [Act.eval]) (by simp [Act.eval]) rfl ?_))
          have hGG : Gr w w2 := (hg.alloc _).step HG2.out hPw
          go_roundw
          case rel => exact ⟨k + 1, p, p, q, [], by omega, by go_num, HT.out.symm, HR2.out, hp, hq, hGG⟩
          case measure => simp [intOf]; omega
    · have e : k = os.length := by omega
      rw [e, List.take_length] at hl
      have hll := steps_len (fun x hx => (HD.out x hx).1) os.length (Nat.le_refl _)
      rw [List.take_length, ← hl] at hll
      clear e
      have HL := Lib.hid hl
      clear hl
      go_wp2_with (first
        | (go_at_call 157; refine (bufBytes_calls w.heap.size P s p q l _ HB.out (by omega) (by omega)).mono ?_; rintro e w2 ⟨a2, c2, rfl, hI2, r, rfl⟩)
        | (go_at_call 58; refine (copied_calls _ l _ hI2 (by omega)).mono ?_; rintro e w3 ⟨_, _, _, rfl, ho3, hg3⟩))
      go_ret
      rw [← HL.out]
      exact RetB.after (hg.drewN r) ho3 hg3

end Go.Proofs.Ytbojideclbjlgaa
