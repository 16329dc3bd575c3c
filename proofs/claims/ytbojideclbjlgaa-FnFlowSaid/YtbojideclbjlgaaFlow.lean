/-
  A flow: its hash over bytes.
-/
import Derived.Test.YtbojideclbjlgaaBuf
namespace Go.Proofs.Ytbojideclbjlgaa
open Go.RowKit

/-- one byte more in a hash -/
def fnvStep (h x : Int) : Int := IntKind.u64.wrap (bits .xor .u64 h x * 1099511628211)
/-- the hash of bytes -/
def fnv (l : List Int) : Int := l.foldl fnvStep 14695981039346656037

theorem fnv_snoc {l : List Int} {k : Nat} (h : k < l.length) : (l.take (k + 1)).foldl fnvStep 14695981039346656037 = fnvStep ((l.take k).foldl fnvStep 14695981039346656037) (bt l k) := by
  rw [List.take_succ_eq_append_getElem h, List.foldl_append]
  simp [bt, List.getD, h]

set_option maxRecDepth 100000 in
set_option maxHeartbeats 1000000 in
theorem fnvHash_calls (v : Value) (l : List Int) (w : World) (h : IsB w v l) (hl : l.length ≤ 1000000) :
    Calls Try.prog 94 #[v] w fun e w' => e = .returned (.int .u64 (fnv l)) ∧ w = w' := by
  have hlen := fun ty => h.len (P := Try.prog) 22 ty 5 Try.underlying22
  obtain ⟨i0, hi, hz0, hz1, hz2⟩ := info_parts info_u8
  have HI := Lib.hid (And.intro hi hz1)
  have HH := Lib.hid h
  clear hi hz0 hz1 hz2 h
  go_enter Try.func94, Try.ntmps94
  go_wp2_with fail
  go_loop [2, 3] (fun t i => ∃ (s : Int) (k : Nat), k ≤ l.length ∧ t = .int .u64 s ∧ i = .int .i64 k ∧ s = (l.take k).foldl fnvStep 14695981039346656037) (fun _ i => l.length + 2 - (intOf i).toNat)
  case atStart => exact ⟨_, 0, by omega, rfl, rfl, rfl⟩
  case round =>
    obtain ⟨s, k, hk, rfl, rfl, hs⟩ := hrel
    have HS := Lib.hid hs
    clear hs
    by_cases hlt : k < l.length
    · obtain ⟨b, o, j0, c0, -⟩ := HH.out.idx (P := Try.prog) 22 5 i0 Try.underlying22 HI.out.1 HI.out.2 .i64 k k rfl hlt
      have p0 := HH.out.bytes.bt0 k
      have p1 := HH.out.bytes.bt1 k
      have u0 : IntKind.u64.wrap (bt l k) = bt l k := by simp [IntKind.wrap, IntKind.bits, IntKind.signed]; omega
      go_wp2_with fail
      go_round
      case rel => exact ⟨_, k + 1, by omega, rfl, by go_num, by rw [fnv_snoc hlt, ← HS.out]; simp [fnvStep, IntKind.wrap, IntKind.bits, IntKind.signed]⟩
      case measure => simp [intOf]; omega
    · go_wp2_with fail
      go_ret
      have e : k = l.length := by omega
      have := HS.out
      rw [e, List.take_length] at this
      exact ⟨congrArg (fun x => Ending.returned (.int .u64 x)) this, rfl⟩
/-- sixteen cells that begin with these bytes -/
def arr (l : List Int) : List Value := bcells l ++ zs (16 - l.length)
theorem arr_length {l : List Int} (h : l.length ≤ 16) : (arr l).length = 16 := by simp [arr, zs, bcells_length]; omega
theorem isB_mid {w : World} {b : Nat} {e : TypeId} {p q : List Value} {l : List Int} (h : w.heap[b]? = some (.cells (p ++ (bcells l ++ q)).toArray e (0, 0))) (hb : AllB l) (o c : Nat) (ho : o = p.length) (hc : l.length ≤ c) (hm : c ≤ maxLen) : IsB w (.slice (some ⟨b, o, none⟩) l.length c) l := by
  subst ho
  refine ⟨_, c, rfl, hc, hm, hb, .inr ⟨_, rfl, fun i hi => ⟨rfl, ?_⟩⟩⟩
  simp only [World.cell?, h, Option.isSome_none, Bool.false_eq_true, if_false]
  rw [List.getElem?_toArray, List.getElem?_append_right (by omega), List.getElem?_append_left (by rw [bcells_length]; omega)]
  simp [bcells, hi]
theorem splice_arr (H T : List Value) (l : List Int) (hl : l.length ≤ 16) : splice (H ++ (zs 16 ++ T)) H.length (bcells l) = H ++ (arr l ++ T) := by
  unfold splice arr
  rw [List.take_left, bcells_length, List.drop_append, List.drop_of_length_le (by omega), List.nil_append, show H.length + l.length - H.length = l.length by omega, List.drop_append_of_le_length (by simp [zs]; omega), List.append_assoc]
  congr 3
  unfold zs
  rw [List.drop_replicate]

set_option maxRecDepth 100000 in
set_option maxHeartbeats 2000000 in
theorem newFlow_calls (a1 : Option Addr) (n1 c1 : Nat) (a2 : Option Addr) (n2 c2 : Nat) (l1 l2 : List Int) (w : World) (h1 : IsB w (.slice a1 n1 c1) l1) (h2 : IsB w (.slice a2 n2 c2) l2) (hl : l1.length ≤ 15) (hl2 : l2.length ≤ 15) :
    Calls Try.prog 57 #[.int .i64 7, .slice a1 n1 c1, .slice a2 n2 c2] w fun e w' => ∃ x0 x1 x2 x3 x4 x5 x6 x7 x8 x9 x10 x11 x12 x13 x14 x15 y0 y1 y2 y3 y4 y5 y6 y7 y8 y9 y10 y11 y12 y13 y14 y15, e = .returned (.agg #[.int .i64 7, .int .i64 (n1 : Int), .int .i64 (n2 : Int), x0, x1, x2, x3, x4, x5, x6, x7, x8, x9, x10, x11, x12, x13, x14, x15, y0, y1, y2, y3, y4, y5, y6, y7, y8, y9, y10, y11, y12, y13, y14, y15]) ∧ [x0, x1, x2, x3, x4, x5, x6, x7, x8, x9, x10, x11, x12, x13, x14, x15] = arr l1 ∧ [y0, y1, y2, y3, y4, y5, y6, y7, y8, y9, y10, y11, y12, y13, y14, y15] = arr l2 ∧ Gr w w' := by
  have m1 := h1.count
  have m2 := h2.count
  have d1 : decide ((16 : Int) < (n1 : Int)) = false := by simp; omega
  have d2 : decide ((16 : Int) < (n2 : Int)) = false := by simp; omega
  have H1 := Lib.hid h1
  have H2 := Lib.hid h2
  have M1 := Lib.hid m1
  have M2 := Lib.hid m2
  clear h1 h2 m1 m2
  go_enter Try.func57, Try.ntmps57
  go_wp2_with (first
      | (with_reducible refine wpList_copy_splice rfl (.tmp 25) (.tmp 26) 22 22 rfl 5 Try.underlying22 size_u8 (some ⟨w.heap.size, 3, none⟩) a1 16 16 n1 c1 (by simp [Act.eval]) (by simp [Act.eval]) w.heap.size 3 [.int .i64 7, .int .i64 (n1 : Int), .int .i64 (n2 : Int), .int .u8 0, .int .u8 0, .int .u8 0, .int .u8 0, .int .u8 0, .int .u8 0, .int .u8 0, .int .u8 0, .int .u8 0, .int .u8 0, .int .u8 0, .int .u8 0, .int .u8 0, .int .u8 0, .int .u8 0, .int .u8 0, .int .u8 0, .int .u8 0, .int .u8 0, .int .u8 0, .int .u8 0, .int .u8 0, .int .u8 0, .int .u8 0, .int .u8 0, .int .u8 0, .int .u8 0, .int .u8 0, .int .u8 0, .int .u8 0, .int .u8 0, .int .u8 0] 99 (heap_alloc_new w _) (bcells l1) (by rw [bcells_length]; have := M1.out; simp only [Nat.min_def]; split <;> omega) (fun h0 => ⟨rfl, IsB.src (H1.out.gr ((Gr.refl w).alloc _)) (by rw [bcells_length] at h0; exact h0)⟩) (by simp only [List.length_cons, List.length_nil, bcells_length]; omega) (bcells_one l1) w.heap.size w ((Gr.refl w).alloc _).below (Nat.le_refl _) ?_; intro w4 hg4 hb4; have G4 := gr_of_below hb4; clear hb4)
      | (with_reducible refine wpList_copy_splice rfl (.tmp 29) (.tmp 30) 22 22 rfl 5 Try.underlying22 size_u8 (some ⟨w.heap.size, 19, none⟩) a2 16 16 n2 c2 (by simp [Act.eval]) (by simp [Act.eval]) w.heap.size 19 (splice [.int .i64 7, .int .i64 (n1 : Int), .int .i64 (n2 : Int), .int .u8 0, .int .u8 0, .int .u8 0, .int .u8 0, .int .u8 0, .int .u8 0, .int .u8 0, .int .u8 0, .int .u8 0, .int .u8 0, .int .u8 0, .int .u8 0, .int .u8 0, .int .u8 0, .int .u8 0, .int .u8 0, .int .u8 0, .int .u8 0, .int .u8 0, .int .u8 0, .int .u8 0, .int .u8 0, .int .u8 0, .int .u8 0, .int .u8 0, .int .u8 0, .int .u8 0, .int .u8 0, .int .u8 0, .int .u8 0, .int .u8 0, .int .u8 0] 3 (bcells l1)) 99 hg4.out (bcells l2) (by rw [bcells_length]; have := M2.out; simp only [Nat.min_def]; split <;> omega) (fun h0 => ⟨rfl, IsB.src (H2.out.gr G4) (by rw [bcells_length] at h0; exact h0)⟩) (by have e := length_splice ([.int .i64 7, .int .i64 (n1 : Int), .int .i64 (n2 : Int), .int .u8 0, .int .u8 0, .int .u8 0, .int .u8 0, .int .u8 0, .int .u8 0, .int .u8 0, .int .u8 0, .int .u8 0, .int .u8 0, .int .u8 0, .int .u8 0, .int .u8 0, .int .u8 0, .int .u8 0, .int .u8 0, .int .u8 0, .int .u8 0, .int .u8 0, .int .u8 0, .int .u8 0, .int .u8 0, .int .u8 0, .int .u8 0, .int .u8 0, .int .u8 0, .int .u8 0, .int .u8 0, .int .u8 0, .int .u8 0, .int .u8 0, .int .u8 0] : List Value) 3 (bcells l1) (by simp only [List.length_cons, List.length_nil, bcells_length]; omega); rw [e]; simp only [List.length_cons, List.length_nil, bcells_length]; omega) (bcells_one l2) w.heap.size w G4.below (Nat.le_refl _) ?_; intro w5 hg5 hb5))
  have G5 := gr_of_below hb5
  have hr := hg5.out
  obtain ⟨x0, x1, x2, x3, x4, x5, x6, x7, x8, x9, x10, x11, x12, x13, x14, x15, hx⟩ := len16 (arr_length (l := l1) (by omega))
  obtain ⟨y0, y1, y2, y3, y4, y5, y6, y7, y8, y9, y10, y11, y12, y13, y14, y15, hy⟩ := len16 (arr_length (l := l2) (by omega))
  have e1 : splice [.int .i64 7, .int .i64 (n1 : Int), .int .i64 (n2 : Int), .int .u8 0, .int .u8 0, .int .u8 0, .int .u8 0, .int .u8 0, .int .u8 0, .int .u8 0, .int .u8 0, .int .u8 0, .int .u8 0, .int .u8 0, .int .u8 0, .int .u8 0, .int .u8 0, .int .u8 0, .int .u8 0, .int .u8 0, .int .u8 0, .int .u8 0, .int .u8 0, .int .u8 0, .int .u8 0, .int .u8 0, .int .u8 0, .int .u8 0, .int .u8 0, .int .u8 0, .int .u8 0, .int .u8 0, .int .u8 0, .int .u8 0, .int .u8 0] 3 (bcells l1) = [.int .i64 7, .int .i64 (n1 : Int), .int .i64 (n2 : Int)] ++ (arr l1 ++ zs 16) := by
    have t := splice_arr [.int .i64 7, .int .i64 (n1 : Int), .int .i64 (n2 : Int)] (zs 16) l1 (by omega)
    have hl3 : ([.int .i64 7, .int .i64 (n1 : Int), .int .i64 (n2 : Int)] : List Value).length = 3 := rfl
    have hR : ([.int .i64 7, .int .i64 (n1 : Int), .int .i64 (n2 : Int), .int .u8 0, .int .u8 0, .int .u8 0, .int .u8 0, .int .u8 0, .int .u8 0, .int .u8 0, .int .u8 0, .int .u8 0, .int .u8 0, .int .u8 0, .int .u8 0, .int .u8 0, .int .u8 0, .int .u8 0, .int .u8 0, .int .u8 0, .int .u8 0, .int .u8 0, .int .u8 0, .int .u8 0, .int .u8 0, .int .u8 0, .int .u8 0, .int .u8 0, .int .u8 0, .int .u8 0, .int .u8 0, .int .u8 0, .int .u8 0, .int .u8 0, .int .u8 0] : List Value) = [.int .i64 7, .int .i64 (n1 : Int), .int .i64 (n2 : Int)] ++ (zs 16 ++ zs 16) := by simp [zs, List.replicate]
    rw [hl3] at t
    rw [hR]
    exact t
  have e2 : splice ([.int .i64 7, .int .i64 (n1 : Int), .int .i64 (n2 : Int)] ++ (arr l1 ++ zs 16)) 19 (bcells l2) = [.int .i64 7, .int .i64 (n1 : Int), .int .i64 (n2 : Int), x0, x1, x2, x3, x4, x5, x6, x7, x8, x9, x10, x11, x12, x13, x14, x15, y0, y1, y2, y3, y4, y5, y6, y7, y8, y9, y10, y11, y12, y13, y14, y15] := by
    have t := splice_arr ([.int .i64 7, .int .i64 (n1 : Int), .int .i64 (n2 : Int)] ++ arr l1) [] l2 (by omega)
    have hl3 : ([.int .i64 7, .int .i64 (n1 : Int), .int .i64 (n2 : Int)] ++ arr l1 : List Value).length = 19 := by rw [List.length_append, arr_length (l := l1) (by omega)]; rfl
    rw [hl3, List.append_nil, List.append_nil, List.append_assoc] at t
    rw [t, hx, hy]
    simp
  rw [e1, e2] at hr
  have kF : (Try.prog.info? 99).map (·.size) = some 35 := by kernel_rfl
  exact bodyPost_ret (v := .agg #[.int .i64 7, .int .i64 (n1 : Int), .int .i64 (n2 : Int), x0, x1, x2, x3, x4, x5, x6, x7, x8, x9, x10, x11, x12, x13, x14, x15, y0, y1, y2, y3, y4, y5, y6, y7, y8, y9, y10, y11, y12, y13, y14, y15]) (results_cell_row (P := Try.prog) Try.results57 _ _ w.heap.size 99 _ (0, 0) _ rfl hr Try.underlying99 rfl (by rw [kF]; rfl)) rfl ⟨_, _, _, _, _, _, _, _, _, _, _, _, _, _, _, _, _, _, _, _, _, _, _, _, _, _, _, _, _, _, _, _, rfl, hx.symm, hy.symm, G5⟩
end Go.Proofs.Ytbojideclbjlgaa
