/-
  A flow: its ends' bytes.
-/
import Derived.Test.YtbojideclbjlgaaFlow
import Derived.Deep.RegionHeld3
namespace Go.Proofs.Ytbojideclbjlgaa
open Go.RowKit

set_option maxRecDepth 100000 in
set_option maxHeartbeats 2000000 in
theorem raw_calls (n : Nat) (x0 x1 x2 x3 x4 x5 x6 x7 x8 x9 x10 x11 x12 x13 x14 x15 : Value) (l : List Int) (w : World) (hx : [x0, x1, x2, x3, x4, x5, x6, x7, x8, x9, x10, x11, x12, x13, x14, x15] = arr l) (hn : n = l.length) (hb : AllB l) (hl : l.length ≤ 15) :
    Calls Try.prog 61 #[.agg #[.int .i64 7, .int .i64 (n : Int), x0, x1, x2, x3, x4, x5, x6, x7, x8, x9, x10, x11, x12, x13, x14, x15]] w fun e w' => ∃ a c, e = .returned (.slice a n c) ∧ IsB w' (.slice a n c) l ∧ Gr w w' := by
  have h16 : (n : Int) ≤ 16 := by omega
  have h0 : (0 : Int) ≤ (n : Int) := by omega
  have HX := Lib.hid hx
  have HN := Lib.hid hn
  clear hx hn
  go_enter Try.func61, Try.ntmps61
  go_wp2_with fail
  go_ret
  have hB : IsB (w.alloc (.cells (([.int .i64 7, .int .i64 (n : Int)] : List Value) ++ (bcells l ++ zs (16 - l.length))).toArray 104)) (.slice (some ⟨w.heap.size, 2, none⟩) l.length 16) l := isB_mid (heap_alloc_new w _) hb 2 16 rfl (by omega) (by unfold maxLen; omega)
  have e : ([.int .i64 7, .int .i64 (n : Int)] ++ (bcells l ++ zs (16 - l.length)) : List Value) = [.int .i64 7, .int .i64 (n : Int), x0, x1, x2, x3, x4, x5, x6, x7, x8, x9, x10, x11, x12, x13, x14, x15] := by
    have := HX.out
    unfold arr at this
    rw [← this]; rfl
  rw [e, ← HN.out] at hB
  exact ⟨_, _, rfl, hB, (Gr.refl w).alloc _⟩
/-- the hash of two hashes -/
def flowH (a b : Int) : Int := IntKind.u64.wrap (bits .xor .u64 (IntKind.u64.wrap (a + b)) 7 * 1099511628211)
theorem flowH_comm (a b : Int) : flowH a b = flowH b a := by unfold flowH; rw [Int.add_comm]

set_option maxRecDepth 100000 in
set_option maxHeartbeats 4000000 in
theorem fastHash_calls (n1 n2 : Nat) (x0 x1 x2 x3 x4 x5 x6 x7 x8 x9 x10 x11 x12 x13 x14 x15 y0 y1 y2 y3 y4 y5 y6 y7 y8 y9 y10 y11 y12 y13 y14 y15 : Value) (l1 l2 : List Int) (w : World) (hx : [x0, x1, x2, x3, x4, x5, x6, x7, x8, x9, x10, x11, x12, x13, x14, x15] = arr l1) (hy : [y0, y1, y2, y3, y4, y5, y6, y7, y8, y9, y10, y11, y12, y13, y14, y15] = arr l2) (hn1 : n1 = l1.length) (hn2 : n2 = l2.length) (hb1 : AllB l1) (hb2 : AllB l2) (hl1 : l1.length ≤ 15) (hl2 : l2.length ≤ 15) :
    Calls Try.prog 63 #[.agg #[.int .i64 7, .int .i64 (n1 : Int), .int .i64 (n2 : Int), x0, x1, x2, x3, x4, x5, x6, x7, x8, x9, x10, x11, x12, x13, x14, x15, y0, y1, y2, y3, y4, y5, y6, y7, y8, y9, y10, y11, y12, y13, y14, y15]] w fun e w' => e = .returned (.int .u64 (flowH (fnv l1) (fnv l2))) ∧ Gr w w' := by
  have h16 : (n1 : Int) ≤ 16 := by omega
  have h0 : (0 : Int) ≤ (n1 : Int) := by omega
  have g16 : (n2 : Int) ≤ 16 := by omega
  have g0 : (0 : Int) ≤ (n2 : Int) := by omega
  have hB1 : IsB (w.alloc (.cells (([.int .i64 7, .int .i64 (n1 : Int), .int .i64 (n2 : Int)] : List Value) ++ (bcells l1 ++ (zs (16 - l1.length) ++ arr l2))).toArray 99)) (.slice (some ⟨w.heap.size, 3, none⟩) l1.length 16) l1 := isB_mid (heap_alloc_new w _) hb1 3 16 rfl (by omega) (by unfold maxLen; omega)
  have hB2 : IsB (w.alloc (.cells (([.int .i64 7, .int .i64 (n1 : Int), .int .i64 (n2 : Int)] ++ arr l1 : List Value) ++ (bcells l2 ++ zs (16 - l2.length))).toArray 99)) (.slice (some ⟨w.heap.size, 19, none⟩) l2.length 16) l2 := isB_mid (heap_alloc_new w _) hb2 19 16 (by rw [List.length_append, arr_length (l := l1) (by omega)]; rfl) (by omega) (by unfold maxLen; omega)
  have e1 : (([.int .i64 7, .int .i64 (n1 : Int), .int .i64 (n2 : Int)] : List Value) ++ (bcells l1 ++ (zs (16 - l1.length) ++ arr l2))) = [.int .i64 7, .int .i64 (n1 : Int), .int .i64 (n2 : Int), x0, x1, x2, x3, x4, x5, x6, x7, x8, x9, x10, x11, x12, x13, x14, x15, y0, y1, y2, y3, y4, y5, y6, y7, y8, y9, y10, y11, y12, y13, y14, y15] := by
    rw [← List.append_assoc (bcells l1), show bcells l1 ++ zs (16 - l1.length) = arr l1 from rfl, ← hx, ← hy]; rfl
  have e2 : (([.int .i64 7, .int .i64 (n1 : Int), .int .i64 (n2 : Int)] ++ arr l1 : List Value) ++ (bcells l2 ++ zs (16 - l2.length))) = [.int .i64 7, .int .i64 (n1 : Int), .int .i64 (n2 : Int), x0, x1, x2, x3, x4, x5, x6, x7, x8, x9, x10, x11, x12, x13, x14, x15, y0, y1, y2, y3, y4, y5, y6, y7, y8, y9, y10, y11, y12, y13, y14, y15] := by
    rw [show bcells l2 ++ zs (16 - l2.length) = arr l2 from rfl, ← hx, ← hy]; rfl
  rw [e1, ← hn1] at hB1
  rw [e2, ← hn2] at hB2
  have HB1 := Lib.hid hB1
  have HB2 := Lib.hid hB2
  have hc := (Gr.boxed (w := w) (cs := [.int .i64 7, .int .i64 (n1 : Int), .int .i64 (n2 : Int), x0, x1, x2, x3, x4, x5, x6, x7, x8, x9, x10, x11, x12, x13, x14, x15, y0, y1, y2, y3, y4, y5, y6, y7, y8, y9, y10, y11, y12, y13, y14, y15]) (t := 99) (Gr.refl _)).2
  clear hB1 hB2 e1 e2 hx hy hn1 hn2
  go_enter Try.func63, Try.ntmps63
  go_wp2_with fail
  go_region_held3 (fun w' => w'.cell? ⟨w.heap.size, 1, none⟩ = some (.int .i64 (n1 : Int)) ∧ w'.cell? ⟨w.heap.size, 2, none⟩ = some (.int .i64 (n2 : Int))) (first | exact ⟨hc 1, hc 2⟩ | go_keep) (first
      | (go_at_call_of 94 (Value.slice (some ⟨w.heap.size, 3, none⟩) n1 16); refine (fnvHash_calls _ l1 _ HB1.out.drew (by omega)).mono ?_; rintro e w9 ⟨rfl, rfl⟩)
      | (go_at_call_of 94 (Value.slice (some ⟨w.heap.size, 19, none⟩) n2 16); refine (fnvHash_calls _ l2 _ HB2.out.drew (by omega)).mono ?_; rintro e w9 ⟨rfl, rfl⟩))
  go_wp2_with fail
  go_ret
  exact ⟨rfl, ((Gr.refl w).alloc _).drew⟩
end Go.Proofs.Ytbojideclbjlgaa
