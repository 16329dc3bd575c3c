/-
  A header of routing encapsulation: reading, whole.
-/
import Derived.Test.YtbdbaapdiklnhaaGRE0
import Derived.Test.YtbdbaapdiklnhaaGRE1
import Derived.Test.YtbdbaapdiklnhaaGRE2
import Derived.Test.YtbdbaapdiklnhaaGRE3
namespace Go.Proofs.Ytbdbaapdiklnhaa
open Go.RowKit

/-- a number that is there, or 0 -/
def gv : Bool → Int → Int
  | true, x => x
  | false, _ => 0
def b2 (l : List Int) (i : Nat) : Int := bt l i * 256 + bt l (i + 1)
def b4 (l : List Int) (i : Nat) : Int := bt l i * 16777216 + bt l (i + 1) * 65536 + bt l (i + 2) * 256 + bt l (i + 3)
/-- where the next part stands -/
def nx (f : Bool) (i : Nat) : Nat := match f with | true => i + 4 | false => i
def ge (s k q a : Bool) : Nat := nx a (nx q (nx k (nx s 4)))
def fl (f : Bool) (x : Int) : Int := match f with | true => x | false => 0
theorem gv_bd {f : Bool} {x m : Int} (h : 0 ≤ x ∧ x ≤ m) : 0 ≤ gv f x ∧ gv f x ≤ m := by
  cases f
  · exact ⟨Int.le_refl _, by show (0 : Int) ≤ m; omega⟩
  · exact h
theorem b2_bd {l : List Int} (h : AllB l) (i : Nat) : 0 ≤ b2 l i ∧ b2 l i ≤ 65535 := by
  have := h.bt0 i; have := h.bt1 i; have := h.bt0 (i + 1); have := h.bt1 (i + 1)
  unfold b2; omega
theorem b4_bd {l : List Int} (h : AllB l) (i : Nat) : 0 ≤ b4 l i ∧ b4 l i ≤ 4294967295 := by
  have := h.bt0 i; have := h.bt1 i; have := h.bt0 (i + 1); have := h.bt1 (i + 1); have := h.bt0 (i + 2); have := h.bt1 (i + 2); have := h.bt0 (i + 3); have := h.bt1 (i + 3)
  unfold b4; omega

theorem greDecode_calls (D : Nat) (cs : List Value) (hcs : cs = [.slice none 0 0, .slice none 0 0, .bool false, .bool false, .bool false, .bool false, .bool false, .bool false, .int .u8 0, .int .u8 0, .int .u8 0, .int .u16 0, .int .u16 0, .int .u16 0, .int .u32 0, .int .u32 0, .int .u32 0, .pointer none]) (v : Value) (l : List Int) (w : World) (hD : w.heap[D]? = some (.cells cs.toArray 149 (0, 0))) (h : IsB w v l) (s k q a : Bool) (hl : ge s k q a ≤ l.length) (f0 : bits .and .u8 (bt l 0) 128 = fl s 128) (f1 : bits .and .u8 (bt l 0) 64 = 0) (f2 : bits .and .u8 (bt l 0) 32 = fl k 32) (f3 : bits .and .u8 (bt l 0) 16 = fl q 16) (f4 : bits .and .u8 (bt l 0) 8 = 0) (f5 : bits .and .u8 (bt l 1) 128 = fl a 128) (hne : v.ownBlock ≠ some D) :
    Calls Try.prog 74 #[.pointer (some ⟨D, 0, none⟩), v, .iface 179 (.agg #[])] w fun e w' => e = .returned .nilIface ∧
      w.grownBy w' (some D) ∧ ∃ a7 n7 m7 a8 n8 m8, IsB w' (.slice a7 n7 m7) (l.take (ge s k q a)) ∧ IsB w' (.slice a8 n8 m8) (l.drop (ge s k q a)) ∧
        w'.heap[D]? = some (.cells #[.slice a7 n7 m7, .slice a8 n8 m8, .bool s, .bool false, .bool k, .bool q, .bool false, .bool a, .int .u8 (bt l 0 % 8), .int .u8 (bt l 1 / 8), .int .u8 (bt l 1 % 8), .int .u16 (b2 l 2), .int .u16 (gv s (b2 l 4)), .int .u16 (gv s (b2 l 6)), .int .u32 (gv k (b4 l (nx s 4))), .int .u32 (gv q (b4 l (nx k (nx s 4)))), .int .u32 (gv a (b4 l (nx q (nx k (nx s 4))))), .pointer none] 149 (0, 0)) := by
  cases s with
  | false =>
    cases k with
    | false =>
      cases q with
      | false =>
        cases a with
        | false =>
          exact greDecode0000_calls D cs hcs v l w hD h hl f0 f1 f2 f3 f4 f5 hne
        | true =>
          exact greDecode0001_calls D cs hcs v l w hD h hl f0 f1 f2 f3 f4 f5 hne
      | true =>
        cases a with
        | false =>
          exact greDecode0010_calls D cs hcs v l w hD h hl f0 f1 f2 f3 f4 f5 hne
        | true =>
          exact greDecode0011_calls D cs hcs v l w hD h hl f0 f1 f2 f3 f4 f5 hne
    | true =>
      cases q with
      | false =>
        cases a with
        | false =>
          exact greDecode0100_calls D cs hcs v l w hD h hl f0 f1 f2 f3 f4 f5 hne
        | true =>
          exact greDecode0101_calls D cs hcs v l w hD h hl f0 f1 f2 f3 f4 f5 hne
      | true =>
        cases a with
        | false =>
          exact greDecode0110_calls D cs hcs v l w hD h hl f0 f1 f2 f3 f4 f5 hne
        | true =>
          exact greDecode0111_calls D cs hcs v l w hD h hl f0 f1 f2 f3 f4 f5 hne
  | true =>
    cases k with
    | false =>
      cases q with
      | false =>
        cases a with
        | false =>
          exact greDecode1000_calls D cs hcs v l w hD h hl f0 f1 f2 f3 f4 f5 hne
        | true =>
          exact greDecode1001_calls D cs hcs v l w hD h hl f0 f1 f2 f3 f4 f5 hne
      | true =>
        cases a with
        | false =>
          exact greDecode1010_calls D cs hcs v l w hD h hl f0 f1 f2 f3 f4 f5 hne
        | true =>
          exact greDecode1011_calls D cs hcs v l w hD h hl f0 f1 f2 f3 f4 f5 hne
    | true =>
      cases q with
      | false =>
        cases a with
        | false =>
          exact greDecode1100_calls D cs hcs v l w hD h hl f0 f1 f2 f3 f4 f5 hne
        | true =>
          exact greDecode1101_calls D cs hcs v l w hD h hl f0 f1 f2 f3 f4 f5 hne
      | true =>
        cases a with
        | false =>
          exact greDecode1110_calls D cs hcs v l w hD h hl f0 f1 f2 f3 f4 f5 hne
        | true =>
          exact greDecode1111_calls D cs hcs v l w hD h hl f0 f1 f2 f3 f4 f5 hne

set_option maxRecDepth 100000 in
set_option maxHeartbeats 2000000 in
theorem greRead_calls (v : Value) (l : List Int) (w : World) (h : IsB w v l) (s k q a : Bool) (hl : ge s k q a ≤ l.length) (f0 : bits .and .u8 (bt l 0) 128 = fl s 128) (f1 : bits .and .u8 (bt l 0) 64 = 0) (f2 : bits .and .u8 (bt l 0) 32 = fl k 32) (f3 : bits .and .u8 (bt l 0) 16 = fl q 16) (f4 : bits .and .u8 (bt l 0) 8 = 0) (f5 : bits .and .u8 (bt l 1) 128 = fl a 128) (hm : l.length ≤ 1000000) :
    Calls Try.prog 46 #[v] w fun e w' => ∃ f8 g8 j8, e = .returned (.tuple #[.agg #[.int .i64 (bt l 1 % 8), .int .i64 (b2 l 2), .bool s, .bool k, .bool q, .bool a, .int .i64 (gv s (b2 l 4)), .int .i64 (gv k (b4 l (nx s 4))), .int .i64 (gv q (b4 l (nx k (nx s 4)))), .int .i64 (gv a (b4 l (nx q (nx k (nx s 4)))))], .slice f8 g8 j8, .bool true]) ∧
      IsB w' (.slice f8 g8 j8) (l.drop (ge s k q a)) ∧ Gr w w' := by
  have H := Lib.hid h
  clear h
  go_enter Try.func46, Try.ntmps46
  go_wp2_with fail
  refine (copied_calls _ l _ ?_ (by omega)).mono ?_
  · exact H.out.gr (((Gr.refl w).alloc _).alloc _)
  rintro e w1 ⟨a0, n0, m0, rfl, hoA, hgA⟩
  go_wp2_with fail
  refine (nilFeedback_calls _).mono ?_
  rintro e w2 ⟨rfl, rfl⟩
  go_wp2_with fail
  have hR := HasRow.gr hgA (HasRow.gr (World.grownBy_alloc _ (.cells #[.slice none 0 0, .slice none 0 0, .bool false, .bool false, .bool false, .bool false, .bool false, .bool false, .int .u8 0, .int .u8 0, .int .u8 0, .int .u16 0, .int .u16 0, .int .u16 0, .int .u32 0, .int .u32 0, .int .u32 0, .pointer none] 149) none) (HasRow.new w [.int .i64 0, .int .i64 0, .bool false, .bool false, .bool false, .bool false, .int .i64 0, .int .i64 0, .int .i64 0, .int .i64 0] 77 10 rfl))
  have hD := heap_gr hgA (heap_alloc_new (w.alloc (.cells #[.int .i64 0, .int .i64 0, .bool false, .bool false, .bool false, .bool false, .int .i64 0, .int .i64 0, .int .i64 0, .int .i64 0] 77)) (.cells #[.slice none 0 0, .slice none 0 0, .bool false, .bool false, .bool false, .bool false, .bool false, .bool false, .int .u8 0, .int .u8 0, .int .u8 0, .int .u16 0, .int .u16 0, .int .u16 0, .int .u32 0, .int .u32 0, .int .u32 0, .pointer none] 149))
  have hS := hgA.size
  simp only [World.size_alloc] at hD hS
  have HR := Lib.hid hR
  have HD := Lib.hid hD
  clear hR hD
  refine (greDecode_calls (w.heap.size + 1) _ rfl _ l w1 HD.out hoA.isB s k q a hl f0 f1 f2 f3 f4 f5 (hoA.other (by simp))).mono ?_
  rintro e w2 ⟨rfl, hgB, a7, n7, m7, a8, n8, m8, hb7, hb8, hd2⟩
  have HR2 := Lib.hid (HasRow.grown HR.out hgB (by omega))
  have HG2 := Lib.hid hgB
  have HD2 := Lib.hid hd2
  clear hgB hd2
  have k1 := cell_of_heap (cs := [_, _, _, _, _, _, _, _, _, _, _, _, _, _, _, _, _, _]) HD2.out 1 _ rfl
  have k2 := cell_of_heap (cs := [_, _, _, _, _, _, _, _, _, _, _, _, _, _, _, _, _, _]) HD2.out 2 _ rfl
  have k4 := cell_of_heap (cs := [_, _, _, _, _, _, _, _, _, _, _, _, _, _, _, _, _, _]) HD2.out 4 _ rfl
  have k5 := cell_of_heap (cs := [_, _, _, _, _, _, _, _, _, _, _, _, _, _, _, _, _, _]) HD2.out 5 _ rfl
  have k7 := cell_of_heap (cs := [_, _, _, _, _, _, _, _, _, _, _, _, _, _, _, _, _, _]) HD2.out 7 _ rfl
  have k10 := cell_of_heap (cs := [_, _, _, _, _, _, _, _, _, _, _, _, _, _, _, _, _, _]) HD2.out 10 _ rfl
  have k11 := cell_of_heap (cs := [_, _, _, _, _, _, _, _, _, _, _, _, _, _, _, _, _, _]) HD2.out 11 _ rfl
  have k12 := cell_of_heap (cs := [_, _, _, _, _, _, _, _, _, _, _, _, _, _, _, _, _, _]) HD2.out 12 _ rfl
  have k14 := cell_of_heap (cs := [_, _, _, _, _, _, _, _, _, _, _, _, _, _, _, _, _, _]) HD2.out 14 _ rfl
  have k15 := cell_of_heap (cs := [_, _, _, _, _, _, _, _, _, _, _, _, _, _, _, _, _, _]) HD2.out 15 _ rfl
  have k16 := cell_of_heap (cs := [_, _, _, _, _, _, _, _, _, _, _, _, _, _, _, _, _, _]) HD2.out 16 _ rfl
  go_wp2_with fail
  have hne : w.heap.size + 1 ≠ w.heap.size := by omega
  have p1 := hoA.bytes.bt0 1
  have q1 := hoA.bytes.bt1 1
  have u0 : IntKind.i64.wrap (bt l 1 % 8) = bt l 1 % 8 := w64 (by omega) (by omega)
  have j1 := b2_bd hoA.bytes 2
  have j2 := gv_bd (f := s) (b2_bd hoA.bytes 4)
  have j3 := gv_bd (f := k) (b4_bd hoA.bytes (nx s 4))
  have j4 := gv_bd (f := q) (b4_bd hoA.bytes (nx k (nx s 4)))
  have j5 := gv_bd (f := a) (b4_bd hoA.bytes (nx q (nx k (nx s 4))))
  have u1 : IntKind.i64.wrap (b2 l 2) = b2 l 2 := w64 (by omega) (by omega)
  have u2 : IntKind.i64.wrap (gv s (b2 l 4)) = gv s (b2 l 4) := w64 (by omega) (by omega)
  have u3 : IntKind.i64.wrap (gv k (b4 l (nx s 4))) = gv k (b4 l (nx s 4)) := w64 (by omega) (by omega)
  have u4 : IntKind.i64.wrap (gv q (b4 l (nx k (nx s 4)))) = gv q (b4 l (nx k (nx s 4))) := w64 (by omega) (by omega)
  have u5 : IntKind.i64.wrap (gv a (b4 l (nx q (nx k (nx s 4))))) = gv a (b4 l (nx q (nx k (nx s 4)))) := w64 (by omega) (by omega)
  clear j1 j2 j3 j4 j5
  go_region_held3 (fun w' => w'.cell? ⟨w.heap.size + 1, 1, none⟩ = some (.slice a8 n8 m8) ∧ w'.cell? ⟨w.heap.size + 1, 2, none⟩ = some (.bool s) ∧ w'.cell? ⟨w.heap.size + 1, 4, none⟩ = some (.bool k) ∧ w'.cell? ⟨w.heap.size + 1, 5, none⟩ = some (.bool q) ∧ w'.cell? ⟨w.heap.size + 1, 7, none⟩ = some (.bool a) ∧ w'.cell? ⟨w.heap.size + 1, 10, none⟩ = some (.int .u8 (bt l 1 % 8)) ∧ w'.cell? ⟨w.heap.size + 1, 11, none⟩ = some (.int .u16 (b2 l 2)) ∧ w'.cell? ⟨w.heap.size + 1, 12, none⟩ = some (.int .u16 (gv s (b2 l 4))) ∧ w'.cell? ⟨w.heap.size + 1, 14, none⟩ = some (.int .u32 (gv k (b4 l (nx s 4)))) ∧ w'.cell? ⟨w.heap.size + 1, 15, none⟩ = some (.int .u32 (gv q (b4 l (nx k (nx s 4))))) ∧ w'.cell? ⟨w.heap.size + 1, 16, none⟩ = some (.int .u32 (gv a (b4 l (nx q (nx k (nx s 4))))))) (first | exact And.imp (Gr.cell (by assumption)) (And.imp (Gr.cell (by assumption)) (And.imp (Gr.cell (by assumption)) (And.imp (Gr.cell (by assumption)) (And.imp (Gr.cell (by assumption)) (And.imp (Gr.cell (by assumption)) (And.imp (Gr.cell (by assumption)) (And.imp (Gr.cell (by assumption)) (And.imp (Gr.cell (by assumption)) (And.imp (Gr.cell (by assumption)) (Gr.cell (by assumption))))))))))) (by assumption) | exact And.imp (rowW_swap hne) (And.imp (rowW_swap hne) (And.imp (rowW_swap hne) (And.imp (rowW_swap hne) (And.imp (rowW_swap hne) (And.imp (rowW_swap hne) (And.imp (rowW_swap hne) (And.imp (rowW_swap hne) (And.imp (rowW_swap hne) (And.imp (rowW_swap hne) (rowW_swap hne)))))))))) (by assumption) | go_keep) (first
    | (go_at_call_of 60 (Value.slice a8 n8 m8); refine (copied_calls _ (l.drop (ge s k q a)) _ ?_ ?_).mono ?_; (exact IsB.drew hb8); (rw [List.length_drop]; omega); rintro e x8 ⟨f8, g8, j8, rfl, ho8, hg8⟩; obtain ⟨u8, rs8, hrs8, hR8, rfl⟩ := (HasRow.gr hg8 (by with_reducible first | exact HasRow.row (by assumption) rfl | exact HR2.out.drew)).w0; obtain ⟨r8x0, r8x1, r8x2, r8x3, r8x4, r8x5, r8x6, r8x7, r8x8, r8x9, rfl⟩ := len10 hrs8))
  go_wp2
  have gAA : Gr w w2 := ((((Gr.refl w).alloc _).alloc _).trans hgA).step HG2.out (by omega)
  have hsA : w.heap.size < w2.drew.heap.size := by show w.heap.size < w2.heap.size; have := HG2.out.size; omega
  have t8 : Gr w _ := gAA.drew.trans hg8
  have y8 := hg8.size
  exact bodyPost_ret (v := .tuple #[.agg #[.int .i64 (bt l 1 % 8), .int .i64 (b2 l 2), .bool s, .bool k, .bool q, .bool a, .int .i64 (gv s (b2 l 4)), .int .i64 (gv k (b4 l (nx s 4))), .int .i64 (gv q (b4 l (nx k (nx s 4)))), .int .i64 (gv a (b4 l (nx q (nx k (nx s 4)))))], .slice f8 g8 j8, .bool true]) (by simp [results, Try.results46, go_sem, hR8]) rfl ⟨_, _, _, rfl, IsB.reRow (ho8.isB) (ho8.other (by omega)), Gr.row t8 (Nat.le_refl _)⟩

end Go.Proofs.Ytbdbaapdiklnhaa
