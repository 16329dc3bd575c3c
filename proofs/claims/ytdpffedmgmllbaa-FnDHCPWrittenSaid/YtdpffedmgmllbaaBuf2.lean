/-
  A buffer with what is carried; the bytes that are written.
-/
import Derived.Test.YtdpffedmgmllbaaBuf
namespace Go.Proofs.Ytdpffedmgmllbaa
open Go.RowKit

theorem IsB.old {w : World} {v : Value} {l : List Int} (h : IsB w v l) (hl : 0 < l.length) {P : Nat} (hP : w.heap.size ≤ P) : v.ownBlock ≠ some P := by
  obtain ⟨a, c, rfl, h1, h2, h3, h4⟩ := h
  rcases h4 with ⟨-, rfl⟩ | ⟨ad, rfl, h5⟩
  · omega
  · intro e
    have hc := (h5 0 hl).2
    have e' : ad.block = P := by simpa [Value.ownBlock] using e
    have hn : w.heap[P]? = none := Array.getElem?_eq_none hP
    simp [World.cell?, e', hn] at hc
theorem below_refl (B : Nat) (w : World) : Below B w w := ⟨rfl, rfl, rfl, Nat.le_refl _, fun _ _ => rfl⟩
theorem below_grown {B P : Nat} {w w' : World} (h : w.grownBy w' (some P)) (hB : B ≤ w.heap.size) (hP : B ≤ P) : Below B w w' :=
  ⟨h.os, h.tape, h.output, h.size, fun k hk => h.block k (by omega) (by intro e; have := Option.some.inj e; omega)⟩
theorem below_heap {B k : Nat} {w w' : World} (h : Below B w w') (hk : k < B) {o : Obj} (ho : w.heap[k]? = some o) : w'.heap[k]? = some o := (h.5 k hk).trans ho
theorem below_to {B C : Nat} {w w' : World} (h : Below B w w') (hC : C ≤ B) : Below C w w' := ⟨h.1, h.2, h.3, h.4, fun k hk => h.5 k (by omega)⟩

/-- the data of a buffer, and where they lie -/
def Carries (w : World) (B P : Nat) (l : List Int) : Prop := ∃ a, B ≤ P ∧ w.heap[P]? = some (.cells [.slice a l.length l.length, .int .i64 0, .int .i64 0, .int .i64 (l.length : Int), .slice none 0 0].toArray 160 (0, 0)) ∧ IsB w (.slice a l.length l.length) l ∧ (Value.slice a l.length l.length).ownBlock ≠ some P

set_option maxRecDepth 100000 in
set_option maxHeartbeats 2000000 in
theorem carried_calls (a : Option Addr) (n c : Nat) (l : List Int) (w : World) (h : IsB w (.slice a n c) l) (hl : l.length ≤ 2000) :
    Calls Try.prog 58 #[.slice a n c] w fun e w' => ∃ P, e = .returned (.iface 157 (.pointer (some ⟨P, 0, none⟩))) ∧ Gr w w' ∧ Carries w' w.heap.size P l := by
  have g0 := fun ty => h.len (P := Try.prog) 25 ty 5 Try.underlying25
  have hmt := append_method
  obtain rfl := h.count
  have hL := Lib.hid hl
  have HB := Lib.hid h
  clear h hl
  by_cases hn : 0 < l.length
  case pos =>
    have hN := Lib.hid hn
    clear hn
    go_enter Try.func58, Try.ntmps58
    go_wp2_with (first
      | (go_at_call 50; refine (newBuf_calls _).mono ?_; rintro e w1 ⟨rfl, rfl⟩; have h1 := Lib.hid (heap_alloc_new w (.cells [.slice none 0 0, .int .i64 0, .int .i64 0, .int .i64 0, .slice none 0 0].toArray 160)))
      | (go_at_call 115; refine (appendN_calls w.heap.size l.length _ h1.out hN.out (by have := hL.out; omega)).mono ?_; rintro e w2 ⟨rfl, hg2, hP2, hN2⟩; have HG := Lib.hid hg2; have HP := Lib.hid hP2; have HN := Lib.hid hN2; clear hg2 hP2 hN2; have hsr := IsB.src ((HB.out.gr ((Gr.refl w).alloc _)).kept HG.out (.inr (HB.out.old hN.out (Nat.le_refl _)))) hN.out)
      | (with_reducible refine wpList_copy_splice rfl (.tmp 16) (.tmp 17) 25 25 rfl 5 Try.underlying25 size_u8 (some ⟨w.heap.size + 1, 0, none⟩) a l.length l.length l.length c (by simp [Act.eval]) (by simp [Act.eval]) (w.heap.size + 1) 0 (zs l.length) 5 (by have := HN.out; rw [World.size_alloc] at this; exact this) (bcells l) (by rw [bcells_length]; exact (Nat.min_self _).symm) (fun _ => ⟨rfl, hsr⟩) (by rw [bcells_length, zs_length]; omega) (bcells_one l) (w.heap.size + 1) _ (below_refl _ _) (Nat.le_refl _) ?_; intro w4 hg4 hb4))
    go_ret
    have hP := HP.out
    have hg := HG.out
    rw [World.size_alloc] at hP
    have hr := hg4.out
    have hsp : splice (zs l.length) 0 (bcells l) = bcells l := by simp [splice, zs, bcells_length]
    rw [hsp] at hr
    refine ⟨w.heap.size, rfl, gr_of_below (((Gr.refl w).alloc _).below.trans ((below_grown hg (by rw [World.size_alloc]; omega) (Nat.le_refl _)).trans (below_to hb4 (by omega)))), some ⟨w.heap.size + 1, 0, none⟩, Nat.le_refl _, below_heap hb4 (by omega) hP, isB_row hr HB.out.bytes (by have := hL.out; unfold maxLen; omega), by simp [Value.ownBlock]⟩
  case neg =>
    have hz : l = [] := List.eq_nil_of_length_eq_zero (by omega)
    subst hz
    clear hn
    go_enter Try.func58, Try.ntmps58
    go_wp2_with (first
      | (go_at_call 50; refine (newBuf_calls _).mono ?_; rintro e w1 ⟨rfl, rfl⟩; have h1 := Lib.hid (heap_alloc_new w (.cells [.slice none 0 0, .int .i64 0, .int .i64 0, .int .i64 0, .slice none 0 0].toArray 160)))
      | (go_at_call 115; refine (append0_calls w.heap.size _ h1.out).mono ?_; rintro e w2 ⟨rfl, rfl⟩)
      | (with_reducible refine wpList_copy_nothing rfl (.tmp 16) (.tmp 17) 25 25 rfl 5 Try.underlying25 size_u8 none a 0 0 0 c (by simp [Act.eval]) (by simp [Act.eval]) rfl ?_))
    go_ret
    exact ⟨w.heap.size, rfl, (Gr.refl w).alloc _, none, Nat.le_refl _, h1.out, isB_nil, by simp [Value.ownBlock]⟩

set_option maxHeartbeats 400000 in
theorem whole_calls (w : World) : Calls Try.prog 61 #[] w fun e w' => e = .returned (.agg #[.bool true, .bool true]) ∧ Gr w w' := by
  have kS : Try.prog.cellsOf 118 = 2 := by kernel_rfl
  go_enter Try.func61, Try.ntmps61
  go_wp2
  exact bodyPost_ret (v := .agg #[.bool true, .bool true]) (by simp [results, Try.results61, go_sem]) rfl ⟨rfl, (Gr.refl w).alloc _⟩
set_option maxHeartbeats 400000 in
theorem fixed_calls (w : World) : Calls Try.prog 53 #[] w fun e w' => e = .returned (.agg #[.bool true, .bool false]) ∧ Gr w w' := by
  have kS : Try.prog.cellsOf 118 = 2 := by kernel_rfl
  go_enter Try.func53, Try.ntmps53
  go_wp2
  exact bodyPost_ret (v := .agg #[.bool true, .bool false]) (by simp [results, Try.results53, go_sem]) rfl ⟨rfl, (Gr.refl w).alloc _⟩

set_option maxRecDepth 100000 in
set_option maxHeartbeats 1000000 in
theorem written_calls (P : Nat) (a : Option Addr) (n c : Nat) (p q ly : Value) (l : List Int) (w : World) (hP : w.heap[P]? = some (.cells [.slice a n c, .int .i64 0, p, q, ly].toArray 160 (0, 0))) (h : IsB w (.slice a n c) l) (hl : l.length ≤ 1000000) :
    Calls Try.prog 51 #[.iface 157 (.pointer (some ⟨P, 0, none⟩)), .nilIface] w fun e w' => ∃ f g j, e = .returned (.tuple #[.slice f g j, .bool true]) ∧ IsB w' (.slice f g j) l ∧ Gr w w' := by
  have hmt := bytes_method
  have HP := Lib.hid hP
  have HB := Lib.hid h
  clear hP h
  go_enter Try.func51, Try.ntmps51
  go_wp2_with fail
  go_region_held3 (fun _ => True) (trivial) (first
    | (go_at_call 116; refine (bytes_calls P a n c p q ly l _ (show w.drew.heap[P]? = _ from HP.out) HB.out.drew).mono ?_; rintro e w1 ⟨a', rfl, hb1, r1, hw1⟩; have hgB : Gr w w1 := (by rw [hw1]; exact ((Gr.refl w).drew).drewN r1); clear hw1)
    | (go_at_call 44; refine (copied_calls _ l _ hb1 (by omega)).mono ?_; rintro e w2 ⟨f, g, j, rfl, ho2, hg2⟩; have hG : Gr w w2 := (by (repeat (with_reducible first | exact Gr.refl _ | assumption | refine Gr.alloc ?_ _ | refine Gr.drew ?_ | refine Gr.drewN ?_ _ | refine Gr.trans ?_ (by assumption))); done)))
  go_wp2
  all_goals exact bodyPost_ret (v := .tuple #[.slice f g j, .bool true]) (by simp [results, Try.results51, go_sem]) rfl ⟨_, _, _, rfl, ho2.isB, hG⟩

end Go.Proofs.Ytdpffedmgmllbaa
