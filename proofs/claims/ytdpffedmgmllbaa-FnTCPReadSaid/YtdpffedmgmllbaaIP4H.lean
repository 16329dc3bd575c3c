/-
  Lists of options in rows: what stays, how bytes are cut.
-/
import Derived.Test.YtdpffedmgmllbaaRecs
import Derived.Test.YtdpffedmgmllbaaOptsB
import Derived.Test.YtdpffedmgmllbaaLib2
import Derived.Test.YtdpffedmgmllbaaLib3
import Derived.Test.YtdpffedmgmllbaaTrunc
import Derived.Test.YtdpffedmgmllbaaBase
import Derived.Deep.RegionHeld3
import Derived.Deep.RegionWith
namespace Go.Proofs.Ytdpffedmgmllbaa
open Go.RowKit

theorem info_o4 : (Try.prog.info? 181).map (fun i => (i.zero, i.size, i.bytes)) = some (some (.agg #[.int .u8 0, .int .u8 0, .slice none 0 0]), 3, 32) := by kernel_rfl
theorem nil_h4 (k : IntKind) (w : World) : (Instr.sliceAt 177 (.slice none 0 0) none (some (.int k 0)) none).run Try.prog w = .ok (.slice none 0 0) w := by
  obtain ⟨i, hi, he⟩ := Option.map_eq_some_iff.1 info_o4
  simp only [Prod.mk.injEq] at he
  have hE : Try.prog.elem 177 = 181 := by simp [Program.elem, Try.underlying177]
  rw [run_sliceAt_slice w 177 _ _ _ _ (by rw [hE]; exact Try.underlying177), run_slice_h w 177 _ _ _ (by rw [hE]; exact Try.underlying177) k 0 (by omega) (by omega)]
  simp [sizeOf, typeInfo, hE, hi, he.2.1, Result.andThen, sliced]

theorem box3 {w : World} {b : Nat} (hb : b = w.heap.size) (p q r : Value) (t : TypeId) : (w.alloc (.cells #[p, q, r] t)).cell? ⟨b, 0, none⟩ = some p ∧ (w.alloc (.cells #[p, q, r] t)).cell? ⟨b, 1, none⟩ = some q ∧ (w.alloc (.cells #[p, q, r] t)).cell? ⟨b, 2, none⟩ = some r := by
  subst hb
  have h := heap_alloc_new w (.cells #[p, q, r] t)
  exact ⟨cell_of_heap (cs := [p, q, r]) h 0 _ rfl, cell_of_heap (cs := [p, q, r]) h 1 _ rfl, cell_of_heap (cs := [p, q, r]) h 2 _ rfl⟩
theorem gr_rows {w x : World} {D : Nat} {cs : List Value} {e : TypeId} (hd : Has w D) (hg : Gr w x) : Gr (rowW w D cs e) (rowW x D cs e) := by
  refine ⟨hg.os, hg.tape, hg.output, by rw [rowW_size, rowW_size]; exact hg.size, fun k hk hr => ?_⟩
  rw [rowW_size] at hk
  by_cases e : k = D
  · subst e
    rw [rowW_heap hd, rowW_heap (show k < x.heap.size from Nat.lt_of_lt_of_le hd hg.size)]
  · rw [rowW_other e, rowW_other e]
    exact hg.block k hk hr
def z12 : Array Value := #[.int .u8 0, .int .u8 0, .slice none 0 0, .int .u8 0, .int .u8 0, .slice none 0 0, .int .u8 0, .int .u8 0, .slice none 0 0, .int .u8 0, .int .u8 0, .slice none 0 0]
theorem make4 (w : World) : (Instr.makeSlice 177 (.int .i64 0) (.int .i64 4)).run Try.prog w = .ok (.slice (some ⟨w.heap.size, 0, none⟩) 0 4) (w.alloc (.cells z12 181)) := by kernel_rfl
/-- a list without options, and room for four -/
theorem made4 {x : World} {D : Nat} {C : List Value} {base : Nat} (hd : Has x D) (hb : base ≤ x.heap.size) : ∃ x', Gr x x' ∧ Has x' D ∧ (Instr.makeSlice 177 (.int .i64 0) (.int .i64 4)).run Try.prog (rowW x D C 179) = .ok (.slice (some ⟨x.heap.size, 0, none⟩) 0 4) (rowW x' D C 179) ∧
    x.heap.size < x'.heap.size ∧ OwnO .u8 .u8 (rowW x' D C 179) base 181 D (.slice (some ⟨x.heap.size, 0, none⟩) 0 4) [] := by
  obtain ⟨x', gx, dx, hx⟩ := Gr.unrow hd ((Gr.refl (rowW x D C 179)).alloc (.cells z12 181))
  have hs := rowW_size (w := x) (D := D) (cs := C) (e := 179)
  refine ⟨x', gx, dx, ?_, ?_, ?_, fun p hp => by simp at hp⟩
  · rw [make4, hx, hs]
  · have h1 := congrArg (fun w => w.heap.size) hx
    simp only [World.size_alloc, rowW_size] at h1
    omega
  · have h := World.ownsRow_made (base := base) (size := 3) (e := 181) (rowW x D C 179) z12 4 (by rw [hs]; exact hb) (by unfold maxLen; omega) rfl
    rw [hx, hs] at h
    exact h
theorem row_step {w x : World} {D : Nat} {cs cs' : List Value} {e : TypeId} (hd : Has w D) (hg : Gr w x) : (rowW w D cs e).grownBy (rowW x D cs' e) (some D) :=
  grownBy_step ((gr_rows hd hg).to (some D)) (rowW_rowW (n := 0)) (fun _ _ => .inr rfl)
theorem isB_rows {w x : World} {D : Nat} {cs : List Value} {e : TypeId} {v : Value} {l : List Int} (hd : Has w D) (hg : Gr w x) (h : IsB w v l) (hne : v.ownBlock ≠ some D) : IsB (rowW x D cs e) v l := (h.rowW hne).gr (gr_rows hd hg)
/-- an option that ends the list -/
def padO (os : List Opt) : List Opt := if (optsRaw os).length % 4 = 0 then [] else [⟨0, 1, []⟩]
theorem eq_nil4 (w : World) : (binOp .eql 177 (.slice none 0 0) (.slice none 0 0)).run Try.prog w = .ok (.bool true) w := by kernel_rfl
theorem eq_some4 (a : Addr) (n c : Nat) (w : World) : (binOp .eql 177 (.slice (some a) n c) (.slice none 0 0)).run Try.prog w = .ok (.bool false) w := by kernel_rfl
theorem raw_split (os : List Opt) (k : Nat) : optsRaw os = optsRaw (os.take k) ++ optsRaw (os.drop k) := by
  conv => lhs; rw [← List.take_append_drop k os]
  exact raw_append _ _
/-- what fills up -/
def fillB (os : List Opt) : List Int := List.replicate ((4 - (optsRaw os).length % 4) % 4) 0
theorem rest_eq (os : List Opt) (k : Nat) : (optsB os).drop (optsRaw (os.take k)).length = optsRaw (os.drop k) ++ fillB os := by
  unfold optsB fillB
  rw [raw_split os k, List.append_assoc, List.drop_left]
theorem optB_pos (x : Opt) : 1 ≤ (optB x).length := by unfold optB; split <;> simp
theorem raw_ge : ∀ os : List Opt, os.length ≤ (optsRaw os).length
  | [] => by simp [optsRaw]
  | x :: r => by
    have h := raw_ge r
    have e : optsRaw (x :: r) = optB x ++ optsRaw r := by simp [optsRaw]
    have := optB_pos x
    rw [e, List.length_append, List.length_cons]
    omega
theorem raw_len {os : List Opt} (h : (optsRaw os).length ≤ 40) : os.length ≤ 40 := Nat.le_trans (raw_ge os) h
theorem rest_cons {os : List Opt} {k : Nat} (h : k < os.length) : optsRaw (os.drop k) = optB (os.getD k Opt.zero) ++ optsRaw (os.drop (k + 1)) := by
  unfold optsRaw
  rw [List.drop_eq_getElem_cons h, List.map_cons, List.flatten_cons, List.getD_eq_getElem?_getD, List.getElem?_eq_getElem h]
  rfl

/-- the cells of a header that is read -/
def ip4Row (c p s d : Value) (x0 W x1 M x4 x6 x7 x8 x9 x10 : Int) (o pd : Value) : List Value := [c, p, .int .u8 x0, .int .u8 W, .int .u8 x1, .int .u16 M, .int .u16 x4, .int .u8 x6, .int .u16 x7, .int .u8 x8, .int .u8 x9, .int .u16 x10, s, d, o, pd]

/-- a header that was read -/
def Ip4Post (w w' : World) (D : Nat) (l L : List Int) (W M : Nat) (os : List Opt) (e : Ending) : Prop := e = .returned .nilIface ∧ w.grownBy w' (some D) ∧ ∃ a5 n5 m5 a6 n6 m6 a7 n7 m7 a8 n8 m8 vo pd rs, IsB w' (.slice a5 n5 m5) ((l.take 16).drop 12) ∧ IsB w' (.slice a6 n6 m6) ((l.take 20).drop 16) ∧ IsB w' (.slice a8 n8 m8) (L.drop (4 * W)) ∧
      w'.heap[D]? = some (.cells #[.slice a7 n7 m7, .slice a8 n8 m8, .int .u8 (bt l 0 / 16), .int .u8 (W : Int), .int .u8 (bt l 1), .int .u16 (M : Int), .int .u16 (bt l 4 * 256 + bt l 5), .int .u8 ((bt l 6 * 256 + bt l 7) / 8192), .int .u16 ((bt l 6 * 256 + bt l 7) % 8192), .int .u8 (bt l 8), .int .u8 (bt l 9), .int .u16 (bt l 10 * 256 + bt l 11), .slice a5 n5 m5, .slice a6 n6 m6, vo, pd] 179 (0, 0)) ∧ OwnO .u8 .u8 w' w.heap.size 181 D vo rs ∧ rs.map Prod.fst = os ++ padO os

/-- what is read of the options ahead of a round -/
def Ip4Rel (w1 : World) (D : Nat) (os : List Opt) (c : Value → List Value) (dv : Value) (wr : World) : Prop :=
  ∃ k rs x v a n m, k ≤ os.length ∧ dv = .slice a n m ∧ IsB w1 dv ((optsB os).drop (optsRaw (os.take k)).length) ∧ dv.ownBlock ≠ some D ∧ wr = rowW x D (c v) 179 ∧ Has x D ∧ Gr w1 x ∧
    OwnO .u8 .u8 wr w1.heap.size 181 D v rs ∧ rs.map Prod.fst = os.take k ∧ (v = .slice none 0 0 → k = 0)
end Go.Proofs.Ytdpffedmgmllbaa
