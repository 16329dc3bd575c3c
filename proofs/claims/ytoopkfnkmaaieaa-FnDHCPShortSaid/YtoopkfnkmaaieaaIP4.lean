/-
  A header of the fourth version with options: reading.
-/
import Derived.Test.YtoopkfnkmaaieaaRecs
import Derived.Test.YtoopkfnkmaaieaaOptsB
import Derived.Test.YtoopkfnkmaaieaaLib2
import Derived.Test.YtoopkfnkmaaieaaLib3
import Derived.Test.YtoopkfnkmaaieaaTrunc
import Derived.Test.YtoopkfnkmaaieaaBase
import Derived.Deep.RegionHeld3
import Derived.Deep.RegionWith
namespace Go.Proofs.Ytoopkfnkmaaieaa
open Go.RowKit

theorem info_o4 : (Try.prog.info? 110).map (fun i => (i.zero, i.size, i.bytes)) = some (some (.agg #[.int .u8 0, .int .u8 0, .slice none 0 0]), 3, 32) := by kernel_rfl
theorem nil_h4 (k : IntKind) (w : World) : (Instr.sliceAt 106 (.slice none 0 0) none (some (.int k 0)) none).run Try.prog w = .ok (.slice none 0 0) w := by
  obtain ⟨i, hi, he⟩ := Option.map_eq_some_iff.1 info_o4
  simp only [Prod.mk.injEq] at he
  have hE : Try.prog.elem 106 = 110 := by simp [Program.elem, Try.underlying106]
  rw [run_sliceAt_slice w 106 _ _ _ _ (by rw [hE]; exact Try.underlying106), run_slice_h w 106 _ _ _ (by rw [hE]; exact Try.underlying106) k 0 (by omega) (by omega)]
  simp [sizeOf, typeInfo, hE, hi, he.2.1, Result.andThen, sliced]

theorem box3 {w : World} {b : Nat} (hb : b = w.heap.size) (p q r : Value) (t : TypeId) : (w.alloc (.cells #[p, q, r] t)).cell? ⟨b, 0, none⟩ = some p ∧ (w.alloc (.cells #[p, q, r] t)).cell? ⟨b, 1, none⟩ = some q ∧ (w.alloc (.cells #[p, q, r] t)).cell? ⟨b, 2, none⟩ = some r := by
  subst hb
  have h := heap_alloc_new w (.cells #[p, q, r] t)
  exact ⟨cell_of_heap (cs := [p, q, r]) h 0 _ rfl, cell_of_heap (cs := [p, q, r]) h 1 _ rfl, cell_of_heap (cs := [p, q, r]) h 2 _ rfl⟩
theorem gr_rows {w x : World} {D : Nat} {cs : List Value} {e : TypeId} (hd : Has w D) (hg : Gr w x) : Gr (rowW w D cs e) (rowW x D cs e) := by
  refine ⟨hg.os, hg.tape, hg.output, by rw [rowW_size, rowW_size]; exact hg.size, fun k hk hr => ?_⟩
  rw [rowW_size] at hk
  by_cases e : k = D
  · subst e
    rw [rowW_heap hd, rowW_heap (show k < x.heap.size from Nat.lt_of_lt_of_le hd hg.size)]
  · rw [rowW_other e, rowW_other e]
    exact hg.block k hk hr
def z12 : Array Value := #[.int .u8 0, .int .u8 0, .slice none 0 0, .int .u8 0, .int .u8 0, .slice none 0 0, .int .u8 0, .int .u8 0, .slice none 0 0, .int .u8 0, .int .u8 0, .slice none 0 0]
theorem make4 (w : World) : (Instr.makeSlice 106 (.int .i64 0) (.int .i64 4)).run Try.prog w = .ok (.slice (some ⟨w.heap.size, 0, none⟩) 0 4) (w.alloc (.cells z12 110)) := by kernel_rfl
/-- a list without options, and room for four -/
theorem made4 {x : World} {D : Nat} {C : List Value} {base : Nat} (hd : Has x D) (hb : base ≤ x.heap.size) : ∃ x', Gr x x' ∧ Has x' D ∧ (Instr.makeSlice 106 (.int .i64 0) (.int .i64 4)).run Try.prog (rowW x D C 108) = .ok (.slice (some ⟨x.heap.size, 0, none⟩) 0 4) (rowW x' D C 108) ∧
    x.heap.size < x'.heap.size ∧ OwnO .u8 .u8 (rowW x' D C 108) base 110 D (.slice (some ⟨x.heap.size, 0, none⟩) 0 4) [] := by
  obtain ⟨x', gx, dx, hx⟩ := Gr.unrow hd ((Gr.refl (rowW x D C 108)).alloc (.cells z12 110))
  have hs := rowW_size (w := x) (D := D) (cs := C) (e := 108)
  refine ⟨x', gx, dx, ?_, ?_, ?_, fun p hp => by simp at hp⟩
  · rw [make4, hx, hs]
  · have h1 := congrArg (fun w => w.heap.size) hx
    simp only [World.size_alloc, rowW_size] at h1
    omega
  · have h := World.ownsRow_made (base := base) (size := 3) (e := 110) (rowW x D C 108) z12 4 (by rw [hs]; exact hb) (by unfold maxLen; omega) rfl
    rw [hx, hs] at h
    exact h
theorem row_step {w x : World} {D : Nat} {cs cs' : List Value} {e : TypeId} (hd : Has w D) (hg : Gr w x) : (rowW w D cs e).grownBy (rowW x D cs' e) (some D) :=
  grownBy_step ((gr_rows hd hg).to (some D)) (rowW_rowW (n := 0)) (fun _ _ => .inr rfl)
theorem isB_rows {w x : World} {D : Nat} {cs : List Value} {e : TypeId} {v : Value} {l : List Int} (hd : Has w D) (hg : Gr w x) (h : IsB w v l) (hne : v.ownBlock ≠ some D) : IsB (rowW x D cs e) v l := (h.rowW hne).gr (gr_rows hd hg)
/-- an option that ends the list -/
def padO (os : List Opt) : List Opt := if (optsRaw os).length % 4 = 0 then [] else [⟨0, 1, []⟩]
theorem eq_nil4 (w : World) : (binOp .eql 106 (.slice none 0 0) (.slice none 0 0)).run Try.prog w = .ok (.bool true) w := by kernel_rfl
theorem eq_some4 (a : Addr) (n c : Nat) (w : World) : (binOp .eql 106 (.slice (some a) n c) (.slice none 0 0)).run Try.prog w = .ok (.bool false) w := by kernel_rfl
theorem raw_split (os : List Opt) (k : Nat) : optsRaw os = optsRaw (os.take k) ++ optsRaw (os.drop k) := by
  conv => lhs; rw [← List.take_append_drop k os]
  exact raw_append _ _
/-- what fills up -/
def fillB (os : List Opt) : List Int := List.replicate ((4 - (optsRaw os).length % 4) % 4) 0
theorem rest_eq (os : List Opt) (k : Nat) : (optsB os).drop (optsRaw (os.take k)).length = optsRaw (os.drop k) ++ fillB os := by
  unfold optsB fillB
  rw [raw_split os k, List.append_assoc, List.drop_left]
theorem optB_pos (x : Opt) : 1 ≤ (optB x).length := by unfold optB; split <;> simp
theorem raw_ge : ∀ os : List Opt, os.length ≤ (optsRaw os).length
  | [] => by simp [optsRaw]
  | x :: r => by
    have h := raw_ge r
    have e : optsRaw (x :: r) = optB x ++ optsRaw r := by simp [optsRaw]
    have := optB_pos x
    rw [e, List.length_append, List.length_cons]
    omega
theorem raw_len {os : List Opt} (h : (optsRaw os).length ≤ 40) : os.length ≤ 40 := Nat.le_trans (raw_ge os) h
theorem rest_cons {os : List Opt} {k : Nat} (h : k < os.length) : optsRaw (os.drop k) = optB (os.getD k Opt.zero) ++ optsRaw (os.drop (k + 1)) := by
  unfold optsRaw
  rw [List.drop_eq_getElem_cons h, List.map_cons, List.flatten_cons, List.getD_eq_getElem?_getD, List.getElem?_eq_getElem h]
  rfl

/-- the cells of a header that is read -/
def ip4Row (c p s d : Value) (x0 W x1 M x4 x6 x7 x8 x9 x10 : Int) (o pd : Value) : List Value := [c, p, .int .u8 x0, .int .u8 W, .int .u8 x1, .int .u16 M, .int .u16 x4, .int .u8 x6, .int .u16 x7, .int .u8 x8, .int .u8 x9, .int .u16 x10, s, d, o, pd]

/-- a header that was read -/
def Ip4Post (w w' : World) (D : Nat) (l L : List Int) (W M : Nat) (os : List Opt) (e : Ending) : Prop := e = .returned .nilIface ∧ w.grownBy w' (some D) ∧ ∃ a5 n5 m5 a6 n6 m6 a7 n7 m7 a8 n8 m8 vo pd rs, IsB w' (.slice a5 n5 m5) ((l.take 16).drop 12) ∧ IsB w' (.slice a6 n6 m6) ((l.take 20).drop 16) ∧ IsB w' (.slice a8 n8 m8) (L.drop (4 * W)) ∧
      w'.heap[D]? = some (.cells #[.slice a7 n7 m7, .slice a8 n8 m8, .int .u8 (bt l 0 / 16), .int .u8 (W : Int), .int .u8 (bt l 1), .int .u16 (M : Int), .int .u16 (bt l 4 * 256 + bt l 5), .int .u8 ((bt l 6 * 256 + bt l 7) / 8192), .int .u16 ((bt l 6 * 256 + bt l 7) % 8192), .int .u8 (bt l 8), .int .u8 (bt l 9), .int .u16 (bt l 10 * 256 + bt l 11), .slice a5 n5 m5, .slice a6 n6 m6, vo, pd] 108 (0, 0)) ∧ OwnO .u8 .u8 w' w.heap.size 110 D vo rs ∧ rs.map Prod.fst = os ++ padO os

/-- what is read of the options ahead of a round -/
def Ip4Rel (w1 : World) (D : Nat) (os : List Opt) (c : Value → List Value) (dv : Value) (wr : World) : Prop :=
  ∃ k rs x v a n m, k ≤ os.length ∧ dv = .slice a n m ∧ IsB w1 dv ((optsB os).drop (optsRaw (os.take k)).length) ∧ dv.ownBlock ≠ some D ∧ wr = rowW x D (c v) 108 ∧ Has x D ∧ Gr w1 x ∧
    OwnO .u8 .u8 wr w1.heap.size 110 D v rs ∧ rs.map Prod.fst = os.take k ∧ (v = .slice none 0 0 → k = 0)

set_option linter.unusedSimpArgs false in
set_option maxRecDepth 100000 in
set_option maxHeartbeats 4000000 in
theorem ip4DecodeE_calls (D : Nat) (av : Option Addr) (nv cv : Nat) (l : List Int) (W M : Nat) (os : List Opt) (w : World) (hD : w.heap[D]? = some (.cells #[.slice none 0 0, .slice none 0 0, .int .u8 0, .int .u8 0, .int .u8 0, .int .u16 0, .int .u16 0, .int .u8 0, .int .u16 0, .int .u8 0, .int .u8 0, .int .u16 0, .slice none 0 0, .slice none 0 0, .slice none 0 0, .slice none 0 0] 108 (0, 0))) (h : IsB w (.slice av nv cv) l) (hl : 20 ≤ l.length) (hW : bt l 0 % 16 = (W : Int)) (hW5 : 5 ≤ W) (hL : bt l 2 * 256 + bt l 3 = (M : Int)) (hWM : 4 * W ≤ M) (hM : l.length = M)
    (hO : (l.take (4 * W)).drop 20 = optsB os) (hok : ∀ x ∈ os, OkOpt x) (hbare : ∀ x ∈ os, x.kind ≠ 1 → x.data ≠ []) (hraw : (optsRaw os).length ≤ 40) (hne : (Value.slice av nv cv).ownBlock ≠ some D) :
    Calls Try.prog 53 #[.pointer (some ⟨D, 0, none⟩), .slice av nv cv, .iface 156 (.agg #[])] w fun e w' => Ip4Post w w' D l l W M os e := by
  obtain ⟨w0, rfl⟩ : ∃ w0, w = rowW w0 D [.slice none 0 0, .slice none 0 0, .int .u8 0, .int .u8 0, .int .u8 0, .int .u16 0, .int .u16 0, .int .u8 0, .int .u16 0, .int .u8 0, .int .u8 0, .int .u16 0, .slice none 0 0, .slice none 0 0, .slice none 0 0, .slice none 0 0] 108 := ⟨w, (rowW_self hD).symm⟩
  have hd : Has w0 D := by unfold Has; rw [← rowW_size (cs := [.slice none 0 0, .slice none 0 0, .int .u8 0, .int .u8 0, .int .u8 0, .int .u16 0, .int .u16 0, .int .u8 0, .int .u16 0, .int .u8 0, .int .u8 0, .int .u16 0, .slice none 0 0, .slice none 0 0, .slice none 0 0, .slice none 0 0]) (e := 108) (D := D)]; exact (Array.getElem?_eq_some_iff.1 hD).1
  clear hD
  replace h := h.unrow hne
  obtain ⟨w1, rfl⟩ : ∃ w1 : World, w0 = w1.drewN 0 := ⟨w0, rfl⟩
  have h : IsB w1 (.slice av nv cv) l := h
  have hd : Has w1 D := hd
  have hlen := fun ty => h.len (P := Try.prog) 25 ty 5 Try.underlying25
  obtain ⟨i, hi, hz0, hz1, hz2⟩ := info_parts info_u8
  obtain ⟨b0, o0, i0, c0, z0⟩ := h.idx (P := Try.prog) 25 5 i Try.underlying25 hi hz1 .i64 0 0 rfl (by omega)
  have e0 : b0 ≠ D := by rintro rfl; exact hne z0
  clear z0
  have p0 := h.bytes.bt0 0
  have q0 := h.bytes.bt1 0
  obtain ⟨b1, o1, i1, c1, z1⟩ := h.idx (P := Try.prog) 25 5 i Try.underlying25 hi hz1 .i64 1 1 rfl (by omega)
  have e1 : b1 ≠ D := by rintro rfl; exact hne z1
  clear z1
  have p1 := h.bytes.bt0 1
  have q1 := h.bytes.bt1 1
  obtain ⟨b8, o8, i8, c8, z8⟩ := h.idx (P := Try.prog) 25 5 i Try.underlying25 hi hz1 .i64 8 8 rfl (by omega)
  have e8 : b8 ≠ D := by rintro rfl; exact hne z8
  clear z8
  have p8 := h.bytes.bt0 8
  have q8 := h.bytes.bt1 8
  obtain ⟨b9, o9, i9, c9, z9⟩ := h.idx (P := Try.prog) 25 5 i Try.underlying25 hi hz1 .i64 9 9 rfl (by omega)
  have e9 : b9 ≠ D := by rintro rfl; exact hne z9
  clear z9
  have p9 := h.bytes.bt0 9
  have q9 := h.bytes.bt1 9
  have p2 := h.bytes.bt0 2
  have q2 := h.bytes.bt1 2
  have p3 := h.bytes.bt0 3
  have q3 := h.bytes.bt1 3
  have p4 := h.bytes.bt0 4
  have q4 := h.bytes.bt1 4
  have p5 := h.bytes.bt0 5
  have q5 := h.bytes.bt1 5
  have p6 := h.bytes.bt0 6
  have q6 := h.bytes.bt1 6
  have p7 := h.bytes.bt0 7
  have q7 := h.bytes.bt1 7
  have p10 := h.bytes.bt0 10
  have q10 := h.bytes.bt1 10
  have p11 := h.bytes.bt0 11
  have q11 := h.bytes.bt1 11
  have hW15 : W ≤ 15 := by omega
  obtain ⟨a1, n1, m1, hv1, hb1, s1⟩ := h.cutLH (P := Try.prog) 25 5 i Try.underlying25 hi hz1 2 4 2 4 rfl rfl (by omega) (by omega)
  rw [← hb1] at hne
  have hne1 := hne
  rw [hb1] at hne
  clear hb1
  obtain ⟨a2, n2, m2, hv2, hb2, s2⟩ := h.cutLH (P := Try.prog) 25 5 i Try.underlying25 hi hz1 4 6 4 6 rfl rfl (by omega) (by omega)
  rw [← hb2] at hne
  have hne2 := hne
  rw [hb2] at hne
  clear hb2
  obtain ⟨a3, n3, m3, hv3, hb3, s3⟩ := h.cutLH (P := Try.prog) 25 5 i Try.underlying25 hi hz1 6 8 6 8 rfl rfl (by omega) (by omega)
  rw [← hb3] at hne
  have hne3 := hne
  rw [hb3] at hne
  clear hb3
  obtain ⟨a4, n4, m4, hv4, hb4, s4⟩ := h.cutLH (P := Try.prog) 25 5 i Try.underlying25 hi hz1 10 12 10 12 rfl rfl (by omega) (by omega)
  rw [← hb4] at hne
  have hne4 := hne
  rw [hb4] at hne
  clear hb4
  obtain ⟨a5, n5, m5, hv5, hb5, s5⟩ := h.cutLH (P := Try.prog) 25 5 i Try.underlying25 hi hz1 12 16 12 16 rfl rfl (by omega) (by omega)
  rw [← hb5] at hne
  have hne5 := hne
  rw [hb5] at hne
  clear hb5
  obtain ⟨a6, n6, m6, hv6, hb6, s6⟩ := h.cutLH (P := Try.prog) 25 5 i Try.underlying25 hi hz1 16 20 16 20 rfl rfl (by omega) (by omega)
  rw [← hb6] at hne
  have hne6 := hne
  rw [hb6] at hne
  clear hb6
  have h2 := h
  have hne2 := hne
  have hl2 : l.length = M := hM
  obtain ⟨a7, n7, m7, h7, hb7, s7⟩ := h2.cutH (P := Try.prog) 25 5 i Try.underlying25 hi hz1 (4 * (W : Int)) (4 * W) (by omega) (by omega)
  obtain ⟨a8, n8, m8, h8, hb8, s8⟩ := h2.cutL (P := Try.prog) 25 5 i Try.underlying25 hi hz1 (4 * (W : Int)) (4 * W) (by omega) (by omega)
  have hne8 := hne2
  rw [← hb8] at hne8
  obtain ⟨a9, n9, m9, h9, hb9, s9⟩ := h2.cutLH (P := Try.prog) 25 5 i Try.underlying25 hi hz1 20 (4 * (W : Int)) 20 (4 * W) rfl (by omega) (by omega) (by omega)
  rw [← hb9] at hne2
  rw [hO] at h9
  clear hb7 hb8 hb9
  have H7 := Lib.hid h7
  have H8 := Lib.hid h8
  have H9 := Lib.hid h9
  have NE2 := Lib.hid hne2
  have HOK := Lib.hid hok
  have HBARE := Lib.hid hbare
  have HLEN := Lib.hid (show os.length ≤ 40 from raw_len hraw)
  clear h7 h8 h9 hne2 hok hbare hO
  have H5 := Lib.hid hv5
  have H6 := Lib.hid hv6
  have NE5 := Lib.hid hne5
  have NE6 := Lib.hid hne6
  have HNE8 := Lib.hid hne8
  have so := nil_h4
  have v0 : bits .and .u8 (bt l 0) 15 = (W : Int) := by rw [← hW]; exact bmask .u8 4 (by omega) (by rw [max_u8]; omega) (by decide) (by decide)
  have v1 : bits .and .u16 (bt l 6 * 256 + bt l 7) 8191 = (bt l 6 * 256 + bt l 7) % 8192 := bmask .u16 13 (by omega) (by rw [max_u16]; omega) (by decide) (by decide)
  have v2 : IntKind.u8.wrap ((W : Int) * 4) = 4 * (W : Int) := by rw [wrap_in .u8 _ (by have := min_le .u8; omega) (by rw [max_u8]; omega)]; omega
  have v3 : ((M : Int) == 0) = false := by simp; omega
  have v4 : decide ((M : Int) < 20) = false := by simp; omega
  have v5 : decide ((W : Int) < 5) = false := by simp; omega
  have v6 : decide ((M : Int) < 4 * (W : Int)) = false := by simp; omega
  have v7 : IntKind.i64.wrap (4 * (W : Int)) = 4 * (W : Int) := w64 (by omega) (by omega)
  have v8 : IntKind.i64.wrap (M : Int) = (M : Int) := w64 (by omega) (by omega)
  go_enter Try.func53, Try.ntmps53
  go_wp2_with (first
      | (go_at_call 73; refine (be16_calls _ _ _ (IsB.row0 (by assumption) (by assumption) _) (by simp; try omega)).mono ?_; rintro e w' ⟨rfl, n, rfl⟩)
      | (go_at_call 74; refine (be32_calls _ _ _ (IsB.row0 (by assumption) (by assumption) _) (by simp; try omega)).mono ?_; rintro e w' ⟨rfl, n, rfl⟩))
  go_region_held3 (fun w' => w'.cell? ⟨D, 3, none⟩ = some (.int .u8 (W : Int)) ∧ w'.cell? ⟨D, 5, none⟩ = some (.int .u16 (M : Int))) (first | exact ⟨rowW_cell (show Has (w1.drewN _) D from hd) 3, rowW_cell (show Has (w1.drewN _) D from hd) 5⟩ | go_keep) (fail)
  go_wp2_with fail
  clear i0 c0 i1 c1 i8 c8 i9 c9 s1 s2 s3 s4 s5 s6 s7 s8 s9 e0 e1 e8 e9 v0 v1 v2 v3 v4 v5 v6 v7 v8 p0 q0 p1 q1 p8 q8 p9 q9 p2 q2 p3 q3 p4 q4 p5 q5 p6 q6 p7 q7 p10 q10 p11 q11 hlen
  go_loopw [1] (Ip4Rel w1 D os (fun o => [.slice a7 n7 m7, .slice a8 n8 m8, .int .u8 (bt l 0 / 16), .int .u8 (W : Int), .int .u8 (bt l 1), .int .u16 (M : Int), .int .u16 (bt l 4 * 256 + bt l 5), .int .u8 ((bt l 6 * 256 + bt l 7) / 8192), .int .u16 ((bt l 6 * 256 + bt l 7) % 8192), .int .u8 (bt l 8), .int .u8 (bt l 9), .int .u16 (bt l 10 * 256 + bt l 11), .slice a5 n5 m5, .slice a6 n6 m6, o, .slice none 0 0])) (fun dv _ => match dv with | .slice _ n _ => n | _ => 0)
  case atStart => exact ⟨0, [], w1.drewN _, .slice none 0 0, a9, n9, m9, Nat.zero_le _, rfl, by simpa [optsRaw] using H9.out, NE2.out, rfl, hd, (Gr.refl w1).drewN _, OwnO.nil, by simp, fun _ => rfl⟩
  case round =>
    obtain ⟨k, rs, x, vo, a, n, m, hk, rfl, hI, hneA, rfl, hX, hG, hOw, hrs, hv0⟩ := hrel
    obtain ⟨R, hR⟩ : ∃ R, R = (optsB os).drop (optsRaw (os.take k)).length := ⟨_, rfl⟩
    rw [← hR] at hI
    rw [rest_eq] at hR
    have hcn : n = R.length := hI.count
    have HV0 := Lib.hid hv0
    have HK := Lib.hid hk
    have HRS := Lib.hid hrs
    have HG := Lib.hid hG
    have HOw := Lib.hid hOw
    have HNEA := Lib.hid hneA
    have qs := eq_some4
    have qn := eq_nil4
    clear hv0 hk hrs
    by_cases hlt : k < os.length
    · rw [rest_cons hlt] at hR
      have hmem : os.getD k Opt.zero ∈ os := by rw [List.getD_eq_getElem?_getD, List.getElem?_eq_getElem hlt]; exact List.getElem_mem hlt
      obtain ⟨xo, hxo⟩ : ∃ xo, xo = os.getD k Opt.zero := ⟨_, rfl⟩
      have hrl := hraw
      rw [raw_split os k, rest_cons hlt, List.length_append, List.length_append] at hrl
      rw [← hxo] at hR hmem hrl
      have HXO := Lib.hid hxo
      clear hxo
      have hok := HOK.out xo hmem
      have hbr := HBARE.out xo hmem
      obtain ⟨kd, ln, d⟩ := xo
      obtain ⟨hok1, hok2, hok3⟩ := hok
      simp only at hok1 hok2 hok3 hbr
      obtain ⟨R', hR'⟩ : ∃ R', R' = optsRaw (os.drop (k + 1)) ++ fillB os := ⟨_, rfl⟩
      rw [List.append_assoc, ← hR'] at hR
      have HR' := Lib.hid hR'
      have HLT := Lib.hid hlt
      clear hR' hlt hmem
      by_cases k1 : kd = 1
      · have hd0 : ln = 1 ∧ d = [] := by
          rcases hok1 with h | h
          · exact h.2
          · exact absurd k1 h.1
        obtain ⟨rfl, rfl⟩ := hd0
        subst k1
        have hRe : R = 1 :: R' := by rw [hR]; simp [optB]
        have b0 : bt R 0 = 1 := by rw [hRe]; rfl
        have hRl : n = R'.length + 1 := by rw [hcn, hRe]; simp
        obtain ⟨bi, oi, ii, ci, zi⟩ := hI.idx (P := Try.prog) 25 5 i Try.underlying25 hi hz1 .i64 0 0 rfl (by omega)
        obtain ⟨a', n', m', hI', hbI', si⟩ := hI.cutL (P := Try.prog) 25 5 i Try.underlying25 hi hz1 1 1 rfl (by omega)
        have ei : bi ≠ D := by rintro rfl; exact hneA zi
        rw [b0] at ci
        rw [hRe] at hI'
        have ci := hG.cell ci
        have n0 : decide ((0 : Int) < (n : Int)) = true := decide_eq_true (by omega)
        have hn1 : 0 < n := by omega
        have HI' := Lib.hid (show IsB w1 (.slice a' n' m') R' from hI')
        have HNE' := Lib.hid (show (Value.slice a' n' m').ownBlock ≠ some D by rw [hbI']; exact hneA)
        have HRL := Lib.hid (show R'.length < n by omega)
        clear hI hI' hbI' hR hRe hcn b0 hneA zi hok1 hok2 hok3 hbr hRl hrl
        rcases hOw.slice with ⟨rfl, rfl⟩ | ⟨g, cO, rfl, hg1, hg2, hg3, hg4⟩
        · clear hOw HOw
          obtain ⟨x9, gx9, dx9, mk, sx9, ow9⟩ := made4 (C := [.slice a7 n7 m7, .slice a8 n8 m8, .int .u8 (bt l 0 / 16), .int .u8 (W : Int), .int .u8 (bt l 1), .int .u16 (M : Int), .int .u16 (bt l 4 * 256 + bt l 5), .int .u8 ((bt l 6 * 256 + bt l 7) / 8192), .int .u16 ((bt l 6 * 256 + bt l 7) % 8192), .int .u8 (bt l 8), .int .u8 (bt l 9), .int .u16 (bt l 10 * 256 + bt l 11), .slice a5 n5 m5, .slice a6 n6 m6, .slice none 0 0, .slice none 0 0]) hX hG.size
          obtain ⟨g, hg⟩ : ∃ g, g = x.heap.size := ⟨_, rfl⟩
          rw [← hg] at mk ow9 sx9
          have hg1 : w1.heap.size ≤ g := by have := hG.size; omega
          have HG := Lib.hid (hG.trans gx9)
          have HOw := Lib.hid (OwnO.reRow (cs' := [.slice a7 n7 m7, .slice a8 n8 m8, .int .u8 (bt l 0 / 16), .int .u8 (W : Int), .int .u8 (bt l 1), .int .u16 (M : Int), .int .u16 (bt l 4 * 256 + bt l 5), .int .u8 ((bt l 6 * 256 + bt l 7) / 8192), .int .u16 ((bt l 6 * 256 + bt l 7) % 8192), .int .u8 (bt l 8), .int .u8 (bt l 9), .int .u16 (bt l 10 * 256 + bt l 11), .slice a5 n5 m5, .slice a6 n6 m6, .slice (some ⟨g, 0, none⟩) 0 4, .slice none 0 0]) ow9 hd)
          have HRSL := Lib.hid (show ([] : List (Opt × Value)).length ≤ 1000000000 by simp)
          have ci := gx9.cell ci
          have hX := dx9
          clear hG gx9 dx9 hg ow9
          go_wp2_with fail
          obtain ⟨Y, hY⟩ : ∃ Y, Y = ((rowW x9 D [.slice a7 n7 m7, .slice a8 n8 m8, .int .u8 (bt l 0 / 16), .int .u8 (W : Int), .int .u8 (bt l 1), .int .u16 (M : Int), .int .u16 (bt l 4 * 256 + bt l 5), .int .u8 ((bt l 6 * 256 + bt l 7) / 8192), .int .u16 ((bt l 6 * 256 + bt l 7) % 8192), .int .u8 (bt l 8), .int .u8 (bt l 9), .int .u16 (bt l 10 * 256 + bt l 11), .slice a5 n5 m5, .slice a6 n6 m6, .slice (some ⟨g, 0, none⟩) 0 4, .slice none 0 0] 108).alloc (.cells #[.int .u8 1, .int .u8 1, .slice none 0 0] 110)) := ⟨_, rfl⟩
          rw [← hY]
          obtain ⟨T9, hT9⟩ : ∃ T9, T9 = x9.heap.size := ⟨_, rfl⟩
          try rw [← hT9]
          have gY : Gr (rowW x9 D [.slice a7 n7 m7, .slice a8 n8 m8, .int .u8 (bt l 0 / 16), .int .u8 (W : Int), .int .u8 (bt l 1), .int .u16 (M : Int), .int .u16 (bt l 4 * 256 + bt l 5), .int .u8 ((bt l 6 * 256 + bt l 7) / 8192), .int .u16 ((bt l 6 * 256 + bt l 7) % 8192), .int .u8 (bt l 8), .int .u8 (bt l 9), .int .u16 (bt l 10 * 256 + bt l 11), .slice a5 n5 m5, .slice a6 n6 m6, .slice (some ⟨g, 0, none⟩) 0 4, .slice none 0 0] 108) Y := by rw [hY]; exact (Gr.refl _).alloc _
          have bY := box3 (w := rowW x9 D [.slice a7 n7 m7, .slice a8 n8 m8, .int .u8 (bt l 0 / 16), .int .u8 (W : Int), .int .u8 (bt l 1), .int .u16 (M : Int), .int .u16 (bt l 4 * 256 + bt l 5), .int .u8 ((bt l 6 * 256 + bt l 7) / 8192), .int .u16 ((bt l 6 * 256 + bt l 7) % 8192), .int .u8 (bt l 8), .int .u8 (bt l 9), .int .u16 (bt l 10 * 256 + bt l 11), .slice a5 n5 m5, .slice a6 n6 m6, .slice (some ⟨g, 0, none⟩) 0 4, .slice none 0 0] 108) (b := T9) (by rw [hT9, rowW_size]) (.int .u8 1) (.int .u8 1) (.slice none 0 0) 110
          rw [← hY] at bY
          obtain ⟨bY0, bY1, bY2⟩ := bY
          have cY := gY.cell (rowW_cell hX 14)
          have cY0 : Y.drew.cell? ⟨D, 14, none⟩ = some (.slice (some ⟨g, 0, none⟩) 0 4) := cY
          have cY1 : ∀ o, (Y.drew.alloc o).cell? ⟨D, 14, none⟩ = some (.slice (some ⟨g, 0, none⟩) 0 4) := fun o => Gr.cell (((Gr.refl _).drew).alloc _) cY
          have cY2 : ∀ o, (Y.alloc o).cell? ⟨D, 14, none⟩ = some (.slice (some ⟨g, 0, none⟩) 0 4) := fun o => Gr.cell ((Gr.refl _).alloc _) cY
          have hOY := HOw.out.gr gY
          have GWY := Lib.hid ((gr_rows (cs := [.slice a7 n7 m7, .slice a8 n8 m8, .int .u8 (bt l 0 / 16), .int .u8 (W : Int), .int .u8 (bt l 1), .int .u16 (M : Int), .int .u16 (bt l 4 * 256 + bt l 5), .int .u8 ((bt l 6 * 256 + bt l 7) / 8192), .int .u16 ((bt l 6 * 256 + bt l 7) % 8192), .int .u8 (bt l 8), .int .u8 (bt l 9), .int .u16 (bt l 10 * 256 + bt l 11), .slice a5 n5 m5, .slice a6 n6 m6, .slice (some ⟨g, 0, none⟩) 0 4, .slice none 0 0]) (e := 108) hd HG.out).trans gY)
          have neT : g ≠ T9 := by rw [hT9]; omega
          have neTD : T9 ≠ D := by have : D < x9.heap.size := hX; omega
          have neD : g ≠ D := by have : D < w1.heap.size := hd; omega
          have HOY := Lib.hid hOY
          have HB0 := Lib.hid bY0
          have szY := gY.size
          have szW := HG.out.size
          rw [rowW_size] at szY
          clear hY hT9 gY hOY
          refine wp_region_held_drew (S := (fun w' => w'.cell? ⟨T9, 0, none⟩ = some (.int .u8 1) ∧ w'.cell? ⟨T9, 1, none⟩ = some (.int .u8 1) ∧ w'.cell? ⟨T9, 2, none⟩ = some (.slice none 0 0))) (by kernel_rfl) ⟨bY0, bY1, bY2⟩ (fun hHeld => ?_)
          refine wpAnyH_take (i := 0) (v := .pointer (some ⟨D, 0, none⟩)) rfl (by kernel_rfl) (by kernel_rfl) (by kernel_rfl) (fun _ _ _ h => h) (Or.inl ⟨by rfl, fun w' hS => ?_⟩) (by assumption) ?_
          · obtain ⟨c0, c1, c2⟩ := hS
            clear hHeld
            go_simp
          try simp only [Act.put, List.getElem_toArray, List.getElem_cons_succ, List.getElem_cons_zero, List.setIfInBounds_toArray, List.set_cons_zero, List.set_cons_succ]
          refine wpAnyH_take (i := 1) (v := .pointer (some ⟨D, 0, none⟩)) rfl (by kernel_rfl) (by kernel_rfl) (by kernel_rfl) (fun _ _ _ h => h) (Or.inl ⟨by rfl, fun w' hS => ?_⟩) (by assumption) ?_
          · obtain ⟨c0, c1, c2⟩ := hS
            clear hHeld
            go_simp
          try simp only [Act.put, List.getElem_toArray, List.getElem_cons_succ, List.getElem_cons_zero, List.setIfInBounds_toArray, List.set_cons_zero, List.set_cons_succ]
          refine wpAnyH_take (i := 2) (v := .pointer (some ⟨D, 0, none⟩)) rfl (by kernel_rfl) (by kernel_rfl) (by kernel_rfl) (fun _ _ _ h => h) (Or.inl ⟨by rfl, fun w' hS => ?_⟩) (by assumption) ?_
          · obtain ⟨c0, c1, c2⟩ := hS
            clear hHeld
            go_simp
          try simp only [Act.put, List.getElem_toArray, List.getElem_cons_succ, List.getElem_cons_zero, List.setIfInBounds_toArray, List.set_cons_zero, List.set_cons_succ]
          refine wpAnyH_take (i := 3) (v := .pointer (some ⟨D, 14, none⟩)) rfl (by kernel_rfl) (by kernel_rfl) (by kernel_rfl) (fun _ _ _ h => h) (Or.inl ⟨by rfl, fun w' hS => ?_⟩) (by assumption) ?_
          · obtain ⟨c0, c1, c2⟩ := hS
            clear hHeld
            go_simp
          try simp only [Act.put, List.getElem_toArray, List.getElem_cons_succ, List.getElem_cons_zero, List.setIfInBounds_toArray, List.set_cons_zero, List.set_cons_succ]
          refine wpAnyH_take (i := 5) (v := .agg #[.int .u8 1, .int .u8 1, .slice none 0 0]) rfl (by kernel_rfl) (by kernel_rfl) (by kernel_rfl) (fun _ _ _ h => h) (Or.inl ⟨by rfl, fun w' hS => ?_⟩) (by assumption) ?_
          · obtain ⟨c0, c1, c2⟩ := hS
            clear hHeld
            go_simp
          try simp only [Act.put, List.getElem_toArray, List.getElem_cons_succ, List.getElem_cons_zero, List.setIfInBounds_toArray, List.set_cons_zero, List.set_cons_succ]
          refine wpAnyH_ready (rs := [4, 6]) (by kernel_rfl) (by simp) (AllReadyH.cons rfl (fun K hK => ?_) (AllReadyH.cons rfl (fun K hK => ?_) AllReadyH.nil))
          · refine step_loadc (by rfl) 106 (.tmp 287) (by rfl) D 14 (by first | rfl | simp) (.slice (some ⟨g, 0, none⟩) 0 4) 110 Try.underlying106 cY ?_
            refine hK.out _ _ ⟨bY0, bY1, bY2⟩ (fun hHeld => ?_)
            clear hK K
            try simp only [Act.put, List.getElem_toArray, List.getElem_cons_succ, List.getElem_cons_zero, List.setIfInBounds_toArray, List.set_cons_zero, List.set_cons_succ]
            refine wpAnyH_ready (rs := [6]) (by kernel_rfl) (by simp) (AllReadyH.cons rfl (fun K hK => ?_) AllReadyH.nil)
            go_simp
            refine hK.out _ _ ⟨Gr.cell (((Gr.refl _).drew).alloc _) bY0, Gr.cell (((Gr.refl _).drew).alloc _) bY1, Gr.cell (((Gr.refl _).drew).alloc _) bY2⟩ (fun hHeld => ?_)
            clear hK K
            try simp only [Act.put, List.getElem_toArray, List.getElem_cons_succ, List.getElem_cons_zero, List.setIfInBounds_toArray, List.set_cons_zero, List.set_cons_succ]
            refine wpAnyH_ready (rs := [7]) (by kernel_rfl) (by simp) (AllReadyH.cons rfl (fun K hK => ?_) AllReadyH.nil)
            refine step_appR rfl (.tmp 288) (.tmp 290) 106 110 rfl Try.underlying106 _ 32 info_o4 rfl (by omega) w1.heap.size D (.slice (some ⟨g, 0, none⟩) 0 4) [] (by first | rfl | simp [Act.eval]) (HOY.out.gr (((Gr.refl Y).drew).alloc _)) Y.heap.size 1 ⟨1, 1, []⟩ (.slice none 0 0) (by first | rfl | simp [Act.eval]) (box3 rfl _ _ _ _).1 (box3 rfl _ _ _ _).2.1 (box3 rfl _ _ _ _).2.2 isB_nil (.inl rfl) (fun _ _ => .inl rfl) HRSL.out (by show w1.heap.size ≤ (World.alloc _ _).heap.size; rw [World.size_alloc]; show w1.heap.size ≤ Y.heap.size + 1; omega) ?_
            intro v4 w4 ho4 hg4 hat4
            obtain ⟨g4, n4, c4, rfl, hg41⟩ := ho4.slice_pos (by simp)
            have G4 := grownBy_step ((GWY.out.drew).alloc _) hg4 (fun k hk => .inl (by rw [rowW_size]; have : g = k := Option.some.inj hk; omega))
            have k4b := World.grownBy.cell hg4 (a := ⟨T9, 0, none⟩) (Gr.cell (((Gr.refl _).drew).alloc _) bY0) (fun e => neT (Option.some.inj e).symm)
            have k4c := World.grownBy.cell hg4 (a := ⟨T9, 1, none⟩) (Gr.cell (((Gr.refl _).drew).alloc _) bY1) (fun e => neT (Option.some.inj e).symm)
            have k4d := World.grownBy.cell hg4 (a := ⟨T9, 2, none⟩) (Gr.cell (((Gr.refl _).drew).alloc _) bY2) (fun e => neT (Option.some.inj e).symm)
            obtain ⟨x4, gx4, dx4, rfl⟩ := Gr.unrow hd G4
            refine hK.out _ _ ⟨(rowW_cell_other neTD).trans ((rowW_cell_other neTD).symm.trans k4b), (rowW_cell_other neTD).trans ((rowW_cell_other neTD).symm.trans k4c), (rowW_cell_other neTD).trans ((rowW_cell_other neTD).symm.trans k4d)⟩ (fun hHeld => ?_)
            clear hK K
            try simp only [Act.put, List.getElem_toArray, List.getElem_cons_succ, List.getElem_cons_zero, List.setIfInBounds_toArray, List.set_cons_zero, List.set_cons_succ]
            refine wpAnyH_take (i := 8) (v := .pointer (some ⟨D, 0, none⟩)) rfl (by kernel_rfl) (by kernel_rfl) (by kernel_rfl) (fun _ _ _ h => h) (Or.inl ⟨by rfl, fun w' hS => ?_⟩) (by assumption) ?_
            · obtain ⟨c0, c1, c2⟩ := hS
              clear hHeld
              go_simp
            try simp only [Act.put, List.getElem_toArray, List.getElem_cons_succ, List.getElem_cons_zero, List.setIfInBounds_toArray, List.set_cons_zero, List.set_cons_succ]
            refine wpAnyH_take (i := 9) (v := .pointer (some ⟨D, 14, none⟩)) rfl (by kernel_rfl) (by kernel_rfl) (by kernel_rfl) (fun _ _ _ h => h) (Or.inl ⟨by rfl, fun w' hS => ?_⟩) (by assumption) ?_
            · obtain ⟨c0, c1, c2⟩ := hS
              clear hHeld
              go_simp
            try simp only [Act.put, List.getElem_toArray, List.getElem_cons_succ, List.getElem_cons_zero, List.setIfInBounds_toArray, List.set_cons_zero, List.set_cons_succ]
            refine wpAnyH_ready (rs := [10]) (by kernel_rfl) (by simp) (AllReadyH.cons rfl (fun K hK => ?_) AllReadyH.nil)
            go_simp
            refine hK.out _ _ ⟨(rowW_cell_other neTD).trans ((rowW_cell_other neTD).symm.trans k4b), (rowW_cell_other neTD).trans ((rowW_cell_other neTD).symm.trans k4c), (rowW_cell_other neTD).trans ((rowW_cell_other neTD).symm.trans k4d)⟩ (fun hHeld => ?_)
            clear hK K
            try simp only [Act.put, List.getElem_toArray, List.getElem_cons_succ, List.getElem_cons_zero, List.setIfInBounds_toArray, List.set_cons_zero, List.set_cons_succ]
            refine wpAnyH_done (by kernel_rfl) ?_ _
            go_wp2_with fail
            go_roundw
            case rel => exact ⟨k + 1, _, x4, _, a', n', m', HLT.out, rfl, by rw [rest_eq, ← HR'.out]; exact HI'.out, HNE'.out, rfl, dx4, gx4, ho4.reRow hd, by rw [List.map_append, HRS.out, opt_take HLT.out, ← HXO.out]; rfl, fun e => by cases e⟩
            case measure => have := HI'.out.count; have := HRL.out; show n' < n; omega
          · go_simp
            refine hK.out _ _ ⟨Gr.cell (((Gr.refl _).drew).alloc _) bY0, Gr.cell (((Gr.refl _).drew).alloc _) bY1, Gr.cell (((Gr.refl _).drew).alloc _) bY2⟩ (fun hHeld => ?_)
            clear hK K
            try simp only [Act.put, List.getElem_toArray, List.getElem_cons_succ, List.getElem_cons_zero, List.setIfInBounds_toArray, List.set_cons_zero, List.set_cons_succ]
            refine wpAnyH_ready (rs := [4]) (by kernel_rfl) (by simp) (AllReadyH.cons rfl (fun K hK => ?_) AllReadyH.nil)
            refine step_loadc (by rfl) 106 (.tmp 287) (by rfl) D 14 (by first | rfl | simp) (.slice (some ⟨g, 0, none⟩) 0 4) 110 Try.underlying106 (Gr.cell (((Gr.refl _).drew).alloc _) cY) ?_
            refine hK.out _ _ ⟨Gr.cell (((Gr.refl _).drew).alloc _) bY0, Gr.cell (((Gr.refl _).drew).alloc _) bY1, Gr.cell (((Gr.refl _).drew).alloc _) bY2⟩ (fun hHeld => ?_)
            clear hK K
            try simp only [Act.put, List.getElem_toArray, List.getElem_cons_succ, List.getElem_cons_zero, List.setIfInBounds_toArray, List.set_cons_zero, List.set_cons_succ]
            refine wpAnyH_ready (rs := [7]) (by kernel_rfl) (by simp) (AllReadyH.cons rfl (fun K hK => ?_) AllReadyH.nil)
            refine step_appR rfl (.tmp 288) (.tmp 290) 106 110 rfl Try.underlying106 _ 32 info_o4 rfl (by omega) w1.heap.size D (.slice (some ⟨g, 0, none⟩) 0 4) [] (by first | rfl | simp [Act.eval]) (HOY.out.gr (((Gr.refl Y).drew).alloc _)) Y.heap.size 1 ⟨1, 1, []⟩ (.slice none 0 0) (by first | rfl | simp [Act.eval]) (box3 rfl _ _ _ _).1 (box3 rfl _ _ _ _).2.1 (box3 rfl _ _ _ _).2.2 isB_nil (.inl rfl) (fun _ _ => .inl rfl) HRSL.out (by show w1.heap.size ≤ (World.alloc _ _).heap.size; rw [World.size_alloc]; show w1.heap.size ≤ Y.heap.size + 1; omega) ?_
            intro v4 w4 ho4 hg4 hat4
            obtain ⟨g4, n4, c4, rfl, hg41⟩ := ho4.slice_pos (by simp)
            have G4 := grownBy_step ((GWY.out.drew).alloc _) hg4 (fun k hk => .inl (by rw [rowW_size]; have : g = k := Option.some.inj hk; omega))
            have k4b := World.grownBy.cell hg4 (a := ⟨T9, 0, none⟩) (Gr.cell (((Gr.refl _).drew).alloc _) bY0) (fun e => neT (Option.some.inj e).symm)
            have k4c := World.grownBy.cell hg4 (a := ⟨T9, 1, none⟩) (Gr.cell (((Gr.refl _).drew).alloc _) bY1) (fun e => neT (Option.some.inj e).symm)
            have k4d := World.grownBy.cell hg4 (a := ⟨T9, 2, none⟩) (Gr.cell (((Gr.refl _).drew).alloc _) bY2) (fun e => neT (Option.some.inj e).symm)
            obtain ⟨x4, gx4, dx4, rfl⟩ := Gr.unrow hd G4
            refine hK.out _ _ ⟨(rowW_cell_other neTD).trans ((rowW_cell_other neTD).symm.trans k4b), (rowW_cell_other neTD).trans ((rowW_cell_other neTD).symm.trans k4c), (rowW_cell_other neTD).trans ((rowW_cell_other neTD).symm.trans k4d)⟩ (fun hHeld => ?_)
            clear hK K
            try simp only [Act.put, List.getElem_toArray, List.getElem_cons_succ, List.getElem_cons_zero, List.setIfInBounds_toArray, List.set_cons_zero, List.set_cons_succ]
            refine wpAnyH_take (i := 8) (v := .pointer (some ⟨D, 0, none⟩)) rfl (by kernel_rfl) (by kernel_rfl) (by kernel_rfl) (fun _ _ _ h => h) (Or.inl ⟨by rfl, fun w' hS => ?_⟩) (by assumption) ?_
            · obtain ⟨c0, c1, c2⟩ := hS
              clear hHeld
              go_simp
            try simp only [Act.put, List.getElem_toArray, List.getElem_cons_succ, List.getElem_cons_zero, List.setIfInBounds_toArray, List.set_cons_zero, List.set_cons_succ]
            refine wpAnyH_take (i := 9) (v := .pointer (some ⟨D, 14, none⟩)) rfl (by kernel_rfl) (by kernel_rfl) (by kernel_rfl) (fun _ _ _ h => h) (Or.inl ⟨by rfl, fun w' hS => ?_⟩) (by assumption) ?_
            · obtain ⟨c0, c1, c2⟩ := hS
              clear hHeld
              go_simp
            try simp only [Act.put, List.getElem_toArray, List.getElem_cons_succ, List.getElem_cons_zero, List.setIfInBounds_toArray, List.set_cons_zero, List.set_cons_succ]
            refine wpAnyH_ready (rs := [10]) (by kernel_rfl) (by simp) (AllReadyH.cons rfl (fun K hK => ?_) AllReadyH.nil)
            go_simp
            refine hK.out _ _ ⟨(rowW_cell_other neTD).trans ((rowW_cell_other neTD).symm.trans k4b), (rowW_cell_other neTD).trans ((rowW_cell_other neTD).symm.trans k4c), (rowW_cell_other neTD).trans ((rowW_cell_other neTD).symm.trans k4d)⟩ (fun hHeld => ?_)
            clear hK K
            try simp only [Act.put, List.getElem_toArray, List.getElem_cons_succ, List.getElem_cons_zero, List.setIfInBounds_toArray, List.set_cons_zero, List.set_cons_succ]
            refine wpAnyH_done (by kernel_rfl) ?_ _
            go_wp2_with fail
            go_roundw
            case rel => exact ⟨k + 1, _, x4, _, a', n', m', HLT.out, rfl, by rw [rest_eq, ← HR'.out]; exact HI'.out, HNE'.out, rfl, dx4, gx4, ho4.reRow hd, by rw [List.map_append, HRS.out, opt_take HLT.out, ← HXO.out]; rfl, fun e => by cases e⟩
            case measure => have := HI'.out.count; have := HRL.out; show n' < n; omega
        · clear hOw
          obtain ⟨nr, hnr⟩ : ∃ nr, nr = rs.length := ⟨_, rfl⟩
          rw [← hnr] at HOw ⊢ hg3
          rw [rowW_size] at hg2
          have HNR := Lib.hid hnr
          have HRSL := Lib.hid (show rs.length ≤ 1000000000 by have := HRS.out; have e := congrArg List.length this; rw [List.length_map, List.length_take] at e; have h40 := HLEN.out; omega)
          clear hnr hG
          go_wp2_with fail
          obtain ⟨Y, hY⟩ : ∃ Y, Y = ((rowW x D [.slice a7 n7 m7, .slice a8 n8 m8, .int .u8 (bt l 0 / 16), .int .u8 (W : Int), .int .u8 (bt l 1), .int .u16 (M : Int), .int .u16 (bt l 4 * 256 + bt l 5), .int .u8 ((bt l 6 * 256 + bt l 7) / 8192), .int .u16 ((bt l 6 * 256 + bt l 7) % 8192), .int .u8 (bt l 8), .int .u8 (bt l 9), .int .u16 (bt l 10 * 256 + bt l 11), .slice a5 n5 m5, .slice a6 n6 m6, .slice (some ⟨g, 0, none⟩) nr cO, .slice none 0 0] 108).alloc (.cells #[.int .u8 1, .int .u8 1, .slice none 0 0] 110)) := ⟨_, rfl⟩
          rw [← hY]
          obtain ⟨T9, hT9⟩ : ∃ T9, T9 = x.heap.size := ⟨_, rfl⟩
          try rw [← hT9]
          have gY : Gr (rowW x D [.slice a7 n7 m7, .slice a8 n8 m8, .int .u8 (bt l 0 / 16), .int .u8 (W : Int), .int .u8 (bt l 1), .int .u16 (M : Int), .int .u16 (bt l 4 * 256 + bt l 5), .int .u8 ((bt l 6 * 256 + bt l 7) / 8192), .int .u16 ((bt l 6 * 256 + bt l 7) % 8192), .int .u8 (bt l 8), .int .u8 (bt l 9), .int .u16 (bt l 10 * 256 + bt l 11), .slice a5 n5 m5, .slice a6 n6 m6, .slice (some ⟨g, 0, none⟩) nr cO, .slice none 0 0] 108) Y := by rw [hY]; exact (Gr.refl _).alloc _
          have bY := box3 (w := rowW x D [.slice a7 n7 m7, .slice a8 n8 m8, .int .u8 (bt l 0 / 16), .int .u8 (W : Int), .int .u8 (bt l 1), .int .u16 (M : Int), .int .u16 (bt l 4 * 256 + bt l 5), .int .u8 ((bt l 6 * 256 + bt l 7) / 8192), .int .u16 ((bt l 6 * 256 + bt l 7) % 8192), .int .u8 (bt l 8), .int .u8 (bt l 9), .int .u16 (bt l 10 * 256 + bt l 11), .slice a5 n5 m5, .slice a6 n6 m6, .slice (some ⟨g, 0, none⟩) nr cO, .slice none 0 0] 108) (b := T9) (by rw [hT9, rowW_size]) (.int .u8 1) (.int .u8 1) (.slice none 0 0) 110
          rw [← hY] at bY
          obtain ⟨bY0, bY1, bY2⟩ := bY
          have cY := gY.cell (rowW_cell hX 14)
          have cY0 : Y.drew.cell? ⟨D, 14, none⟩ = some (.slice (some ⟨g, 0, none⟩) nr cO) := cY
          have cY1 : ∀ o, (Y.drew.alloc o).cell? ⟨D, 14, none⟩ = some (.slice (some ⟨g, 0, none⟩) nr cO) := fun o => Gr.cell (((Gr.refl _).drew).alloc _) cY
          have cY2 : ∀ o, (Y.alloc o).cell? ⟨D, 14, none⟩ = some (.slice (some ⟨g, 0, none⟩) nr cO) := fun o => Gr.cell ((Gr.refl _).alloc _) cY
          have hOY := HOw.out.gr gY
          have GWY := Lib.hid ((gr_rows (cs := [.slice a7 n7 m7, .slice a8 n8 m8, .int .u8 (bt l 0 / 16), .int .u8 (W : Int), .int .u8 (bt l 1), .int .u16 (M : Int), .int .u16 (bt l 4 * 256 + bt l 5), .int .u8 ((bt l 6 * 256 + bt l 7) / 8192), .int .u16 ((bt l 6 * 256 + bt l 7) % 8192), .int .u8 (bt l 8), .int .u8 (bt l 9), .int .u16 (bt l 10 * 256 + bt l 11), .slice a5 n5 m5, .slice a6 n6 m6, .slice (some ⟨g, 0, none⟩) nr cO, .slice none 0 0]) (e := 108) hd HG.out).trans gY)
          have neT : g ≠ T9 := by rw [hT9]; omega
          have neTD : T9 ≠ D := by have : D < x.heap.size := hX; omega
          have neD : g ≠ D := by have : D < w1.heap.size := hd; omega
          have HOY := Lib.hid hOY
          have HB0 := Lib.hid bY0
          have szY := gY.size
          have szW := HG.out.size
          rw [rowW_size] at szY
          clear hY hT9 gY hOY
          refine wp_region_held_drew (S := (fun w' => w'.cell? ⟨T9, 0, none⟩ = some (.int .u8 1) ∧ w'.cell? ⟨T9, 1, none⟩ = some (.int .u8 1) ∧ w'.cell? ⟨T9, 2, none⟩ = some (.slice none 0 0))) (by kernel_rfl) ⟨bY0, bY1, bY2⟩ (fun hHeld => ?_)
          refine wpAnyH_take (i := 0) (v := .pointer (some ⟨D, 0, none⟩)) rfl (by kernel_rfl) (by kernel_rfl) (by kernel_rfl) (fun _ _ _ h => h) (Or.inl ⟨by rfl, fun w' hS => ?_⟩) (by assumption) ?_
          · obtain ⟨c0, c1, c2⟩ := hS
            clear hHeld
            go_simp
          try simp only [Act.put, List.getElem_toArray, List.getElem_cons_succ, List.getElem_cons_zero, List.setIfInBounds_toArray, List.set_cons_zero, List.set_cons_succ]
          refine wpAnyH_take (i := 1) (v := .pointer (some ⟨D, 0, none⟩)) rfl (by kernel_rfl) (by kernel_rfl) (by kernel_rfl) (fun _ _ _ h => h) (Or.inl ⟨by rfl, fun w' hS => ?_⟩) (by assumption) ?_
          · obtain ⟨c0, c1, c2⟩ := hS
            clear hHeld
            go_simp
          try simp only [Act.put, List.getElem_toArray, List.getElem_cons_succ, List.getElem_cons_zero, List.setIfInBounds_toArray, List.set_cons_zero, List.set_cons_succ]
          refine wpAnyH_take (i := 2) (v := .pointer (some ⟨D, 0, none⟩)) rfl (by kernel_rfl) (by kernel_rfl) (by kernel_rfl) (fun _ _ _ h => h) (Or.inl ⟨by rfl, fun w' hS => ?_⟩) (by assumption) ?_
          · obtain ⟨c0, c1, c2⟩ := hS
            clear hHeld
            go_simp
          try simp only [Act.put, List.getElem_toArray, List.getElem_cons_succ, List.getElem_cons_zero, List.setIfInBounds_toArray, List.set_cons_zero, List.set_cons_succ]
          refine wpAnyH_take (i := 3) (v := .pointer (some ⟨D, 14, none⟩)) rfl (by kernel_rfl) (by kernel_rfl) (by kernel_rfl) (fun _ _ _ h => h) (Or.inl ⟨by rfl, fun w' hS => ?_⟩) (by assumption) ?_
          · obtain ⟨c0, c1, c2⟩ := hS
            clear hHeld
            go_simp
          try simp only [Act.put, List.getElem_toArray, List.getElem_cons_succ, List.getElem_cons_zero, List.setIfInBounds_toArray, List.set_cons_zero, List.set_cons_succ]
          refine wpAnyH_take (i := 5) (v := .agg #[.int .u8 1, .int .u8 1, .slice none 0 0]) rfl (by kernel_rfl) (by kernel_rfl) (by kernel_rfl) (fun _ _ _ h => h) (Or.inl ⟨by rfl, fun w' hS => ?_⟩) (by assumption) ?_
          · obtain ⟨c0, c1, c2⟩ := hS
            clear hHeld
            go_simp
          try simp only [Act.put, List.getElem_toArray, List.getElem_cons_succ, List.getElem_cons_zero, List.setIfInBounds_toArray, List.set_cons_zero, List.set_cons_succ]
          refine wpAnyH_ready (rs := [4, 6]) (by kernel_rfl) (by simp) (AllReadyH.cons rfl (fun K hK => ?_) (AllReadyH.cons rfl (fun K hK => ?_) AllReadyH.nil))
          · refine step_loadc (by rfl) 106 (.tmp 287) (by rfl) D 14 (by first | rfl | simp) (.slice (some ⟨g, 0, none⟩) nr cO) 110 Try.underlying106 cY ?_
            refine hK.out _ _ ⟨bY0, bY1, bY2⟩ (fun hHeld => ?_)
            clear hK K
            try simp only [Act.put, List.getElem_toArray, List.getElem_cons_succ, List.getElem_cons_zero, List.setIfInBounds_toArray, List.set_cons_zero, List.set_cons_succ]
            refine wpAnyH_ready (rs := [6]) (by kernel_rfl) (by simp) (AllReadyH.cons rfl (fun K hK => ?_) AllReadyH.nil)
            go_simp
            refine hK.out _ _ ⟨Gr.cell (((Gr.refl _).drew).alloc _) bY0, Gr.cell (((Gr.refl _).drew).alloc _) bY1, Gr.cell (((Gr.refl _).drew).alloc _) bY2⟩ (fun hHeld => ?_)
            clear hK K
            try simp only [Act.put, List.getElem_toArray, List.getElem_cons_succ, List.getElem_cons_zero, List.setIfInBounds_toArray, List.set_cons_zero, List.set_cons_succ]
            refine wpAnyH_ready (rs := [7]) (by kernel_rfl) (by simp) (AllReadyH.cons rfl (fun K hK => ?_) AllReadyH.nil)
            refine step_appR rfl (.tmp 288) (.tmp 290) 106 110 rfl Try.underlying106 _ 32 info_o4 rfl (by omega) w1.heap.size D (.slice (some ⟨g, 0, none⟩) nr cO) rs (by first | rfl | simp [Act.eval]) (HOY.out.gr (((Gr.refl Y).drew).alloc _)) Y.heap.size 1 ⟨1, 1, []⟩ (.slice none 0 0) (by first | rfl | simp [Act.eval]) (box3 rfl _ _ _ _).1 (box3 rfl _ _ _ _).2.1 (box3 rfl _ _ _ _).2.2 isB_nil (.inl rfl) (fun _ _ => .inl rfl) HRSL.out (by show w1.heap.size ≤ (World.alloc _ _).heap.size; rw [World.size_alloc]; show w1.heap.size ≤ Y.heap.size + 1; omega) ?_
            intro v4 w4 ho4 hg4 hat4
            obtain ⟨g4, n4, c4, rfl, hg41⟩ := ho4.slice_pos (by simp)
            have G4 := grownBy_step ((GWY.out.drew).alloc _) hg4 (fun k hk => .inl (by rw [rowW_size]; have : g = k := Option.some.inj hk; omega))
            have k4b := World.grownBy.cell hg4 (a := ⟨T9, 0, none⟩) (Gr.cell (((Gr.refl _).drew).alloc _) bY0) (fun e => neT (Option.some.inj e).symm)
            have k4c := World.grownBy.cell hg4 (a := ⟨T9, 1, none⟩) (Gr.cell (((Gr.refl _).drew).alloc _) bY1) (fun e => neT (Option.some.inj e).symm)
            have k4d := World.grownBy.cell hg4 (a := ⟨T9, 2, none⟩) (Gr.cell (((Gr.refl _).drew).alloc _) bY2) (fun e => neT (Option.some.inj e).symm)
            obtain ⟨x4, gx4, dx4, rfl⟩ := Gr.unrow hd G4
            refine hK.out _ _ ⟨(rowW_cell_other neTD).trans ((rowW_cell_other neTD).symm.trans k4b), (rowW_cell_other neTD).trans ((rowW_cell_other neTD).symm.trans k4c), (rowW_cell_other neTD).trans ((rowW_cell_other neTD).symm.trans k4d)⟩ (fun hHeld => ?_)
            clear hK K
            try simp only [Act.put, List.getElem_toArray, List.getElem_cons_succ, List.getElem_cons_zero, List.setIfInBounds_toArray, List.set_cons_zero, List.set_cons_succ]
            refine wpAnyH_take (i := 8) (v := .pointer (some ⟨D, 0, none⟩)) rfl (by kernel_rfl) (by kernel_rfl) (by kernel_rfl) (fun _ _ _ h => h) (Or.inl ⟨by rfl, fun w' hS => ?_⟩) (by assumption) ?_
            · obtain ⟨c0, c1, c2⟩ := hS
              clear hHeld
              go_simp
            try simp only [Act.put, List.getElem_toArray, List.getElem_cons_succ, List.getElem_cons_zero, List.setIfInBounds_toArray, List.set_cons_zero, List.set_cons_succ]
            refine wpAnyH_take (i := 9) (v := .pointer (some ⟨D, 14, none⟩)) rfl (by kernel_rfl) (by kernel_rfl) (by kernel_rfl) (fun _ _ _ h => h) (Or.inl ⟨by rfl, fun w' hS => ?_⟩) (by assumption) ?_
            · obtain ⟨c0, c1, c2⟩ := hS
              clear hHeld
              go_simp
            try simp only [Act.put, List.getElem_toArray, List.getElem_cons_succ, List.getElem_cons_zero, List.setIfInBounds_toArray, List.set_cons_zero, List.set_cons_succ]
            refine wpAnyH_ready (rs := [10]) (by kernel_rfl) (by simp) (AllReadyH.cons rfl (fun K hK => ?_) AllReadyH.nil)
            go_simp
            refine hK.out _ _ ⟨(rowW_cell_other neTD).trans ((rowW_cell_other neTD).symm.trans k4b), (rowW_cell_other neTD).trans ((rowW_cell_other neTD).symm.trans k4c), (rowW_cell_other neTD).trans ((rowW_cell_other neTD).symm.trans k4d)⟩ (fun hHeld => ?_)
            clear hK K
            try simp only [Act.put, List.getElem_toArray, List.getElem_cons_succ, List.getElem_cons_zero, List.setIfInBounds_toArray, List.set_cons_zero, List.set_cons_succ]
            refine wpAnyH_done (by kernel_rfl) ?_ _
            go_wp2_with fail
            go_roundw
            case rel => exact ⟨k + 1, _, x4, _, a', n', m', HLT.out, rfl, by rw [rest_eq, ← HR'.out]; exact HI'.out, HNE'.out, rfl, dx4, gx4, ho4.reRow hd, by rw [List.map_append, HRS.out, opt_take HLT.out, ← HXO.out]; rfl, fun e => by cases e⟩
            case measure => have := HI'.out.count; have := HRL.out; show n' < n; omega
          · go_simp
            refine hK.out _ _ ⟨Gr.cell (((Gr.refl _).drew).alloc _) bY0, Gr.cell (((Gr.refl _).drew).alloc _) bY1, Gr.cell (((Gr.refl _).drew).alloc _) bY2⟩ (fun hHeld => ?_)
            clear hK K
            try simp only [Act.put, List.getElem_toArray, List.getElem_cons_succ, List.getElem_cons_zero, List.setIfInBounds_toArray, List.set_cons_zero, List.set_cons_succ]
            refine wpAnyH_ready (rs := [4]) (by kernel_rfl) (by simp) (AllReadyH.cons rfl (fun K hK => ?_) AllReadyH.nil)
            refine step_loadc (by rfl) 106 (.tmp 287) (by rfl) D 14 (by first | rfl | simp) (.slice (some ⟨g, 0, none⟩) nr cO) 110 Try.underlying106 (Gr.cell (((Gr.refl _).drew).alloc _) cY) ?_
            refine hK.out _ _ ⟨Gr.cell (((Gr.refl _).drew).alloc _) bY0, Gr.cell (((Gr.refl _).drew).alloc _) bY1, Gr.cell (((Gr.refl _).drew).alloc _) bY2⟩ (fun hHeld => ?_)
            clear hK K
            try simp only [Act.put, List.getElem_toArray, List.getElem_cons_succ, List.getElem_cons_zero, List.setIfInBounds_toArray, List.set_cons_zero, List.set_cons_succ]
            refine wpAnyH_ready (rs := [7]) (by kernel_rfl) (by simp) (AllReadyH.cons rfl (fun K hK => ?_) AllReadyH.nil)
            refine step_appR rfl (.tmp 288) (.tmp 290) 106 110 rfl Try.underlying106 _ 32 info_o4 rfl (by omega) w1.heap.size D (.slice (some ⟨g, 0, none⟩) nr cO) rs (by first | rfl | simp [Act.eval]) (HOY.out.gr (((Gr.refl Y).drew).alloc _)) Y.heap.size 1 ⟨1, 1, []⟩ (.slice none 0 0) (by first | rfl | simp [Act.eval]) (box3 rfl _ _ _ _).1 (box3 rfl _ _ _ _).2.1 (box3 rfl _ _ _ _).2.2 isB_nil (.inl rfl) (fun _ _ => .inl rfl) HRSL.out (by show w1.heap.size ≤ (World.alloc _ _).heap.size; rw [World.size_alloc]; show w1.heap.size ≤ Y.heap.size + 1; omega) ?_
            intro v4 w4 ho4 hg4 hat4
            obtain ⟨g4, n4, c4, rfl, hg41⟩ := ho4.slice_pos (by simp)
            have G4 := grownBy_step ((GWY.out.drew).alloc _) hg4 (fun k hk => .inl (by rw [rowW_size]; have : g = k := Option.some.inj hk; omega))
            have k4b := World.grownBy.cell hg4 (a := ⟨T9, 0, none⟩) (Gr.cell (((Gr.refl _).drew).alloc _) bY0) (fun e => neT (Option.some.inj e).symm)
            have k4c := World.grownBy.cell hg4 (a := ⟨T9, 1, none⟩) (Gr.cell (((Gr.refl _).drew).alloc _) bY1) (fun e => neT (Option.some.inj e).symm)
            have k4d := World.grownBy.cell hg4 (a := ⟨T9, 2, none⟩) (Gr.cell (((Gr.refl _).drew).alloc _) bY2) (fun e => neT (Option.some.inj e).symm)
            obtain ⟨x4, gx4, dx4, rfl⟩ := Gr.unrow hd G4
            refine hK.out _ _ ⟨(rowW_cell_other neTD).trans ((rowW_cell_other neTD).symm.trans k4b), (rowW_cell_other neTD).trans ((rowW_cell_other neTD).symm.trans k4c), (rowW_cell_other neTD).trans ((rowW_cell_other neTD).symm.trans k4d)⟩ (fun hHeld => ?_)
            clear hK K
            try simp only [Act.put, List.getElem_toArray, List.getElem_cons_succ, List.getElem_cons_zero, List.setIfInBounds_toArray, List.set_cons_zero, List.set_cons_succ]
            refine wpAnyH_take (i := 8) (v := .pointer (some ⟨D, 0, none⟩)) rfl (by kernel_rfl) (by kernel_rfl) (by kernel_rfl) (fun _ _ _ h => h) (Or.inl ⟨by rfl, fun w' hS => ?_⟩) (by assumption) ?_
            · obtain ⟨c0, c1, c2⟩ := hS
              clear hHeld
              go_simp
            try simp only [Act.put, List.getElem_toArray, List.getElem_cons_succ, List.getElem_cons_zero, List.setIfInBounds_toArray, List.set_cons_zero, List.set_cons_succ]
            refine wpAnyH_take (i := 9) (v := .pointer (some ⟨D, 14, none⟩)) rfl (by kernel_rfl) (by kernel_rfl) (by kernel_rfl) (fun _ _ _ h => h) (Or.inl ⟨by rfl, fun w' hS => ?_⟩) (by assumption) ?_
            · obtain ⟨c0, c1, c2⟩ := hS
              clear hHeld
              go_simp
            try simp only [Act.put, List.getElem_toArray, List.getElem_cons_succ, List.getElem_cons_zero, List.setIfInBounds_toArray, List.set_cons_zero, List.set_cons_succ]
            refine wpAnyH_ready (rs := [10]) (by kernel_rfl) (by simp) (AllReadyH.cons rfl (fun K hK => ?_) AllReadyH.nil)
            go_simp
            refine hK.out _ _ ⟨(rowW_cell_other neTD).trans ((rowW_cell_other neTD).symm.trans k4b), (rowW_cell_other neTD).trans ((rowW_cell_other neTD).symm.trans k4c), (rowW_cell_other neTD).trans ((rowW_cell_other neTD).symm.trans k4d)⟩ (fun hHeld => ?_)
            clear hK K
            try simp only [Act.put, List.getElem_toArray, List.getElem_cons_succ, List.getElem_cons_zero, List.setIfInBounds_toArray, List.set_cons_zero, List.set_cons_succ]
            refine wpAnyH_done (by kernel_rfl) ?_ _
            go_wp2_with fail
            go_roundw
            case rel => exact ⟨k + 1, _, x4, _, a', n', m', HLT.out, rfl, by rw [rest_eq, ← HR'.out]; exact HI'.out, HNE'.out, rfl, dx4, gx4, ho4.reRow hd, by rw [List.map_append, HRS.out, opt_take HLT.out, ← HXO.out]; rfl, fun e => by cases e⟩
            case measure => have := HI'.out.count; have := HRL.out; show n' < n; omega

      · have k2 : ln = d.length + 2 := by
          rcases hok1 with h | h
          · exact absurd h.1 k1
          · exact h.2
        have hd1 : 0 < d.length := List.length_pos_iff.2 (hbr k1)
        have ho : optB ⟨kd, ln, d⟩ = [kd, ln] ++ d := by
          have e1 : kd % 256 = kd := by omega
          have e2 : ln % 256 = ln := by simp only [optB, if_neg k1, List.length_append, List.length_cons, List.length_nil] at hrl; omega
          simp [optB, k1, e1, e2]
        rw [ho] at hR hrl
        simp only [List.length_append, List.length_cons, List.length_nil] at hrl
        obtain ⟨N, hN⟩ : ∃ N, N = d.length + 2 := ⟨_, rfl⟩
        obtain rfl : ln = (N : Int) := by omega
        have hRe : R = kd :: (N : Int) :: (d ++ R') := by rw [hR]; simp
        have b0 : bt R 0 = kd := by rw [hRe]; rfl
        have b1 : bt R 1 = (N : Int) := by rw [hRe]; rfl
        have hRl : n = N + R'.length := by rw [hcn, hRe]; simp; omega
        obtain ⟨bi, oi, ii, ci, zi⟩ := hI.idx (P := Try.prog) 25 5 i Try.underlying25 hi hz1 .i64 0 0 rfl (by omega)
        obtain ⟨bj, oj, ij, cj, zj⟩ := hI.idx (P := Try.prog) 25 5 i Try.underlying25 hi hz1 .i64 1 1 rfl (by omega)
        obtain ⟨a', n', m', hI', hbI', si⟩ := hI.cutL (P := Try.prog) 25 5 i Try.underlying25 hi hz1 (N : Int) N rfl (by omega)
        obtain ⟨ad, nd, md, hID, hbD, sd⟩ := hI.cutLH (P := Try.prog) 25 5 i Try.underlying25 hi hz1 2 (N : Int) 2 N rfl rfl (by omega) (by omega)
        have ei : bi ≠ D := by rintro rfl; exact hneA zi
        have ej : bj ≠ D := by rintro rfl; exact hneA zj
        rw [b0] at ci
        rw [b1] at cj
        have e3 : R.drop N = R' := by rw [hR, hN, List.append_assoc]; simp
        have e4 : (R.take N).drop 2 = d := by rw [hR, hN, List.append_assoc]; simp
        rw [e3] at hI'
        rw [e4] at hID
        have ci := hG.cell ci
        have cj := hG.cell cj
        have nj : ∀ C o, ((rowW x D C 108).alloc o).cell? ⟨bj, oj, none⟩ = some (.int .u8 (N : Int)) := fun C o => Gr.cell ((Gr.refl _).alloc o) ((rowW_cell_other ej).trans cj)
        have n0 : decide ((0 : Int) < (n : Int)) = true := decide_eq_true (by omega)
        have hn1 : 0 < n := by omega
        have t1 : (kd == 0) = false := by simp; omega
        have t2 : (kd == 1) = false := by simp; omega
        have t3 : decide ((n : Int) < 2) = false := by simp; omega
        have t4 : decide ((n : Int) < (N : Int)) = false := by simp; omega
        have t5 : decide ((N : Int) ≤ 2) = false := by simp; omega
        have t6 : IntKind.i64.wrap (N : Int) = (N : Int) := w64 (by omega) (by omega)
        have HI' := Lib.hid (show IsB w1 (.slice a' n' m') R' from hI')
        have HNE' := Lib.hid (show (Value.slice a' n' m').ownBlock ≠ some D by rw [hbI']; exact hneA)
        have HID := Lib.hid (show IsB w1 (.slice ad nd md) d from hID)
        have HNED := Lib.hid (show (Value.slice ad nd md).ownBlock ≠ some D by rw [hbD]; exact hneA)
        have HRL := Lib.hid (show R'.length < n by omega)
        have HKD := Lib.hid hok2
        have hn3 : 2 < N := by omega
        have hn4 : N ≤ n := by omega
        clear hI hI' hID hbI' hbD hR hRe hcn b0 b1 e3 e4 ho hneA zi zj hok1 hok2 hok3 hbr hRl hrl k2 hd1 hN
        rcases hOw.slice with ⟨rfl, rfl⟩ | ⟨g, cO, rfl, hg1, hg2, hg3, hg4⟩
        · clear hOw HOw
          obtain ⟨x9, gx9, dx9, mk, sx9, ow9⟩ := made4 (C := [.slice a7 n7 m7, .slice a8 n8 m8, .int .u8 (bt l 0 / 16), .int .u8 (W : Int), .int .u8 (bt l 1), .int .u16 (M : Int), .int .u16 (bt l 4 * 256 + bt l 5), .int .u8 ((bt l 6 * 256 + bt l 7) / 8192), .int .u16 ((bt l 6 * 256 + bt l 7) % 8192), .int .u8 (bt l 8), .int .u8 (bt l 9), .int .u16 (bt l 10 * 256 + bt l 11), .slice a5 n5 m5, .slice a6 n6 m6, .slice none 0 0, .slice none 0 0]) hX hG.size
          obtain ⟨g, hg⟩ : ∃ g, g = x.heap.size := ⟨_, rfl⟩
          rw [← hg] at mk ow9 sx9
          have hg1 : w1.heap.size ≤ g := by have := hG.size; omega
          have HG := Lib.hid (hG.trans gx9)
          have HOw := Lib.hid (OwnO.reRow (cs' := [.slice a7 n7 m7, .slice a8 n8 m8, .int .u8 (bt l 0 / 16), .int .u8 (W : Int), .int .u8 (bt l 1), .int .u16 (M : Int), .int .u16 (bt l 4 * 256 + bt l 5), .int .u8 ((bt l 6 * 256 + bt l 7) / 8192), .int .u16 ((bt l 6 * 256 + bt l 7) % 8192), .int .u8 (bt l 8), .int .u8 (bt l 9), .int .u16 (bt l 10 * 256 + bt l 11), .slice a5 n5 m5, .slice a6 n6 m6, .slice (some ⟨g, 0, none⟩) 0 4, .slice none 0 0]) ow9 hd)
          have HRSL := Lib.hid (show ([] : List (Opt × Value)).length ≤ 1000000000 by simp)
          have ci := gx9.cell ci
          have cj := gx9.cell cj
          have nj : ∀ C o, ((rowW x9 D C 108).alloc o).cell? ⟨bj, oj, none⟩ = some (.int .u8 (N : Int)) := fun C o => Gr.cell ((Gr.refl _).alloc o) ((rowW_cell_other ej).trans cj)
          have hX := dx9
          clear hG gx9 dx9 hg ow9
          go_wp2_with fail
          obtain ⟨Y, hY⟩ : ∃ Y, Y = ((rowW x9 D [.slice a7 n7 m7, .slice a8 n8 m8, .int .u8 (bt l 0 / 16), .int .u8 (W : Int), .int .u8 (bt l 1), .int .u16 (M : Int), .int .u16 (bt l 4 * 256 + bt l 5), .int .u8 ((bt l 6 * 256 + bt l 7) / 8192), .int .u16 ((bt l 6 * 256 + bt l 7) % 8192), .int .u8 (bt l 8), .int .u8 (bt l 9), .int .u16 (bt l 10 * 256 + bt l 11), .slice a5 n5 m5, .slice a6 n6 m6, .slice (some ⟨g, 0, none⟩) 0 4, .slice none 0 0] 108).alloc (.cells #[.int .u8 kd, .int .u8 (N : Int), .slice ad nd md] 110)) := ⟨_, rfl⟩
          rw [← hY]
          obtain ⟨T9, hT9⟩ : ∃ T9, T9 = x9.heap.size := ⟨_, rfl⟩
          try rw [← hT9]
          have gY : Gr (rowW x9 D [.slice a7 n7 m7, .slice a8 n8 m8, .int .u8 (bt l 0 / 16), .int .u8 (W : Int), .int .u8 (bt l 1), .int .u16 (M : Int), .int .u16 (bt l 4 * 256 + bt l 5), .int .u8 ((bt l 6 * 256 + bt l 7) / 8192), .int .u16 ((bt l 6 * 256 + bt l 7) % 8192), .int .u8 (bt l 8), .int .u8 (bt l 9), .int .u16 (bt l 10 * 256 + bt l 11), .slice a5 n5 m5, .slice a6 n6 m6, .slice (some ⟨g, 0, none⟩) 0 4, .slice none 0 0] 108) Y := by rw [hY]; exact (Gr.refl _).alloc _
          have bY := box3 (w := rowW x9 D [.slice a7 n7 m7, .slice a8 n8 m8, .int .u8 (bt l 0 / 16), .int .u8 (W : Int), .int .u8 (bt l 1), .int .u16 (M : Int), .int .u16 (bt l 4 * 256 + bt l 5), .int .u8 ((bt l 6 * 256 + bt l 7) / 8192), .int .u16 ((bt l 6 * 256 + bt l 7) % 8192), .int .u8 (bt l 8), .int .u8 (bt l 9), .int .u16 (bt l 10 * 256 + bt l 11), .slice a5 n5 m5, .slice a6 n6 m6, .slice (some ⟨g, 0, none⟩) 0 4, .slice none 0 0] 108) (b := T9) (by rw [hT9, rowW_size]) (.int .u8 kd) (.int .u8 (N : Int)) (.slice ad nd md) 110
          rw [← hY] at bY
          obtain ⟨bY0, bY1, bY2⟩ := bY
          have cY := gY.cell (rowW_cell hX 14)
          have cY0 : Y.drew.cell? ⟨D, 14, none⟩ = some (.slice (some ⟨g, 0, none⟩) 0 4) := cY
          have cY1 : ∀ o, (Y.drew.alloc o).cell? ⟨D, 14, none⟩ = some (.slice (some ⟨g, 0, none⟩) 0 4) := fun o => Gr.cell (((Gr.refl _).drew).alloc _) cY
          have cY2 : ∀ o, (Y.alloc o).cell? ⟨D, 14, none⟩ = some (.slice (some ⟨g, 0, none⟩) 0 4) := fun o => Gr.cell ((Gr.refl _).alloc _) cY
          have hOY := HOw.out.gr gY
          have GWY := Lib.hid ((gr_rows (cs := [.slice a7 n7 m7, .slice a8 n8 m8, .int .u8 (bt l 0 / 16), .int .u8 (W : Int), .int .u8 (bt l 1), .int .u16 (M : Int), .int .u16 (bt l 4 * 256 + bt l 5), .int .u8 ((bt l 6 * 256 + bt l 7) / 8192), .int .u16 ((bt l 6 * 256 + bt l 7) % 8192), .int .u8 (bt l 8), .int .u8 (bt l 9), .int .u16 (bt l 10 * 256 + bt l 11), .slice a5 n5 m5, .slice a6 n6 m6, .slice (some ⟨g, 0, none⟩) 0 4, .slice none 0 0]) (e := 108) hd HG.out).trans gY)
          have neT : g ≠ T9 := by rw [hT9]; omega
          have neTD : T9 ≠ D := by have : D < x9.heap.size := hX; omega
          have neD : g ≠ D := by have : D < w1.heap.size := hd; omega
          have HOY := Lib.hid hOY
          have HB0 := Lib.hid bY0
          have szY := gY.size
          have szW := HG.out.size
          rw [rowW_size] at szY
          clear hY hT9 gY hOY
          refine wp_region_held_drew (S := (fun w' => w'.cell? ⟨T9, 0, none⟩ = some (.int .u8 kd) ∧ w'.cell? ⟨T9, 1, none⟩ = some (.int .u8 (N : Int)) ∧ w'.cell? ⟨T9, 2, none⟩ = some (.slice ad nd md))) (by kernel_rfl) ⟨bY0, bY1, bY2⟩ (fun hHeld => ?_)
          refine wpAnyH_take (i := 0) (v := .pointer (some ⟨D, 0, none⟩)) rfl (by kernel_rfl) (by kernel_rfl) (by kernel_rfl) (fun _ _ _ h => h) (Or.inl ⟨by rfl, fun w' hS => ?_⟩) (by assumption) ?_
          · obtain ⟨c0, c1, c2⟩ := hS
            clear hHeld
            go_simp
          try simp only [Act.put, List.getElem_toArray, List.getElem_cons_succ, List.getElem_cons_zero, List.setIfInBounds_toArray, List.set_cons_zero, List.set_cons_succ]
          refine wpAnyH_take (i := 1) (v := .pointer (some ⟨D, 0, none⟩)) rfl (by kernel_rfl) (by kernel_rfl) (by kernel_rfl) (fun _ _ _ h => h) (Or.inl ⟨by rfl, fun w' hS => ?_⟩) (by assumption) ?_
          · obtain ⟨c0, c1, c2⟩ := hS
            clear hHeld
            go_simp
          try simp only [Act.put, List.getElem_toArray, List.getElem_cons_succ, List.getElem_cons_zero, List.setIfInBounds_toArray, List.set_cons_zero, List.set_cons_succ]
          refine wpAnyH_take (i := 2) (v := .pointer (some ⟨D, 0, none⟩)) rfl (by kernel_rfl) (by kernel_rfl) (by kernel_rfl) (fun _ _ _ h => h) (Or.inl ⟨by rfl, fun w' hS => ?_⟩) (by assumption) ?_
          · obtain ⟨c0, c1, c2⟩ := hS
            clear hHeld
            go_simp
          try simp only [Act.put, List.getElem_toArray, List.getElem_cons_succ, List.getElem_cons_zero, List.setIfInBounds_toArray, List.set_cons_zero, List.set_cons_succ]
          refine wpAnyH_take (i := 3) (v := .pointer (some ⟨D, 14, none⟩)) rfl (by kernel_rfl) (by kernel_rfl) (by kernel_rfl) (fun _ _ _ h => h) (Or.inl ⟨by rfl, fun w' hS => ?_⟩) (by assumption) ?_
          · obtain ⟨c0, c1, c2⟩ := hS
            clear hHeld
            go_simp
          try simp only [Act.put, List.getElem_toArray, List.getElem_cons_succ, List.getElem_cons_zero, List.setIfInBounds_toArray, List.set_cons_zero, List.set_cons_succ]
          refine wpAnyH_take (i := 5) (v := .agg #[.int .u8 kd, .int .u8 (N : Int), .slice ad nd md]) rfl (by kernel_rfl) (by kernel_rfl) (by kernel_rfl) (fun _ _ _ h => h) (Or.inl ⟨by rfl, fun w' hS => ?_⟩) (by assumption) ?_
          · obtain ⟨c0, c1, c2⟩ := hS
            clear hHeld
            go_simp
          try simp only [Act.put, List.getElem_toArray, List.getElem_cons_succ, List.getElem_cons_zero, List.setIfInBounds_toArray, List.set_cons_zero, List.set_cons_succ]
          refine wpAnyH_ready (rs := [4, 6]) (by kernel_rfl) (by simp) (AllReadyH.cons rfl (fun K hK => ?_) (AllReadyH.cons rfl (fun K hK => ?_) AllReadyH.nil))
          · refine step_loadc (by rfl) 106 (.tmp 254) (by rfl) D 14 (by first | rfl | simp) (.slice (some ⟨g, 0, none⟩) 0 4) 110 Try.underlying106 cY ?_
            refine hK.out _ _ ⟨bY0, bY1, bY2⟩ (fun hHeld => ?_)
            clear hK K
            try simp only [Act.put, List.getElem_toArray, List.getElem_cons_succ, List.getElem_cons_zero, List.setIfInBounds_toArray, List.set_cons_zero, List.set_cons_succ]
            refine wpAnyH_ready (rs := [6]) (by kernel_rfl) (by simp) (AllReadyH.cons rfl (fun K hK => ?_) AllReadyH.nil)
            go_simp
            refine hK.out _ _ ⟨Gr.cell (((Gr.refl _).drew).alloc _) bY0, Gr.cell (((Gr.refl _).drew).alloc _) bY1, Gr.cell (((Gr.refl _).drew).alloc _) bY2⟩ (fun hHeld => ?_)
            clear hK K
            try simp only [Act.put, List.getElem_toArray, List.getElem_cons_succ, List.getElem_cons_zero, List.setIfInBounds_toArray, List.set_cons_zero, List.set_cons_succ]
            refine wpAnyH_ready (rs := [7]) (by kernel_rfl) (by simp) (AllReadyH.cons rfl (fun K hK => ?_) AllReadyH.nil)
            refine step_appR rfl (.tmp 255) (.tmp 257) 106 110 rfl Try.underlying106 _ 32 info_o4 rfl (by omega) w1.heap.size D (.slice (some ⟨g, 0, none⟩) 0 4) [] (by first | rfl | simp [Act.eval]) (HOY.out.gr (((Gr.refl Y).drew).alloc _)) Y.heap.size 1 ⟨kd, (N : Int), d⟩ (.slice ad nd md) (by first | rfl | simp [Act.eval]) (box3 rfl _ _ _ _).1 (box3 rfl _ _ _ _).2.1 (box3 rfl _ _ _ _).2.2 ((HID.out.rowW HNED.out).gr ((GWY.out.drew).alloc _)) (.inr HNED.out) (fun k hk => HID.out.aside (by have : g = k := Option.some.inj hk; omega)) HRSL.out (by show w1.heap.size ≤ (World.alloc _ _).heap.size; rw [World.size_alloc]; show w1.heap.size ≤ Y.heap.size + 1; omega) ?_
            intro v4 w4 ho4 hg4 hat4
            obtain ⟨g4, n4, c4, rfl, hg41⟩ := ho4.slice_pos (by simp)
            have G4 := grownBy_step ((GWY.out.drew).alloc _) hg4 (fun k hk => .inl (by rw [rowW_size]; have : g = k := Option.some.inj hk; omega))
            have k4b := World.grownBy.cell hg4 (a := ⟨T9, 0, none⟩) (Gr.cell (((Gr.refl _).drew).alloc _) bY0) (fun e => neT (Option.some.inj e).symm)
            have k4c := World.grownBy.cell hg4 (a := ⟨T9, 1, none⟩) (Gr.cell (((Gr.refl _).drew).alloc _) bY1) (fun e => neT (Option.some.inj e).symm)
            have k4d := World.grownBy.cell hg4 (a := ⟨T9, 2, none⟩) (Gr.cell (((Gr.refl _).drew).alloc _) bY2) (fun e => neT (Option.some.inj e).symm)
            obtain ⟨x4, gx4, dx4, rfl⟩ := Gr.unrow hd G4
            refine hK.out _ _ ⟨(rowW_cell_other neTD).trans ((rowW_cell_other neTD).symm.trans k4b), (rowW_cell_other neTD).trans ((rowW_cell_other neTD).symm.trans k4c), (rowW_cell_other neTD).trans ((rowW_cell_other neTD).symm.trans k4d)⟩ (fun hHeld => ?_)
            clear hK K
            try simp only [Act.put, List.getElem_toArray, List.getElem_cons_succ, List.getElem_cons_zero, List.setIfInBounds_toArray, List.set_cons_zero, List.set_cons_succ]
            refine wpAnyH_take (i := 8) (v := .pointer (some ⟨D, 0, none⟩)) rfl (by kernel_rfl) (by kernel_rfl) (by kernel_rfl) (fun _ _ _ h => h) (Or.inl ⟨by rfl, fun w' hS => ?_⟩) (by assumption) ?_
            · obtain ⟨c0, c1, c2⟩ := hS
              clear hHeld
              go_simp
            try simp only [Act.put, List.getElem_toArray, List.getElem_cons_succ, List.getElem_cons_zero, List.setIfInBounds_toArray, List.set_cons_zero, List.set_cons_succ]
            refine wpAnyH_take (i := 9) (v := .pointer (some ⟨D, 14, none⟩)) rfl (by kernel_rfl) (by kernel_rfl) (by kernel_rfl) (fun _ _ _ h => h) (Or.inl ⟨by rfl, fun w' hS => ?_⟩) (by assumption) ?_
            · obtain ⟨c0, c1, c2⟩ := hS
              clear hHeld
              go_simp
            try simp only [Act.put, List.getElem_toArray, List.getElem_cons_succ, List.getElem_cons_zero, List.setIfInBounds_toArray, List.set_cons_zero, List.set_cons_succ]
            refine wpAnyH_ready (rs := [10]) (by kernel_rfl) (by simp) (AllReadyH.cons rfl (fun K hK => ?_) AllReadyH.nil)
            go_simp
            refine hK.out _ _ ⟨(rowW_cell_other neTD).trans ((rowW_cell_other neTD).symm.trans k4b), (rowW_cell_other neTD).trans ((rowW_cell_other neTD).symm.trans k4c), (rowW_cell_other neTD).trans ((rowW_cell_other neTD).symm.trans k4d)⟩ (fun hHeld => ?_)
            clear hK K
            try simp only [Act.put, List.getElem_toArray, List.getElem_cons_succ, List.getElem_cons_zero, List.setIfInBounds_toArray, List.set_cons_zero, List.set_cons_succ]
            refine wpAnyH_done (by kernel_rfl) ?_ _
            go_wp2_with fail
            go_roundw
            case rel => exact ⟨k + 1, _, x4, _, a', n', m', HLT.out, rfl, by rw [rest_eq, ← HR'.out]; exact HI'.out, HNE'.out, rfl, dx4, gx4, ho4.reRow hd, by rw [List.map_append, HRS.out, opt_take HLT.out, ← HXO.out]; rfl, fun e => by cases e⟩
            case measure => have := HI'.out.count; have := HRL.out; show n' < n; omega
          · go_simp
            refine hK.out _ _ ⟨Gr.cell (((Gr.refl _).drew).alloc _) bY0, Gr.cell (((Gr.refl _).drew).alloc _) bY1, Gr.cell (((Gr.refl _).drew).alloc _) bY2⟩ (fun hHeld => ?_)
            clear hK K
            try simp only [Act.put, List.getElem_toArray, List.getElem_cons_succ, List.getElem_cons_zero, List.setIfInBounds_toArray, List.set_cons_zero, List.set_cons_succ]
            refine wpAnyH_ready (rs := [4]) (by kernel_rfl) (by simp) (AllReadyH.cons rfl (fun K hK => ?_) AllReadyH.nil)
            refine step_loadc (by rfl) 106 (.tmp 254) (by rfl) D 14 (by first | rfl | simp) (.slice (some ⟨g, 0, none⟩) 0 4) 110 Try.underlying106 (Gr.cell (((Gr.refl _).drew).alloc _) cY) ?_
            refine hK.out _ _ ⟨Gr.cell (((Gr.refl _).drew).alloc _) bY0, Gr.cell (((Gr.refl _).drew).alloc _) bY1, Gr.cell (((Gr.refl _).drew).alloc _) bY2⟩ (fun hHeld => ?_)
            clear hK K
            try simp only [Act.put, List.getElem_toArray, List.getElem_cons_succ, List.getElem_cons_zero, List.setIfInBounds_toArray, List.set_cons_zero, List.set_cons_succ]
            refine wpAnyH_ready (rs := [7]) (by kernel_rfl) (by simp) (AllReadyH.cons rfl (fun K hK => ?_) AllReadyH.nil)
            refine step_appR rfl (.tmp 255) (.tmp 257) 106 110 rfl Try.underlying106 _ 32 info_o4 rfl (by omega) w1.heap.size D (.slice (some ⟨g, 0, none⟩) 0 4) [] (by first | rfl | simp [Act.eval]) (HOY.out.gr (((Gr.refl Y).drew).alloc _)) Y.heap.size 1 ⟨kd, (N : Int), d⟩ (.slice ad nd md) (by first | rfl | simp [Act.eval]) (box3 rfl _ _ _ _).1 (box3 rfl _ _ _ _).2.1 (box3 rfl _ _ _ _).2.2 ((HID.out.rowW HNED.out).gr ((GWY.out.drew).alloc _)) (.inr HNED.out) (fun k hk => HID.out.aside (by have : g = k := Option.some.inj hk; omega)) HRSL.out (by show w1.heap.size ≤ (World.alloc _ _).heap.size; rw [World.size_alloc]; show w1.heap.size ≤ Y.heap.size + 1; omega) ?_
            intro v4 w4 ho4 hg4 hat4
            obtain ⟨g4, n4, c4, rfl, hg41⟩ := ho4.slice_pos (by simp)
            have G4 := grownBy_step ((GWY.out.drew).alloc _) hg4 (fun k hk => .inl (by rw [rowW_size]; have : g = k := Option.some.inj hk; omega))
            have k4b := World.grownBy.cell hg4 (a := ⟨T9, 0, none⟩) (Gr.cell (((Gr.refl _).drew).alloc _) bY0) (fun e => neT (Option.some.inj e).symm)
            have k4c := World.grownBy.cell hg4 (a := ⟨T9, 1, none⟩) (Gr.cell (((Gr.refl _).drew).alloc _) bY1) (fun e => neT (Option.some.inj e).symm)
            have k4d := World.grownBy.cell hg4 (a := ⟨T9, 2, none⟩) (Gr.cell (((Gr.refl _).drew).alloc _) bY2) (fun e => neT (Option.some.inj e).symm)
            obtain ⟨x4, gx4, dx4, rfl⟩ := Gr.unrow hd G4
            refine hK.out _ _ ⟨(rowW_cell_other neTD).trans ((rowW_cell_other neTD).symm.trans k4b), (rowW_cell_other neTD).trans ((rowW_cell_other neTD).symm.trans k4c), (rowW_cell_other neTD).trans ((rowW_cell_other neTD).symm.trans k4d)⟩ (fun hHeld => ?_)
            clear hK K
            try simp only [Act.put, List.getElem_toArray, List.getElem_cons_succ, List.getElem_cons_zero, List.setIfInBounds_toArray, List.set_cons_zero, List.set_cons_succ]
            refine wpAnyH_take (i := 8) (v := .pointer (some ⟨D, 0, none⟩)) rfl (by kernel_rfl) (by kernel_rfl) (by kernel_rfl) (fun _ _ _ h => h) (Or.inl ⟨by rfl, fun w' hS => ?_⟩) (by assumption) ?_
            · obtain ⟨c0, c1, c2⟩ := hS
              clear hHeld
              go_simp
            try simp only [Act.put, List.getElem_toArray, List.getElem_cons_succ, List.getElem_cons_zero, List.setIfInBounds_toArray, List.set_cons_zero, List.set_cons_succ]
            refine wpAnyH_take (i := 9) (v := .pointer (some ⟨D, 14, none⟩)) rfl (by kernel_rfl) (by kernel_rfl) (by kernel_rfl) (fun _ _ _ h => h) (Or.inl ⟨by rfl, fun w' hS => ?_⟩) (by assumption) ?_
            · obtain ⟨c0, c1, c2⟩ := hS
              clear hHeld
              go_simp
            try simp only [Act.put, List.getElem_toArray, List.getElem_cons_succ, List.getElem_cons_zero, List.setIfInBounds_toArray, List.set_cons_zero, List.set_cons_succ]
            refine wpAnyH_ready (rs := [10]) (by kernel_rfl) (by simp) (AllReadyH.cons rfl (fun K hK => ?_) AllReadyH.nil)
            go_simp
            refine hK.out _ _ ⟨(rowW_cell_other neTD).trans ((rowW_cell_other neTD).symm.trans k4b), (rowW_cell_other neTD).trans ((rowW_cell_other neTD).symm.trans k4c), (rowW_cell_other neTD).trans ((rowW_cell_other neTD).symm.trans k4d)⟩ (fun hHeld => ?_)
            clear hK K
            try simp only [Act.put, List.getElem_toArray, List.getElem_cons_succ, List.getElem_cons_zero, List.setIfInBounds_toArray, List.set_cons_zero, List.set_cons_succ]
            refine wpAnyH_done (by kernel_rfl) ?_ _
            go_wp2_with fail
            go_roundw
            case rel => exact ⟨k + 1, _, x4, _, a', n', m', HLT.out, rfl, by rw [rest_eq, ← HR'.out]; exact HI'.out, HNE'.out, rfl, dx4, gx4, ho4.reRow hd, by rw [List.map_append, HRS.out, opt_take HLT.out, ← HXO.out]; rfl, fun e => by cases e⟩
            case measure => have := HI'.out.count; have := HRL.out; show n' < n; omega
        · clear hOw
          obtain ⟨nr, hnr⟩ : ∃ nr, nr = rs.length := ⟨_, rfl⟩
          rw [← hnr] at HOw ⊢ hg3
          rw [rowW_size] at hg2
          have HNR := Lib.hid hnr
          have HRSL := Lib.hid (show rs.length ≤ 1000000000 by have := HRS.out; have e := congrArg List.length this; rw [List.length_map, List.length_take] at e; have h40 := HLEN.out; omega)
          clear hnr hG
          go_wp2_with fail
          obtain ⟨Y, hY⟩ : ∃ Y, Y = ((rowW x D [.slice a7 n7 m7, .slice a8 n8 m8, .int .u8 (bt l 0 / 16), .int .u8 (W : Int), .int .u8 (bt l 1), .int .u16 (M : Int), .int .u16 (bt l 4 * 256 + bt l 5), .int .u8 ((bt l 6 * 256 + bt l 7) / 8192), .int .u16 ((bt l 6 * 256 + bt l 7) % 8192), .int .u8 (bt l 8), .int .u8 (bt l 9), .int .u16 (bt l 10 * 256 + bt l 11), .slice a5 n5 m5, .slice a6 n6 m6, .slice (some ⟨g, 0, none⟩) nr cO, .slice none 0 0] 108).alloc (.cells #[.int .u8 kd, .int .u8 (N : Int), .slice ad nd md] 110)) := ⟨_, rfl⟩
          rw [← hY]
          obtain ⟨T9, hT9⟩ : ∃ T9, T9 = x.heap.size := ⟨_, rfl⟩
          try rw [← hT9]
          have gY : Gr (rowW x D [.slice a7 n7 m7, .slice a8 n8 m8, .int .u8 (bt l 0 / 16), .int .u8 (W : Int), .int .u8 (bt l 1), .int .u16 (M : Int), .int .u16 (bt l 4 * 256 + bt l 5), .int .u8 ((bt l 6 * 256 + bt l 7) / 8192), .int .u16 ((bt l 6 * 256 + bt l 7) % 8192), .int .u8 (bt l 8), .int .u8 (bt l 9), .int .u16 (bt l 10 * 256 + bt l 11), .slice a5 n5 m5, .slice a6 n6 m6, .slice (some ⟨g, 0, none⟩) nr cO, .slice none 0 0] 108) Y := by rw [hY]; exact (Gr.refl _).alloc _
          have bY := box3 (w := rowW x D [.slice a7 n7 m7, .slice a8 n8 m8, .int .u8 (bt l 0 / 16), .int .u8 (W : Int), .int .u8 (bt l 1), .int .u16 (M : Int), .int .u16 (bt l 4 * 256 + bt l 5), .int .u8 ((bt l 6 * 256 + bt l 7) / 8192), .int .u16 ((bt l 6 * 256 + bt l 7) % 8192), .int .u8 (bt l 8), .int .u8 (bt l 9), .int .u16 (bt l 10 * 256 + bt l 11), .slice a5 n5 m5, .slice a6 n6 m6, .slice (some ⟨g, 0, none⟩) nr cO, .slice none 0 0] 108) (b := T9) (by rw [hT9, rowW_size]) (.int .u8 kd) (.int .u8 (N : Int)) (.slice ad nd md) 110
          rw [← hY] at bY
          obtain ⟨bY0, bY1, bY2⟩ := bY
          have cY := gY.cell (rowW_cell hX 14)
          have cY0 : Y.drew.cell? ⟨D, 14, none⟩ = some (.slice (some ⟨g, 0, none⟩) nr cO) := cY
          have cY1 : ∀ o, (Y.drew.alloc o).cell? ⟨D, 14, none⟩ = some (.slice (some ⟨g, 0, none⟩) nr cO) := fun o => Gr.cell (((Gr.refl _).drew).alloc _) cY
          have cY2 : ∀ o, (Y.alloc o).cell? ⟨D, 14, none⟩ = some (.slice (some ⟨g, 0, none⟩) nr cO) := fun o => Gr.cell ((Gr.refl _).alloc _) cY
          have hOY := HOw.out.gr gY
          have GWY := Lib.hid ((gr_rows (cs := [.slice a7 n7 m7, .slice a8 n8 m8, .int .u8 (bt l 0 / 16), .int .u8 (W : Int), .int .u8 (bt l 1), .int .u16 (M : Int), .int .u16 (bt l 4 * 256 + bt l 5), .int .u8 ((bt l 6 * 256 + bt l 7) / 8192), .int .u16 ((bt l 6 * 256 + bt l 7) % 8192), .int .u8 (bt l 8), .int .u8 (bt l 9), .int .u16 (bt l 10 * 256 + bt l 11), .slice a5 n5 m5, .slice a6 n6 m6, .slice (some ⟨g, 0, none⟩) nr cO, .slice none 0 0]) (e := 108) hd HG.out).trans gY)
          have neT : g ≠ T9 := by rw [hT9]; omega
          have neTD : T9 ≠ D := by have : D < x.heap.size := hX; omega
          have neD : g ≠ D := by have : D < w1.heap.size := hd; omega
          have HOY := Lib.hid hOY
          have HB0 := Lib.hid bY0
          have szY := gY.size
          have szW := HG.out.size
          rw [rowW_size] at szY
          clear hY hT9 gY hOY
          refine wp_region_held_drew (S := (fun w' => w'.cell? ⟨T9, 0, none⟩ = some (.int .u8 kd) ∧ w'.cell? ⟨T9, 1, none⟩ = some (.int .u8 (N : Int)) ∧ w'.cell? ⟨T9, 2, none⟩ = some (.slice ad nd md))) (by kernel_rfl) ⟨bY0, bY1, bY2⟩ (fun hHeld => ?_)
          refine wpAnyH_take (i := 0) (v := .pointer (some ⟨D, 0, none⟩)) rfl (by kernel_rfl) (by kernel_rfl) (by kernel_rfl) (fun _ _ _ h => h) (Or.inl ⟨by rfl, fun w' hS => ?_⟩) (by assumption) ?_
          · obtain ⟨c0, c1, c2⟩ := hS
            clear hHeld
            go_simp
          try simp only [Act.put, List.getElem_toArray, List.getElem_cons_succ, List.getElem_cons_zero, List.setIfInBounds_toArray, List.set_cons_zero, List.set_cons_succ]
          refine wpAnyH_take (i := 1) (v := .pointer (some ⟨D, 0, none⟩)) rfl (by kernel_rfl) (by kernel_rfl) (by kernel_rfl) (fun _ _ _ h => h) (Or.inl ⟨by rfl, fun w' hS => ?_⟩) (by assumption) ?_
          · obtain ⟨c0, c1, c2⟩ := hS
            clear hHeld
            go_simp
          try simp only [Act.put, List.getElem_toArray, List.getElem_cons_succ, List.getElem_cons_zero, List.setIfInBounds_toArray, List.set_cons_zero, List.set_cons_succ]
          refine wpAnyH_take (i := 2) (v := .pointer (some ⟨D, 0, none⟩)) rfl (by kernel_rfl) (by kernel_rfl) (by kernel_rfl) (fun _ _ _ h => h) (Or.inl ⟨by rfl, fun w' hS => ?_⟩) (by assumption) ?_
          · obtain ⟨c0, c1, c2⟩ := hS
            clear hHeld
            go_simp
          try simp only [Act.put, List.getElem_toArray, List.getElem_cons_succ, List.getElem_cons_zero, List.setIfInBounds_toArray, List.set_cons_zero, List.set_cons_succ]
          refine wpAnyH_take (i := 3) (v := .pointer (some ⟨D, 14, none⟩)) rfl (by kernel_rfl) (by kernel_rfl) (by kernel_rfl) (fun _ _ _ h => h) (Or.inl ⟨by rfl, fun w' hS => ?_⟩) (by assumption) ?_
          · obtain ⟨c0, c1, c2⟩ := hS
            clear hHeld
            go_simp
          try simp only [Act.put, List.getElem_toArray, List.getElem_cons_succ, List.getElem_cons_zero, List.setIfInBounds_toArray, List.set_cons_zero, List.set_cons_succ]
          refine wpAnyH_take (i := 5) (v := .agg #[.int .u8 kd, .int .u8 (N : Int), .slice ad nd md]) rfl (by kernel_rfl) (by kernel_rfl) (by kernel_rfl) (fun _ _ _ h => h) (Or.inl ⟨by rfl, fun w' hS => ?_⟩) (by assumption) ?_
          · obtain ⟨c0, c1, c2⟩ := hS
            clear hHeld
            go_simp
          try simp only [Act.put, List.getElem_toArray, List.getElem_cons_succ, List.getElem_cons_zero, List.setIfInBounds_toArray, List.set_cons_zero, List.set_cons_succ]
          refine wpAnyH_ready (rs := [4, 6]) (by kernel_rfl) (by simp) (AllReadyH.cons rfl (fun K hK => ?_) (AllReadyH.cons rfl (fun K hK => ?_) AllReadyH.nil))
          · refine step_loadc (by rfl) 106 (.tmp 254) (by rfl) D 14 (by first | rfl | simp) (.slice (some ⟨g, 0, none⟩) nr cO) 110 Try.underlying106 cY ?_
            refine hK.out _ _ ⟨bY0, bY1, bY2⟩ (fun hHeld => ?_)
            clear hK K
            try simp only [Act.put, List.getElem_toArray, List.getElem_cons_succ, List.getElem_cons_zero, List.setIfInBounds_toArray, List.set_cons_zero, List.set_cons_succ]
            refine wpAnyH_ready (rs := [6]) (by kernel_rfl) (by simp) (AllReadyH.cons rfl (fun K hK => ?_) AllReadyH.nil)
            go_simp
            refine hK.out _ _ ⟨Gr.cell (((Gr.refl _).drew).alloc _) bY0, Gr.cell (((Gr.refl _).drew).alloc _) bY1, Gr.cell (((Gr.refl _).drew).alloc _) bY2⟩ (fun hHeld => ?_)
            clear hK K
            try simp only [Act.put, List.getElem_toArray, List.getElem_cons_succ, List.getElem_cons_zero, List.setIfInBounds_toArray, List.set_cons_zero, List.set_cons_succ]
            refine wpAnyH_ready (rs := [7]) (by kernel_rfl) (by simp) (AllReadyH.cons rfl (fun K hK => ?_) AllReadyH.nil)
            refine step_appR rfl (.tmp 255) (.tmp 257) 106 110 rfl Try.underlying106 _ 32 info_o4 rfl (by omega) w1.heap.size D (.slice (some ⟨g, 0, none⟩) nr cO) rs (by first | rfl | simp [Act.eval]) (HOY.out.gr (((Gr.refl Y).drew).alloc _)) Y.heap.size 1 ⟨kd, (N : Int), d⟩ (.slice ad nd md) (by first | rfl | simp [Act.eval]) (box3 rfl _ _ _ _).1 (box3 rfl _ _ _ _).2.1 (box3 rfl _ _ _ _).2.2 ((HID.out.rowW HNED.out).gr ((GWY.out.drew).alloc _)) (.inr HNED.out) (fun k hk => HID.out.aside (by have : g = k := Option.some.inj hk; omega)) HRSL.out (by show w1.heap.size ≤ (World.alloc _ _).heap.size; rw [World.size_alloc]; show w1.heap.size ≤ Y.heap.size + 1; omega) ?_
            intro v4 w4 ho4 hg4 hat4
            obtain ⟨g4, n4, c4, rfl, hg41⟩ := ho4.slice_pos (by simp)
            have G4 := grownBy_step ((GWY.out.drew).alloc _) hg4 (fun k hk => .inl (by rw [rowW_size]; have : g = k := Option.some.inj hk; omega))
            have k4b := World.grownBy.cell hg4 (a := ⟨T9, 0, none⟩) (Gr.cell (((Gr.refl _).drew).alloc _) bY0) (fun e => neT (Option.some.inj e).symm)
            have k4c := World.grownBy.cell hg4 (a := ⟨T9, 1, none⟩) (Gr.cell (((Gr.refl _).drew).alloc _) bY1) (fun e => neT (Option.some.inj e).symm)
            have k4d := World.grownBy.cell hg4 (a := ⟨T9, 2, none⟩) (Gr.cell (((Gr.refl _).drew).alloc _) bY2) (fun e => neT (Option.some.inj e).symm)
            obtain ⟨x4, gx4, dx4, rfl⟩ := Gr.unrow hd G4
            refine hK.out _ _ ⟨(rowW_cell_other neTD).trans ((rowW_cell_other neTD).symm.trans k4b), (rowW_cell_other neTD).trans ((rowW_cell_other neTD).symm.trans k4c), (rowW_cell_other neTD).trans ((rowW_cell_other neTD).symm.trans k4d)⟩ (fun hHeld => ?_)
            clear hK K
            try simp only [Act.put, List.getElem_toArray, List.getElem_cons_succ, List.getElem_cons_zero, List.setIfInBounds_toArray, List.set_cons_zero, List.set_cons_succ]
            refine wpAnyH_take (i := 8) (v := .pointer (some ⟨D, 0, none⟩)) rfl (by kernel_rfl) (by kernel_rfl) (by kernel_rfl) (fun _ _ _ h => h) (Or.inl ⟨by rfl, fun w' hS => ?_⟩) (by assumption) ?_
            · obtain ⟨c0, c1, c2⟩ := hS
              clear hHeld
              go_simp
            try simp only [Act.put, List.getElem_toArray, List.getElem_cons_succ, List.getElem_cons_zero, List.setIfInBounds_toArray, List.set_cons_zero, List.set_cons_succ]
            refine wpAnyH_take (i := 9) (v := .pointer (some ⟨D, 14, none⟩)) rfl (by kernel_rfl) (by kernel_rfl) (by kernel_rfl) (fun _ _ _ h => h) (Or.inl ⟨by rfl, fun w' hS => ?_⟩) (by assumption) ?_
            · obtain ⟨c0, c1, c2⟩ := hS
              clear hHeld
              go_simp
            try simp only [Act.put, List.getElem_toArray, List.getElem_cons_succ, List.getElem_cons_zero, List.setIfInBounds_toArray, List.set_cons_zero, List.set_cons_succ]
            refine wpAnyH_ready (rs := [10]) (by kernel_rfl) (by simp) (AllReadyH.cons rfl (fun K hK => ?_) AllReadyH.nil)
            go_simp
            refine hK.out _ _ ⟨(rowW_cell_other neTD).trans ((rowW_cell_other neTD).symm.trans k4b), (rowW_cell_other neTD).trans ((rowW_cell_other neTD).symm.trans k4c), (rowW_cell_other neTD).trans ((rowW_cell_other neTD).symm.trans k4d)⟩ (fun hHeld => ?_)
            clear hK K
            try simp only [Act.put, List.getElem_toArray, List.getElem_cons_succ, List.getElem_cons_zero, List.setIfInBounds_toArray, List.set_cons_zero, List.set_cons_succ]
            refine wpAnyH_done (by kernel_rfl) ?_ _
            go_wp2_with fail
            go_roundw
            case rel => exact ⟨k + 1, _, x4, _, a', n', m', HLT.out, rfl, by rw [rest_eq, ← HR'.out]; exact HI'.out, HNE'.out, rfl, dx4, gx4, ho4.reRow hd, by rw [List.map_append, HRS.out, opt_take HLT.out, ← HXO.out]; rfl, fun e => by cases e⟩
            case measure => have := HI'.out.count; have := HRL.out; show n' < n; omega
          · go_simp
            refine hK.out _ _ ⟨Gr.cell (((Gr.refl _).drew).alloc _) bY0, Gr.cell (((Gr.refl _).drew).alloc _) bY1, Gr.cell (((Gr.refl _).drew).alloc _) bY2⟩ (fun hHeld => ?_)
            clear hK K
            try simp only [Act.put, List.getElem_toArray, List.getElem_cons_succ, List.getElem_cons_zero, List.setIfInBounds_toArray, List.set_cons_zero, List.set_cons_succ]
            refine wpAnyH_ready (rs := [4]) (by kernel_rfl) (by simp) (AllReadyH.cons rfl (fun K hK => ?_) AllReadyH.nil)
            refine step_loadc (by rfl) 106 (.tmp 254) (by rfl) D 14 (by first | rfl | simp) (.slice (some ⟨g, 0, none⟩) nr cO) 110 Try.underlying106 (Gr.cell (((Gr.refl _).drew).alloc _) cY) ?_
            refine hK.out _ _ ⟨Gr.cell (((Gr.refl _).drew).alloc _) bY0, Gr.cell (((Gr.refl _).drew).alloc _) bY1, Gr.cell (((Gr.refl _).drew).alloc _) bY2⟩ (fun hHeld => ?_)
            clear hK K
            try simp only [Act.put, List.getElem_toArray, List.getElem_cons_succ, List.getElem_cons_zero, List.setIfInBounds_toArray, List.set_cons_zero, List.set_cons_succ]
            refine wpAnyH_ready (rs := [7]) (by kernel_rfl) (by simp) (AllReadyH.cons rfl (fun K hK => ?_) AllReadyH.nil)
            refine step_appR rfl (.tmp 255) (.tmp 257) 106 110 rfl Try.underlying106 _ 32 info_o4 rfl (by omega) w1.heap.size D (.slice (some ⟨g, 0, none⟩) nr cO) rs (by first | rfl | simp [Act.eval]) (HOY.out.gr (((Gr.refl Y).drew).alloc _)) Y.heap.size 1 ⟨kd, (N : Int), d⟩ (.slice ad nd md) (by first | rfl | simp [Act.eval]) (box3 rfl _ _ _ _).1 (box3 rfl _ _ _ _).2.1 (box3 rfl _ _ _ _).2.2 ((HID.out.rowW HNED.out).gr ((GWY.out.drew).alloc _)) (.inr HNED.out) (fun k hk => HID.out.aside (by have : g = k := Option.some.inj hk; omega)) HRSL.out (by show w1.heap.size ≤ (World.alloc _ _).heap.size; rw [World.size_alloc]; show w1.heap.size ≤ Y.heap.size + 1; omega) ?_
            intro v4 w4 ho4 hg4 hat4
            obtain ⟨g4, n4, c4, rfl, hg41⟩ := ho4.slice_pos (by simp)
            have G4 := grownBy_step ((GWY.out.drew).alloc _) hg4 (fun k hk => .inl (by rw [rowW_size]; have : g = k := Option.some.inj hk; omega))
            have k4b := World.grownBy.cell hg4 (a := ⟨T9, 0, none⟩) (Gr.cell (((Gr.refl _).drew).alloc _) bY0) (fun e => neT (Option.some.inj e).symm)
            have k4c := World.grownBy.cell hg4 (a := ⟨T9, 1, none⟩) (Gr.cell (((Gr.refl _).drew).alloc _) bY1) (fun e => neT (Option.some.inj e).symm)
            have k4d := World.grownBy.cell hg4 (a := ⟨T9, 2, none⟩) (Gr.cell (((Gr.refl _).drew).alloc _) bY2) (fun e => neT (Option.some.inj e).symm)
            obtain ⟨x4, gx4, dx4, rfl⟩ := Gr.unrow hd G4
            refine hK.out _ _ ⟨(rowW_cell_other neTD).trans ((rowW_cell_other neTD).symm.trans k4b), (rowW_cell_other neTD).trans ((rowW_cell_other neTD).symm.trans k4c), (rowW_cell_other neTD).trans ((rowW_cell_other neTD).symm.trans k4d)⟩ (fun hHeld => ?_)
            clear hK K
            try simp only [Act.put, List.getElem_toArray, List.getElem_cons_succ, List.getElem_cons_zero, List.setIfInBounds_toArray, List.set_cons_zero, List.set_cons_succ]
            refine wpAnyH_take (i := 8) (v := .pointer (some ⟨D, 0, none⟩)) rfl (by kernel_rfl) (by kernel_rfl) (by kernel_rfl) (fun _ _ _ h => h) (Or.inl ⟨by rfl, fun w' hS => ?_⟩) (by assumption) ?_
            · obtain ⟨c0, c1, c2⟩ := hS
              clear hHeld
              go_simp
            try simp only [Act.put, List.getElem_toArray, List.getElem_cons_succ, List.getElem_cons_zero, List.setIfInBounds_toArray, List.set_cons_zero, List.set_cons_succ]
            refine wpAnyH_take (i := 9) (v := .pointer (some ⟨D, 14, none⟩)) rfl (by kernel_rfl) (by kernel_rfl) (by kernel_rfl) (fun _ _ _ h => h) (Or.inl ⟨by rfl, fun w' hS => ?_⟩) (by assumption) ?_
            · obtain ⟨c0, c1, c2⟩ := hS
              clear hHeld
              go_simp
            try simp only [Act.put, List.getElem_toArray, List.getElem_cons_succ, List.getElem_cons_zero, List.setIfInBounds_toArray, List.set_cons_zero, List.set_cons_succ]
            refine wpAnyH_ready (rs := [10]) (by kernel_rfl) (by simp) (AllReadyH.cons rfl (fun K hK => ?_) AllReadyH.nil)
            go_simp
            refine hK.out _ _ ⟨(rowW_cell_other neTD).trans ((rowW_cell_other neTD).symm.trans k4b), (rowW_cell_other neTD).trans ((rowW_cell_other neTD).symm.trans k4c), (rowW_cell_other neTD).trans ((rowW_cell_other neTD).symm.trans k4d)⟩ (fun hHeld => ?_)
            clear hK K
            try simp only [Act.put, List.getElem_toArray, List.getElem_cons_succ, List.getElem_cons_zero, List.setIfInBounds_toArray, List.set_cons_zero, List.set_cons_succ]
            refine wpAnyH_done (by kernel_rfl) ?_ _
            go_wp2_with fail
            go_roundw
            case rel => exact ⟨k + 1, _, x4, _, a', n', m', HLT.out, rfl, by rw [rest_eq, ← HR'.out]; exact HI'.out, HNE'.out, rfl, dx4, gx4, ho4.reRow hd, by rw [List.map_append, HRS.out, opt_take HLT.out, ← HXO.out]; rfl, fun e => by cases e⟩
            case measure => have := HI'.out.count; have := HRL.out; show n' < n; omega

    · obtain rfl : k = os.length := by have := HK.out; omega
      rw [List.drop_length] at hR
      have hR : R = fillB os := by rw [hR]; simp [optsRaw]
      have HS := HRS.out
      rw [List.take_length] at HS
      by_cases hp : (optsRaw os).length % 4 = 0
      · have hn0 : n = 0 := by rw [hcn, hR]; simp [fillB, hp]
        subst hn0
        clear hI hR hcn hlt
        go_wp2_with fail
        go_ret
        unfold Ip4Post
        exact ⟨rfl, row_step hd HG.out, _, _, _, _, _, _, _, _, _, _, _, _, _, _, _, isB_rows hd HG.out H5.out NE5.out, isB_rows hd HG.out H6.out NE6.out, isB_rows hd HG.out H8.out HNE8.out, rowW_heap hX, by rw [rowW_size]; exact HOw.out, by rw [HS]; simp [padO, hp]⟩
      · have hp0 : 0 < (optsRaw os).length := by have := Nat.pos_of_ne_zero (fun e : (optsRaw os).length = 0 => hp (by rw [e])); omega
        have hRl : 0 < n := by rw [hcn, hR]; simp [fillB]; omega
        have b0 : bt R 0 = 0 := by rw [hR]; unfold fillB bt; rw [List.getD_eq_getElem?_getD, List.getElem?_replicate]; split <;> rfl
        obtain ⟨bi, oi, ii, ci, zi⟩ := hI.idx (P := Try.prog) 25 5 i Try.underlying25 hi hz1 .i64 0 0 rfl (by omega)
        obtain ⟨a', n', m', hI', hbI', si⟩ := hI.cutL (P := Try.prog) 25 5 i Try.underlying25 hi hz1 1 1 rfl (by omega)
        have ei : bi ≠ D := by rintro rfl; exact hneA zi
        rw [b0] at ci
        have ci := hG.cell ci
        have n0 : decide ((0 : Int) < (n : Int)) = true := decide_eq_true (by omega)
        have HP := Lib.hid hp
        rcases hOw.slice with ⟨rfl, rfl⟩ | ⟨g, cO, rfl, hg1, hg2, hg3, hg4⟩
        · have h0 := HV0.out rfl
          rw [List.eq_nil_of_length_eq_zero h0] at hp0
          simp [optsRaw] at hp0
        · clear hI hI' hbI' hR hcn b0 hneA zi hlt hp hp0 hOw
          rw [rowW_size] at hg2
          have HRSL := Lib.hid (show rs.length ≤ 1000000000 by have e := congrArg List.length HS; rw [List.length_map] at e; have h40 := HLEN.out; omega)
          obtain ⟨nr, hnr⟩ : ∃ nr, nr = rs.length := ⟨_, rfl⟩
          rw [← hnr] at HOw ⊢ hg3
          have HNR := Lib.hid hnr
          have HS := Lib.hid HS
          clear hnr hG
          go_wp2_with fail
          obtain ⟨Y, hY⟩ : ∃ Y, Y = ((rowW x D [.slice a7 n7 m7, .slice a8 n8 m8, .int .u8 (bt l 0 / 16), .int .u8 (W : Int), .int .u8 (bt l 1), .int .u16 (M : Int), .int .u16 (bt l 4 * 256 + bt l 5), .int .u8 ((bt l 6 * 256 + bt l 7) / 8192), .int .u16 ((bt l 6 * 256 + bt l 7) % 8192), .int .u8 (bt l 8), .int .u8 (bt l 9), .int .u16 (bt l 10 * 256 + bt l 11), .slice a5 n5 m5, .slice a6 n6 m6, .slice (some ⟨g, 0, none⟩) nr cO, .slice none 0 0] 108).alloc (.cells #[.int .u8 0, .int .u8 1, .slice none 0 0] 110)) := ⟨_, rfl⟩
          rw [← hY]
          obtain ⟨T9, hT9⟩ : ∃ T9, T9 = x.heap.size := ⟨_, rfl⟩
          try rw [← hT9]
          have gY : Gr (rowW x D [.slice a7 n7 m7, .slice a8 n8 m8, .int .u8 (bt l 0 / 16), .int .u8 (W : Int), .int .u8 (bt l 1), .int .u16 (M : Int), .int .u16 (bt l 4 * 256 + bt l 5), .int .u8 ((bt l 6 * 256 + bt l 7) / 8192), .int .u16 ((bt l 6 * 256 + bt l 7) % 8192), .int .u8 (bt l 8), .int .u8 (bt l 9), .int .u16 (bt l 10 * 256 + bt l 11), .slice a5 n5 m5, .slice a6 n6 m6, .slice (some ⟨g, 0, none⟩) nr cO, .slice none 0 0] 108) Y := by rw [hY]; exact (Gr.refl _).alloc _
          have bY := box3 (w := rowW x D [.slice a7 n7 m7, .slice a8 n8 m8, .int .u8 (bt l 0 / 16), .int .u8 (W : Int), .int .u8 (bt l 1), .int .u16 (M : Int), .int .u16 (bt l 4 * 256 + bt l 5), .int .u8 ((bt l 6 * 256 + bt l 7) / 8192), .int .u16 ((bt l 6 * 256 + bt l 7) % 8192), .int .u8 (bt l 8), .int .u8 (bt l 9), .int .u16 (bt l 10 * 256 + bt l 11), .slice a5 n5 m5, .slice a6 n6 m6, .slice (some ⟨g, 0, none⟩) nr cO, .slice none 0 0] 108) (b := T9) (by rw [hT9, rowW_size]) (.int .u8 0) (.int .u8 1) (.slice none 0 0) 110
          rw [← hY] at bY
          obtain ⟨bY0, bY1, bY2⟩ := bY
          have cY := gY.cell (rowW_cell hX 14)
          have cY0 : Y.drew.cell? ⟨D, 14, none⟩ = some (.slice (some ⟨g, 0, none⟩) nr cO) := cY
          have cY1 : ∀ o, (Y.drew.alloc o).cell? ⟨D, 14, none⟩ = some (.slice (some ⟨g, 0, none⟩) nr cO) := fun o => Gr.cell (((Gr.refl _).drew).alloc _) cY
          have cY2 : ∀ o, (Y.alloc o).cell? ⟨D, 14, none⟩ = some (.slice (some ⟨g, 0, none⟩) nr cO) := fun o => Gr.cell ((Gr.refl _).alloc _) cY
          have hOY := HOw.out.gr gY
          have GWY := Lib.hid ((gr_rows (cs := [.slice a7 n7 m7, .slice a8 n8 m8, .int .u8 (bt l 0 / 16), .int .u8 (W : Int), .int .u8 (bt l 1), .int .u16 (M : Int), .int .u16 (bt l 4 * 256 + bt l 5), .int .u8 ((bt l 6 * 256 + bt l 7) / 8192), .int .u16 ((bt l 6 * 256 + bt l 7) % 8192), .int .u8 (bt l 8), .int .u8 (bt l 9), .int .u16 (bt l 10 * 256 + bt l 11), .slice a5 n5 m5, .slice a6 n6 m6, .slice (some ⟨g, 0, none⟩) nr cO, .slice none 0 0]) (e := 108) hd HG.out).trans gY)
          have neT : g ≠ T9 := by rw [hT9]; omega
          have neTD : T9 ≠ D := by have : D < x.heap.size := hX; omega
          have neD : g ≠ D := by have : D < w1.heap.size := hd; omega
          have HOY := Lib.hid hOY
          have HB0 := Lib.hid bY0
          have szY := gY.size
          have szW := HG.out.size
          rw [rowW_size] at szY
          clear hY hT9 gY hOY
          refine wp_region_held_drew (S := (fun w' => w'.cell? ⟨T9, 0, none⟩ = some (.int .u8 0) ∧ w'.cell? ⟨T9, 1, none⟩ = some (.int .u8 1) ∧ w'.cell? ⟨T9, 2, none⟩ = some (.slice none 0 0))) (by kernel_rfl) ⟨bY0, bY1, bY2⟩ (fun hHeld => ?_)
          refine wpAnyH_take (i := 0) (v := .pointer (some ⟨D, 0, none⟩)) rfl (by kernel_rfl) (by kernel_rfl) (by kernel_rfl) (fun _ _ _ h => h) (Or.inl ⟨by rfl, fun w' hS => ?_⟩) (by assumption) ?_
          · obtain ⟨c0, c1, c2⟩ := hS
            clear hHeld
            go_simp
          try simp only [Act.put, List.getElem_toArray, List.getElem_cons_succ, List.getElem_cons_zero, List.setIfInBounds_toArray, List.set_cons_zero, List.set_cons_succ]
          refine wpAnyH_take (i := 1) (v := .pointer (some ⟨D, 0, none⟩)) rfl (by kernel_rfl) (by kernel_rfl) (by kernel_rfl) (fun _ _ _ h => h) (Or.inl ⟨by rfl, fun w' hS => ?_⟩) (by assumption) ?_
          · obtain ⟨c0, c1, c2⟩ := hS
            clear hHeld
            go_simp
          try simp only [Act.put, List.getElem_toArray, List.getElem_cons_succ, List.getElem_cons_zero, List.setIfInBounds_toArray, List.set_cons_zero, List.set_cons_succ]
          refine wpAnyH_take (i := 2) (v := .pointer (some ⟨D, 0, none⟩)) rfl (by kernel_rfl) (by kernel_rfl) (by kernel_rfl) (fun _ _ _ h => h) (Or.inl ⟨by rfl, fun w' hS => ?_⟩) (by assumption) ?_
          · obtain ⟨c0, c1, c2⟩ := hS
            clear hHeld
            go_simp
          try simp only [Act.put, List.getElem_toArray, List.getElem_cons_succ, List.getElem_cons_zero, List.setIfInBounds_toArray, List.set_cons_zero, List.set_cons_succ]
          refine wpAnyH_take (i := 3) (v := .pointer (some ⟨D, 14, none⟩)) rfl (by kernel_rfl) (by kernel_rfl) (by kernel_rfl) (fun _ _ _ h => h) (Or.inl ⟨by rfl, fun w' hS => ?_⟩) (by assumption) ?_
          · obtain ⟨c0, c1, c2⟩ := hS
            clear hHeld
            go_simp
          try simp only [Act.put, List.getElem_toArray, List.getElem_cons_succ, List.getElem_cons_zero, List.setIfInBounds_toArray, List.set_cons_zero, List.set_cons_succ]
          refine wpAnyH_take (i := 5) (v := .agg #[.int .u8 0, .int .u8 1, .slice none 0 0]) rfl (by kernel_rfl) (by kernel_rfl) (by kernel_rfl) (fun _ _ _ h => h) (Or.inl ⟨by rfl, fun w' hS => ?_⟩) (by assumption) ?_
          · obtain ⟨c0, c1, c2⟩ := hS
            clear hHeld
            go_simp
          try simp only [Act.put, List.getElem_toArray, List.getElem_cons_succ, List.getElem_cons_zero, List.setIfInBounds_toArray, List.set_cons_zero, List.set_cons_succ]
          refine wpAnyH_ready (rs := [4, 6]) (by kernel_rfl) (by simp) (AllReadyH.cons rfl (fun K hK => ?_) (AllReadyH.cons rfl (fun K hK => ?_) AllReadyH.nil))
          · refine step_loadc (by rfl) 106 (.tmp 267) (by rfl) D 14 (by first | rfl | simp) (.slice (some ⟨g, 0, none⟩) nr cO) 110 Try.underlying106 cY ?_
            refine hK.out _ _ ⟨bY0, bY1, bY2⟩ (fun hHeld => ?_)
            clear hK K
            try simp only [Act.put, List.getElem_toArray, List.getElem_cons_succ, List.getElem_cons_zero, List.setIfInBounds_toArray, List.set_cons_zero, List.set_cons_succ]
            refine wpAnyH_ready (rs := [6]) (by kernel_rfl) (by simp) (AllReadyH.cons rfl (fun K hK => ?_) AllReadyH.nil)
            go_simp
            refine hK.out _ _ ⟨Gr.cell (((Gr.refl _).drew).alloc _) bY0, Gr.cell (((Gr.refl _).drew).alloc _) bY1, Gr.cell (((Gr.refl _).drew).alloc _) bY2⟩ (fun hHeld => ?_)
            clear hK K
            try simp only [Act.put, List.getElem_toArray, List.getElem_cons_succ, List.getElem_cons_zero, List.setIfInBounds_toArray, List.set_cons_zero, List.set_cons_succ]
            refine wpAnyH_ready (rs := [7]) (by kernel_rfl) (by simp) (AllReadyH.cons rfl (fun K hK => ?_) AllReadyH.nil)
            refine step_appR rfl (.tmp 268) (.tmp 270) 106 110 rfl Try.underlying106 _ 32 info_o4 rfl (by omega) w1.heap.size D (.slice (some ⟨g, 0, none⟩) nr cO) rs (by first | rfl | simp [Act.eval]) (HOY.out.gr (((Gr.refl Y).drew).alloc _)) Y.heap.size 1 ⟨0, 1, []⟩ (.slice none 0 0) (by first | rfl | simp [Act.eval]) (box3 rfl _ _ _ _).1 (box3 rfl _ _ _ _).2.1 (box3 rfl _ _ _ _).2.2 isB_nil (.inl rfl) (fun _ _ => .inl rfl) HRSL.out (by show w1.heap.size ≤ (World.alloc _ _).heap.size; rw [World.size_alloc]; show w1.heap.size ≤ Y.heap.size + 1; omega) ?_
            intro v4 w4 ho4 hg4 hat4
            obtain ⟨g4, n4, c4, rfl, hg41⟩ := ho4.slice_pos (by simp)
            have G4 := grownBy_step ((GWY.out.drew).alloc _) hg4 (fun k hk => .inl (by rw [rowW_size]; have : g = k := Option.some.inj hk; omega))
            have k4b := World.grownBy.cell hg4 (a := ⟨T9, 0, none⟩) (Gr.cell (((Gr.refl _).drew).alloc _) bY0) (fun e => neT (Option.some.inj e).symm)
            have k4c := World.grownBy.cell hg4 (a := ⟨T9, 1, none⟩) (Gr.cell (((Gr.refl _).drew).alloc _) bY1) (fun e => neT (Option.some.inj e).symm)
            have k4d := World.grownBy.cell hg4 (a := ⟨T9, 2, none⟩) (Gr.cell (((Gr.refl _).drew).alloc _) bY2) (fun e => neT (Option.some.inj e).symm)
            obtain ⟨x4, gx4, dx4, rfl⟩ := Gr.unrow hd G4
            refine hK.out _ _ ⟨(rowW_cell_other neTD).trans ((rowW_cell_other neTD).symm.trans k4b), (rowW_cell_other neTD).trans ((rowW_cell_other neTD).symm.trans k4c), (rowW_cell_other neTD).trans ((rowW_cell_other neTD).symm.trans k4d)⟩ (fun hHeld => ?_)
            clear hK K
            try simp only [Act.put, List.getElem_toArray, List.getElem_cons_succ, List.getElem_cons_zero, List.setIfInBounds_toArray, List.set_cons_zero, List.set_cons_succ]
            refine wpAnyH_take (i := 8) (v := .pointer (some ⟨D, 0, none⟩)) rfl (by kernel_rfl) (by kernel_rfl) (by kernel_rfl) (fun _ _ _ h => h) (Or.inl ⟨by rfl, fun w' hS => ?_⟩) (by assumption) ?_
            · obtain ⟨c0, c1, c2⟩ := hS
              clear hHeld
              go_simp
            try simp only [Act.put, List.getElem_toArray, List.getElem_cons_succ, List.getElem_cons_zero, List.setIfInBounds_toArray, List.set_cons_zero, List.set_cons_succ]
            refine wpAnyH_take (i := 9) (v := .pointer (some ⟨D, 14, none⟩)) rfl (by kernel_rfl) (by kernel_rfl) (by kernel_rfl) (fun _ _ _ h => h) (Or.inl ⟨by rfl, fun w' hS => ?_⟩) (by assumption) ?_
            · obtain ⟨c0, c1, c2⟩ := hS
              clear hHeld
              go_simp
            try simp only [Act.put, List.getElem_toArray, List.getElem_cons_succ, List.getElem_cons_zero, List.setIfInBounds_toArray, List.set_cons_zero, List.set_cons_succ]
            refine wpAnyH_ready (rs := [10]) (by kernel_rfl) (by simp) (AllReadyH.cons rfl (fun K hK => ?_) AllReadyH.nil)
            go_simp
            refine hK.out _ _ ⟨(rowW_cell_other neTD).trans ((rowW_cell_other neTD).symm.trans k4b), (rowW_cell_other neTD).trans ((rowW_cell_other neTD).symm.trans k4c), (rowW_cell_other neTD).trans ((rowW_cell_other neTD).symm.trans k4d)⟩ (fun hHeld => ?_)
            clear hK K
            try simp only [Act.put, List.getElem_toArray, List.getElem_cons_succ, List.getElem_cons_zero, List.setIfInBounds_toArray, List.set_cons_zero, List.set_cons_succ]
            refine wpAnyH_done (by kernel_rfl) ?_ _
            go_wp2_with fail
            go_ret
            unfold Ip4Post
            exact ⟨rfl, row_step hd gx4, _, _, _, _, _, _, _, _, _, _, _, _, _, _, _, isB_rows hd gx4 H5.out NE5.out, isB_rows hd gx4 H6.out NE6.out, isB_rows hd gx4 H8.out HNE8.out, rowW_heap dx4, by rw [rowW_size]; exact ho4.reRow hd, by rw [List.map_append, HS.out]; simp [padO, HP.out]⟩
          · go_simp
            refine hK.out _ _ ⟨Gr.cell (((Gr.refl _).drew).alloc _) bY0, Gr.cell (((Gr.refl _).drew).alloc _) bY1, Gr.cell (((Gr.refl _).drew).alloc _) bY2⟩ (fun hHeld => ?_)
            clear hK K
            try simp only [Act.put, List.getElem_toArray, List.getElem_cons_succ, List.getElem_cons_zero, List.setIfInBounds_toArray, List.set_cons_zero, List.set_cons_succ]
            refine wpAnyH_ready (rs := [4]) (by kernel_rfl) (by simp) (AllReadyH.cons rfl (fun K hK => ?_) AllReadyH.nil)
            refine step_loadc (by rfl) 106 (.tmp 267) (by rfl) D 14 (by first | rfl | simp) (.slice (some ⟨g, 0, none⟩) nr cO) 110 Try.underlying106 (Gr.cell (((Gr.refl _).drew).alloc _) cY) ?_
            refine hK.out _ _ ⟨Gr.cell (((Gr.refl _).drew).alloc _) bY0, Gr.cell (((Gr.refl _).drew).alloc _) bY1, Gr.cell (((Gr.refl _).drew).alloc _) bY2⟩ (fun hHeld => ?_)
            clear hK K
            try simp only [Act.put, List.getElem_toArray, List.getElem_cons_succ, List.getElem_cons_zero, List.setIfInBounds_toArray, List.set_cons_zero, List.set_cons_succ]
            refine wpAnyH_ready (rs := [7]) (by kernel_rfl) (by simp) (AllReadyH.cons rfl (fun K hK => ?_) AllReadyH.nil)
            refine step_appR rfl (.tmp 268) (.tmp 270) 106 110 rfl Try.underlying106 _ 32 info_o4 rfl (by omega) w1.heap.size D (.slice (some ⟨g, 0, none⟩) nr cO) rs (by first | rfl | simp [Act.eval]) (HOY.out.gr (((Gr.refl Y).drew).alloc _)) Y.heap.size 1 ⟨0, 1, []⟩ (.slice none 0 0) (by first | rfl | simp [Act.eval]) (box3 rfl _ _ _ _).1 (box3 rfl _ _ _ _).2.1 (box3 rfl _ _ _ _).2.2 isB_nil (.inl rfl) (fun _ _ => .inl rfl) HRSL.out (by show w1.heap.size ≤ (World.alloc _ _).heap.size; rw [World.size_alloc]; show w1.heap.size ≤ Y.heap.size + 1; omega) ?_
            intro v4 w4 ho4 hg4 hat4
            obtain ⟨g4, n4, c4, rfl, hg41⟩ := ho4.slice_pos (by simp)
            have G4 := grownBy_step ((GWY.out.drew).alloc _) hg4 (fun k hk => .inl (by rw [rowW_size]; have : g = k := Option.some.inj hk; omega))
            have k4b := World.grownBy.cell hg4 (a := ⟨T9, 0, none⟩) (Gr.cell (((Gr.refl _).drew).alloc _) bY0) (fun e => neT (Option.some.inj e).symm)
            have k4c := World.grownBy.cell hg4 (a := ⟨T9, 1, none⟩) (Gr.cell (((Gr.refl _).drew).alloc _) bY1) (fun e => neT (Option.some.inj e).symm)
            have k4d := World.grownBy.cell hg4 (a := ⟨T9, 2, none⟩) (Gr.cell (((Gr.refl _).drew).alloc _) bY2) (fun e => neT (Option.some.inj e).symm)
            obtain ⟨x4, gx4, dx4, rfl⟩ := Gr.unrow hd G4
            refine hK.out _ _ ⟨(rowW_cell_other neTD).trans ((rowW_cell_other neTD).symm.trans k4b), (rowW_cell_other neTD).trans ((rowW_cell_other neTD).symm.trans k4c), (rowW_cell_other neTD).trans ((rowW_cell_other neTD).symm.trans k4d)⟩ (fun hHeld => ?_)
            clear hK K
            try simp only [Act.put, List.getElem_toArray, List.getElem_cons_succ, List.getElem_cons_zero, List.setIfInBounds_toArray, List.set_cons_zero, List.set_cons_succ]
            refine wpAnyH_take (i := 8) (v := .pointer (some ⟨D, 0, none⟩)) rfl (by kernel_rfl) (by kernel_rfl) (by kernel_rfl) (fun _ _ _ h => h) (Or.inl ⟨by rfl, fun w' hS => ?_⟩) (by assumption) ?_
            · obtain ⟨c0, c1, c2⟩ := hS
              clear hHeld
              go_simp
            try simp only [Act.put, List.getElem_toArray, List.getElem_cons_succ, List.getElem_cons_zero, List.setIfInBounds_toArray, List.set_cons_zero, List.set_cons_succ]
            refine wpAnyH_take (i := 9) (v := .pointer (some ⟨D, 14, none⟩)) rfl (by kernel_rfl) (by kernel_rfl) (by kernel_rfl) (fun _ _ _ h => h) (Or.inl ⟨by rfl, fun w' hS => ?_⟩) (by assumption) ?_
            · obtain ⟨c0, c1, c2⟩ := hS
              clear hHeld
              go_simp
            try simp only [Act.put, List.getElem_toArray, List.getElem_cons_succ, List.getElem_cons_zero, List.setIfInBounds_toArray, List.set_cons_zero, List.set_cons_succ]
            refine wpAnyH_ready (rs := [10]) (by kernel_rfl) (by simp) (AllReadyH.cons rfl (fun K hK => ?_) AllReadyH.nil)
            go_simp
            refine hK.out _ _ ⟨(rowW_cell_other neTD).trans ((rowW_cell_other neTD).symm.trans k4b), (rowW_cell_other neTD).trans ((rowW_cell_other neTD).symm.trans k4c), (rowW_cell_other neTD).trans ((rowW_cell_other neTD).symm.trans k4d)⟩ (fun hHeld => ?_)
            clear hK K
            try simp only [Act.put, List.getElem_toArray, List.getElem_cons_succ, List.getElem_cons_zero, List.setIfInBounds_toArray, List.set_cons_zero, List.set_cons_succ]
            refine wpAnyH_done (by kernel_rfl) ?_ _
            go_wp2_with fail
            go_ret
            unfold Ip4Post
            exact ⟨rfl, row_step hd gx4, _, _, _, _, _, _, _, _, _, _, _, _, _, _, _, isB_rows hd gx4 H5.out NE5.out, isB_rows hd gx4 H6.out NE6.out, isB_rows hd gx4 H8.out HNE8.out, rowW_heap dx4, by rw [rowW_size]; exact ho4.reRow hd, by rw [List.map_append, HS.out]; simp [padO, HP.out]⟩

end Go.Proofs.Ytoopkfnkmaaieaa
