/-
  A message for addresses, written: the layer is made, with its options.
-/
import Derived.Test.YtdpffedmgmllbaaDWSer
import Derived.Test.YtdpffedmgmllbaaIP4PlainW
import Derived.Deep.DeepCutAuto
namespace Go.Proofs.Ytdpffedmgmllbaa
open Go.RowKit

theorem info_d4 : (Try.prog.info? 111).map (fun i => (i.zero, i.size, i.bytes)) = some (some (.agg #[.int .u8 0, .int .u8 0, .slice none 0 0]), 3, 32) := by kernel_rfl
theorem dhcpB_len (op hw hp xd sc fl : Int) (l1 l2 l3 l4 l5 l6 l7 : List Int) (os : List Opt) (z1 : l1.length = 4) (z2 : l2.length = 4) (z3 : l3.length = 4) (z4 : l4.length = 4) (z5 : l5.length ≤ 16) (z6 : l6.length ≤ 64) (z7 : l7.length ≤ 128) : (dhcpB op hw hp xd sc fl l1 l2 l3 l4 l5 l6 l7 os).length = 241 + (typedB os).length := by
  unfold dhcpB
  simp only [List.flatten_cons, List.flatten_nil, List.append_nil, List.length_append, List.length_cons, List.length_nil, lo, sh, padB_len _ _ z5, padB_len _ _ z6, padB_len _ _ z7, z1, z2, z3, z4]
  omega
theorem RdO.ext {q1 q2 : IntKind} {w : World} {v : Value} {rs : List (Opt × Value)} {bad bad' : Nat → Prop} (h : RdO q1 q2 w v rs bad) (hp : 0 < rs.length) (hb : ∀ k, bad' k → bad k ∨ w.heap.size ≤ k) : RdO q1 q2 w v rs bad' := by
  rcases h with ⟨e, rfl⟩ | ⟨g, c, e, hg, h⟩
  · simp at hp
  · refine .inr ⟨g, c, e, fun x => ?_, fun j p hpp => ?_⟩
    · rcases hb _ x with x | x
      · exact hg x
      · have := cell_lt (h 0 rs[0] (List.getElem?_eq_getElem hp)).1
        omega
    · obtain ⟨a0, a1, a2, a3, a4⟩ := h j p hpp
      exact ⟨a0, a1, a2, a3, fun k hk => (hb k hk).elim (fun x => a4 k x) (fun x => a3.aside x)⟩
/-- what holds ahead of a round that copies an option -/
def DMkRel (wb : World) (V : Nat) (os : List Opt) (c : Value → List Value) (i : Value) (wr : World) : Prop :=
  ∃ (k : Nat) (rs' : List (Opt × Value)) (x : World) (a : Option Addr) (n m : Nat), k ≤ os.length ∧ i = .int .i64 k ∧ wr = rowW x V (c (.slice a n m)) 108 ∧ Has x V ∧ Gr wb x ∧ OwnO .u8 .u8 wr wb.heap.size 111 V (.slice a n m) rs' ∧ rs'.map Prod.fst = (os.take k).map outT ∧ ∀ p ∈ rs', ∀ k, k < wb.heap.size → Aside p.2 p.1.data k
theorem step_ofd {α : Type} {rs : List α} {k : Nat} {p : α} (h : rs[k]? = some p) : rs.take (k + 1) = rs.take k ++ [p] := by
  rw [List.take_add_one, h]; rfl

set_option linter.unusedVariables false in
set_option linter.unusedSimpArgs false in
set_option maxRecDepth 100000 in
set_option maxHeartbeats 8000000 in
theorem dhcpWritten_calls (op hw hp xd sc fl : Int) (a1 : Option Addr) (n1 c1 : Nat) (a2 : Option Addr) (n2 c2 : Nat) (a3 : Option Addr) (n3 c3 : Nat) (a4 : Option Addr) (n4 c4 : Nat) (a5 : Option Addr) (n5 c5 : Nat) (a6 : Option Addr) (n6 c6 : Nat) (a7 : Option Addr) (n7 c7 : Nat) (ao : Option Addr) (no co : Nat) (l1 l2 l3 l4 l5 l6 l7 : List Int) (os : List Opt) (w : World) (h1 : IsB w (.slice a1 n1 c1) l1) (h2 : IsB w (.slice a2 n2 c2) l2) (h3 : IsB w (.slice a3 n3 c3) l3) (h4 : IsB w (.slice a4 n4 c4) l4) (h5 : IsB w (.slice a5 n5 c5) l5) (h6 : IsB w (.slice a6 n6 c6) l6) (h7 : IsB w (.slice a7 n7 c7) l7) (h0 : IsOpts w (.slice ao no co) os) (z1 : l1.length = 4) (z2 : l2.length = 4) (z3 : l3.length = 4) (z4 : l4.length = 4) (z5 : l5.length ≤ 16) (z6 : l6.length ≤ 64) (z7 : l7.length ≤ 128) (v1 : 0 ≤ op ∧ op ≤ 255) (v2 : 0 ≤ hw ∧ hw ≤ 255) (v3 : 0 ≤ hp ∧ hp ≤ 255) (v4 : 0 ≤ xd ∧ xd ≤ 4294967295) (v5 : 0 ≤ sc ∧ sc ≤ 65535) (v6 : 0 ≤ fl ∧ fl ≤ 65535) (hok : ∀ x ∈ os, x.data.length ≤ 255 ∧ 0 ≤ x.kind ∧ x.kind ≤ 254 ∧ (x.kind = 0 → x.data = [])) (hlo : os.length ≤ 30) (hpos : 0 < os.length) (hraw : (typedB os).length ≤ 9000) :
    Calls Try.prog 21 #[.agg #[.int .i64 op, .int .i64 hw, .int .i64 hp, .int .i64 xd, .int .i64 sc, .int .i64 fl, .slice a1 n1 c1, .slice a2 n2 c2, .slice a3 n3 c3, .slice a4 n4 c4, .slice a5 n5 c5, .slice a6 n6 c6, .slice a7 n7 c7, .slice ao no co]] w fun e w' => ∃ f9 g9 j9, e = .returned (.tuple #[.slice f9 g9 j9, .bool true]) ∧ IsB w' (.slice f9 g9 j9) (dhcpB op hw hp xd sc fl l1 l2 l3 l4 l5 l6 l7 os) ∧ Gr w w' := by
  have hlo0 := fun ty => h0.len ty
  have HAB := Lib.hid h0.allB
  obtain ⟨BY, hBY⟩ : ∃ BY, BY = dhcpB op hw hp xd sc fl l1 l2 l3 l4 l5 l6 l7 os := ⟨_, rfl⟩
  rw [← hBY]
  have HBY := Lib.hid hBY
  have HBL := Lib.hid (show BY.length ≤ 1000000 by rw [hBY, dhcpB_len _ _ _ _ _ _ _ _ _ _ _ _ _ _ z1 z2 z3 z4 z5 z6 z7]; omega)
  have HOK := Lib.hid hok
  have H0 := Lib.hid h0
  have H1 := Lib.hid h1
  have H2 := Lib.hid h2
  have H3 := Lib.hid h3
  have H4 := Lib.hid h4
  have H5 := Lib.hid h5
  have H6 := Lib.hid h6
  have H7 := Lib.hid h7
  clear hBY hok h0 h1 h2 h3 h4 h5 h6 h7
  have y0 : IntKind.u8.wrap op = op := by simp [IntKind.wrap, IntKind.bits, IntKind.signed]; omega
  have y1 : IntKind.u8.wrap hw = hw := by simp [IntKind.wrap, IntKind.bits, IntKind.signed]; omega
  have y2 : IntKind.u8.wrap hp = hp := by simp [IntKind.wrap, IntKind.bits, IntKind.signed]; omega
  have y3 : IntKind.u32.wrap xd = xd := by simp [IntKind.wrap, IntKind.bits, IntKind.signed]; omega
  have y4 : IntKind.u16.wrap sc = sc := by simp [IntKind.wrap, IntKind.bits, IntKind.signed]; omega
  have y5 : IntKind.u16.wrap fl = fl := by simp [IntKind.wrap, IntKind.bits, IntKind.signed]; omega
  have neVB : w.heap.size + 1 ≠ w.heap.size := by omega
  have neBV : w.heap.size ≠ w.heap.size + 1 := by omega
  go_enter Try.func21, Try.ntmps21
  go_wp2_with fail
  obtain ⟨X1, hX1⟩ : ∃ X1, X1 = ((w.alloc (.cells [.int .i64 op, .int .i64 hw, .int .i64 hp, .int .i64 xd, .int .i64 sc, .int .i64 fl, .slice a1 n1 c1, .slice a2 n2 c2, .slice a3 n3 c3, .slice a4 n4 c4, .slice a5 n5 c5, .slice a6 n6 c6, .slice a7 n7 c7, .slice ao no co].toArray 37)).alloc (.cells [.slice none 0 0, .slice none 0 0, .int .u8 op, .int .u8 hw, .int .u8 0, .int .u8 hp, .int .u32 xd, .int .u16 sc, .int .u16 fl, .slice none 0 0, .slice none 0 0, .slice none 0 0, .slice none 0 0, .slice none 0 0, .slice none 0 0, .slice none 0 0, .slice none 0 0].toArray 108)) := ⟨_, rfl⟩
  rw [show ((w.alloc (.cells #[.int .i64 op, .int .i64 hw, .int .i64 hp, .int .i64 xd, .int .i64 sc, .int .i64 fl, .slice a1 n1 c1, .slice a2 n2 c2, .slice a3 n3 c3, .slice a4 n4 c4, .slice a5 n5 c5, .slice a6 n6 c6, .slice a7 n7 c7, .slice ao no co] 37)).alloc (.cells #[.slice none 0 0, .slice none 0 0, .int .u8 op, .int .u8 hw, .int .u8 0, .int .u8 hp, .int .u32 xd, .int .u16 sc, .int .u16 fl, .slice none 0 0, .slice none 0 0, .slice none 0 0, .slice none 0 0, .slice none 0 0, .slice none 0 0, .slice none 0 0, .slice none 0 0] 108)) = X1 from hX1.symm]
  have gX : Gr (w.alloc (.cells [.int .i64 op, .int .i64 hw, .int .i64 hp, .int .i64 xd, .int .i64 sc, .int .i64 fl, .slice a1 n1 c1, .slice a2 n2 c2, .slice a3 n3 c3, .slice a4 n4 c4, .slice a5 n5 c5, .slice a6 n6 c6, .slice a7 n7 c7, .slice ao no co].toArray 37)) X1 := by rw [hX1]; exact (Gr.refl _).alloc _
  have hV0 : X1.heap[w.heap.size + 1]? = some (.cells [.slice none 0 0, .slice none 0 0, .int .u8 op, .int .u8 hw, .int .u8 0, .int .u8 hp, .int .u32 xd, .int .u16 sc, .int .u16 fl, .slice none 0 0, .slice none 0 0, .slice none 0 0, .slice none 0 0, .slice none 0 0, .slice none 0 0, .slice none 0 0, .slice none 0 0].toArray 108 (0, 0)) := by
    have h := heap_alloc_new (w.alloc (.cells [.int .i64 op, .int .i64 hw, .int .i64 hp, .int .i64 xd, .int .i64 sc, .int .i64 fl, .slice a1 n1 c1, .slice a2 n2 c2, .slice a3 n3 c3, .slice a4 n4 c4, .slice a5 n5 c5, .slice a6 n6 c6, .slice a7 n7 c7, .slice ao no co].toArray 37)) (.cells [.slice none 0 0, .slice none 0 0, .int .u8 op, .int .u8 hw, .int .u8 0, .int .u8 hp, .int .u32 xd, .int .u16 sc, .int .u16 fl, .slice none 0 0, .slice none 0 0, .slice none 0 0, .slice none 0 0, .slice none 0 0, .slice none 0 0, .slice none 0 0, .slice none 0 0].toArray 108)
    rw [World.size_alloc] at h
    rw [hX1]; exact h
  have hsX : X1.heap.size = w.heap.size + 2 := by rw [hX1, World.size_alloc, World.size_alloc]
  have gXw : Gr w X1 := by rw [hX1]; exact ((Gr.refl w).alloc _).alloc _
  obtain ⟨hs9, hc9⟩ := Gr.boxed (w := w) (cs := [.int .i64 op, .int .i64 hw, .int .i64 hp, .int .i64 xd, .int .i64 sc, .int .i64 fl, .slice a1 n1 c1, .slice a2 n2 c2, .slice a3 n3 c3, .slice a4 n4 c4, .slice a5 n5 c5, .slice a6 n6 c6, .slice a7 n7 c7, .slice ao no co]) (t := 37) (w' := X1) gX
  clear hX1 y0 y1 y2 y3 y4 y5
  go_region_held3 (fun w' => w'.cell? ⟨w.heap.size, 6, none⟩ = some (.slice a1 n1 c1) ∧ w'.cell? ⟨w.heap.size, 7, none⟩ = some (.slice a2 n2 c2) ∧ w'.cell? ⟨w.heap.size, 8, none⟩ = some (.slice a3 n3 c3) ∧ w'.cell? ⟨w.heap.size, 9, none⟩ = some (.slice a4 n4 c4)) (first | exact ⟨hc9 6, hc9 7, hc9 8, hc9 9⟩ | exact And.imp (Gr.cell (by assumption)) (And.imp (Gr.cell (by assumption)) (And.imp (Gr.cell (by assumption)) (Gr.cell (by assumption)))) (by assumption) | exact And.imp (Gr.cell ((Gr.refl _).alloc _)) (And.imp (Gr.cell ((Gr.refl _).alloc _)) (And.imp (Gr.cell ((Gr.refl _).alloc _)) (Gr.cell ((Gr.refl _).alloc _)))) (by assumption) | exact And.imp (rowW_swap neBV) (And.imp (rowW_swap neBV) (And.imp (rowW_swap neBV) (rowW_swap neBV))) (by assumption) | go_keep) (first
      | (go_at_call_of 44 (Value.slice a1 n1 c1); refine (copied_calls _ l1 _ (H1.out.gr (by (repeat (with_reducible first | exact Gr.refl _ | assumption | refine Gr.alloc ?_ _ | refine Gr.drew ?_ | refine Gr.drewN ?_ _ | refine Gr.trans ?_ (by assumption))); done)) (by omega)).mono ?_; rintro e w1 ⟨s1, m1, k1, rfl, ho1, hg1⟩; obtain ⟨hs9, hc9⟩ := Gr.boxed (w := w) (cs := [.int .i64 op, .int .i64 hw, .int .i64 hp, .int .i64 xd, .int .i64 sc, .int .i64 fl, .slice a1 n1 c1, .slice a2 n2 c2, .slice a3 n3 c3, .slice a4 n4 c4, .slice a5 n5 c5, .slice a6 n6 c6, .slice a7 n7 c7, .slice ao no co]) (t := 37) (w' := w1) (by (repeat (with_reducible first | exact Gr.refl _ | assumption | refine Gr.alloc ?_ _ | refine Gr.drew ?_ | refine Gr.drewN ?_ _ | refine Gr.trans ?_ (by assumption))); done); have hb1 := ho1.isB; obtain rfl : m1 = 4 := (by rw [hb1.count, z1]))
      | (go_at_call_of 44 (Value.slice a2 n2 c2); refine (copied_calls _ l2 _ (H2.out.gr (by (repeat (with_reducible first | exact Gr.refl _ | assumption | refine Gr.alloc ?_ _ | refine Gr.drew ?_ | refine Gr.drewN ?_ _ | refine Gr.trans ?_ (by assumption))); done)) (by omega)).mono ?_; rintro e w2 ⟨s2, m2, k2, rfl, ho2, hg2⟩; obtain ⟨hs9, hc9⟩ := Gr.boxed (w := w) (cs := [.int .i64 op, .int .i64 hw, .int .i64 hp, .int .i64 xd, .int .i64 sc, .int .i64 fl, .slice a1 n1 c1, .slice a2 n2 c2, .slice a3 n3 c3, .slice a4 n4 c4, .slice a5 n5 c5, .slice a6 n6 c6, .slice a7 n7 c7, .slice ao no co]) (t := 37) (w' := w2) (by (repeat (with_reducible first | exact Gr.refl _ | assumption | refine Gr.alloc ?_ _ | refine Gr.drew ?_ | refine Gr.drewN ?_ _ | refine Gr.trans ?_ (by assumption))); done); have hb2 := ho2.isB; obtain rfl : m2 = 4 := (by rw [hb2.count, z2]))
      | (go_at_call_of 44 (Value.slice a3 n3 c3); refine (copied_calls _ l3 _ (H3.out.gr (by (repeat (with_reducible first | exact Gr.refl _ | assumption | refine Gr.alloc ?_ _ | refine Gr.drew ?_ | refine Gr.drewN ?_ _ | refine Gr.trans ?_ (by assumption))); done)) (by omega)).mono ?_; rintro e w3 ⟨s3, m3, k3, rfl, ho3, hg3⟩; obtain ⟨hs9, hc9⟩ := Gr.boxed (w := w) (cs := [.int .i64 op, .int .i64 hw, .int .i64 hp, .int .i64 xd, .int .i64 sc, .int .i64 fl, .slice a1 n1 c1, .slice a2 n2 c2, .slice a3 n3 c3, .slice a4 n4 c4, .slice a5 n5 c5, .slice a6 n6 c6, .slice a7 n7 c7, .slice ao no co]) (t := 37) (w' := w3) (by (repeat (with_reducible first | exact Gr.refl _ | assumption | refine Gr.alloc ?_ _ | refine Gr.drew ?_ | refine Gr.drewN ?_ _ | refine Gr.trans ?_ (by assumption))); done); have hb3 := ho3.isB; obtain rfl : m3 = 4 := (by rw [hb3.count, z3]))
      | (go_at_call_of 44 (Value.slice a4 n4 c4); refine (copied_calls _ l4 _ (H4.out.gr (by (repeat (with_reducible first | exact Gr.refl _ | assumption | refine Gr.alloc ?_ _ | refine Gr.drew ?_ | refine Gr.drewN ?_ _ | refine Gr.trans ?_ (by assumption))); done)) (by omega)).mono ?_; rintro e w4 ⟨s4, m4, k4, rfl, ho4, hg4⟩; obtain ⟨hs9, hc9⟩ := Gr.boxed (w := w) (cs := [.int .i64 op, .int .i64 hw, .int .i64 hp, .int .i64 xd, .int .i64 sc, .int .i64 fl, .slice a1 n1 c1, .slice a2 n2 c2, .slice a3 n3 c3, .slice a4 n4 c4, .slice a5 n5 c5, .slice a6 n6 c6, .slice a7 n7 c7, .slice ao no co]) (t := 37) (w' := w4) (by (repeat (with_reducible first | exact Gr.refl _ | assumption | refine Gr.alloc ?_ _ | refine Gr.drew ?_ | refine Gr.drewN ?_ _ | refine Gr.trans ?_ (by assumption))); done); have hb4 := ho4.isB; obtain rfl : m4 = 4 := (by rw [hb4.count, z4]); have hVr := heap_gr (show Gr X1 w4 from (by (repeat (with_reducible first | exact Gr.refl _ | assumption | refine Gr.alloc ?_ _ | refine Gr.drew ?_ | refine Gr.drewN ?_ _ | refine Gr.trans ?_ (by assumption))); done)) hV0; obtain ⟨y, yV, rfl⟩ : ∃ y, Has y (w.heap.size + 1) ∧ w4 = rowW y (w.heap.size + 1) [.slice none 0 0, .slice none 0 0, .int .u8 op, .int .u8 hw, .int .u8 0, .int .u8 hp, .int .u32 xd, .int .u16 sc, .int .u16 fl, .slice none 0 0, .slice none 0 0, .slice none 0 0, .slice none 0 0, .slice none 0 0, .slice none 0 0, .slice none 0 0, .slice none 0 0] 108 := ⟨w4, (Array.getElem?_eq_some_iff.1 hVr).1, (rowW_self hVr).symm⟩))
  go_wp2_with fail
  have q0 : (w.heap.size + 1) < X1.heap.size := (Array.getElem?_eq_some_iff.1 hV0).1
  have q1 : X1.heap.size ≤ w1.heap.size := hg1.size
  have A1 : Aside (.slice s1 4 k1) l1 (w.heap.size + 1) := ho1.aside (show (w.heap.size + 1) < X1.drew.heap.size from by show (w.heap.size + 1) < X1.heap.size; omega)
  have q2 : w1.heap.size ≤ w2.heap.size := hg2.size
  have A2 : Aside (.slice s2 4 k2) l2 (w.heap.size + 1) := ho2.aside (show (w.heap.size + 1) < w1.heap.size from by omega)
  have q3 : w2.heap.size ≤ w3.heap.size := hg3.size
  have A3 : Aside (.slice s3 4 k3) l3 (w.heap.size + 1) := ho3.aside (show (w.heap.size + 1) < w2.heap.size from by omega)
  have q4 : w3.heap.size ≤ (rowW y (w.heap.size + 1) [.slice none 0 0, .slice none 0 0, .int .u8 op, .int .u8 hw, .int .u8 0, .int .u8 hp, .int .u32 xd, .int .u16 sc, .int .u16 fl, .slice none 0 0, .slice none 0 0, .slice none 0 0, .slice none 0 0, .slice none 0 0, .slice none 0 0, .slice none 0 0, .slice none 0 0] 108).heap.size := hg4.size
  have A4 : Aside (.slice s4 4 k4) l4 (w.heap.size + 1) := ho4.aside (show (w.heap.size + 1) < w3.heap.size from by omega)
  have gN : Gr X1 (rowW y (w.heap.size + 1) [.slice none 0 0, .slice none 0 0, .int .u8 op, .int .u8 hw, .int .u8 0, .int .u8 hp, .int .u32 xd, .int .u16 sc, .int .u16 fl, .slice none 0 0, .slice none 0 0, .slice none 0 0, .slice none 0 0, .slice none 0 0, .slice none 0 0, .slice none 0 0, .slice none 0 0] 108) := (by (repeat (with_reducible first | exact Gr.refl _ | assumption | refine Gr.alloc ?_ _ | refine Gr.drew ?_ | refine Gr.drewN ?_ _ | refine Gr.trans ?_ (by assumption))); done)
  have B1 : IsB (rowW y (w.heap.size + 1) [.slice none 0 0, .slice none 0 0, .int .u8 op, .int .u8 hw, .int .u8 0, .int .u8 hp, .int .u32 xd, .int .u16 sc, .int .u16 fl, .slice s1 4 k1, .slice s2 4 k2, .slice s3 4 k3, .slice s4 4 k4, .slice none 0 0, .slice none 0 0, .slice none 0 0, .slice none 0 0] 108) (.slice s1 4 k1) l1 := (hb1.gr (Gr.trans (Gr.trans (hg2) hg3) hg4)).keptE (rowW_rowW (n := 0)) A1
  have B2 : IsB (rowW y (w.heap.size + 1) [.slice none 0 0, .slice none 0 0, .int .u8 op, .int .u8 hw, .int .u8 0, .int .u8 hp, .int .u32 xd, .int .u16 sc, .int .u16 fl, .slice s1 4 k1, .slice s2 4 k2, .slice s3 4 k3, .slice s4 4 k4, .slice none 0 0, .slice none 0 0, .slice none 0 0, .slice none 0 0] 108) (.slice s2 4 k2) l2 := (hb2.gr (Gr.trans (hg3) hg4)).keptE (rowW_rowW (n := 0)) A2
  have B3 : IsB (rowW y (w.heap.size + 1) [.slice none 0 0, .slice none 0 0, .int .u8 op, .int .u8 hw, .int .u8 0, .int .u8 hp, .int .u32 xd, .int .u16 sc, .int .u16 fl, .slice s1 4 k1, .slice s2 4 k2, .slice s3 4 k3, .slice s4 4 k4, .slice none 0 0, .slice none 0 0, .slice none 0 0, .slice none 0 0] 108) (.slice s3 4 k3) l3 := (hb3.gr (hg4)).keptE (rowW_rowW (n := 0)) A3
  have B4 : IsB (rowW y (w.heap.size + 1) [.slice none 0 0, .slice none 0 0, .int .u8 op, .int .u8 hw, .int .u8 0, .int .u8 hp, .int .u32 xd, .int .u16 sc, .int .u16 fl, .slice s1 4 k1, .slice s2 4 k2, .slice s3 4 k3, .slice s4 4 k4, .slice none 0 0, .slice none 0 0, .slice none 0 0, .slice none 0 0] 108) (.slice s4 4 k4) l4 := hb4.keptE (rowW_rowW (n := 0)) A4
  have gXn : Gr (w.alloc (.cells [.int .i64 op, .int .i64 hw, .int .i64 hp, .int .i64 xd, .int .i64 sc, .int .i64 fl, .slice a1 n1 c1, .slice a2 n2 c2, .slice a3 n3 c3, .slice a4 n4 c4, .slice a5 n5 c5, .slice a6 n6 c6, .slice a7 n7 c7, .slice ao no co].toArray 37)) (rowW y (w.heap.size + 1) [.slice none 0 0, .slice none 0 0, .int .u8 op, .int .u8 hw, .int .u8 0, .int .u8 hp, .int .u32 xd, .int .u16 sc, .int .u16 fl, .slice s1 4 k1, .slice s2 4 k2, .slice s3 4 k3, .slice s4 4 k4, .slice none 0 0, .slice none 0 0, .slice none 0 0, .slice none 0 0] 108) := (gX.trans gN).row (by rw [World.size_alloc]; exact Nat.le_refl _)
  have gWn : Gr w (rowW y (w.heap.size + 1) [.slice none 0 0, .slice none 0 0, .int .u8 op, .int .u8 hw, .int .u8 0, .int .u8 hp, .int .u32 xd, .int .u16 sc, .int .u16 fl, .slice s1 4 k1, .slice s2 4 k2, .slice s3 4 k3, .slice s4 4 k4, .slice none 0 0, .slice none 0 0, .slice none 0 0, .slice none 0 0] 108) := (gXw.trans gN).row (Nat.le_succ _)
  have hVn : (rowW y (w.heap.size + 1) [.slice none 0 0, .slice none 0 0, .int .u8 op, .int .u8 hw, .int .u8 0, .int .u8 hp, .int .u32 xd, .int .u16 sc, .int .u16 fl, .slice s1 4 k1, .slice s2 4 k2, .slice s3 4 k3, .slice s4 4 k4, .slice none 0 0, .slice none 0 0, .slice none 0 0, .slice none 0 0] 108).heap[(w.heap.size + 1)]? = some (.cells [.slice none 0 0, .slice none 0 0, .int .u8 op, .int .u8 hw, .int .u8 0, .int .u8 hp, .int .u32 xd, .int .u16 sc, .int .u16 fl, .slice s1 4 k1, .slice s2 4 k2, .slice s3 4 k3, .slice s4 4 k4, .slice none 0 0, .slice none 0 0, .slice none 0 0, .slice none 0 0].toArray 108 (0, 0)) := rowW_heap yV
  obtain ⟨X2, hX2⟩ : ∃ X2, X2 = rowW y (w.heap.size + 1) [.slice none 0 0, .slice none 0 0, .int .u8 op, .int .u8 hw, .int .u8 0, .int .u8 hp, .int .u32 xd, .int .u16 sc, .int .u16 fl, .slice s1 4 k1, .slice s2 4 k2, .slice s3 4 k3, .slice s4 4 k4, .slice none 0 0, .slice none 0 0, .slice none 0 0, .slice none 0 0] 108 := ⟨_, rfl⟩
  rw [← hX2] at B1 B2 B3 B4 gXn gWn hVn ⊢
  have hV4 := hVn
  clear gX gXw hX2 hg1 hg2 hg3 hg4 hb1 hb2 hb3 hb4 ho1 ho2 ho3 ho4 gN hV0 hVn q0 q1 q2 q3 q4 hc9 hs9 hVr hsX yV
  have gX := gXn
  have gXw := gWn
  clear gXn gWn
  obtain ⟨hs9, hc9⟩ := Gr.boxed (w := w) (cs := [.int .i64 op, .int .i64 hw, .int .i64 hp, .int .i64 xd, .int .i64 sc, .int .i64 fl, .slice a1 n1 c1, .slice a2 n2 c2, .slice a3 n3 c3, .slice a4 n4 c4, .slice a5 n5 c5, .slice a6 n6 c6, .slice a7 n7 c7, .slice ao no co]) (t := 37) (w' := X2) gX
  go_region_held3 (fun w' => w'.cell? ⟨w.heap.size, 10, none⟩ = some (.slice a5 n5 c5) ∧ w'.cell? ⟨w.heap.size, 11, none⟩ = some (.slice a6 n6 c6) ∧ w'.cell? ⟨w.heap.size, 12, none⟩ = some (.slice a7 n7 c7)) (first | exact ⟨hc9 10, hc9 11, hc9 12⟩ | exact And.imp (Gr.cell (by assumption)) (And.imp (Gr.cell (by assumption)) (Gr.cell (by assumption))) (by assumption) | exact And.imp (Gr.cell ((Gr.refl _).alloc _)) (And.imp (Gr.cell ((Gr.refl _).alloc _)) (Gr.cell ((Gr.refl _).alloc _))) (by assumption) | exact And.imp (rowW_swap neBV) (And.imp (rowW_swap neBV) (rowW_swap neBV)) (by assumption) | go_keep) (first
      | (go_at_call_of 44 (Value.slice a5 n5 c5); refine (copied_calls _ l5 _ (H5.out.gr (by (repeat (with_reducible first | exact Gr.refl _ | assumption | refine Gr.alloc ?_ _ | refine Gr.drew ?_ | refine Gr.drewN ?_ _ | refine Gr.trans ?_ (by assumption))); done)) (by omega)).mono ?_; rintro e w5 ⟨s5, m5, k5, rfl, ho5, hg5⟩; obtain ⟨hs9, hc9⟩ := Gr.boxed (w := w) (cs := [.int .i64 op, .int .i64 hw, .int .i64 hp, .int .i64 xd, .int .i64 sc, .int .i64 fl, .slice a1 n1 c1, .slice a2 n2 c2, .slice a3 n3 c3, .slice a4 n4 c4, .slice a5 n5 c5, .slice a6 n6 c6, .slice a7 n7 c7, .slice ao no co]) (t := 37) (w' := w5) (by (repeat (with_reducible first | exact Gr.refl _ | assumption | refine Gr.alloc ?_ _ | refine Gr.drew ?_ | refine Gr.drewN ?_ _ | refine Gr.trans ?_ (by assumption))); done); have hb5 := ho5.isB; obtain rfl : m5 = l5.length := hb5.count)
      | (go_at_call_of 44 (Value.slice a6 n6 c6); refine (copied_calls _ l6 _ (H6.out.gr (by (repeat (with_reducible first | exact Gr.refl _ | assumption | refine Gr.alloc ?_ _ | refine Gr.drew ?_ | refine Gr.drewN ?_ _ | refine Gr.trans ?_ (by assumption))); done)) (by omega)).mono ?_; rintro e w6 ⟨s6, m6, k6, rfl, ho6, hg6⟩; obtain ⟨hs9, hc9⟩ := Gr.boxed (w := w) (cs := [.int .i64 op, .int .i64 hw, .int .i64 hp, .int .i64 xd, .int .i64 sc, .int .i64 fl, .slice a1 n1 c1, .slice a2 n2 c2, .slice a3 n3 c3, .slice a4 n4 c4, .slice a5 n5 c5, .slice a6 n6 c6, .slice a7 n7 c7, .slice ao no co]) (t := 37) (w' := w6) (by (repeat (with_reducible first | exact Gr.refl _ | assumption | refine Gr.alloc ?_ _ | refine Gr.drew ?_ | refine Gr.drewN ?_ _ | refine Gr.trans ?_ (by assumption))); done); have hb6 := ho6.isB; obtain rfl : m6 = l6.length := hb6.count)
      | (go_at_call_of 44 (Value.slice a7 n7 c7); refine (copied_calls _ l7 _ (H7.out.gr (by (repeat (with_reducible first | exact Gr.refl _ | assumption | refine Gr.alloc ?_ _ | refine Gr.drew ?_ | refine Gr.drewN ?_ _ | refine Gr.trans ?_ (by assumption))); done)) (by omega)).mono ?_; rintro e w7 ⟨s7, m7, k7, rfl, ho7, hg7⟩; obtain ⟨hs9, hc9⟩ := Gr.boxed (w := w) (cs := [.int .i64 op, .int .i64 hw, .int .i64 hp, .int .i64 xd, .int .i64 sc, .int .i64 fl, .slice a1 n1 c1, .slice a2 n2 c2, .slice a3 n3 c3, .slice a4 n4 c4, .slice a5 n5 c5, .slice a6 n6 c6, .slice a7 n7 c7, .slice ao no co]) (t := 37) (w' := w7) (by (repeat (with_reducible first | exact Gr.refl _ | assumption | refine Gr.alloc ?_ _ | refine Gr.drew ?_ | refine Gr.drewN ?_ _ | refine Gr.trans ?_ (by assumption))); done); have hb7 := ho7.isB; obtain rfl : m7 = l7.length := hb7.count; have hVr := heap_gr (show Gr X2 w7 from (by (repeat (with_reducible first | exact Gr.refl _ | assumption | refine Gr.alloc ?_ _ | refine Gr.drew ?_ | refine Gr.drewN ?_ _ | refine Gr.trans ?_ (by assumption))); done)) hV4; obtain ⟨y7, y7V, rfl⟩ : ∃ y, Has y (w.heap.size + 1) ∧ w7 = rowW y (w.heap.size + 1) [.slice none 0 0, .slice none 0 0, .int .u8 op, .int .u8 hw, .int .u8 0, .int .u8 hp, .int .u32 xd, .int .u16 sc, .int .u16 fl, .slice s1 4 k1, .slice s2 4 k2, .slice s3 4 k3, .slice s4 4 k4, .slice none 0 0, .slice none 0 0, .slice none 0 0, .slice none 0 0] 108 := ⟨w7, (Array.getElem?_eq_some_iff.1 hVr).1, (rowW_self hVr).symm⟩))
  have q0 : (w.heap.size + 1) < X2.heap.size := (Array.getElem?_eq_some_iff.1 hV4).1
  have q5 : X2.heap.size ≤ w5.heap.size := hg5.size
  have A5 : Aside (.slice s5 l5.length k5) l5 (w.heap.size + 1) := ho5.aside (show (w.heap.size + 1) < X2.drew.heap.size from by show (w.heap.size + 1) < X2.heap.size; omega)
  have q6 : w5.heap.size ≤ w6.heap.size := hg6.size
  have A6 : Aside (.slice s6 l6.length k6) l6 (w.heap.size + 1) := ho6.aside (show (w.heap.size + 1) < w5.heap.size from by omega)
  have q7 : w6.heap.size ≤ (rowW y7 (w.heap.size + 1) [.slice none 0 0, .slice none 0 0, .int .u8 op, .int .u8 hw, .int .u8 0, .int .u8 hp, .int .u32 xd, .int .u16 sc, .int .u16 fl, .slice s1 4 k1, .slice s2 4 k2, .slice s3 4 k3, .slice s4 4 k4, .slice none 0 0, .slice none 0 0, .slice none 0 0, .slice none 0 0] 108).heap.size := hg7.size
  have A7 : Aside (.slice s7 l7.length k7) l7 (w.heap.size + 1) := ho7.aside (show (w.heap.size + 1) < w6.heap.size from by omega)
  have gN : Gr X2 (rowW y7 (w.heap.size + 1) [.slice none 0 0, .slice none 0 0, .int .u8 op, .int .u8 hw, .int .u8 0, .int .u8 hp, .int .u32 xd, .int .u16 sc, .int .u16 fl, .slice s1 4 k1, .slice s2 4 k2, .slice s3 4 k3, .slice s4 4 k4, .slice none 0 0, .slice none 0 0, .slice none 0 0, .slice none 0 0] 108) := (by (repeat (with_reducible first | exact Gr.refl _ | assumption | refine Gr.alloc ?_ _ | refine Gr.drew ?_ | refine Gr.drewN ?_ _ | refine Gr.trans ?_ (by assumption))); done)
  have B5 : IsB (rowW y7 (w.heap.size + 1) [.slice none 0 0, .slice none 0 0, .int .u8 op, .int .u8 hw, .int .u8 0, .int .u8 hp, .int .u32 xd, .int .u16 sc, .int .u16 fl, .slice s1 4 k1, .slice s2 4 k2, .slice s3 4 k3, .slice s4 4 k4, .slice s5 l5.length k5, .slice s6 l6.length k6, .slice s7 l7.length k7, .slice none 0 0] 108) (.slice s5 l5.length k5) l5 := (hb5.gr (Gr.trans (hg6) hg7)).keptE (rowW_rowW (n := 0)) A5
  have B6 : IsB (rowW y7 (w.heap.size + 1) [.slice none 0 0, .slice none 0 0, .int .u8 op, .int .u8 hw, .int .u8 0, .int .u8 hp, .int .u32 xd, .int .u16 sc, .int .u16 fl, .slice s1 4 k1, .slice s2 4 k2, .slice s3 4 k3, .slice s4 4 k4, .slice s5 l5.length k5, .slice s6 l6.length k6, .slice s7 l7.length k7, .slice none 0 0] 108) (.slice s6 l6.length k6) l6 := (hb6.gr (hg7)).keptE (rowW_rowW (n := 0)) A6
  have B7 : IsB (rowW y7 (w.heap.size + 1) [.slice none 0 0, .slice none 0 0, .int .u8 op, .int .u8 hw, .int .u8 0, .int .u8 hp, .int .u32 xd, .int .u16 sc, .int .u16 fl, .slice s1 4 k1, .slice s2 4 k2, .slice s3 4 k3, .slice s4 4 k4, .slice s5 l5.length k5, .slice s6 l6.length k6, .slice s7 l7.length k7, .slice none 0 0] 108) (.slice s7 l7.length k7) l7 := hb7.keptE (rowW_rowW (n := 0)) A7
  have B1 : IsB (rowW y7 (w.heap.size + 1) [.slice none 0 0, .slice none 0 0, .int .u8 op, .int .u8 hw, .int .u8 0, .int .u8 hp, .int .u32 xd, .int .u16 sc, .int .u16 fl, .slice s1 4 k1, .slice s2 4 k2, .slice s3 4 k3, .slice s4 4 k4, .slice s5 l5.length k5, .slice s6 l6.length k6, .slice s7 l7.length k7, .slice none 0 0] 108) (.slice s1 4 k1) l1 := (B1.gr gN).keptE (rowW_rowW (n := 0)) A1
  have B2 : IsB (rowW y7 (w.heap.size + 1) [.slice none 0 0, .slice none 0 0, .int .u8 op, .int .u8 hw, .int .u8 0, .int .u8 hp, .int .u32 xd, .int .u16 sc, .int .u16 fl, .slice s1 4 k1, .slice s2 4 k2, .slice s3 4 k3, .slice s4 4 k4, .slice s5 l5.length k5, .slice s6 l6.length k6, .slice s7 l7.length k7, .slice none 0 0] 108) (.slice s2 4 k2) l2 := (B2.gr gN).keptE (rowW_rowW (n := 0)) A2
  have B3 : IsB (rowW y7 (w.heap.size + 1) [.slice none 0 0, .slice none 0 0, .int .u8 op, .int .u8 hw, .int .u8 0, .int .u8 hp, .int .u32 xd, .int .u16 sc, .int .u16 fl, .slice s1 4 k1, .slice s2 4 k2, .slice s3 4 k3, .slice s4 4 k4, .slice s5 l5.length k5, .slice s6 l6.length k6, .slice s7 l7.length k7, .slice none 0 0] 108) (.slice s3 4 k3) l3 := (B3.gr gN).keptE (rowW_rowW (n := 0)) A3
  have B4 : IsB (rowW y7 (w.heap.size + 1) [.slice none 0 0, .slice none 0 0, .int .u8 op, .int .u8 hw, .int .u8 0, .int .u8 hp, .int .u32 xd, .int .u16 sc, .int .u16 fl, .slice s1 4 k1, .slice s2 4 k2, .slice s3 4 k3, .slice s4 4 k4, .slice s5 l5.length k5, .slice s6 l6.length k6, .slice s7 l7.length k7, .slice none 0 0] 108) (.slice s4 4 k4) l4 := (B4.gr gN).keptE (rowW_rowW (n := 0)) A4
  have gXn : Gr (w.alloc (.cells [.int .i64 op, .int .i64 hw, .int .i64 hp, .int .i64 xd, .int .i64 sc, .int .i64 fl, .slice a1 n1 c1, .slice a2 n2 c2, .slice a3 n3 c3, .slice a4 n4 c4, .slice a5 n5 c5, .slice a6 n6 c6, .slice a7 n7 c7, .slice ao no co].toArray 37)) (rowW y7 (w.heap.size + 1) [.slice none 0 0, .slice none 0 0, .int .u8 op, .int .u8 hw, .int .u8 0, .int .u8 hp, .int .u32 xd, .int .u16 sc, .int .u16 fl, .slice s1 4 k1, .slice s2 4 k2, .slice s3 4 k3, .slice s4 4 k4, .slice s5 l5.length k5, .slice s6 l6.length k6, .slice s7 l7.length k7, .slice none 0 0] 108) := (gX.trans gN).row (by rw [World.size_alloc]; exact Nat.le_refl _)
  have gWn : Gr w (rowW y7 (w.heap.size + 1) [.slice none 0 0, .slice none 0 0, .int .u8 op, .int .u8 hw, .int .u8 0, .int .u8 hp, .int .u32 xd, .int .u16 sc, .int .u16 fl, .slice s1 4 k1, .slice s2 4 k2, .slice s3 4 k3, .slice s4 4 k4, .slice s5 l5.length k5, .slice s6 l6.length k6, .slice s7 l7.length k7, .slice none 0 0] 108) := (gXw.trans gN).row (Nat.le_succ _)
  have hVn : (rowW y7 (w.heap.size + 1) [.slice none 0 0, .slice none 0 0, .int .u8 op, .int .u8 hw, .int .u8 0, .int .u8 hp, .int .u32 xd, .int .u16 sc, .int .u16 fl, .slice s1 4 k1, .slice s2 4 k2, .slice s3 4 k3, .slice s4 4 k4, .slice s5 l5.length k5, .slice s6 l6.length k6, .slice s7 l7.length k7, .slice none 0 0] 108).heap[(w.heap.size + 1)]? = some (.cells [.slice none 0 0, .slice none 0 0, .int .u8 op, .int .u8 hw, .int .u8 0, .int .u8 hp, .int .u32 xd, .int .u16 sc, .int .u16 fl, .slice s1 4 k1, .slice s2 4 k2, .slice s3 4 k3, .slice s4 4 k4, .slice s5 l5.length k5, .slice s6 l6.length k6, .slice s7 l7.length k7, .slice none 0 0].toArray 108 (0, 0)) := rowW_heap y7V
  obtain ⟨X3, hX3⟩ : ∃ X3, X3 = rowW y7 (w.heap.size + 1) [.slice none 0 0, .slice none 0 0, .int .u8 op, .int .u8 hw, .int .u8 0, .int .u8 hp, .int .u32 xd, .int .u16 sc, .int .u16 fl, .slice s1 4 k1, .slice s2 4 k2, .slice s3 4 k3, .slice s4 4 k4, .slice s5 l5.length k5, .slice s6 l6.length k6, .slice s7 l7.length k7, .slice none 0 0] 108 := ⟨_, rfl⟩
  go_upto_region 4 with fail
  rw [← hX3] at B1 B2 B3 B4 B5 B6 B7 gXn gWn hVn ⊢
  have HHC := Lib.hid hVn
  clear gX gXw hX3 hg5 hg6 hg7 hb5 hb6 hb7 ho5 ho6 ho7 gN hV4 hVn q0 q5 q6 q7 hc9 hs9 hVr y7V
  obtain ⟨hs9, hc9⟩ := Gr.boxed (w := w) (cs := [.int .i64 op, .int .i64 hw, .int .i64 hp, .int .i64 xd, .int .i64 sc, .int .i64 fl, .slice a1 n1 c1, .slice a2 n2 c2, .slice a3 n3 c3, .slice a4 n4 c4, .slice a5 n5 c5, .slice a6 n6 c6, .slice a7 n7 c7, .slice ao no co]) (t := 37) (w' := X3) gXn
  have GC := Lib.hid gWn
  have k13 := hc9 13
  have hdT : Has X3 (w.heap.size + 1) := (Array.getElem?_eq_some_iff.1 HHC.out).1
  have gwc := GC.out.size
  obtain ⟨V, hVe⟩ : ∃ V, V = (w.heap.size + 1) := ⟨_, rfl⟩
  have hVne : w.heap.size ≠ V := by omega
  have hVle : w.heap.size ≤ V := by omega
  rw [← hVe] at HHC hdT A1 A2 A3 A4 A5 A6 A7 ⊢
  have HA := Lib.hid (And.intro A1 (And.intro A2 (And.intro A3 (And.intro A4 (And.intro A5 (And.intro A6 A7))))))
  have HB := Lib.hid (And.intro B1 (And.intro B2 (And.intro B3 (And.intro B4 (And.intro B5 (And.intro B6 B7))))))
  have HVE := Lib.hid hVe
  clear hVe A1 A2 A3 A4 A5 A6 A7 B1 B2 B3 B4 B5 B6 B7 gXn gWn hc9 hs9 neVB neBV
  obtain ⟨wc, hwc⟩ : ∃ wc, wc = X3 := ⟨_, rfl⟩
  subst hwc
  go_wp2_with fail
  go_loopw [73] (DMkRel wc V os (fun o => [.slice none 0 0, .slice none 0 0, .int .u8 op, .int .u8 hw, .int .u8 0, .int .u8 hp, .int .u32 xd, .int .u16 sc, .int .u16 fl, .slice s1 4 k1, .slice s2 4 k2, .slice s3 4 k3, .slice s4 4 k4, .slice s5 l5.length k5, .slice s6 l6.length k6, .slice s7 l7.length k7, o])) (fun i _ => os.length - (intOf i).toNat)
  case atStart => exact ⟨0, [], wc, none, 0, 0, Nat.zero_le _, rfl, (rowW_self HHC.out).symm, hdT, Gr.refl _, OwnO.nil, by simp, fun p hp => by cases hp⟩
  case round =>
    obtain ⟨k, rs', x, av, nv, cv, hk, rfl, rfl, hX, hG, hOw, hrs', hfar'⟩ := hrel
    have HOw := Lib.hid hOw
    have HRS' := Lib.hid hrs'
    have HFAR := Lib.hid hfar'
    have HG := Lib.hid hG
    clear hOw hrs' hfar' hG
    by_cases hlt : k < os.length
    · obtain ⟨g, o, ix, hx⟩ := H0.out.idx .i64 k k rfl hlt
      have hxk : os[k]? = some (os.getD k Opt.zero) := by rw [List.getD_eq_getElem?_getD, List.getElem?_eq_getElem hlt]; rfl
      have hrg := HOK.out _ (List.mem_of_getElem? hxk)
      obtain ⟨xo, hxo⟩ : ∃ xo, xo = os.getD k Opt.zero := ⟨_, rfl⟩
      rw [← hxo] at hx hxk hrg
      clear hxo
      obtain ⟨kd, ln', d⟩ := xo
      obtain ⟨-, -, c0, c1, ad, nd, md, c2, hI⟩ := hx
      simp only at c0 c1 c2 hI hrg
      obtain rfl := hI.count
      have hgl := cell_lt c0
      have neG : g ≠ V := by omega
      have c0 := HG.out.cell (GC.out.cell c0)
      have c1 := HG.out.cell (GC.out.cell c1)
      have c2 := HG.out.cell (GC.out.cell c2)
      have HID := Lib.hid (show IsB (rowW x V [.slice none 0 0, .slice none 0 0, .int .u8 op, .int .u8 hw, .int .u8 0, .int .u8 hp, .int .u32 xd, .int .u16 sc, .int .u16 fl, .slice s1 4 k1, .slice s2 4 k2, .slice s3 4 k3, .slice s4 4 k4, .slice s5 l5.length k5, .slice s6 l6.length k6, .slice s7 l7.length k7, .slice av nv cv] 108) (.slice ad d.length md) d from IsB.keptE ((hI.gr GC.out).gr HG.out) (rowW_grown (some V) rfl) (hI.aside (by omega)))
      obtain ⟨nd, hnd⟩ : ∃ nd, nd = d.length := ⟨_, rfl⟩
      rw [← hnd] at c2 HID
      have HP := Lib.hid hxk
      have HLT := Lib.hid hlt
      have wk : IntKind.u8.wrap kd = kd := by simp [IntKind.wrap, IntKind.bits, IntKind.signed]; omega
      have wl : IntKind.u8.wrap (nd : Int) = (nd : Int) := by simp [IntKind.wrap, IntKind.bits, IntKind.signed]; omega
      have hdl : d.length ≤ 255 := hrg.1
      have hneX : x.heap.size ≠ V := by have : V < x.heap.size := hX; omega
      have HND := Lib.hid hnd
      have HRSL := Lib.hid (show rs'.length ≤ 1000000000 by have e := congrArg List.length HRS'.out; rw [List.length_map, List.length_map, List.length_take] at e; omega)
      clear hxk hI hlt hnd hrg
      go_wp2_with fail
      rw [← rowW_alloc hX]
      obtain ⟨Y, hY⟩ : ∃ Y, Y = ((rowW x V [.slice none 0 0, .slice none 0 0, .int .u8 op, .int .u8 hw, .int .u8 0, .int .u8 hp, .int .u32 xd, .int .u16 sc, .int .u16 fl, .slice s1 4 k1, .slice s2 4 k2, .slice s3 4 k3, .slice s4 4 k4, .slice s5 l5.length k5, .slice s6 l6.length k6, .slice s7 l7.length k7, .slice av nv cv] 108).alloc (.cells #[.int .i64 kd, .int .i64 ln', .slice ad nd md] 96)) := ⟨_, rfl⟩
      rw [← hY]
      obtain ⟨T8, hT8⟩ : ∃ T8, T8 = x.heap.size := ⟨_, rfl⟩
      try rw [← hT8]
      have gY : Gr (rowW x V [.slice none 0 0, .slice none 0 0, .int .u8 op, .int .u8 hw, .int .u8 0, .int .u8 hp, .int .u32 xd, .int .u16 sc, .int .u16 fl, .slice s1 4 k1, .slice s2 4 k2, .slice s3 4 k3, .slice s4 4 k4, .slice s5 l5.length k5, .slice s6 l6.length k6, .slice s7 l7.length k7, .slice av nv cv] 108) Y := by rw [hY]; exact (Gr.refl _).alloc _
      have bY := box3 (w := rowW x V [.slice none 0 0, .slice none 0 0, .int .u8 op, .int .u8 hw, .int .u8 0, .int .u8 hp, .int .u32 xd, .int .u16 sc, .int .u16 fl, .slice s1 4 k1, .slice s2 4 k2, .slice s3 4 k3, .slice s4 4 k4, .slice s5 l5.length k5, .slice s6 l6.length k6, .slice s7 l7.length k7, .slice av nv cv] 108) (b := T8) (by rw [hT8, rowW_size]) (.int .i64 kd) (.int .i64 ln') (.slice ad nd md) 96
      rw [← hY] at bY
      obtain ⟨bY0, bY1, bY2⟩ := bY
      have cY := gY.cell (rowW_cell hX 16)
      have HOY := Lib.hid (HOw.out.gr gY)
      have GWY := Lib.hid ((gr_rows (cs := [.slice none 0 0, .slice none 0 0, .int .u8 op, .int .u8 hw, .int .u8 0, .int .u8 hp, .int .u32 xd, .int .u16 sc, .int .u16 fl, .slice s1 4 k1, .slice s2 4 k2, .slice s3 4 k3, .slice s4 4 k4, .slice s5 l5.length k5, .slice s6 l6.length k6, .slice s7 l7.length k7, .slice av nv cv]) (e := 108) hdT HG.out).trans gY)
      have neV := Lib.hid (show ∀ k, (Value.slice av nv cv).ownBlock = some k → k ≠ T8 from fun k hk => by
        have h1 := (HOw.out.fresh k hk).2
        rw [rowW_size] at h1
        omega)
      have HIDY := Lib.hid ((HID.out.gr gY))
      have szY := gY.size
      have szW := HG.out.size
      rw [rowW_size] at szY
      have HB0 := Lib.hid (And.intro bY0 (And.intro bY1 bY2))
      have CY := Lib.hid cY
      have hTb : V < wc.heap.size := hdT
      have neTT : T8 ≠ V := by omega
      clear hY hT8 gY cY
      refine wp_region_held_drew (S := (fun w' => w'.cell? ⟨T8, 0, none⟩ = some (.int .i64 kd) ∧ w'.cell? ⟨T8, 1, none⟩ = some (.int .i64 ln') ∧ w'.cell? ⟨T8, 2, none⟩ = some (.slice ad nd md))) (by kernel_rfl) ⟨bY0, bY1, bY2⟩ (fun hHeld => ?_)
      refine wpAnyH_take (i := 0) (v := .pointer (some ⟨V, 0, none⟩)) rfl (by kernel_rfl) (by kernel_rfl) (by kernel_rfl) (fun _ _ _ h => h) (Or.inl ⟨by rfl, fun w' hS => ?_⟩) (by assumption) ?_
      · obtain ⟨c0, c1, c2⟩ := hS
        clear hHeld
        go_simp
      try simp only [Act.put, List.getElem_toArray, List.getElem_cons_succ, List.getElem_cons_zero, List.setIfInBounds_toArray, List.set_cons_zero, List.set_cons_succ]
      refine wpAnyH_take (i := 1) (v := .pointer (some ⟨V, 0, none⟩)) rfl (by kernel_rfl) (by kernel_rfl) (by kernel_rfl) (fun _ _ _ h => h) (Or.inl ⟨by rfl, fun w' hS => ?_⟩) (by assumption) ?_
      · obtain ⟨c0, c1, c2⟩ := hS
        clear hHeld
        go_simp
      try simp only [Act.put, List.getElem_toArray, List.getElem_cons_succ, List.getElem_cons_zero, List.setIfInBounds_toArray, List.set_cons_zero, List.set_cons_succ]
      refine wpAnyH_take (i := 2) (v := .pointer (some ⟨V, 0, none⟩)) rfl (by kernel_rfl) (by kernel_rfl) (by kernel_rfl) (fun _ _ _ h => h) (Or.inl ⟨by rfl, fun w' hS => ?_⟩) (by assumption) ?_
      · obtain ⟨c0, c1, c2⟩ := hS
        clear hHeld
        go_simp
      try simp only [Act.put, List.getElem_toArray, List.getElem_cons_succ, List.getElem_cons_zero, List.setIfInBounds_toArray, List.set_cons_zero, List.set_cons_succ]
      refine wpAnyH_take (i := 3) (v := .pointer (some ⟨V, 16, none⟩)) rfl (by kernel_rfl) (by kernel_rfl) (by kernel_rfl) (fun _ _ _ h => h) (Or.inl ⟨by rfl, fun w' hS => ?_⟩) (by assumption) ?_
      · obtain ⟨c0, c1, c2⟩ := hS
        clear hHeld
        go_simp
      try simp only [Act.put, List.getElem_toArray, List.getElem_cons_succ, List.getElem_cons_zero, List.setIfInBounds_toArray, List.set_cons_zero, List.set_cons_succ]
      refine wpAnyH_take (i := 5) (v := .pointer (some ⟨T8, 0, none⟩)) rfl (by kernel_rfl) (by kernel_rfl) (by kernel_rfl) (fun _ _ _ h => h) (Or.inl ⟨by rfl, fun w' hS => ?_⟩) (by assumption) ?_
      · obtain ⟨c0, c1, c2⟩ := hS
        clear hHeld
        go_simp
      try simp only [Act.put, List.getElem_toArray, List.getElem_cons_succ, List.getElem_cons_zero, List.setIfInBounds_toArray, List.set_cons_zero, List.set_cons_succ]
      refine wpAnyH_take (i := 6) (v := .int .i64 kd) rfl (by kernel_rfl) (by kernel_rfl) (by kernel_rfl) (fun _ _ _ h => h) (Or.inl ⟨by rfl, fun w' hS => ?_⟩) (by assumption) ?_
      · obtain ⟨c0, c1, c2⟩ := hS
        clear hHeld
        go_simp
      try simp only [Act.put, List.getElem_toArray, List.getElem_cons_succ, List.getElem_cons_zero, List.setIfInBounds_toArray, List.set_cons_zero, List.set_cons_succ]
      refine wpAnyH_take (i := 7) (v := .int .u8 kd) rfl (by kernel_rfl) (by kernel_rfl) (by kernel_rfl) (fun _ _ _ h => h) (Or.inl ⟨by rfl, fun w' hS => ?_⟩) (by assumption) ?_
      · obtain ⟨c0, c1, c2⟩ := hS
        clear hHeld
        go_simp
      try simp only [Act.put, List.getElem_toArray, List.getElem_cons_succ, List.getElem_cons_zero, List.setIfInBounds_toArray, List.set_cons_zero, List.set_cons_succ]
      refine wpAnyH_take (i := 8) (v := .pointer (some ⟨T8, 2, none⟩)) rfl (by kernel_rfl) (by kernel_rfl) (by kernel_rfl) (fun _ _ _ h => h) (Or.inl ⟨by rfl, fun w' hS => ?_⟩) (by assumption) ?_
      · obtain ⟨c0, c1, c2⟩ := hS
        clear hHeld
        go_simp
      try simp only [Act.put, List.getElem_toArray, List.getElem_cons_succ, List.getElem_cons_zero, List.setIfInBounds_toArray, List.set_cons_zero, List.set_cons_succ]
      refine wpAnyH_take (i := 9) (v := .slice ad nd md) rfl (by kernel_rfl) (by kernel_rfl) (by kernel_rfl) (fun _ _ _ h => h) (Or.inl ⟨by rfl, fun w' hS => ?_⟩) (by assumption) ?_
      · obtain ⟨c0, c1, c2⟩ := hS
        clear hHeld
        go_simp
      try simp only [Act.put, List.getElem_toArray, List.getElem_cons_succ, List.getElem_cons_zero, List.setIfInBounds_toArray, List.set_cons_zero, List.set_cons_succ]
      refine wpAnyH_take (i := 10) (v := .int .i64 (nd : Int)) rfl (by kernel_rfl) (by kernel_rfl) (by kernel_rfl) (fun _ _ _ h => h) (Or.inl ⟨by rfl, fun w' hS => ?_⟩) (by assumption) ?_
      · obtain ⟨c0, c1, c2⟩ := hS
        clear hHeld
        go_simp
      try simp only [Act.put, List.getElem_toArray, List.getElem_cons_succ, List.getElem_cons_zero, List.setIfInBounds_toArray, List.set_cons_zero, List.set_cons_succ]
      refine wpAnyH_take (i := 11) (v := .int .u8 (nd : Int)) rfl (by kernel_rfl) (by kernel_rfl) (by kernel_rfl) (fun _ _ _ h => h) (Or.inl ⟨by rfl, fun w' hS => ?_⟩) (by assumption) ?_
      · obtain ⟨c0, c1, c2⟩ := hS
        clear hHeld
        go_simp
      try simp only [Act.put, List.getElem_toArray, List.getElem_cons_succ, List.getElem_cons_zero, List.setIfInBounds_toArray, List.set_cons_zero, List.set_cons_succ]
      refine wpAnyH_take (i := 12) (v := .pointer (some ⟨T8, 2, none⟩)) rfl (by kernel_rfl) (by kernel_rfl) (by kernel_rfl) (fun _ _ _ h => h) (Or.inl ⟨by rfl, fun w' hS => ?_⟩) (by assumption) ?_
      · obtain ⟨c0, c1, c2⟩ := hS
        clear hHeld
        go_simp
      try simp only [Act.put, List.getElem_toArray, List.getElem_cons_succ, List.getElem_cons_zero, List.setIfInBounds_toArray, List.set_cons_zero, List.set_cons_succ]
      refine wpAnyH_take (i := 13) (v := .slice ad nd md) rfl (by kernel_rfl) (by kernel_rfl) (by kernel_rfl) (fun _ _ _ h => h) (Or.inl ⟨by rfl, fun w' hS => ?_⟩) (by assumption) ?_
      · obtain ⟨c0, c1, c2⟩ := hS
        clear hHeld
        go_simp
      try simp only [Act.put, List.getElem_toArray, List.getElem_cons_succ, List.getElem_cons_zero, List.setIfInBounds_toArray, List.set_cons_zero, List.set_cons_succ]
      refine wpAnyH_ready (rs := [4, 14]) (by kernel_rfl) (by simp) ((AllReadyH.cons rfl (fun K hK => ?_) (AllReadyH.cons rfl (fun K hK => ?_) AllReadyH.nil)))
      · refine step_loadc (by rfl) 106 (.tmp 80) (by rfl) V 16 (by first | rfl | simp) (.slice av nv cv) 111 Try.underlying106 (CY.out) ?_
        refine hK.out _ _ ⟨HB0.out.1, HB0.out.2.1, HB0.out.2.2⟩ (fun hHeld => ?_)
        clear hK K
        try simp only [Act.put, List.getElem_toArray, List.getElem_cons_succ, List.getElem_cons_zero, List.setIfInBounds_toArray, List.set_cons_zero, List.set_cons_succ]
        refine wpAnyH_ready (rs := [14]) (by kernel_rfl) (by simp) ((AllReadyH.cons rfl (fun K hK => ?_) AllReadyH.nil))
        go_simp
        go_at_call_of 44 (Value.slice ad nd md)
        refine (copied_calls _ d _ (HIDY.out.drew) (by omega)).mono ?_
        rintro e x9 ⟨f9, g9, j9, rfl, ho9, hg9⟩
        refine hK.out _ _ ⟨Gr.cell hg9 HB0.out.1, Gr.cell hg9 HB0.out.2.1, Gr.cell hg9 HB0.out.2.2⟩ (fun hHeld => ?_)
        clear hK K
        try simp only [Act.put, List.getElem_toArray, List.getElem_cons_succ, List.getElem_cons_zero, List.setIfInBounds_toArray, List.set_cons_zero, List.set_cons_succ]
        refine wpAnyH_take (i := 15) (v := .agg #[.int .u8 kd, .int .u8 (nd : Int), .slice f9 g9 j9]) rfl (by kernel_rfl) (by kernel_rfl) (by kernel_rfl) (fun _ _ _ h => h) (Or.inl ⟨by rfl, fun w' hS => ?_⟩) (by assumption) ?_
        · obtain ⟨c0, c1, c2⟩ := hS
          clear hHeld
          go_simp
        try simp only [Act.put, List.getElem_toArray, List.getElem_cons_succ, List.getElem_cons_zero, List.setIfInBounds_toArray, List.set_cons_zero, List.set_cons_succ]
        refine wpAnyH_ready (rs := [16]) (by kernel_rfl) (by simp) ((AllReadyH.cons rfl (fun K hK => ?_) AllReadyH.nil))
        go_simp
        refine hK.out _ _ ⟨Gr.cell ((Gr.refl _).alloc _) (Gr.cell hg9 HB0.out.1), Gr.cell ((Gr.refl _).alloc _) (Gr.cell hg9 HB0.out.2.1), Gr.cell ((Gr.refl _).alloc _) (Gr.cell hg9 HB0.out.2.2)⟩ (fun hHeld => ?_)
        clear hK K
        try simp only [Act.put, List.getElem_toArray, List.getElem_cons_succ, List.getElem_cons_zero, List.setIfInBounds_toArray, List.set_cons_zero, List.set_cons_succ]
        refine wpAnyH_ready (rs := [17]) (by kernel_rfl) (by simp) ((AllReadyH.cons rfl (fun K hK => ?_) AllReadyH.nil))
        have hb9 : Y.heap.size ≤ x9.heap.size := hg9.size
        refine step_appR rfl (.tmp 81) (.tmp 93) 106 111 rfl Try.underlying106 _ 32 info_d4 rfl (by omega) wc.heap.size V (.slice av nv cv) rs' (by first | rfl | simp [Act.eval]) ((HOY.out.gr ((Gr.refl Y).drew.trans hg9)).gr ((Gr.refl _).alloc _)) x9.heap.size 1 ⟨kd, (nd : Int), d⟩ (.slice f9 g9 j9) (by first | rfl | simp [Act.eval]) (box3 rfl _ _ _ _).1 (box3 rfl _ _ _ _).2.1 (box3 rfl _ _ _ _).2.2 (ho9.isB.gr ((Gr.refl _).alloc _)) (ho9.aside (show V < Y.heap.size by omega)) (fun k hk => ho9.aside (show k < Y.heap.size from (HOY.out.fresh k hk).2)) HRSL.out (by rw [World.size_alloc]; omega) ?_
        intro v4 w4 ho4 hg4 hat4
        obtain ⟨g4, n4, c4, rfl, hg41⟩ := ho4.slice_pos (by simp)
        have G4 := grownBy_step ((GWY.out.drew.trans hg9).alloc _) hg4 (fun k hk => .inl (by rw [rowW_size]; exact (HOY.out.fresh k hk).1))
        have k4b := World.grownBy.cell hg4 (a := ⟨T8, 0, none⟩) (Gr.cell ((Gr.refl _).alloc _) (Gr.cell hg9 HB0.out.1)) (fun e => neV.out _ e.symm rfl)
        have k4c := World.grownBy.cell hg4 (a := ⟨T8, 1, none⟩) (Gr.cell ((Gr.refl _).alloc _) (Gr.cell hg9 HB0.out.2.1)) (fun e => neV.out _ e.symm rfl)
        have k4d := World.grownBy.cell hg4 (a := ⟨T8, 2, none⟩) (Gr.cell ((Gr.refl _).alloc _) (Gr.cell hg9 HB0.out.2.2)) (fun e => neV.out _ e.symm rfl)
        obtain ⟨x4, gx4, dx4, rfl⟩ := Gr.unrow hdT G4
        have hfar4 := Lib.hid (fun k (hk : k < wc.heap.size) => ho9.aside (show k < Y.heap.size by omega))
        refine hK.out _ _ ⟨k4b, k4c, k4d⟩ (fun hHeld => ?_)
        clear hK K
        try simp only [Act.put, List.getElem_toArray, List.getElem_cons_succ, List.getElem_cons_zero, List.setIfInBounds_toArray, List.set_cons_zero, List.set_cons_succ]
        refine wpAnyH_take (i := 18) (v := .pointer (some ⟨V, 0, none⟩)) rfl (by kernel_rfl) (by kernel_rfl) (by kernel_rfl) (fun _ _ _ h => h) (Or.inl ⟨by rfl, fun w' hS => ?_⟩) (by assumption) ?_
        · obtain ⟨c0, c1, c2⟩ := hS
          clear hHeld
          go_simp
        try simp only [Act.put, List.getElem_toArray, List.getElem_cons_succ, List.getElem_cons_zero, List.setIfInBounds_toArray, List.set_cons_zero, List.set_cons_succ]
        refine wpAnyH_take (i := 19) (v := .pointer (some ⟨V, 16, none⟩)) rfl (by kernel_rfl) (by kernel_rfl) (by kernel_rfl) (fun _ _ _ h => h) (Or.inl ⟨by rfl, fun w' hS => ?_⟩) (by assumption) ?_
        · obtain ⟨c0, c1, c2⟩ := hS
          clear hHeld
          go_simp
        try simp only [Act.put, List.getElem_toArray, List.getElem_cons_succ, List.getElem_cons_zero, List.setIfInBounds_toArray, List.set_cons_zero, List.set_cons_succ]
        refine wpAnyH_ready (rs := [20]) (by kernel_rfl) (by simp) ((AllReadyH.cons rfl (fun K hK => ?_) AllReadyH.nil))
        go_simp
        refine hK.out _ _ ⟨rowW_swap neTT k4b, rowW_swap neTT k4c, rowW_swap neTT k4d⟩ (fun hHeld => ?_)
        clear hK K
        try simp only [Act.put, List.getElem_toArray, List.getElem_cons_succ, List.getElem_cons_zero, List.setIfInBounds_toArray, List.set_cons_zero, List.set_cons_succ]
        refine wpAnyH_done (by kernel_rfl) ?_ _
        go_wp2_with fail
        go_roundw
        case rel => exact ⟨k + 1, rs' ++ [(⟨kd, (nd : Int), d⟩, _)], x4, some ⟨g4, 0, none⟩, n4, c4, HLT.out, by go_num, rfl, dx4, gx4, ho4.reRow hdT, by rw [List.map_append, HRS'.out, step_ofd HP.out, List.map_append, HND.out]; rfl, fun p hp k hk => (List.mem_append.1 hp).elim (fun h => HFAR.out p h k hk) (fun h => by simp at h; subst h; exact hfar4.out k hk)⟩
        case measure => simp [intOf]; omega
      · go_simp
        go_at_call_of 44 (Value.slice ad nd md)
        refine (copied_calls _ d _ (HIDY.out.drew) (by omega)).mono ?_
        rintro e x9 ⟨f9, g9, j9, rfl, ho9, hg9⟩
        refine hK.out _ _ ⟨Gr.cell hg9 HB0.out.1, Gr.cell hg9 HB0.out.2.1, Gr.cell hg9 HB0.out.2.2⟩ (fun hHeld => ?_)
        clear hK K
        try simp only [Act.put, List.getElem_toArray, List.getElem_cons_succ, List.getElem_cons_zero, List.setIfInBounds_toArray, List.set_cons_zero, List.set_cons_succ]
        refine wpAnyH_take (i := 15) (v := .agg #[.int .u8 kd, .int .u8 (nd : Int), .slice f9 g9 j9]) rfl (by kernel_rfl) (by kernel_rfl) (by kernel_rfl) (fun _ _ _ h => h) (Or.inl ⟨by rfl, fun w' hS => ?_⟩) (by assumption) ?_
        · obtain ⟨c0, c1, c2⟩ := hS
          clear hHeld
          go_simp
        try simp only [Act.put, List.getElem_toArray, List.getElem_cons_succ, List.getElem_cons_zero, List.setIfInBounds_toArray, List.set_cons_zero, List.set_cons_succ]
        refine wpAnyH_ready (rs := [4, 16]) (by kernel_rfl) (by simp) ((AllReadyH.cons rfl (fun K hK => ?_) (AllReadyH.cons rfl (fun K hK => ?_) AllReadyH.nil)))
        · refine step_loadc (by rfl) 106 (.tmp 80) (by rfl) V 16 (by first | rfl | simp) (.slice av nv cv) 111 Try.underlying106 (Gr.cell hg9 CY.out) ?_
          refine hK.out _ _ ⟨Gr.cell hg9 HB0.out.1, Gr.cell hg9 HB0.out.2.1, Gr.cell hg9 HB0.out.2.2⟩ (fun hHeld => ?_)
          clear hK K
          try simp only [Act.put, List.getElem_toArray, List.getElem_cons_succ, List.getElem_cons_zero, List.setIfInBounds_toArray, List.set_cons_zero, List.set_cons_succ]
          refine wpAnyH_ready (rs := [16]) (by kernel_rfl) (by simp) ((AllReadyH.cons rfl (fun K hK => ?_) AllReadyH.nil))
          go_simp
          refine hK.out _ _ ⟨Gr.cell ((Gr.refl _).alloc _) (Gr.cell hg9 HB0.out.1), Gr.cell ((Gr.refl _).alloc _) (Gr.cell hg9 HB0.out.2.1), Gr.cell ((Gr.refl _).alloc _) (Gr.cell hg9 HB0.out.2.2)⟩ (fun hHeld => ?_)
          clear hK K
          try simp only [Act.put, List.getElem_toArray, List.getElem_cons_succ, List.getElem_cons_zero, List.setIfInBounds_toArray, List.set_cons_zero, List.set_cons_succ]
          refine wpAnyH_ready (rs := [17]) (by kernel_rfl) (by simp) ((AllReadyH.cons rfl (fun K hK => ?_) AllReadyH.nil))
          have hb9 : Y.heap.size ≤ x9.heap.size := hg9.size
          refine step_appR rfl (.tmp 81) (.tmp 93) 106 111 rfl Try.underlying106 _ 32 info_d4 rfl (by omega) wc.heap.size V (.slice av nv cv) rs' (by first | rfl | simp [Act.eval]) ((HOY.out.gr ((Gr.refl Y).drew.trans hg9)).gr ((Gr.refl _).alloc _)) x9.heap.size 1 ⟨kd, (nd : Int), d⟩ (.slice f9 g9 j9) (by first | rfl | simp [Act.eval]) (box3 rfl _ _ _ _).1 (box3 rfl _ _ _ _).2.1 (box3 rfl _ _ _ _).2.2 (ho9.isB.gr ((Gr.refl _).alloc _)) (ho9.aside (show V < Y.heap.size by omega)) (fun k hk => ho9.aside (show k < Y.heap.size from (HOY.out.fresh k hk).2)) HRSL.out (by rw [World.size_alloc]; omega) ?_
          intro v4 w4 ho4 hg4 hat4
          obtain ⟨g4, n4, c4, rfl, hg41⟩ := ho4.slice_pos (by simp)
          have G4 := grownBy_step ((GWY.out.drew.trans hg9).alloc _) hg4 (fun k hk => .inl (by rw [rowW_size]; exact (HOY.out.fresh k hk).1))
          have k4b := World.grownBy.cell hg4 (a := ⟨T8, 0, none⟩) (Gr.cell ((Gr.refl _).alloc _) (Gr.cell hg9 HB0.out.1)) (fun e => neV.out _ e.symm rfl)
          have k4c := World.grownBy.cell hg4 (a := ⟨T8, 1, none⟩) (Gr.cell ((Gr.refl _).alloc _) (Gr.cell hg9 HB0.out.2.1)) (fun e => neV.out _ e.symm rfl)
          have k4d := World.grownBy.cell hg4 (a := ⟨T8, 2, none⟩) (Gr.cell ((Gr.refl _).alloc _) (Gr.cell hg9 HB0.out.2.2)) (fun e => neV.out _ e.symm rfl)
          obtain ⟨x4, gx4, dx4, rfl⟩ := Gr.unrow hdT G4
          have hfar4 := Lib.hid (fun k (hk : k < wc.heap.size) => ho9.aside (show k < Y.heap.size by omega))
          refine hK.out _ _ ⟨k4b, k4c, k4d⟩ (fun hHeld => ?_)
          clear hK K
          try simp only [Act.put, List.getElem_toArray, List.getElem_cons_succ, List.getElem_cons_zero, List.setIfInBounds_toArray, List.set_cons_zero, List.set_cons_succ]
          refine wpAnyH_take (i := 18) (v := .pointer (some ⟨V, 0, none⟩)) rfl (by kernel_rfl) (by kernel_rfl) (by kernel_rfl) (fun _ _ _ h => h) (Or.inl ⟨by rfl, fun w' hS => ?_⟩) (by assumption) ?_
          · obtain ⟨c0, c1, c2⟩ := hS
            clear hHeld
            go_simp
          try simp only [Act.put, List.getElem_toArray, List.getElem_cons_succ, List.getElem_cons_zero, List.setIfInBounds_toArray, List.set_cons_zero, List.set_cons_succ]
          refine wpAnyH_take (i := 19) (v := .pointer (some ⟨V, 16, none⟩)) rfl (by kernel_rfl) (by kernel_rfl) (by kernel_rfl) (fun _ _ _ h => h) (Or.inl ⟨by rfl, fun w' hS => ?_⟩) (by assumption) ?_
          · obtain ⟨c0, c1, c2⟩ := hS
            clear hHeld
            go_simp
          try simp only [Act.put, List.getElem_toArray, List.getElem_cons_succ, List.getElem_cons_zero, List.setIfInBounds_toArray, List.set_cons_zero, List.set_cons_succ]
          refine wpAnyH_ready (rs := [20]) (by kernel_rfl) (by simp) ((AllReadyH.cons rfl (fun K hK => ?_) AllReadyH.nil))
          go_simp
          refine hK.out _ _ ⟨rowW_swap neTT k4b, rowW_swap neTT k4c, rowW_swap neTT k4d⟩ (fun hHeld => ?_)
          clear hK K
          try simp only [Act.put, List.getElem_toArray, List.getElem_cons_succ, List.getElem_cons_zero, List.setIfInBounds_toArray, List.set_cons_zero, List.set_cons_succ]
          refine wpAnyH_done (by kernel_rfl) ?_ _
          go_wp2_with fail
          go_roundw
          case rel => exact ⟨k + 1, rs' ++ [(⟨kd, (nd : Int), d⟩, _)], x4, some ⟨g4, 0, none⟩, n4, c4, HLT.out, by go_num, rfl, dx4, gx4, ho4.reRow hdT, by rw [List.map_append, HRS'.out, step_ofd HP.out, List.map_append, HND.out]; rfl, fun p hp k hk => (List.mem_append.1 hp).elim (fun h => HFAR.out p h k hk) (fun h => by simp at h; subst h; exact hfar4.out k hk)⟩
          case measure => simp [intOf]; omega
        · go_simp
          refine hK.out _ _ ⟨Gr.cell ((Gr.refl _).alloc _) (Gr.cell hg9 HB0.out.1), Gr.cell ((Gr.refl _).alloc _) (Gr.cell hg9 HB0.out.2.1), Gr.cell ((Gr.refl _).alloc _) (Gr.cell hg9 HB0.out.2.2)⟩ (fun hHeld => ?_)
          clear hK K
          try simp only [Act.put, List.getElem_toArray, List.getElem_cons_succ, List.getElem_cons_zero, List.setIfInBounds_toArray, List.set_cons_zero, List.set_cons_succ]
          refine wpAnyH_ready (rs := [4]) (by kernel_rfl) (by simp) ((AllReadyH.cons rfl (fun K hK => ?_) AllReadyH.nil))
          refine step_loadc (by rfl) 106 (.tmp 80) (by rfl) V 16 (by first | rfl | simp) (.slice av nv cv) 111 Try.underlying106 (Gr.cell ((Gr.refl _).alloc _) (Gr.cell hg9 CY.out)) ?_
          refine hK.out _ _ ⟨Gr.cell ((Gr.refl _).alloc _) (Gr.cell hg9 HB0.out.1), Gr.cell ((Gr.refl _).alloc _) (Gr.cell hg9 HB0.out.2.1), Gr.cell ((Gr.refl _).alloc _) (Gr.cell hg9 HB0.out.2.2)⟩ (fun hHeld => ?_)
          clear hK K
          try simp only [Act.put, List.getElem_toArray, List.getElem_cons_succ, List.getElem_cons_zero, List.setIfInBounds_toArray, List.set_cons_zero, List.set_cons_succ]
          refine wpAnyH_ready (rs := [17]) (by kernel_rfl) (by simp) ((AllReadyH.cons rfl (fun K hK => ?_) AllReadyH.nil))
          have hb9 : Y.heap.size ≤ x9.heap.size := hg9.size
          refine step_appR rfl (.tmp 81) (.tmp 93) 106 111 rfl Try.underlying106 _ 32 info_d4 rfl (by omega) wc.heap.size V (.slice av nv cv) rs' (by first | rfl | simp [Act.eval]) ((HOY.out.gr ((Gr.refl Y).drew.trans hg9)).gr ((Gr.refl _).alloc _)) x9.heap.size 1 ⟨kd, (nd : Int), d⟩ (.slice f9 g9 j9) (by first | rfl | simp [Act.eval]) (box3 rfl _ _ _ _).1 (box3 rfl _ _ _ _).2.1 (box3 rfl _ _ _ _).2.2 (ho9.isB.gr ((Gr.refl _).alloc _)) (ho9.aside (show V < Y.heap.size by omega)) (fun k hk => ho9.aside (show k < Y.heap.size from (HOY.out.fresh k hk).2)) HRSL.out (by rw [World.size_alloc]; omega) ?_
          intro v4 w4 ho4 hg4 hat4
          obtain ⟨g4, n4, c4, rfl, hg41⟩ := ho4.slice_pos (by simp)
          have G4 := grownBy_step ((GWY.out.drew.trans hg9).alloc _) hg4 (fun k hk => .inl (by rw [rowW_size]; exact (HOY.out.fresh k hk).1))
          have k4b := World.grownBy.cell hg4 (a := ⟨T8, 0, none⟩) (Gr.cell ((Gr.refl _).alloc _) (Gr.cell hg9 HB0.out.1)) (fun e => neV.out _ e.symm rfl)
          have k4c := World.grownBy.cell hg4 (a := ⟨T8, 1, none⟩) (Gr.cell ((Gr.refl _).alloc _) (Gr.cell hg9 HB0.out.2.1)) (fun e => neV.out _ e.symm rfl)
          have k4d := World.grownBy.cell hg4 (a := ⟨T8, 2, none⟩) (Gr.cell ((Gr.refl _).alloc _) (Gr.cell hg9 HB0.out.2.2)) (fun e => neV.out _ e.symm rfl)
          obtain ⟨x4, gx4, dx4, rfl⟩ := Gr.unrow hdT G4
          have hfar4 := Lib.hid (fun k (hk : k < wc.heap.size) => ho9.aside (show k < Y.heap.size by omega))
          refine hK.out _ _ ⟨k4b, k4c, k4d⟩ (fun hHeld => ?_)
          clear hK K
          try simp only [Act.put, List.getElem_toArray, List.getElem_cons_succ, List.getElem_cons_zero, List.setIfInBounds_toArray, List.set_cons_zero, List.set_cons_succ]
          refine wpAnyH_take (i := 18) (v := .pointer (some ⟨V, 0, none⟩)) rfl (by kernel_rfl) (by kernel_rfl) (by kernel_rfl) (fun _ _ _ h => h) (Or.inl ⟨by rfl, fun w' hS => ?_⟩) (by assumption) ?_
          · obtain ⟨c0, c1, c2⟩ := hS
            clear hHeld
            go_simp
          try simp only [Act.put, List.getElem_toArray, List.getElem_cons_succ, List.getElem_cons_zero, List.setIfInBounds_toArray, List.set_cons_zero, List.set_cons_succ]
          refine wpAnyH_take (i := 19) (v := .pointer (some ⟨V, 16, none⟩)) rfl (by kernel_rfl) (by kernel_rfl) (by kernel_rfl) (fun _ _ _ h => h) (Or.inl ⟨by rfl, fun w' hS => ?_⟩) (by assumption) ?_
          · obtain ⟨c0, c1, c2⟩ := hS
            clear hHeld
            go_simp
          try simp only [Act.put, List.getElem_toArray, List.getElem_cons_succ, List.getElem_cons_zero, List.setIfInBounds_toArray, List.set_cons_zero, List.set_cons_succ]
          refine wpAnyH_ready (rs := [20]) (by kernel_rfl) (by simp) ((AllReadyH.cons rfl (fun K hK => ?_) AllReadyH.nil))
          go_simp
          refine hK.out _ _ ⟨rowW_swap neTT k4b, rowW_swap neTT k4c, rowW_swap neTT k4d⟩ (fun hHeld => ?_)
          clear hK K
          try simp only [Act.put, List.getElem_toArray, List.getElem_cons_succ, List.getElem_cons_zero, List.setIfInBounds_toArray, List.set_cons_zero, List.set_cons_succ]
          refine wpAnyH_done (by kernel_rfl) ?_ _
          go_wp2_with fail
          go_roundw
          case rel => exact ⟨k + 1, rs' ++ [(⟨kd, (nd : Int), d⟩, _)], x4, some ⟨g4, 0, none⟩, n4, c4, HLT.out, by go_num, rfl, dx4, gx4, ho4.reRow hdT, by rw [List.map_append, HRS'.out, step_ofd HP.out, List.map_append, HND.out]; rfl, fun p hp k hk => (List.mem_append.1 hp).elim (fun h => HFAR.out p h k hk) (fun h => by simp at h; subst h; exact hfar4.out k hk)⟩
          case measure => simp [intOf]; omega
    · obtain rfl : k = os.length := by omega
      have e := HRS'.out
      rw [List.take_length] at e
      have HRE := Lib.hid e
      clear e
      have hszx := HG.out.size
      have hXl : V < x.heap.size := hX
      have GW := Lib.hid (show Gr w (rowW x V [.slice none 0 0, .slice none 0 0, .int .u8 op, .int .u8 hw, .int .u8 0, .int .u8 hp, .int .u32 xd, .int .u16 sc, .int .u16 fl, .slice s1 4 k1, .slice s2 4 k2, .slice s3 4 k3, .slice s4 4 k4, .slice s5 l5.length k5, .slice s6 l6.length k6, .slice s7 l7.length k7, .slice av nv cv] 108) from (GC.out.trans HG.out).step (rowW_grown (some V) rfl) hVle)
      have HV7 := Lib.hid (show (rowW x V [.slice none 0 0, .slice none 0 0, .int .u8 op, .int .u8 hw, .int .u8 0, .int .u8 hp, .int .u32 xd, .int .u16 sc, .int .u16 fl, .slice s1 4 k1, .slice s2 4 k2, .slice s3 4 k3, .slice s4 4 k4, .slice s5 l5.length k5, .slice s6 l6.length k6, .slice s7 l7.length k7, .slice av nv cv] 108).heap[V]? = some (.cells [.slice none 0 0, .slice none 0 0, .int .u8 op, .int .u8 hw, .int .u8 0, .int .u8 hp, .int .u32 xd, .int .u16 sc, .int .u16 fl, .slice s1 4 k1, .slice s2 4 k2, .slice s3 4 k3, .slice s4 4 k4, .slice s5 l5.length k5, .slice s6 l6.length k6, .slice s7 l7.length k7, .slice av nv cv].toArray 108 (0, 0)) from rowW_heap hX)
      have BB1 := Lib.hid (show IsB (rowW x V [.slice none 0 0, .slice none 0 0, .int .u8 op, .int .u8 hw, .int .u8 0, .int .u8 hp, .int .u32 xd, .int .u16 sc, .int .u16 fl, .slice s1 4 k1, .slice s2 4 k2, .slice s3 4 k3, .slice s4 4 k4, .slice s5 l5.length k5, .slice s6 l6.length k6, .slice s7 l7.length k7, .slice av nv cv] 108) (.slice s1 4 k1) l1 from (HB.out.1.gr HG.out).keptE (rowW_grown (cs := [.slice none 0 0, .slice none 0 0, .int .u8 op, .int .u8 hw, .int .u8 0, .int .u8 hp, .int .u32 xd, .int .u16 sc, .int .u16 fl, .slice s1 4 k1, .slice s2 4 k2, .slice s3 4 k3, .slice s4 4 k4, .slice s5 l5.length k5, .slice s6 l6.length k6, .slice s7 l7.length k7, .slice av nv cv]) (e := 108) (some V) rfl) HA.out.1)
      have BB2 := Lib.hid (show IsB (rowW x V [.slice none 0 0, .slice none 0 0, .int .u8 op, .int .u8 hw, .int .u8 0, .int .u8 hp, .int .u32 xd, .int .u16 sc, .int .u16 fl, .slice s1 4 k1, .slice s2 4 k2, .slice s3 4 k3, .slice s4 4 k4, .slice s5 l5.length k5, .slice s6 l6.length k6, .slice s7 l7.length k7, .slice av nv cv] 108) (.slice s2 4 k2) l2 from (HB.out.2.1.gr HG.out).keptE (rowW_grown (cs := [.slice none 0 0, .slice none 0 0, .int .u8 op, .int .u8 hw, .int .u8 0, .int .u8 hp, .int .u32 xd, .int .u16 sc, .int .u16 fl, .slice s1 4 k1, .slice s2 4 k2, .slice s3 4 k3, .slice s4 4 k4, .slice s5 l5.length k5, .slice s6 l6.length k6, .slice s7 l7.length k7, .slice av nv cv]) (e := 108) (some V) rfl) HA.out.2.1)
      have BB3 := Lib.hid (show IsB (rowW x V [.slice none 0 0, .slice none 0 0, .int .u8 op, .int .u8 hw, .int .u8 0, .int .u8 hp, .int .u32 xd, .int .u16 sc, .int .u16 fl, .slice s1 4 k1, .slice s2 4 k2, .slice s3 4 k3, .slice s4 4 k4, .slice s5 l5.length k5, .slice s6 l6.length k6, .slice s7 l7.length k7, .slice av nv cv] 108) (.slice s3 4 k3) l3 from (HB.out.2.2.1.gr HG.out).keptE (rowW_grown (cs := [.slice none 0 0, .slice none 0 0, .int .u8 op, .int .u8 hw, .int .u8 0, .int .u8 hp, .int .u32 xd, .int .u16 sc, .int .u16 fl, .slice s1 4 k1, .slice s2 4 k2, .slice s3 4 k3, .slice s4 4 k4, .slice s5 l5.length k5, .slice s6 l6.length k6, .slice s7 l7.length k7, .slice av nv cv]) (e := 108) (some V) rfl) HA.out.2.2.1)
      have BB4 := Lib.hid (show IsB (rowW x V [.slice none 0 0, .slice none 0 0, .int .u8 op, .int .u8 hw, .int .u8 0, .int .u8 hp, .int .u32 xd, .int .u16 sc, .int .u16 fl, .slice s1 4 k1, .slice s2 4 k2, .slice s3 4 k3, .slice s4 4 k4, .slice s5 l5.length k5, .slice s6 l6.length k6, .slice s7 l7.length k7, .slice av nv cv] 108) (.slice s4 4 k4) l4 from (HB.out.2.2.2.1.gr HG.out).keptE (rowW_grown (cs := [.slice none 0 0, .slice none 0 0, .int .u8 op, .int .u8 hw, .int .u8 0, .int .u8 hp, .int .u32 xd, .int .u16 sc, .int .u16 fl, .slice s1 4 k1, .slice s2 4 k2, .slice s3 4 k3, .slice s4 4 k4, .slice s5 l5.length k5, .slice s6 l6.length k6, .slice s7 l7.length k7, .slice av nv cv]) (e := 108) (some V) rfl) HA.out.2.2.2.1)
      have BB5 := Lib.hid (show IsB (rowW x V [.slice none 0 0, .slice none 0 0, .int .u8 op, .int .u8 hw, .int .u8 0, .int .u8 hp, .int .u32 xd, .int .u16 sc, .int .u16 fl, .slice s1 4 k1, .slice s2 4 k2, .slice s3 4 k3, .slice s4 4 k4, .slice s5 l5.length k5, .slice s6 l6.length k6, .slice s7 l7.length k7, .slice av nv cv] 108) (.slice s5 l5.length k5) l5 from (HB.out.2.2.2.2.1.gr HG.out).keptE (rowW_grown (cs := [.slice none 0 0, .slice none 0 0, .int .u8 op, .int .u8 hw, .int .u8 0, .int .u8 hp, .int .u32 xd, .int .u16 sc, .int .u16 fl, .slice s1 4 k1, .slice s2 4 k2, .slice s3 4 k3, .slice s4 4 k4, .slice s5 l5.length k5, .slice s6 l6.length k6, .slice s7 l7.length k7, .slice av nv cv]) (e := 108) (some V) rfl) HA.out.2.2.2.2.1)
      have BB6 := Lib.hid (show IsB (rowW x V [.slice none 0 0, .slice none 0 0, .int .u8 op, .int .u8 hw, .int .u8 0, .int .u8 hp, .int .u32 xd, .int .u16 sc, .int .u16 fl, .slice s1 4 k1, .slice s2 4 k2, .slice s3 4 k3, .slice s4 4 k4, .slice s5 l5.length k5, .slice s6 l6.length k6, .slice s7 l7.length k7, .slice av nv cv] 108) (.slice s6 l6.length k6) l6 from (HB.out.2.2.2.2.2.1.gr HG.out).keptE (rowW_grown (cs := [.slice none 0 0, .slice none 0 0, .int .u8 op, .int .u8 hw, .int .u8 0, .int .u8 hp, .int .u32 xd, .int .u16 sc, .int .u16 fl, .slice s1 4 k1, .slice s2 4 k2, .slice s3 4 k3, .slice s4 4 k4, .slice s5 l5.length k5, .slice s6 l6.length k6, .slice s7 l7.length k7, .slice av nv cv]) (e := 108) (some V) rfl) HA.out.2.2.2.2.2.1)
      have BB7 := Lib.hid (show IsB (rowW x V [.slice none 0 0, .slice none 0 0, .int .u8 op, .int .u8 hw, .int .u8 0, .int .u8 hp, .int .u32 xd, .int .u16 sc, .int .u16 fl, .slice s1 4 k1, .slice s2 4 k2, .slice s3 4 k3, .slice s4 4 k4, .slice s5 l5.length k5, .slice s6 l6.length k6, .slice s7 l7.length k7, .slice av nv cv] 108) (.slice s7 l7.length k7) l7 from (HB.out.2.2.2.2.2.2.gr HG.out).keptE (rowW_grown (cs := [.slice none 0 0, .slice none 0 0, .int .u8 op, .int .u8 hw, .int .u8 0, .int .u8 hp, .int .u32 xd, .int .u16 sc, .int .u16 fl, .slice s1 4 k1, .slice s2 4 k2, .slice s3 4 k3, .slice s4 4 k4, .slice s5 l5.length k5, .slice s6 l6.length k6, .slice s7 l7.length k7, .slice av nv cv]) (e := 108) (some V) rfl) HA.out.2.2.2.2.2.2)
      have hbad : ∀ p ∈ rs', ∀ k, k = V → Aside p.2 p.1.data k := fun p hp k hk => by have := (HOw.out.2 p hp).2.1; rw [hk]; exact this
      have HRD := Lib.hid (HOw.out.rd (bad := fun k => k = V) (fun k hk => by rw [hk]; exact hdT) hbad)
      have hrl : rs'.length = os.length := by have e := congrArg List.length HRE.out; rw [List.length_map, List.length_map] at e; exact e
      clear hbad
      obtain ⟨W7, hW7⟩ : ∃ W7, W7 = rowW x V [.slice none 0 0, .slice none 0 0, .int .u8 op, .int .u8 hw, .int .u8 0, .int .u8 hp, .int .u32 xd, .int .u16 sc, .int .u16 fl, .slice s1 4 k1, .slice s2 4 k2, .slice s3 4 k3, .slice s4 4 k4, .slice s5 l5.length k5, .slice s6 l6.length k6, .slice s7 l7.length k7, .slice av nv cv] 108 := ⟨_, rfl⟩
      rw [← hW7] at GW HV7 HRD BB1 BB2 BB3 BB4 BB5 BB6 BB7 ⊢
      have hW7s : V < W7.heap.size := (Array.getElem?_eq_some_iff.1 HV7.out).1
      clear hW7
      go_wp2_with (first
        | (go_at_call 50; refine (newBuf_calls _).mono ?_; rintro e w8 ⟨rfl, hw8⟩; have g8 : Gr W7 w8 := (by rw [hw8]; exact (Gr.refl _).alloc _); have hP8 : w8.heap[W7.heap.size]? = some (.cells [.slice none 0 0, .int .i64 0, .int .i64 0, .int .i64 0, .slice none 0 0].toArray 160 (0, 0)) := (by rw [hw8]; exact heap_alloc_new W7 _); have HC8 := Lib.hid (show Carries w8 w.heap.size W7.heap.size [] from ⟨none, by omega, hP8, isB_nil, by simp [Value.ownBlock]⟩); clear hw8 hP8)
        | (go_at_call 53; refine (fixed_calls _).mono ?_; rintro e w9 ⟨rfl, g9⟩; have G79 := Lib.hid (g8.trans g9); have hGw : Gr w w9 := GW.out.trans (g8.trans g9))
        | (go_at_call 52; refine (dhcpSer_calls V W7.heap.size op hw hp xd sc fl s1 s2 s3 s4 s5 s6 s7 k1 k2 k3 k4 k5 k6 k7 av nv cv l1 l2 l3 l4 l5 l6 l7 rs' os w.heap.size [] w9 (heap_gr G79.out HV7.out) (HC8.out.gr g9) (by omega) hVle hGw.size (by simp) (BB1.out.gr G79.out) (BB2.out.gr G79.out) (BB3.out.gr G79.out) (BB4.out.gr G79.out) (BB5.out.gr G79.out) (BB6.out.gr G79.out) (BB7.out.gr G79.out) (fun k hk => hk.elim (fun e => by rw [e]; exact HA.out.1) (fun e => by rw [e]; exact BB1.out.aside (Nat.le_refl _))) (fun k hk => hk.elim (fun e => by rw [e]; exact HA.out.2.1) (fun e => by rw [e]; exact BB2.out.aside (Nat.le_refl _))) (fun k hk => hk.elim (fun e => by rw [e]; exact HA.out.2.2.1) (fun e => by rw [e]; exact BB3.out.aside (Nat.le_refl _))) (fun k hk => hk.elim (fun e => by rw [e]; exact HA.out.2.2.2.1) (fun e => by rw [e]; exact BB4.out.aside (Nat.le_refl _))) (fun k hk => hk.elim (fun e => by rw [e]; exact HA.out.2.2.2.2.1) (fun e => by rw [e]; exact BB5.out.aside (Nat.le_refl _))) (fun k hk => hk.elim (fun e => by rw [e]; exact HA.out.2.2.2.2.2.1) (fun e => by rw [e]; exact BB6.out.aside (Nat.le_refl _))) (fun k hk => hk.elim (fun e => by rw [e]; exact HA.out.2.2.2.2.2.2) (fun e => by rw [e]; exact BB7.out.aside (Nat.le_refl _))) z1 z2 z3 z4 z5 z6 z7 v1 v2 v3 v4 v5 v6 ((HRD.out.ext (by omega) (fun k hk => hk.imp id (fun e => by rw [e]; exact Nat.le_refl _))).gr G79.out) HRE.out HOK.out hlo hpos hraw HAB.out).mono ?_; rintro e w3 ⟨rfl, hb3, a', n', pp, qq, ly, hP3, hB3⟩; rw [List.append_nil, ← HBY.out] at hB3; have HP3 := Lib.hid hP3; clear hP3; have hG3 : Gr w w3 := gr_of_below (hGw.below.trans hb3))
        | (go_at_call 51; refine (written_calls W7.heap.size a' n' n' pp qq ly _ _ HP3.out hB3 HBL.out).mono ?_; rintro e w4 ⟨f9, g9', j9, rfl, hb4, hg4⟩; have hG4 : Gr w w4 := hG3.trans hg4))
      exact bodyPost_ret (v := .tuple #[.slice f9 g9' j9, .bool true]) (by simp [results, Try.results21, go_sem]) rfl ⟨_, _, _, rfl, hb4, hG4⟩
end Go.Proofs.Ytdpffedmgmllbaa
