/-
  An entry of a stack of labels, written.
-/
import Derived.Test.YtbojideclbjlgaaSer
import Derived.Test.YtbojideclbjlgaaBase
import Derived.Deep.RegionHeld3
import Derived.Deep.QuietTactic
import Derived.BigQuiet
namespace Go.Proofs.Ytbojideclbjlgaa
open Go.RowKit

def isLabel (la cl tt : Int) : Bool := upto la 1048575 && upto cl 7 && upto tt 255

set_option maxRecDepth 100000 in
set_option maxHeartbeats 1000000 in
theorem isLabel_calls (la cl tt : Int) (bo : Bool) (w : World)  :
    Calls Try.prog 20 #[.agg #[.int .i64 la, .int .i64 cl, .bool bo, .int .i64 tt]] w fun e w' => e = .returned (.bool (isLabel la cl tt)) ∧ Gr w w' := by
  cases hc0 : (upto la 1048575 : Bool) with
  | false =>
    go_enter Try.func20, Try.ntmps20
    go_wp2_with ((first | (go_at_call 66; refine (upTo_calls _ _ _).mono ?_; rintro e w9 ⟨rfl, rfl⟩)))
    go_ret
    exact ⟨by simp [isLabel, hc0], (by (repeat (with_reducible first | exact Gr.refl _ | assumption | refine Gr.alloc ?_ _ | refine Gr.drew ?_ | refine Gr.drewN ?_ _ | refine Gr.trans ?_ (by assumption))); done)⟩
  | true =>
    cases hc1 : (upto cl 7 : Bool) with
    | false =>
      go_enter Try.func20, Try.ntmps20
      go_wp2_with ((first | (go_at_call 66; refine (upTo_calls _ _ _).mono ?_; rintro e w9 ⟨rfl, rfl⟩)))
      go_ret
      exact ⟨by simp [isLabel, hc0, hc1], (by (repeat (with_reducible first | exact Gr.refl _ | assumption | refine Gr.alloc ?_ _ | refine Gr.drew ?_ | refine Gr.drewN ?_ _ | refine Gr.trans ?_ (by assumption))); done)⟩
    | true =>
      cases hc2 : (upto tt 255 : Bool) with
      | false =>
        go_enter Try.func20, Try.ntmps20
        go_wp2_with ((first | (go_at_call 66; refine (upTo_calls _ _ _).mono ?_; rintro e w9 ⟨rfl, rfl⟩)))
        go_ret
        exact ⟨by simp [isLabel, hc0, hc1, hc2], (by (repeat (with_reducible first | exact Gr.refl _ | assumption | refine Gr.alloc ?_ _ | refine Gr.drew ?_ | refine Gr.drewN ?_ _ | refine Gr.trans ?_ (by assumption))); done)⟩
      | true =>
        go_enter Try.func20, Try.ntmps20
        go_wp2_with ((first | (go_at_call 66; refine (upTo_calls _ _ _).mono ?_; rintro e w9 ⟨rfl, rfl⟩)))
        go_ret
        exact ⟨by simp [isLabel, hc0, hc1, hc2], (by (repeat (with_reducible first | exact Gr.refl _ | assumption | refine Gr.alloc ?_ _ | refine Gr.drew ?_ | refine Gr.drewN ?_ _ | refine Gr.trans ?_ (by assumption))); done)⟩

def label (la cl tt : Int) (bo : Bool) : List Int := lo (la * 4096 + cl * 512 + bi bo * 256 + tt)

set_option maxRecDepth 100000 in
set_option maxHeartbeats 1000000 in
theorem label_calls (la cl tt : Int) (bo : Bool) (w : World) (h1 : 0 ≤ la ∧ la ≤ 1048575) (h2 : 0 ≤ cl ∧ cl ≤ 7) (h3 : 0 ≤ tt ∧ tt ≤ 255) :
    Calls Try.prog 24 #[.agg #[.int .i64 la, .int .i64 cl, .bool bo, .int .i64 tt]] w (RetB w (label la cl tt bo)) := by
  have d1 := bi_le bo
  have q1 : IntKind.i64.wrap (la * 4096) = la * 4096 := w64 (by omega) (by omega)
  have q2 : IntKind.i64.wrap (cl * 512) = cl * 512 := w64 (by omega) (by omega)
  have q3 : IntKind.i64.wrap (bi bo * 256) = bi bo * 256 := w64 (by omega) (by omega)
  have e1 : bits .or .i64 (la * 4096) (cl * 512) = la * 4096 + cl * 512 := bor .i64 12 (by omega) (by omega) (by omega) (by omega) (by rw [max_i64]; omega)
  have e2 : bits .or .i64 (la * 4096 + cl * 512) (bi bo * 256) = la * 4096 + cl * 512 + bi bo * 256 := bor .i64 9 (by omega) (by omega) (by omega) (by omega) (by rw [max_i64]; omega)
  have e3 : bits .or .i64 (la * 4096 + cl * 512 + bi bo * 256) tt = la * 4096 + cl * 512 + bi bo * 256 + tt := bor .i64 8 (by omega) (by omega) (by omega) (by omega) (by rw [max_i64]; omega)
  go_enter Try.func24, Try.ntmps24
  go_wp2_with fail
  go_region_held3 (fun w' => w'.cell? ⟨w.heap.size, 0, none⟩ = some (.int .i64 la) ∧ w'.cell? ⟨w.heap.size, 1, none⟩ = some (.int .i64 cl) ∧ w'.cell? ⟨w.heap.size, 2, none⟩ = some (.bool bo) ∧ w'.cell? ⟨w.heap.size, 3, none⟩ = some (.int .i64 tt)) (first | exact And.imp (Gr.cell (by assumption)) (And.imp (Gr.cell (by assumption)) (And.imp (Gr.cell (by assumption)) (Gr.cell (by assumption)))) (by assumption) | go_keep) (first
    | (go_at_call 72; refine (bit_calls _ _).mono ?_; rintro e w' ⟨rfl, rfl⟩)
    | (go_at_call 71; refine (long_calls _ _).mono ?_; rintro e w9 ⟨_, _, _, rfl, ho9, hg9⟩))
  go_wp2
  all_goals (go_ret; exact RetB.after (by (repeat (with_reducible first | exact Gr.refl _ | assumption | refine Gr.alloc ?_ _ | refine Gr.drew ?_ | refine Gr.drewN ?_ _ | refine Gr.trans ?_ (by assumption))); done) ho9 hg9)

set_option maxRecDepth 100000 in
set_option maxHeartbeats 2000000 in
theorem labelSer_calls (V P : Nat) (la cl tt : Int) (bo : Bool) (o1 o2 : Bool) (B : Nat) (l : List Int) (w : World) (hV : w.heap[V]? = some (.cells [.slice none 0 0, .slice none 0 0, .int .u32 la, .int .u8 cl, .bool bo, .int .u8 tt].toArray 123 (0, 0))) (hC : Carries w B P l) (hVP : V ≠ P) (hB : B ≤ w.heap.size) (hl : l.length ≤ 2000) (h1 : 0 ≤ la ∧ la ≤ 1048575) (h2 : 0 ≤ cl ∧ cl ≤ 7) (h3 : 0 ≤ tt ∧ tt ≤ 255) :
    Calls Try.prog 69 #[.pointer (some ⟨V, 0, none⟩), .iface 179 (.pointer (some ⟨P, 0, none⟩)), .agg #[.bool o1, .bool o2]] w fun e w' => e = .returned .nilIface ∧ Below B w w' ∧ Done w' P (label la cl tt bo ++ l) := by
  have hVl : V < w.heap.size := (Array.getElem?_eq_some_iff.1 hV).1
  have hNE : V ≠ (w.heap.size + 1) := by omega
  have HV := Lib.hid hV
  clear hV
  have hmt := prepend_method
  obtain ⟨i0, hi, hz0, hz1, hz2⟩ := info_parts info_u8
  clear hi hz0 hz1 hz2
  have q0 : IntKind.u32.wrap cl = cl := by simp [IntKind.wrap, IntKind.bits, IntKind.signed]; omega
  have q1 : IntKind.u32.wrap tt = tt := by simp [IntKind.wrap, IntKind.bits, IntKind.signed]; omega
  have q2 : IntKind.u32.wrap (la * 4096) = la * 4096 := by simp [IntKind.wrap, IntKind.bits, IntKind.signed]; omega
  have q3 : IntKind.u32.wrap (cl * 512) = cl * 512 := by simp [IntKind.wrap, IntKind.bits, IntKind.signed]; omega
  have e1 : bits .or .u32 (la * 4096) (cl * 512) = la * 4096 + cl * 512 := bor .u32 12 (by omega) (by omega) (by omega) (by omega) (by rw [max_u32]; omega)
  have e2 : bits .or .u32 (la * 4096 + cl * 512) tt = la * 4096 + cl * 512 + tt := bor .u32 9 (by omega) (by omega) (by omega) (by omega) (by rw [max_u32]; omega)
  have e3 : bits .or .u32 (la * 4096 + cl * 512 + tt) 256 = la * 4096 + cl * 512 + 256 + tt := bor_mid .u32 9 8 (by omega) (by omega) (by omega) (by omega) (by omega) (by omega) (by omega) (by omega) (by rw [max_u32]; omega)
  cases bo with
  | false =>
    go_enter Try.func69, Try.ntmps69
    go_wp2_with (first
          | (go_at_call 160; refine (prepC_calls P 4 (w.heap.size + 1) (.int .u8 0 :: .int .u8 0 :: .int .u8 0 :: .int .u8 0 :: bcells l) l B _ (hC.gr ((Gr.refl w).alloc _)) (World.size_alloc _ _).symm rfl (by omega) (by omega) (by omega) (by rw [World.size_alloc]; omega)).mono ?_; rintro e w1 ⟨rfl, z, rfl, hO⟩; have hd := hO.has; have hz := (hO.keep V (by rw [World.size_alloc]; omega) hVP).trans (heap_gr ((Gr.refl w).alloc _) HV.out); have c2 := cell_of_heap hz 2 _ rfl; have c3 := cell_of_heap hz 3 _ rfl; have c4 := cell_of_heap hz 4 _ rfl; have c5 := cell_of_heap hz 5 _ rfl; clear hz)
          | (go_at_call 98; refine (put16_calls (w.heap.size + 1) _ _ _ _ _ _ (by first | exact hd | assumption) (by simp only [List.length_cons]; omega) (by omega)).mono ?_; rintro e w2 ⟨rfl, rfl⟩)
          | (go_at_call 96; refine (put32_calls (w.heap.size + 1) _ _ _ _ _ _ (by first | exact hd | assumption) (by simp only [List.length_cons]; omega) (by omega)).mono ?_; rintro e w2 ⟨rfl, rfl⟩))
    go_ret
    refine ⟨rfl, ?_⟩
    exact Opened.fin0 (hd := label la cl tt false) (l := l) (k := 4) (N := (w.heap.size + 1)) (by repeat (first | exact hO | refine Opened.drew ?_ | refine Opened.drewN ?_ _)) (below_to ((Gr.refl w).alloc _).below hB) rfl (by unfold label; exact lo_bytes _) (by omega) (by omega) (by have hx : la * 4096 + cl * 512 + bi false * 256 + tt = la * 4096 + cl * 512 + tt := (by simp [bi]); unfold label; rw [hx]; simp only [lo, sh, bcells, List.map_cons, List.map_nil, List.cons_append, List.nil_append]; rw [show (la * 4096 + cl * 512 + tt) / 16777216 = (la * 4096 + cl * 512 + tt) / 65536 / 256 by omega])
  | true =>
    go_enter Try.func69, Try.ntmps69
    go_wp2_with (first
          | (go_at_call 160; refine (prepC_calls P 4 (w.heap.size + 1) (.int .u8 0 :: .int .u8 0 :: .int .u8 0 :: .int .u8 0 :: bcells l) l B _ (hC.gr ((Gr.refl w).alloc _)) (World.size_alloc _ _).symm rfl (by omega) (by omega) (by omega) (by rw [World.size_alloc]; omega)).mono ?_; rintro e w1 ⟨rfl, z, rfl, hO⟩; have hd := hO.has; have hz := (hO.keep V (by rw [World.size_alloc]; omega) hVP).trans (heap_gr ((Gr.refl w).alloc _) HV.out); have c2 := cell_of_heap hz 2 _ rfl; have c3 := cell_of_heap hz 3 _ rfl; have c4 := cell_of_heap hz 4 _ rfl; have c5 := cell_of_heap hz 5 _ rfl; clear hz)
          | (go_at_call 98; refine (put16_calls (w.heap.size + 1) _ _ _ _ _ _ (by first | exact hd | assumption) (by simp only [List.length_cons]; omega) (by omega)).mono ?_; rintro e w2 ⟨rfl, rfl⟩)
          | (go_at_call 96; refine (put32_calls (w.heap.size + 1) _ _ _ _ _ _ (by first | exact hd | assumption) (by simp only [List.length_cons]; omega) (by omega)).mono ?_; rintro e w2 ⟨rfl, rfl⟩))
    go_ret
    refine ⟨rfl, ?_⟩
    exact Opened.fin0 (hd := label la cl tt true) (l := l) (k := 4) (N := (w.heap.size + 1)) (by repeat (first | exact hO | refine Opened.drew ?_ | refine Opened.drewN ?_ _)) (below_to ((Gr.refl w).alloc _).below hB) rfl (by unfold label; exact lo_bytes _) (by omega) (by omega) (by have hx : la * 4096 + cl * 512 + bi true * 256 + tt = la * 4096 + cl * 512 + 256 + tt := (by simp [bi]); unfold label; rw [hx]; simp only [lo, sh, bcells, List.map_cons, List.map_nil, List.cons_append, List.nil_append]; rw [show (la * 4096 + cl * 512 + 256 + tt) / 16777216 = (la * 4096 + cl * 512 + 256 + tt) / 65536 / 256 by omega])

end Go.Proofs.Ytbojideclbjlgaa
