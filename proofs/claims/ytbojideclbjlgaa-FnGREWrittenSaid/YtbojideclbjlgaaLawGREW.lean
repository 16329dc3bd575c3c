/-
  The law FnGREWritten.
-/
import Derived.Test.YtbojideclbjlgaaGRESer0
import Derived.Test.YtbojideclbjlgaaGRESer1
import Derived.Test.YtbojideclbjlgaaGRESer2
import Derived.Test.YtbojideclbjlgaaGRESer3
import Derived.Test.YtbojideclbjlgaaGREIs
import Derived.Test.YtbojideclbjlgaaGREEnc0
import Derived.Test.YtbojideclbjlgaaGREEnc1
import Derived.Test.YtbojideclbjlgaaGREEnc2
import Derived.Test.YtbojideclbjlgaaGREEnc3
namespace Go.Proofs.Ytbojideclbjlgaa
open Go.RowKit

theorem gre_calls (ve pr : Int) (s k q a : Bool) (su ky sq ak : Int) (w : World) (hv : 0 ≤ ve ∧ ve ≤ 7) :
    Calls Try.prog 41 #[.agg #[.int .i64 ve, .int .i64 pr, .bool s, .bool k, .bool q, .bool a, .int .i64 su, .int .i64 ky, .int .i64 sq, .int .i64 ak]] w (RetB w (gre ve pr s k q a su ky sq ak)) := by
  cases s with
  | false =>
    cases k with
    | false =>
      cases q with
      | false =>
        cases a with
        | false =>
          exact gre0000_calls ve pr su ky sq ak w hv
        | true =>
          exact gre0001_calls ve pr su ky sq ak w hv
      | true =>
        cases a with
        | false =>
          exact gre0010_calls ve pr su ky sq ak w hv
        | true =>
          exact gre0011_calls ve pr su ky sq ak w hv
    | true =>
      cases q with
      | false =>
        cases a with
        | false =>
          exact gre0100_calls ve pr su ky sq ak w hv
        | true =>
          exact gre0101_calls ve pr su ky sq ak w hv
      | true =>
        cases a with
        | false =>
          exact gre0110_calls ve pr su ky sq ak w hv
        | true =>
          exact gre0111_calls ve pr su ky sq ak w hv
  | true =>
    cases k with
    | false =>
      cases q with
      | false =>
        cases a with
        | false =>
          exact gre1000_calls ve pr su ky sq ak w hv
        | true =>
          exact gre1001_calls ve pr su ky sq ak w hv
      | true =>
        cases a with
        | false =>
          exact gre1010_calls ve pr su ky sq ak w hv
        | true =>
          exact gre1011_calls ve pr su ky sq ak w hv
    | true =>
      cases q with
      | false =>
        cases a with
        | false =>
          exact gre1100_calls ve pr su ky sq ak w hv
        | true =>
          exact gre1101_calls ve pr su ky sq ak w hv
      | true =>
        cases a with
        | false =>
          exact gre1110_calls ve pr su ky sq ak w hv
        | true =>
          exact gre1111_calls ve pr su ky sq ak w hv

theorem greSer_calls (V P : Nat) (ve pr : Int) (s k q a : Bool) (su ky sq ak : Int) (o1 o2 : Bool) (B : Nat) (l : List Int) (w : World) (hV : w.heap[V]? = some (.cells [.slice none 0 0, .slice none 0 0, .bool s, .bool false, .bool k, .bool q, .bool false, .bool a, .int .u8 0, .int .u8 0, .int .u8 ve, .int .u16 pr, .int .u16 su, .int .u16 0, .int .u32 ky, .int .u32 sq, .int .u32 ak, .pointer none].toArray 154 (0, 0))) (hC : Carries w B P l) (hVP : V ≠ P) (hB : B ≤ w.heap.size) (hl : l.length ≤ 2000) (hv : 0 ≤ ve ∧ ve ≤ 7) (ho : o2 = false) :
    Calls Try.prog 80 #[.pointer (some ⟨V, 0, none⟩), .iface 179 (.pointer (some ⟨P, 0, none⟩)), .agg #[.bool o1, .bool o2]] w fun e w' => e = .returned .nilIface ∧ Below B w w' ∧ Done w' P (gre ve pr s k q a su ky sq ak ++ l) := by
  cases s with
  | false =>
    cases k with
    | false =>
      cases q with
      | false =>
        cases a with
        | false =>
          exact greSer0000_calls V P ve pr su ky sq ak o1 o2 B l w hV hC hVP hB hl hv ho
        | true =>
          exact greSer0001_calls V P ve pr su ky sq ak o1 o2 B l w hV hC hVP hB hl hv ho
      | true =>
        cases a with
        | false =>
          exact greSer0010_calls V P ve pr su ky sq ak o1 o2 B l w hV hC hVP hB hl hv ho
        | true =>
          exact greSer0011_calls V P ve pr su ky sq ak o1 o2 B l w hV hC hVP hB hl hv ho
    | true =>
      cases q with
      | false =>
        cases a with
        | false =>
          exact greSer0100_calls V P ve pr su ky sq ak o1 o2 B l w hV hC hVP hB hl hv ho
        | true =>
          exact greSer0101_calls V P ve pr su ky sq ak o1 o2 B l w hV hC hVP hB hl hv ho
      | true =>
        cases a with
        | false =>
          exact greSer0110_calls V P ve pr su ky sq ak o1 o2 B l w hV hC hVP hB hl hv ho
        | true =>
          exact greSer0111_calls V P ve pr su ky sq ak o1 o2 B l w hV hC hVP hB hl hv ho
  | true =>
    cases k with
    | false =>
      cases q with
      | false =>
        cases a with
        | false =>
          exact greSer1000_calls V P ve pr su ky sq ak o1 o2 B l w hV hC hVP hB hl hv ho
        | true =>
          exact greSer1001_calls V P ve pr su ky sq ak o1 o2 B l w hV hC hVP hB hl hv ho
      | true =>
        cases a with
        | false =>
          exact greSer1010_calls V P ve pr su ky sq ak o1 o2 B l w hV hC hVP hB hl hv ho
        | true =>
          exact greSer1011_calls V P ve pr su ky sq ak o1 o2 B l w hV hC hVP hB hl hv ho
    | true =>
      cases q with
      | false =>
        cases a with
        | false =>
          exact greSer1100_calls V P ve pr su ky sq ak o1 o2 B l w hV hC hVP hB hl hv ho
        | true =>
          exact greSer1101_calls V P ve pr su ky sq ak o1 o2 B l w hV hC hVP hB hl hv ho
      | true =>
        cases a with
        | false =>
          exact greSer1110_calls V P ve pr su ky sq ak o1 o2 B l w hV hC hVP hB hl hv ho
        | true =>
          exact greSer1111_calls V P ve pr su ky sq ak o1 o2 B l w hV hC hVP hB hl hv ho

theorem gre_len (ve pr : Int) (s k q a : Bool) (su ky sq ak : Int) : (gre ve pr s k q a su ky sq ak).length ≤ 20 := by cases s <;> cases k <;> cases q <;> cases a <;> simp [gre, ap, gsum, lo, sh]
theorem isGRE_iff (ve pr : Int) (s k q a : Bool) (su ky sq ak : Int) : isGRE ve pr s k q a su ky sq ak = true ↔ (((s = false → su = 0) ∧ (k = false → ky = 0)) ∧ ((q = false → sq = 0) ∧ (a = false → ak = 0))) ∧ (0 ≤ ve ∧ ve ≤ 7) ∧ (0 ≤ pr ∧ pr ≤ 65535) ∧ (0 ≤ su ∧ su ≤ 65535) ∧ (0 ≤ ky ∧ ky ≤ 4294967295) ∧ (0 ≤ sq ∧ sq ≤ 4294967295) ∧ (0 ≤ ak ∧ ak ≤ 4294967295) := by
  simp only [isGRE, Bool.and_eq_true, Bool.or_eq_true, upto_iff, beq_iff_eq]
  have key : ∀ (f : Bool) (x : Int), (f = true ∨ x = 0) ↔ (f = false → x = 0) := by intro f x; cases f <;> simp
  simp only [key, and_assoc]

set_option maxRecDepth 100000 in
set_option maxHeartbeats 2000000 in
theorem greWritten_calls (ve pr : Int) (s k q a : Bool) (su ky sq ak : Int) (aa : Option Addr) (n c : Nat) (l : List Int) (w : World) (h : IsB w (.slice aa n c) l) (hl : l.length ≤ 2000) (hv : 0 ≤ ve ∧ ve ≤ 7) (hp : 0 ≤ pr ∧ pr ≤ 65535) (h1 : 0 ≤ su ∧ su ≤ 65535) (h2 : 0 ≤ ky ∧ ky ≤ 4294967295) (h3 : 0 ≤ sq ∧ sq ≤ 4294967295) (h4 : 0 ≤ ak ∧ ak ≤ 4294967295) :
    Calls Try.prog 40 #[.agg #[.int .i64 ve, .int .i64 pr, .bool s, .bool k, .bool q, .bool a, .int .i64 su, .int .i64 ky, .int .i64 sq, .int .i64 ak], .slice aa n c] w fun e w' => ∃ f9 g9 j9, e = .returned (.tuple #[.slice f9 g9 j9, .bool true]) ∧ IsB w' (.slice f9 g9 j9) (gre ve pr s k q a su ky sq ak ++ l) ∧ Gr w w' := by
  have y0 : IntKind.u8.wrap ve = ve := by simp [IntKind.wrap, IntKind.bits, IntKind.signed]; omega
  have y1 : IntKind.u16.wrap pr = pr := by simp [IntKind.wrap, IntKind.bits, IntKind.signed]; omega
  have y2 : IntKind.u16.wrap su = su := by simp [IntKind.wrap, IntKind.bits, IntKind.signed]; omega
  have y3 : IntKind.u32.wrap ky = ky := by simp [IntKind.wrap, IntKind.bits, IntKind.signed]; omega
  have y4 : IntKind.u32.wrap sq = sq := by simp [IntKind.wrap, IntKind.bits, IntKind.signed]; omega
  have y5 : IntKind.u32.wrap ak = ak := by simp [IntKind.wrap, IntKind.bits, IntKind.signed]; omega
  have HL : (gre ve pr s k q a su ky sq ak).length ≤ 200 := Nat.le_trans (gre_len _ _ _ _ _ _ _ _ _ _) (by decide)
  have HH := Lib.hid h
  clear h
  go_enter Try.func40, Try.ntmps40
  go_wp2_with (first
      | (go_at_call 67; refine (carried_calls aa n c l _ (HH.out.gr (by (repeat (with_reducible first | exact Gr.refl _ | assumption | refine Gr.alloc ?_ _ | refine Gr.drew ?_ | refine Gr.drewN ?_ _ | refine Gr.trans ?_ (by assumption))); done)) hl).mono ?_; rintro e w1 ⟨P, rfl, hg1, hC⟩; have HC := Lib.hid hC; clear hC; have hPV : (w.heap.size + 1) ≠ P := (by obtain ⟨_, h1, -⟩ := HC.out; simp only [World.size_alloc] at h1; omega))
      | (go_at_call 76; refine (fixed_calls _).mono ?_; rintro e w2 ⟨rfl, hg2⟩; have hq := heap_gr (w := World.alloc (World.alloc w (.cells [.int .i64 ve, .int .i64 pr, .bool s, .bool k, .bool q, .bool a, .int .i64 su, .int .i64 ky, .int .i64 sq, .int .i64 ak].toArray 69)) (.cells [.slice none 0 0, .slice none 0 0, .bool s, .bool false, .bool k, .bool q, .bool false, .bool a, .int .u8 0, .int .u8 0, .int .u8 ve, .int .u16 pr, .int .u16 su, .int .u16 0, .int .u32 ky, .int .u32 sq, .int .u32 ak, .pointer none].toArray 154)) (w' := w2) (by (repeat (with_reducible first | exact Gr.refl _ | assumption | refine Gr.alloc ?_ _ | refine Gr.drew ?_ | refine Gr.drewN ?_ _ | refine Gr.trans ?_ (by assumption))); done) (heap_alloc_new (World.alloc w (.cells [.int .i64 ve, .int .i64 pr, .bool s, .bool k, .bool q, .bool a, .int .i64 su, .int .i64 ky, .int .i64 sq, .int .i64 ak].toArray 69)) (.cells [.slice none 0 0, .slice none 0 0, .bool s, .bool false, .bool k, .bool q, .bool false, .bool a, .int .u8 0, .int .u8 0, .int .u8 ve, .int .u16 pr, .int .u16 su, .int .u16 0, .int .u32 ky, .int .u32 sq, .int .u32 ak, .pointer none].toArray 154)); rw [World.size_alloc] at hq; have HQ := Lib.hid hq; clear hq; have hGw : Gr w w2 := (by (repeat (with_reducible first | exact Gr.refl _ | assumption | refine Gr.alloc ?_ _ | refine Gr.drew ?_ | refine Gr.drewN ?_ _ | refine Gr.trans ?_ (by assumption))); done); have HC2 := Lib.hid ((HC.out.to (C := w.heap.size) (by simp only [World.size_alloc]; omega)).gr (w' := w2) (by (repeat (with_reducible first | exact Gr.refl _ | assumption | refine Gr.alloc ?_ _ | refine Gr.drew ?_ | refine Gr.drewN ?_ _ | refine Gr.trans ?_ (by assumption))); done)))
      | (go_at_call 80; refine (greSer_calls (w.heap.size + 1) P ve pr s k q a su ky sq ak true false w.heap.size l _ HQ.out HC2.out hPV hGw.size hl hv rfl).mono ?_; rintro e w3 ⟨rfl, hb3, a', n', pp, qq, ly, hP3, hB3⟩; have HP3 := Lib.hid hP3; clear hP3; have hG3 : Gr w w3 := gr_of_below (hGw.below.trans hb3))
      | (go_at_call 68; refine (written_calls P a' n' n' pp qq ly _ _ HP3.out hB3 (by rw [List.length_append]; have : (gre ve pr s k q a su ky sq ak).length ≤ 200 := HL; omega)).mono ?_; rintro e w4 ⟨f9, g9, j9, rfl, hb4, hg4⟩; have hG4 : Gr w w4 := hG3.trans hg4))
  exact bodyPost_ret (v := .tuple #[.slice f9 g9 j9, .bool true]) (by simp [results, Try.results40, go_sem]) rfl ⟨_, _, _, rfl, hb4, hG4⟩

set_option maxRecDepth 100000 in
set_option maxHeartbeats 2000000 in
theorem lawGREWritten_calls (ve pr : Int) (s k q a : Bool) (su ky sq ak : Int) (aa : Option Addr) (n c : Nat) (l : List Int) (w : World) (h : IsB w (.slice aa n c) l) :
    Calls Try.prog 10 #[.agg #[.int .i64 ve, .int .i64 pr, .bool s, .bool k, .bool q, .bool a, .int .i64 su, .int .i64 ky, .int .i64 sq, .int .i64 ak], .slice aa n c] w fun e w' => e = .returned (.bool true) ∧ Gr w w' := by
  have g0 := fun ty => h.len (P := Try.prog) 22 ty 5 Try.underlying22
  by_cases hc0 : (l.length : Int) ≤ 2147483647
  case neg =>
    have hd0 := decide_eq_false hc0
    go_enter Try.func10, Try.ntmps10
    go_wp2_with (first
      | (go_at_call 39; refine (isGRE_calls _ _ _ _ _ _ _ _ _ _ _).mono ?_; rintro e w9 ⟨rfl, hg9⟩; obtain ⟨hs9, hc9⟩ := Gr.boxed (w := w) (cs := [.int .i64 ve, .int .i64 pr, .bool s, .bool k, .bool q, .bool a, .int .i64 su, .int .i64 ky, .int .i64 sq, .int .i64 ak]) (t := 69) (w' := w9) (by (repeat (with_reducible first | exact Gr.refl _ | assumption | refine Gr.alloc ?_ _ | refine Gr.drew ?_ | refine Gr.drewN ?_ _ | refine Gr.trans ?_ (by assumption))); done))
      | (go_at_call 41; refine (gre_calls _ _ _ _ _ _ _ _ _ _ _ XH.out.1).mono ?_; rintro e w9 ⟨_, _, _, rfl, ho9, hg9⟩; have hb9 := ho9.isB; obtain ⟨hs9, hc9⟩ := Gr.boxed (w := w) (cs := [.int .i64 ve, .int .i64 pr, .bool s, .bool k, .bool q, .bool a, .int .i64 su, .int .i64 ky, .int .i64 sq, .int .i64 ak]) (t := 69) (w' := w9) (by (repeat (with_reducible first | exact Gr.refl _ | assumption | refine Gr.alloc ?_ _ | refine Gr.drew ?_ | refine Gr.drewN ?_ _ | refine Gr.trans ?_ (by assumption))); done))
      | (go_at_call 21; refine (isPayload_calls _ l _ (IsB.gr (by assumption) (by (repeat (with_reducible first | exact Gr.refl _ | assumption | refine Gr.alloc ?_ _ | refine Gr.drew ?_ | refine Gr.drewN ?_ _ | refine Gr.trans ?_ (by assumption))); done))).mono ?_; rintro e w9 ⟨rfl, rfl⟩)
      | (go_at_call 40; refine (greWritten_calls ve pr s k q a su ky sq ak _ _ _ l _ (IsB.gr (by assumption) (by (repeat (with_reducible first | exact Gr.refl _ | assumption | refine Gr.alloc ?_ _ | refine Gr.drew ?_ | refine Gr.drewN ?_ _ | refine Gr.trans ?_ (by assumption))); done)) (by omega) XH.out.1 XH.out.2.1 XH.out.2.2.1 XH.out.2.2.2.1 XH.out.2.2.2.2.1 XH.out.2.2.2.2.2).mono ?_; rintro e w9 ⟨_, _, _, rfl, hbW, hg9⟩; obtain ⟨hs9, hc9⟩ := Gr.boxed (w := w) (cs := [.int .i64 ve, .int .i64 pr, .bool s, .bool k, .bool q, .bool a, .int .i64 su, .int .i64 ky, .int .i64 sq, .int .i64 ak]) (t := 69) (w' := w9) (by (repeat (with_reducible first | exact Gr.refl _ | assumption | refine Gr.alloc ?_ _ | refine Gr.drew ?_ | refine Gr.drewN ?_ _ | refine Gr.trans ?_ (by assumption))); done))
      | (go_at_call 23; refine (joined_calls _ [gre ve pr s k q a su ky sq ak, l] _ (isBs_at _ _ [gre ve pr s k q a su ky sq ak, l] _ (Reads.cons (IsB.gr (by assumption) (by (repeat (with_reducible first | exact Gr.refl _ | assumption | refine Gr.alloc ?_ _ | refine Gr.drew ?_ | refine Gr.drewN ?_ _ | refine Gr.trans ?_ (by assumption))); done)) (Reads.cons (IsB.gr (by assumption) (by (repeat (with_reducible first | exact Gr.refl _ | assumption | refine Gr.alloc ?_ _ | refine Gr.drew ?_ | refine Gr.drewN ?_ _ | refine Gr.trans ?_ (by assumption))); done)) (Reads.nil _))) _ rfl _ (by simp)) XL.out (by simp)).mono ?_; rintro e w9 ⟨_, _, _, rfl, ho9, hg9⟩; have hb9 := ho9.isB; obtain ⟨hs9, hc9⟩ := Gr.boxed (w := w) (cs := [.int .i64 ve, .int .i64 pr, .bool s, .bool k, .bool q, .bool a, .int .i64 su, .int .i64 ky, .int .i64 sq, .int .i64 ak]) (t := 69) (w' := w9) (by (repeat (with_reducible first | exact Gr.refl _ | assumption | refine Gr.alloc ?_ _ | refine Gr.drew ?_ | refine Gr.drewN ?_ _ | refine Gr.trans ?_ (by assumption))); done))
      | (go_at_call 16; refine (same_calls _ _ _ _ _ (IsB.gr (by assumption) (by (repeat (with_reducible first | exact Gr.refl _ | assumption | refine Gr.alloc ?_ _ | refine Gr.drew ?_ | refine Gr.drewN ?_ _ | refine Gr.trans ?_ (by assumption))); done)) (IsB.gr (by assumption) (by (repeat (with_reducible first | exact Gr.refl _ | assumption | refine Gr.alloc ?_ _ | refine Gr.drew ?_ | refine Gr.drewN ?_ _ | refine Gr.trans ?_ (by assumption))); done))).mono ?_; rintro e w9 ⟨rfl, rfl⟩))
    go_ret
    exact ⟨rfl, (by (repeat (with_reducible first | exact Gr.refl _ | assumption | refine Gr.alloc ?_ _ | refine Gr.drew ?_ | refine Gr.drewN ?_ _ | refine Gr.trans ?_ (by assumption))); done)⟩
  case pos =>
    cases hc1 : (isGRE ve pr s k q a su ky sq ak : Bool) with
    | false =>
      go_enter Try.func10, Try.ntmps10
      go_wp2_with (first
      | (go_at_call 39; refine (isGRE_calls _ _ _ _ _ _ _ _ _ _ _).mono ?_; rintro e w9 ⟨rfl, hg9⟩; obtain ⟨hs9, hc9⟩ := Gr.boxed (w := w) (cs := [.int .i64 ve, .int .i64 pr, .bool s, .bool k, .bool q, .bool a, .int .i64 su, .int .i64 ky, .int .i64 sq, .int .i64 ak]) (t := 69) (w' := w9) (by (repeat (with_reducible first | exact Gr.refl _ | assumption | refine Gr.alloc ?_ _ | refine Gr.drew ?_ | refine Gr.drewN ?_ _ | refine Gr.trans ?_ (by assumption))); done))
      | (go_at_call 41; refine (gre_calls _ _ _ _ _ _ _ _ _ _ _ XH.out.1).mono ?_; rintro e w9 ⟨_, _, _, rfl, ho9, hg9⟩; have hb9 := ho9.isB; obtain ⟨hs9, hc9⟩ := Gr.boxed (w := w) (cs := [.int .i64 ve, .int .i64 pr, .bool s, .bool k, .bool q, .bool a, .int .i64 su, .int .i64 ky, .int .i64 sq, .int .i64 ak]) (t := 69) (w' := w9) (by (repeat (with_reducible first | exact Gr.refl _ | assumption | refine Gr.alloc ?_ _ | refine Gr.drew ?_ | refine Gr.drewN ?_ _ | refine Gr.trans ?_ (by assumption))); done))
      | (go_at_call 21; refine (isPayload_calls _ l _ (IsB.gr (by assumption) (by (repeat (with_reducible first | exact Gr.refl _ | assumption | refine Gr.alloc ?_ _ | refine Gr.drew ?_ | refine Gr.drewN ?_ _ | refine Gr.trans ?_ (by assumption))); done))).mono ?_; rintro e w9 ⟨rfl, rfl⟩)
      | (go_at_call 40; refine (greWritten_calls ve pr s k q a su ky sq ak _ _ _ l _ (IsB.gr (by assumption) (by (repeat (with_reducible first | exact Gr.refl _ | assumption | refine Gr.alloc ?_ _ | refine Gr.drew ?_ | refine Gr.drewN ?_ _ | refine Gr.trans ?_ (by assumption))); done)) (by omega) XH.out.1 XH.out.2.1 XH.out.2.2.1 XH.out.2.2.2.1 XH.out.2.2.2.2.1 XH.out.2.2.2.2.2).mono ?_; rintro e w9 ⟨_, _, _, rfl, hbW, hg9⟩; obtain ⟨hs9, hc9⟩ := Gr.boxed (w := w) (cs := [.int .i64 ve, .int .i64 pr, .bool s, .bool k, .bool q, .bool a, .int .i64 su, .int .i64 ky, .int .i64 sq, .int .i64 ak]) (t := 69) (w' := w9) (by (repeat (with_reducible first | exact Gr.refl _ | assumption | refine Gr.alloc ?_ _ | refine Gr.drew ?_ | refine Gr.drewN ?_ _ | refine Gr.trans ?_ (by assumption))); done))
      | (go_at_call 23; refine (joined_calls _ [gre ve pr s k q a su ky sq ak, l] _ (isBs_at _ _ [gre ve pr s k q a su ky sq ak, l] _ (Reads.cons (IsB.gr (by assumption) (by (repeat (with_reducible first | exact Gr.refl _ | assumption | refine Gr.alloc ?_ _ | refine Gr.drew ?_ | refine Gr.drewN ?_ _ | refine Gr.trans ?_ (by assumption))); done)) (Reads.cons (IsB.gr (by assumption) (by (repeat (with_reducible first | exact Gr.refl _ | assumption | refine Gr.alloc ?_ _ | refine Gr.drew ?_ | refine Gr.drewN ?_ _ | refine Gr.trans ?_ (by assumption))); done)) (Reads.nil _))) _ rfl _ (by simp)) XL.out (by simp)).mono ?_; rintro e w9 ⟨_, _, _, rfl, ho9, hg9⟩; have hb9 := ho9.isB; obtain ⟨hs9, hc9⟩ := Gr.boxed (w := w) (cs := [.int .i64 ve, .int .i64 pr, .bool s, .bool k, .bool q, .bool a, .int .i64 su, .int .i64 ky, .int .i64 sq, .int .i64 ak]) (t := 69) (w' := w9) (by (repeat (with_reducible first | exact Gr.refl _ | assumption | refine Gr.alloc ?_ _ | refine Gr.drew ?_ | refine Gr.drewN ?_ _ | refine Gr.trans ?_ (by assumption))); done))
      | (go_at_call 16; refine (same_calls _ _ _ _ _ (IsB.gr (by assumption) (by (repeat (with_reducible first | exact Gr.refl _ | assumption | refine Gr.alloc ?_ _ | refine Gr.drew ?_ | refine Gr.drewN ?_ _ | refine Gr.trans ?_ (by assumption))); done)) (IsB.gr (by assumption) (by (repeat (with_reducible first | exact Gr.refl _ | assumption | refine Gr.alloc ?_ _ | refine Gr.drew ?_ | refine Gr.drewN ?_ _ | refine Gr.trans ?_ (by assumption))); done))).mono ?_; rintro e w9 ⟨rfl, rfl⟩))
      go_ret
      exact ⟨rfl, (by (repeat (with_reducible first | exact Gr.refl _ | assumption | refine Gr.alloc ?_ _ | refine Gr.drew ?_ | refine Gr.drewN ?_ _ | refine Gr.trans ?_ (by assumption))); done)⟩
    | true =>
      cases hc2 : (isPay l : Bool) with
      | false =>
        go_enter Try.func10, Try.ntmps10
        go_wp2_with (first
      | (go_at_call 39; refine (isGRE_calls _ _ _ _ _ _ _ _ _ _ _).mono ?_; rintro e w9 ⟨rfl, hg9⟩; obtain ⟨hs9, hc9⟩ := Gr.boxed (w := w) (cs := [.int .i64 ve, .int .i64 pr, .bool s, .bool k, .bool q, .bool a, .int .i64 su, .int .i64 ky, .int .i64 sq, .int .i64 ak]) (t := 69) (w' := w9) (by (repeat (with_reducible first | exact Gr.refl _ | assumption | refine Gr.alloc ?_ _ | refine Gr.drew ?_ | refine Gr.drewN ?_ _ | refine Gr.trans ?_ (by assumption))); done))
      | (go_at_call 41; refine (gre_calls _ _ _ _ _ _ _ _ _ _ _ XH.out.1).mono ?_; rintro e w9 ⟨_, _, _, rfl, ho9, hg9⟩; have hb9 := ho9.isB; obtain ⟨hs9, hc9⟩ := Gr.boxed (w := w) (cs := [.int .i64 ve, .int .i64 pr, .bool s, .bool k, .bool q, .bool a, .int .i64 su, .int .i64 ky, .int .i64 sq, .int .i64 ak]) (t := 69) (w' := w9) (by (repeat (with_reducible first | exact Gr.refl _ | assumption | refine Gr.alloc ?_ _ | refine Gr.drew ?_ | refine Gr.drewN ?_ _ | refine Gr.trans ?_ (by assumption))); done))
      | (go_at_call 21; refine (isPayload_calls _ l _ (IsB.gr (by assumption) (by (repeat (with_reducible first | exact Gr.refl _ | assumption | refine Gr.alloc ?_ _ | refine Gr.drew ?_ | refine Gr.drewN ?_ _ | refine Gr.trans ?_ (by assumption))); done))).mono ?_; rintro e w9 ⟨rfl, rfl⟩)
      | (go_at_call 40; refine (greWritten_calls ve pr s k q a su ky sq ak _ _ _ l _ (IsB.gr (by assumption) (by (repeat (with_reducible first | exact Gr.refl _ | assumption | refine Gr.alloc ?_ _ | refine Gr.drew ?_ | refine Gr.drewN ?_ _ | refine Gr.trans ?_ (by assumption))); done)) (by omega) XH.out.1 XH.out.2.1 XH.out.2.2.1 XH.out.2.2.2.1 XH.out.2.2.2.2.1 XH.out.2.2.2.2.2).mono ?_; rintro e w9 ⟨_, _, _, rfl, hbW, hg9⟩; obtain ⟨hs9, hc9⟩ := Gr.boxed (w := w) (cs := [.int .i64 ve, .int .i64 pr, .bool s, .bool k, .bool q, .bool a, .int .i64 su, .int .i64 ky, .int .i64 sq, .int .i64 ak]) (t := 69) (w' := w9) (by (repeat (with_reducible first | exact Gr.refl _ | assumption | refine Gr.alloc ?_ _ | refine Gr.drew ?_ | refine Gr.drewN ?_ _ | refine Gr.trans ?_ (by assumption))); done))
      | (go_at_call 23; refine (joined_calls _ [gre ve pr s k q a su ky sq ak, l] _ (isBs_at _ _ [gre ve pr s k q a su ky sq ak, l] _ (Reads.cons (IsB.gr (by assumption) (by (repeat (with_reducible first | exact Gr.refl _ | assumption | refine Gr.alloc ?_ _ | refine Gr.drew ?_ | refine Gr.drewN ?_ _ | refine Gr.trans ?_ (by assumption))); done)) (Reads.cons (IsB.gr (by assumption) (by (repeat (with_reducible first | exact Gr.refl _ | assumption | refine Gr.alloc ?_ _ | refine Gr.drew ?_ | refine Gr.drewN ?_ _ | refine Gr.trans ?_ (by assumption))); done)) (Reads.nil _))) _ rfl _ (by simp)) XL.out (by simp)).mono ?_; rintro e w9 ⟨_, _, _, rfl, ho9, hg9⟩; have hb9 := ho9.isB; obtain ⟨hs9, hc9⟩ := Gr.boxed (w := w) (cs := [.int .i64 ve, .int .i64 pr, .bool s, .bool k, .bool q, .bool a, .int .i64 su, .int .i64 ky, .int .i64 sq, .int .i64 ak]) (t := 69) (w' := w9) (by (repeat (with_reducible first | exact Gr.refl _ | assumption | refine Gr.alloc ?_ _ | refine Gr.drew ?_ | refine Gr.drewN ?_ _ | refine Gr.trans ?_ (by assumption))); done))
      | (go_at_call 16; refine (same_calls _ _ _ _ _ (IsB.gr (by assumption) (by (repeat (with_reducible first | exact Gr.refl _ | assumption | refine Gr.alloc ?_ _ | refine Gr.drew ?_ | refine Gr.drewN ?_ _ | refine Gr.trans ?_ (by assumption))); done)) (IsB.gr (by assumption) (by (repeat (with_reducible first | exact Gr.refl _ | assumption | refine Gr.alloc ?_ _ | refine Gr.drew ?_ | refine Gr.drewN ?_ _ | refine Gr.trans ?_ (by assumption))); done))).mono ?_; rintro e w9 ⟨rfl, rfl⟩))
        go_ret
        exact ⟨rfl, (by (repeat (with_reducible first | exact Gr.refl _ | assumption | refine Gr.alloc ?_ _ | refine Gr.drew ?_ | refine Gr.drewN ?_ _ | refine Gr.trans ?_ (by assumption))); done)⟩
      | true =>
        have XH := Lib.hid ((isGRE_iff ve pr s k q a su ky sq ak).1 hc1).2
        have hl2 := isPay_iff.1 hc2
        have XL := Lib.hid (show [gre ve pr s k q a su ky sq ak, l].flatten.length ≤ 70368744177664 by have := gre_len ve pr s k q a su ky sq ak; simp only [List.flatten_cons, List.flatten_nil, List.append_nil, List.length_append]; omega)
        go_enter Try.func10, Try.ntmps10
        go_wp2_with (first
      | (go_at_call 39; refine (isGRE_calls _ _ _ _ _ _ _ _ _ _ _).mono ?_; rintro e w9 ⟨rfl, hg9⟩; obtain ⟨hs9, hc9⟩ := Gr.boxed (w := w) (cs := [.int .i64 ve, .int .i64 pr, .bool s, .bool k, .bool q, .bool a, .int .i64 su, .int .i64 ky, .int .i64 sq, .int .i64 ak]) (t := 69) (w' := w9) (by (repeat (with_reducible first | exact Gr.refl _ | assumption | refine Gr.alloc ?_ _ | refine Gr.drew ?_ | refine Gr.drewN ?_ _ | refine Gr.trans ?_ (by assumption))); done))
      | (go_at_call 41; refine (gre_calls _ _ _ _ _ _ _ _ _ _ _ XH.out.1).mono ?_; rintro e w9 ⟨_, _, _, rfl, ho9, hg9⟩; have hb9 := ho9.isB; obtain ⟨hs9, hc9⟩ := Gr.boxed (w := w) (cs := [.int .i64 ve, .int .i64 pr, .bool s, .bool k, .bool q, .bool a, .int .i64 su, .int .i64 ky, .int .i64 sq, .int .i64 ak]) (t := 69) (w' := w9) (by (repeat (with_reducible first | exact Gr.refl _ | assumption | refine Gr.alloc ?_ _ | refine Gr.drew ?_ | refine Gr.drewN ?_ _ | refine Gr.trans ?_ (by assumption))); done))
      | (go_at_call 21; refine (isPayload_calls _ l _ (IsB.gr (by assumption) (by (repeat (with_reducible first | exact Gr.refl _ | assumption | refine Gr.alloc ?_ _ | refine Gr.drew ?_ | refine Gr.drewN ?_ _ | refine Gr.trans ?_ (by assumption))); done))).mono ?_; rintro e w9 ⟨rfl, rfl⟩)
      | (go_at_call 40; refine (greWritten_calls ve pr s k q a su ky sq ak _ _ _ l _ (IsB.gr (by assumption) (by (repeat (with_reducible first | exact Gr.refl _ | assumption | refine Gr.alloc ?_ _ | refine Gr.drew ?_ | refine Gr.drewN ?_ _ | refine Gr.trans ?_ (by assumption))); done)) (by omega) XH.out.1 XH.out.2.1 XH.out.2.2.1 XH.out.2.2.2.1 XH.out.2.2.2.2.1 XH.out.2.2.2.2.2).mono ?_; rintro e w9 ⟨_, _, _, rfl, hbW, hg9⟩; obtain ⟨hs9, hc9⟩ := Gr.boxed (w := w) (cs := [.int .i64 ve, .int .i64 pr, .bool s, .bool k, .bool q, .bool a, .int .i64 su, .int .i64 ky, .int .i64 sq, .int .i64 ak]) (t := 69) (w' := w9) (by (repeat (with_reducible first | exact Gr.refl _ | assumption | refine Gr.alloc ?_ _ | refine Gr.drew ?_ | refine Gr.drewN ?_ _ | refine Gr.trans ?_ (by assumption))); done))
      | (go_at_call 23; refine (joined_calls _ [gre ve pr s k q a su ky sq ak, l] _ (isBs_at _ _ [gre ve pr s k q a su ky sq ak, l] _ (Reads.cons (IsB.gr (by assumption) (by (repeat (with_reducible first | exact Gr.refl _ | assumption | refine Gr.alloc ?_ _ | refine Gr.drew ?_ | refine Gr.drewN ?_ _ | refine Gr.trans ?_ (by assumption))); done)) (Reads.cons (IsB.gr (by assumption) (by (repeat (with_reducible first | exact Gr.refl _ | assumption | refine Gr.alloc ?_ _ | refine Gr.drew ?_ | refine Gr.drewN ?_ _ | refine Gr.trans ?_ (by assumption))); done)) (Reads.nil _))) _ rfl _ (by simp)) XL.out (by simp)).mono ?_; rintro e w9 ⟨_, _, _, rfl, ho9, hg9⟩; have hb9 := ho9.isB; obtain ⟨hs9, hc9⟩ := Gr.boxed (w := w) (cs := [.int .i64 ve, .int .i64 pr, .bool s, .bool k, .bool q, .bool a, .int .i64 su, .int .i64 ky, .int .i64 sq, .int .i64 ak]) (t := 69) (w' := w9) (by (repeat (with_reducible first | exact Gr.refl _ | assumption | refine Gr.alloc ?_ _ | refine Gr.drew ?_ | refine Gr.drewN ?_ _ | refine Gr.trans ?_ (by assumption))); done))
      | (go_at_call 16; refine (same_calls _ _ _ _ _ (IsB.gr (by assumption) (by (repeat (with_reducible first | exact Gr.refl _ | assumption | refine Gr.alloc ?_ _ | refine Gr.drew ?_ | refine Gr.drewN ?_ _ | refine Gr.trans ?_ (by assumption))); done)) (IsB.gr (by assumption) (by (repeat (with_reducible first | exact Gr.refl _ | assumption | refine Gr.alloc ?_ _ | refine Gr.drew ?_ | refine Gr.drewN ?_ _ | refine Gr.trans ?_ (by assumption))); done))).mono ?_; rintro e w9 ⟨rfl, rfl⟩))
        go_ret
        exact ⟨by simp, (by (repeat (with_reducible first | exact Gr.refl _ | assumption | refine Gr.alloc ?_ _ | refine Gr.drew ?_ | refine Gr.drewN ?_ _ | refine Gr.trans ?_ (by assumption))); done)⟩

end Go.Proofs.Ytbojideclbjlgaa
