/-
  Lists of options: whether they fit, whether they are ones of a header, their bytes.
-/
import Derived.Test.YtdpffedmgmllbaaOpts
import Derived.Test.YtdpffedmgmllbaaLib2
import Derived.Test.YtdpffedmgmllbaaLib3
import Derived.Deep.RegionHeld3
import Derived.Deep.RegionLaw
namespace Go.Proofs.Ytdpffedmgmllbaa
open Go.RowKit

theorem ret_b {a b : Bool} (h : a = b) : Ending.returned (.bool a) = Ending.returned (.bool b) := by rw [h]
theorem opt_mem {os : List Opt} {k : Nat} (h : k < os.length) : os.getD k Opt.zero ∈ os := by
  rw [List.getD_eq_getElem?_getD, List.getElem?_eq_getElem h]
  exact List.getElem_mem h
theorem opt_drop {os : List Opt} {k : Nat} (h : k < os.length) : os.drop k = os.getD k Opt.zero :: os.drop (k + 1) := by
  rw [List.drop_eq_getElem_cons h, List.getD_eq_getElem?_getD, List.getElem?_eq_getElem h]
  rfl
theorem opt_take {os : List Opt} {k : Nat} (h : k < os.length) : os.take (k + 1) = os.take k ++ [os.getD k Opt.zero] := by
  rw [List.take_succ_eq_append_getElem h, List.getD_eq_getElem?_getD, List.getElem?_eq_getElem h]
  rfl

/-- its data are not too long -/
def fitO (x : Opt) : Bool := decide ((x.data.length : Int) ≤ 2147483647)
/-- they are not too long -/
def fitB (os : List Opt) : Bool := decide ((os.length : Int) ≤ 2147483647) && os.all fitO
theorem fitB_iff {os : List Opt} : fitB os = true ↔ os.length ≤ 2147483647 ∧ ∀ x ∈ os, x.data.length ≤ 2147483647 := by
  unfold fitB
  rw [Bool.and_eq_true, List.all_eq_true]
  simp only [decide_eq_true_eq, fitO]
  constructor
  · rintro ⟨h1, h2⟩
    exact ⟨by omega, fun x hx => by have := h2 x hx; omega⟩
  · rintro ⟨h1, h2⟩
    exact ⟨by omega, fun x hx => by have := h2 x hx; omega⟩

set_option maxRecDepth 100000 in
set_option maxHeartbeats 1000000 in
theorem fits5_calls (kd ln : Int) (a : Option Addr) (n c : Nat) (w : World) : Calls Try.prog 66 #[.agg #[.int .i64 kd, .int .i64 ln, .slice a n c]] w fun e w' => e = .returned (.bool (decide ((n : Int) ≤ 2147483647))) ∧ Gr w w' := by
  by_cases h : (n : Int) ≤ 2147483647
  · go_enter Try.func66, Try.ntmps66
    go_wp2_with fail
    go_ret
    exact ⟨by simp [h], (Gr.refl w).alloc _⟩
  · go_enter Try.func66, Try.ntmps66
    go_wp2_with fail
    go_ret
    exact ⟨by simp [h], (Gr.refl w).alloc _⟩

/-- what holds ahead of a round -/
def FitRel (w : World) (os : List Opt) (i : Value) (wr : World) : Prop := ∃ k : Nat, k ≤ os.length ∧ i = .int .i64 k ∧ (os.take k).all fitO = true ∧ Gr w wr

set_option maxRecDepth 100000 in
set_option maxHeartbeats 1000000 in
theorem fits4_calls (v : Value) (os : List Opt) (w : World) (h : IsOpts w v os) : Calls Try.prog 38 #[v] w fun e w' => e = .returned (.bool (fitB os)) ∧ Gr w w' := by
  have hlen := h.len
  have hm := h.max
  unfold maxLen at hm
  have H := Lib.hid h
  clear h
  by_cases hl : (os.length : Int) ≤ 2147483647
  case neg =>
    have HFB := Lib.hid (show fitB os = false by unfold fitB; rw [decide_eq_false hl]; rfl)
    go_enter Try.func38, Try.ntmps38
    go_wp2_with fail
    go_ret
    exact ⟨ret_b (a := false) HFB.out.symm, Gr.refl w⟩
  case pos =>
    go_enter Try.func38, Try.ntmps38
    go_wp2_with fail
    go_loopw [10] (FitRel w os) (fun i _ => os.length - (intOf i).toNat)
    case atStart => exact ⟨0, Nat.zero_le _, rfl, by simp, Gr.refl w⟩
    case round =>
      obtain ⟨k, hk, rfl, hall, hg⟩ := hrel
      have HA := Lib.hid hall
      clear hall
      by_cases hlt : k < os.length
      · obtain ⟨b, o, ix, hx⟩ := H.out.idx .i64 k k rfl hlt
        have hdr := opt_drop hlt
        have htk := opt_take hlt
        obtain ⟨x, hxe⟩ : ∃ x, x = os.getD k Opt.zero := ⟨_, rfl⟩
        rw [← hxe] at hx hdr htk
        have HD := Lib.hid hdr; have HT := Lib.hid htk
        clear hxe hdr htk
        obtain ⟨kd, ln, d⟩ := x
        obtain ⟨-, -, c0, c1, a, n, c, c2, hI⟩ := hx
        have c0 := hg.cell c0
        have c1 := hg.cell c1
        have c2 := hg.cell c2
        simp only at c0 c1 c2 hI
        obtain rfl := hI.count
        clear hI
        by_cases hf : (d.length : Int) ≤ 2147483647
        · have df : decide ((d.length : Int) ≤ 2147483647) = true := decide_eq_true hf
          go_wp2_with (go_at_call 66; refine (fits5_calls _ _ _ _ _ _).mono ?_; rintro e w9 ⟨rfl, hg9⟩)
          go_roundw
          case rel => exact ⟨k + 1, by omega, by go_num, by rw [HT.out, List.all_append, HA.out]; simp [fitO, hf], (by (repeat (with_reducible first | exact Gr.refl _ | assumption | refine Gr.alloc ?_ _ | refine Gr.drew ?_ | refine Gr.drewN ?_ _ | refine Gr.trans ?_ (by assumption))); done)⟩
          case measure => simp [intOf]; omega
        · have df : decide ((d.length : Int) ≤ 2147483647) = false := decide_eq_false hf
          have hfb : fitB os = false := by
            unfold fitB
            rw [Bool.and_eq_false_iff]
            right
            rw [← List.take_append_drop k os, List.all_append, HD.out]
            simp [fitO, hf]
          have HFB := Lib.hid hfb
          clear hfb
          go_wp2_with (go_at_call 66; refine (fits5_calls _ _ _ _ _ _).mono ?_; rintro e w9 ⟨rfl, hg9⟩)
          go_ret
          exact ⟨ret_b (a := false) HFB.out.symm, (by (repeat (with_reducible first | exact Gr.refl _ | assumption | refine Gr.alloc ?_ _ | refine Gr.drew ?_ | refine Gr.drewN ?_ _ | refine Gr.trans ?_ (by assumption))); done)⟩
      · go_wp2_with fail
        go_ret
        have e : k = os.length := by omega
        have := HA.out
        rw [e, List.take_length] at this
        exact ⟨ret_b (a := true) (by simp [fitB, hl, this]), hg⟩

/-- they are ones of a header; so many bytes are there already -/
def optsOk : Int → List Opt → Bool
  | _, [] => true
  | s, x :: r => if x.kind = 1 ∧ (x.len ≠ 1 ∨ x.data.length ≠ 0) ∨ x.kind ≠ 1 ∧ x.len ≠ x.data.length + 2 then false else if x.kind < 1 ∨ 255 < x.kind then false else if 40 < s + x.len then false else optsOk (s + x.len) r
/-- one of them -/
def OkOpt (x : Opt) : Prop := (x.kind = 1 ∧ x.len = 1 ∧ x.data = [] ∨ x.kind ≠ 1 ∧ x.len = x.data.length + 2) ∧ 1 ≤ x.kind ∧ x.kind ≤ 255
/-- their lengths in all -/
def lens : List Opt → Int
  | [] => 0
  | x :: r => x.len + lens r
theorem optsOk_iff : ∀ (os : List Opt) (s : Int), 0 ≤ s → optsOk s os = true → (∀ x ∈ os, OkOpt x) ∧ s + lens os ≤ max s 40
  | [], s, _, _ => by simp [lens]; omega
  | x :: r, s, h0, h => by
    rw [optsOk] at h
    split at h
    · cases h
    · rename_i h1
      split at h
      · cases h
      · rename_i h2
        split at h
        · cases h
        · rename_i h3
          have hx : OkOpt x := by
            refine ⟨?_, by omega, by omega⟩
            by_cases k1 : x.kind = 1
            · refine .inl ⟨k1, by omega, List.eq_nil_of_length_eq_zero (by omega)⟩
            · exact .inr ⟨k1, by omega⟩
          have hl : 0 ≤ x.len := by rcases hx.1 with h | h <;> omega
          obtain ⟨h4, h5⟩ := optsOk_iff r (s + x.len) (by omega) h
          refine ⟨fun y hy => ?_, ?_⟩
          · rcases List.mem_cons.1 hy with rfl | hy
            · exact hx
            · exact h4 y hy
          · rw [lens]; omega

/-- what holds ahead of a round -/
def OkRel (w : World) (os : List Opt) (t i : Value) (wr : World) : Prop := ∃ (k : Nat) (s : Int), k ≤ os.length ∧ i = .int .i64 k ∧ t = .int .i64 s ∧ 0 ≤ s ∧ s ≤ 40 ∧ optsOk s (os.drop k) = optsOk 0 os ∧ Gr w wr

set_option maxRecDepth 100000 in
set_option maxHeartbeats 4000000 in
theorem areOptions_calls (v : Value) (os : List Opt) (w : World) (h : IsOpts w v os) (hf : ∀ x ∈ os, x.data.length ≤ 2147483647) : Calls Try.prog 40 #[v] w fun e w' => e = .returned (.bool (optsOk 0 os)) ∧ Gr w w' := by
  have hlen := h.len
  have hm := h.max
  unfold maxLen at hm
  have H := Lib.hid h
  have HF := Lib.hid hf
  clear h hf
  go_enter Try.func40, Try.ntmps40
  go_wp2_with fail
  go_loopw [3, 8] (OkRel w os) (fun _ i _ => os.length - (intOf i).toNat)
  case atStart => exact ⟨0, 0, Nat.zero_le _, rfl, rfl, by omega, by omega, by simp, Gr.refl w⟩
  case round =>
    obtain ⟨k, s, hk, rfl, rfl, hs0, hs1, ho, hg⟩ := hrel
    have HO := Lib.hid ho
    clear ho
    by_cases hlt : k < os.length
    · obtain ⟨b, o, ix, hx⟩ := H.out.idx .i64 k k rfl hlt
      have hdr := opt_drop hlt
      have hdl := HF.out _ (opt_mem hlt)
      obtain ⟨x, hxe⟩ : ∃ x, x = os.getD k Opt.zero := ⟨_, rfl⟩
      rw [← hxe] at hx hdr hdl
      have HD := Lib.hid hdr
      clear hxe hdr
      obtain ⟨kd, ln, d⟩ := x
      obtain ⟨-, -, c0, c1, a, n, c, c2, hI⟩ := hx
      have c0 := hg.cell c0
      have c1 := hg.cell c1
      have c2 := hg.cell c2
      simp only at c0 c1 c2 hI hdl
      obtain rfl := hI.count
      clear hI
      have uL : IntKind.i64.wrap ((d.length : Int) + 2) = (d.length : Int) + 2 := w64 (by omega) (by omega)
      by_cases k1 : kd = 1
      · have e1 : (kd == 1) = true := by simp [k1]
        have e2 : (kd != 1) = false := by simp [k1]
        have g1 : decide (kd < 1) = false := decide_eq_false (by omega)
        have g2 : decide (255 < kd) = false := decide_eq_false (by omega)
        by_cases l1 : ln = 1
        · have e3 : (ln != 1) = false := by simp [l1]
          by_cases d0 : d.length = 0
          · have e4 : ((d.length : Int) != 0) = false := by simp [List.eq_nil_of_length_eq_zero d0]
            have K1 := Lib.hid k1; have L1 := Lib.hid l1
            have ll : 1 ≤ ln := by omega
            have lu : ln ≤ 1 := by omega
            have ku : kd ≤ 1 := by omega
            have kl : 1 ≤ kd := by omega
            have D0 := Lib.hid d0
            clear k1 l1 d0
            by_cases t : 40 < s + ln
            · have e5 : decide (40 < s + ln) = true := decide_eq_true t
              go_wp2_with fail
              go_ret
              exact ⟨ret_b (a := false) <| by rw [← HO.out, HD.out, optsOk, if_neg (by simp [K1.out, L1.out]; exact List.eq_nil_of_length_eq_zero D0.out), if_neg (by simp; omega), if_pos t], (by (repeat (with_reducible first | exact Gr.refl _ | assumption | refine Gr.alloc ?_ _ | refine Gr.drew ?_ | refine Gr.drewN ?_ _ | refine Gr.trans ?_ (by assumption))); done)⟩
            · have e5 : decide (40 < s + ln) = false := decide_eq_false t
              go_wp2_with fail
              go_roundw
              case rel => exact ⟨k + 1, s + ln, by omega, by go_num, rfl, by omega, by omega, by rw [← HO.out, HD.out, optsOk, if_neg (by simp [K1.out, L1.out]; exact List.eq_nil_of_length_eq_zero D0.out), if_neg (by simp; omega), if_neg t], (by (repeat (with_reducible first | exact Gr.refl _ | assumption | refine Gr.alloc ?_ _ | refine Gr.drew ?_ | refine Gr.drewN ?_ _ | refine Gr.trans ?_ (by assumption))); done)⟩
              case measure => simp [intOf]; omega
          · have e4 : ((d.length : Int) != 0) = true := by simp; intro h; exact d0 (by simp [h])
            have K1 := Lib.hid k1; have L1 := Lib.hid l1; have D0 := Lib.hid d0
            clear k1 l1 d0
            go_wp2_with fail
            go_ret
            exact ⟨ret_b (a := false) <| by rw [← HO.out, HD.out, optsOk, if_pos (.inl ⟨K1.out, .inr D0.out⟩)], (by (repeat (with_reducible first | exact Gr.refl _ | assumption | refine Gr.alloc ?_ _ | refine Gr.drew ?_ | refine Gr.drewN ?_ _ | refine Gr.trans ?_ (by assumption))); done)⟩
        · have e3 : (ln != 1) = true := by simp [l1]
          have K1 := Lib.hid k1; have L1 := Lib.hid l1
          clear k1 l1
          go_wp2_with fail
          go_ret
          exact ⟨ret_b (a := false) <| by rw [← HO.out, HD.out, optsOk, if_pos (.inl ⟨K1.out, .inl L1.out⟩)], (by (repeat (with_reducible first | exact Gr.refl _ | assumption | refine Gr.alloc ?_ _ | refine Gr.drew ?_ | refine Gr.drewN ?_ _ | refine Gr.trans ?_ (by assumption))); done)⟩
      · have e1 : (kd == 1) = false := by simp [k1]
        have e2 : (kd != 1) = true := by simp [k1]
        have K1 := Lib.hid k1
        clear k1
        by_cases l1 : ln = d.length + 2
        · have e3 : (ln != (d.length : Int) + 2) = false := by simp [l1]
          have L1 := Lib.hid l1
          have ll : (d.length : Int) + 2 ≤ ln := by omega
          have lu : ln ≤ (d.length : Int) + 2 := by omega
          clear l1
          have n1 : ¬ (kd = 1 ∧ (ln ≠ 1 ∨ d.length ≠ 0) ∨ kd ≠ 1 ∧ ln ≠ d.length + 2) := by
            rintro (⟨h, -⟩ | ⟨-, h⟩)
            · exact K1.out h
            · exact h L1.out
          have N1 := Lib.hid n1
          clear n1
          by_cases r1 : kd < 1
          · have g1 : decide (kd < 1) = true := decide_eq_true r1
            go_wp2_with fail
            go_ret
            exact ⟨ret_b (a := false) <| by rw [← HO.out, HD.out, optsOk, if_neg N1.out, if_pos (.inl r1)], (by (repeat (with_reducible first | exact Gr.refl _ | assumption | refine Gr.alloc ?_ _ | refine Gr.drew ?_ | refine Gr.drewN ?_ _ | refine Gr.trans ?_ (by assumption))); done)⟩
          · have g1 : decide (kd < 1) = false := decide_eq_false r1
            by_cases r2 : 255 < kd
            · have g2 : decide (255 < kd) = true := decide_eq_true r2
              go_wp2_with fail
              go_ret
              exact ⟨ret_b (a := false) <| by rw [← HO.out, HD.out, optsOk, if_neg N1.out, if_pos (.inr r2)], (by (repeat (with_reducible first | exact Gr.refl _ | assumption | refine Gr.alloc ?_ _ | refine Gr.drew ?_ | refine Gr.drewN ?_ _ | refine Gr.trans ?_ (by assumption))); done)⟩
            · have g2 : decide (255 < kd) = false := decide_eq_false r2
              have n2 : ¬ (kd < 1 ∨ 255 < kd) := by omega
              have N2 := Lib.hid n2
              clear n2
              by_cases t : 40 < s + ln
              · have e5 : decide (40 < s + ln) = true := decide_eq_true t
                go_wp2_with fail
                go_ret
                exact ⟨ret_b (a := false) <| by rw [← HO.out, HD.out, optsOk, if_neg N1.out, if_neg N2.out, if_pos t], (by (repeat (with_reducible first | exact Gr.refl _ | assumption | refine Gr.alloc ?_ _ | refine Gr.drew ?_ | refine Gr.drewN ?_ _ | refine Gr.trans ?_ (by assumption))); done)⟩
              · have e5 : decide (40 < s + ln) = false := decide_eq_false t
                go_wp2_with fail
                go_roundw
                case rel => exact ⟨k + 1, s + ln, by omega, by go_num, rfl, by omega, by omega, by rw [← HO.out, HD.out, optsOk, if_neg N1.out, if_neg N2.out, if_neg t], (by (repeat (with_reducible first | exact Gr.refl _ | assumption | refine Gr.alloc ?_ _ | refine Gr.drew ?_ | refine Gr.drewN ?_ _ | refine Gr.trans ?_ (by assumption))); done)⟩
                case measure => simp [intOf]; omega
        · have e3 : (ln != (d.length : Int) + 2) = true := by simp [l1]
          have L1 := Lib.hid l1
          clear l1
          go_wp2_with fail
          go_ret
          exact ⟨ret_b (a := false) <| by rw [← HO.out, HD.out, optsOk, if_pos (.inr ⟨K1.out, L1.out⟩)], (by (repeat (with_reducible first | exact Gr.refl _ | assumption | refine Gr.alloc ?_ _ | refine Gr.drew ?_ | refine Gr.drewN ?_ _ | refine Gr.trans ?_ (by assumption))); done)⟩
    · go_wp2_with fail
      go_ret
      have := HO.out
      rw [List.drop_of_length_le (by omega), optsOk] at this
      exact ⟨ret_b (a := true) (by rw [← this]), hg⟩

end Go.Proofs.Ytdpffedmgmllbaa
