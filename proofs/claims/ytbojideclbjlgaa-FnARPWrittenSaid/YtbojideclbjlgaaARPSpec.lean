/-
  A question for an address: the law's own functions.
-/
import Derived.Test.YtbojideclbjlgaaLib2
import Derived.Test.YtbojideclbjlgaaLib3
import Derived.Test.YtbojideclbjlgaaBase
import Derived.Deep.RegionHeld3
import Derived.Deep.RegionWith
namespace Go.Proofs.Ytbojideclbjlgaa
open Go.RowKit

def zz2 (l1 l2 l3 l4 : List Int) : Bool := decide ((l1.length : Int) ≤ 2147483647) && decide ((l2.length : Int) ≤ 2147483647) && decide ((l3.length : Int) ≤ 2147483647) && decide ((l4.length : Int) ≤ 2147483647)

set_option maxRecDepth 100000 in
set_option maxHeartbeats 1000000 in
theorem zz2_calls (li pr op : Int) (a1 : Option Addr) (n1 c1 : Nat) (a2 : Option Addr) (n2 c2 : Nat) (a3 : Option Addr) (n3 c3 : Nat) (a4 : Option Addr) (n4 c4 : Nat) (l1 l2 l3 l4 : List Int) (w : World) (h1 : IsB w (.slice a1 n1 c1) l1) (h2 : IsB w (.slice a2 n2 c2) l2) (h3 : IsB w (.slice a3 n3 c3) l3) (h4 : IsB w (.slice a4 n4 c4) l4) :
    Calls Try.prog 31 #[.agg #[.int .i64 li, .int .i64 pr, .int .i64 op, .slice a1 n1 c1, .slice a2 n2 c2, .slice a3 n3 c3, .slice a4 n4 c4]] w fun e w' => e = .returned (.bool (zz2 l1 l2 l3 l4)) ∧ Gr w w' := by
  have g1 := fun ty => h1.len (P := Try.prog) 22 ty 5 Try.underlying22
  have g2 := fun ty => h2.len (P := Try.prog) 22 ty 5 Try.underlying22
  have g3 := fun ty => h3.len (P := Try.prog) 22 ty 5 Try.underlying22
  have g4 := fun ty => h4.len (P := Try.prog) 22 ty 5 Try.underlying22
  by_cases hc0 : (l1.length : Int) ≤ 2147483647
  case neg =>
    have hd0 := decide_eq_false hc0
    go_enter Try.func31, Try.ntmps31
    go_wp2_with (fail)
    go_ret
    exact ⟨by simp [zz2, hd0], (by repeat (with_reducible first | exact Gr.refl _ | assumption | refine Gr.alloc ?_ _ | refine Gr.drew ?_ | refine Gr.drewN ?_ _ | refine Gr.trans ?_ (by assumption)))⟩
  case pos =>
    have hd0 := decide_eq_true hc0
    by_cases hc1 : (l2.length : Int) ≤ 2147483647
    case neg =>
      have hd1 := decide_eq_false hc1
      go_enter Try.func31, Try.ntmps31
      go_wp2_with (fail)
      go_ret
      exact ⟨by simp [zz2, hd0, hd1], (by repeat (with_reducible first | exact Gr.refl _ | assumption | refine Gr.alloc ?_ _ | refine Gr.drew ?_ | refine Gr.drewN ?_ _ | refine Gr.trans ?_ (by assumption)))⟩
    case pos =>
      have hd1 := decide_eq_true hc1
      by_cases hc2 : (l3.length : Int) ≤ 2147483647
      case neg =>
        have hd2 := decide_eq_false hc2
        go_enter Try.func31, Try.ntmps31
        go_wp2_with (fail)
        go_ret
        exact ⟨by simp [zz2, hd0, hd1, hd2], (by repeat (with_reducible first | exact Gr.refl _ | assumption | refine Gr.alloc ?_ _ | refine Gr.drew ?_ | refine Gr.drewN ?_ _ | refine Gr.trans ?_ (by assumption)))⟩
      case pos =>
        have hd2 := decide_eq_true hc2
        by_cases hc3 : (l4.length : Int) ≤ 2147483647
        case neg =>
          have hd3 := decide_eq_false hc3
          go_enter Try.func31, Try.ntmps31
          go_wp2_with (fail)
          go_ret
          exact ⟨by simp [zz2, hd0, hd1, hd2, hd3], (by repeat (with_reducible first | exact Gr.refl _ | assumption | refine Gr.alloc ?_ _ | refine Gr.drew ?_ | refine Gr.drewN ?_ _ | refine Gr.trans ?_ (by assumption)))⟩
        case pos =>
          have hd3 := decide_eq_true hc3
          go_enter Try.func31, Try.ntmps31
          go_wp2_with (fail)
          go_ret
          exact ⟨by simp [zz2, hd0, hd1, hd2, hd3], (by repeat (with_reducible first | exact Gr.refl _ | assumption | refine Gr.alloc ?_ _ | refine Gr.drew ?_ | refine Gr.drewN ?_ _ | refine Gr.trans ?_ (by assumption)))⟩

def isARPk (li pr op k1 k2 k3 k4 : Int) : Bool := (k1 == k3) && (k2 == k4) && decide (k1 ≤ 255) && decide (k2 ≤ 255) && upto li 255 && upto pr 65535 && upto op 65535
def isARP (li pr op : Int) (l1 l2 l3 l4 : List Int) : Bool := isARPk li pr op l1.length l2.length l3.length l4.length

set_option maxRecDepth 100000 in
set_option maxHeartbeats 1000000 in
theorem isARP_calls (li pr op : Int) (a1 : Option Addr) (n1 c1 : Nat) (a2 : Option Addr) (n2 c2 : Nat) (a3 : Option Addr) (n3 c3 : Nat) (a4 : Option Addr) (n4 c4 : Nat) (l1 l2 l3 l4 : List Int) (w : World) (h1 : IsB w (.slice a1 n1 c1) l1) (h2 : IsB w (.slice a2 n2 c2) l2) (h3 : IsB w (.slice a3 n3 c3) l3) (h4 : IsB w (.slice a4 n4 c4) l4) :
    Calls Try.prog 32 #[.agg #[.int .i64 li, .int .i64 pr, .int .i64 op, .slice a1 n1 c1, .slice a2 n2 c2, .slice a3 n3 c3, .slice a4 n4 c4]] w fun e w' => e = .returned (.bool (isARP li pr op l1 l2 l3 l4)) ∧ Gr w w' := by
  have g1 := fun ty => h1.len (P := Try.prog) 22 ty 5 Try.underlying22
  have g2 := fun ty => h2.len (P := Try.prog) 22 ty 5 Try.underlying22
  have g3 := fun ty => h3.len (P := Try.prog) 22 ty 5 Try.underlying22
  have g4 := fun ty => h4.len (P := Try.prog) 22 ty 5 Try.underlying22
  obtain ⟨k1, hk1⟩ : ∃ k, k = (l1.length : Int) := ⟨_, rfl⟩
  rw [← hk1] at g1
  obtain ⟨k2, hk2⟩ : ∃ k, k = (l2.length : Int) := ⟨_, rfl⟩
  rw [← hk2] at g2
  obtain ⟨k3, hk3⟩ : ∃ k, k = (l3.length : Int) := ⟨_, rfl⟩
  rw [← hk3] at g3
  obtain ⟨k4, hk4⟩ : ∃ k, k = (l4.length : Int) := ⟨_, rfl⟩
  rw [← hk4] at g4
  have E : isARP li pr op l1 l2 l3 l4 = isARPk li pr op k1 k2 k3 k4 := by rw [hk1, hk2, hk3, hk4]; rfl
  rw [E]
  clear E hk1 hk2 hk3 hk4
  by_cases hp0 : k1 = k3
  case neg =>
    have hb0 : (k1 != k3) = true := bne_iff_ne.2 hp0
    have hc0 : (k1 == k3) = false := beq_false_of_ne hp0
    go_enter Try.func32, Try.ntmps32
    go_wp2_with ((first | (go_at_call 66; refine (upTo_calls _ _ _).mono ?_; rintro e w9 ⟨rfl, rfl⟩)))
    go_ret
    exact ⟨by simp [isARPk, hc0], (by repeat (with_reducible first | exact Gr.refl _ | assumption | refine Gr.alloc ?_ _ | refine Gr.drew ?_ | refine Gr.drewN ?_ _ | refine Gr.trans ?_ (by assumption)))⟩
  case pos =>
    subst hp0
    by_cases hp1 : k2 = k4
    case neg =>
      have hb1 : (k2 != k4) = true := bne_iff_ne.2 hp1
      have hc1 : (k2 == k4) = false := beq_false_of_ne hp1
      go_enter Try.func32, Try.ntmps32
      go_wp2_with ((first | (go_at_call 66; refine (upTo_calls _ _ _).mono ?_; rintro e w9 ⟨rfl, rfl⟩)))
      go_ret
      exact ⟨by simp [isARPk, hc1], (by repeat (with_reducible first | exact Gr.refl _ | assumption | refine Gr.alloc ?_ _ | refine Gr.drew ?_ | refine Gr.drewN ?_ _ | refine Gr.trans ?_ (by assumption)))⟩
    case pos =>
      subst hp1
      by_cases hp2 : k1 ≤ 255
      case neg =>
        have hc2 := decide_eq_false hp2
        go_enter Try.func32, Try.ntmps32
        go_wp2_with ((first | (go_at_call 66; refine (upTo_calls _ _ _).mono ?_; rintro e w9 ⟨rfl, rfl⟩)))
        go_ret
        exact ⟨by simp [isARPk, hc2], (by repeat (with_reducible first | exact Gr.refl _ | assumption | refine Gr.alloc ?_ _ | refine Gr.drew ?_ | refine Gr.drewN ?_ _ | refine Gr.trans ?_ (by assumption)))⟩
      case pos =>
        have hc2 := decide_eq_true hp2
        by_cases hp3 : k2 ≤ 255
        case neg =>
          have hc3 := decide_eq_false hp3
          go_enter Try.func32, Try.ntmps32
          go_wp2_with ((first | (go_at_call 66; refine (upTo_calls _ _ _).mono ?_; rintro e w9 ⟨rfl, rfl⟩)))
          go_ret
          exact ⟨by simp [isARPk, hc2, hc3], (by repeat (with_reducible first | exact Gr.refl _ | assumption | refine Gr.alloc ?_ _ | refine Gr.drew ?_ | refine Gr.drewN ?_ _ | refine Gr.trans ?_ (by assumption)))⟩
        case pos =>
          have hc3 := decide_eq_true hp3
          cases hc4 : (upto li 255 : Bool) with
          | false =>
            go_enter Try.func32, Try.ntmps32
            go_wp2_with ((first | (go_at_call 66; refine (upTo_calls _ _ _).mono ?_; rintro e w9 ⟨rfl, rfl⟩)))
            go_ret
            exact ⟨by simp [isARPk, hc2, hc3, hc4], (by repeat (with_reducible first | exact Gr.refl _ | assumption | refine Gr.alloc ?_ _ | refine Gr.drew ?_ | refine Gr.drewN ?_ _ | refine Gr.trans ?_ (by assumption)))⟩
          | true =>
            cases hc5 : (upto pr 65535 : Bool) with
            | false =>
              go_enter Try.func32, Try.ntmps32
              go_wp2_with ((first | (go_at_call 66; refine (upTo_calls _ _ _).mono ?_; rintro e w9 ⟨rfl, rfl⟩)))
              go_ret
              exact ⟨by simp [isARPk, hc2, hc3, hc4, hc5], (by repeat (with_reducible first | exact Gr.refl _ | assumption | refine Gr.alloc ?_ _ | refine Gr.drew ?_ | refine Gr.drewN ?_ _ | refine Gr.trans ?_ (by assumption)))⟩
            | true =>
              cases hc6 : (upto op 65535 : Bool) with
              | false =>
                go_enter Try.func32, Try.ntmps32
                go_wp2_with ((first | (go_at_call 66; refine (upTo_calls _ _ _).mono ?_; rintro e w9 ⟨rfl, rfl⟩)))
                go_ret
                exact ⟨by simp [isARPk, hc2, hc3, hc4, hc5, hc6], (by repeat (with_reducible first | exact Gr.refl _ | assumption | refine Gr.alloc ?_ _ | refine Gr.drew ?_ | refine Gr.drewN ?_ _ | refine Gr.trans ?_ (by assumption)))⟩
              | true =>
                go_enter Try.func32, Try.ntmps32
                go_wp2_with ((first | (go_at_call 66; refine (upTo_calls _ _ _).mono ?_; rintro e w9 ⟨rfl, rfl⟩)))
                go_ret
                exact ⟨by simp [isARPk, hc2, hc3, hc4, hc5, hc6], (by repeat (with_reducible first | exact Gr.refl _ | assumption | refine Gr.alloc ?_ _ | refine Gr.drew ?_ | refine Gr.drewN ?_ _ | refine Gr.trans ?_ (by assumption)))⟩

def isLong (l1 l2 : List Int) : Bool := decide (255 < 8 + 2 * (l1.length : Int) + 2 * (l2.length : Int))

def arp (li pr op : Int) (l1 l2 l3 l4 : List Int) : List Int := [sh li, sh pr, [(l1.length : Int), (l2.length : Int)], sh op, l1, l2, l3, l4].flatten

set_option maxRecDepth 100000 in
set_option maxHeartbeats 1000000 in
theorem arp_calls (li pr op : Int) (a1 : Option Addr) (n1 c1 : Nat) (a2 : Option Addr) (n2 c2 : Nat) (a3 : Option Addr) (n3 c3 : Nat) (a4 : Option Addr) (n4 c4 : Nat) (l1 l2 l3 l4 : List Int) (w : World) (h1 : IsB w (.slice a1 n1 c1) l1) (h2 : IsB w (.slice a2 n2 c2) l2) (h3 : IsB w (.slice a3 n3 c3) l3) (h4 : IsB w (.slice a4 n4 c4) l4) (hl1 : l1.length ≤ 255) (hl2 : l2.length ≤ 255) (hl3 : l3.length ≤ 255) (hl4 : l4.length ≤ 255) :
    Calls Try.prog 34 #[.agg #[.int .i64 li, .int .i64 pr, .int .i64 op, .slice a1 n1 c1, .slice a2 n2 c2, .slice a3 n3 c3, .slice a4 n4 c4]] w (RetB w (arp li pr op l1 l2 l3 l4)) := by
  have g1 := fun ty => h1.len (P := Try.prog) 22 ty 5 Try.underlying22
  have g2 := fun ty => h2.len (P := Try.prog) 22 ty 5 Try.underlying22
  have g3 := fun ty => h3.len (P := Try.prog) 22 ty 5 Try.underlying22
  have g4 := fun ty => h4.len (P := Try.prog) 22 ty 5 Try.underlying22
  have wt : IntKind.u8.wrap (l1.length : Int) = l1.length := by simp [IntKind.wrap, IntKind.bits, IntKind.signed]; omega
  have wc : IntKind.u8.wrap (l2.length : Int) = l2.length := by simp [IntKind.wrap, IntKind.bits, IntKind.signed]; omega
  go_enter Try.func34, Try.ntmps34
  go_wp2_with fail
  go_region_held3 (fun w' => w'.cell? ⟨w.heap.size, 0, none⟩ = some (.int .i64 li) ∧ w'.cell? ⟨w.heap.size, 1, none⟩ = some (.int .i64 pr) ∧ w'.cell? ⟨w.heap.size, 2, none⟩ = some (.int .i64 op) ∧ w'.cell? ⟨w.heap.size, 3, none⟩ = some (.slice a1 n1 c1) ∧ w'.cell? ⟨w.heap.size, 4, none⟩ = some (.slice a2 n2 c2) ∧ w'.cell? ⟨w.heap.size, 5, none⟩ = some (.slice a3 n3 c3) ∧ w'.cell? ⟨w.heap.size, 6, none⟩ = some (.slice a4 n4 c4)) (first | exact And.imp (Gr.cell (by assumption)) (And.imp (Gr.cell (by assumption)) (And.imp (Gr.cell (by assumption)) (And.imp (Gr.cell (by assumption)) (And.imp (Gr.cell (by assumption)) (And.imp (Gr.cell (by assumption)) (Gr.cell (by assumption))))))) (by assumption) | go_keep) (first
    | (go_at_call 74; refine (short_calls _ _).mono ?_; rintro e w9 ⟨_, _, _, rfl, ho9, hg9⟩; have hb9 := ho9.isB)
    | (go_at_call 23; refine (joined_calls _ [sh li, sh pr, [(l1.length : Int), (l2.length : Int)], sh op, l1, l2, l3, l4] _ (isBs_at _ _ [sh li, sh pr, [(l1.length : Int), (l2.length : Int)], sh op, l1, l2, l3, l4] _ (Reads.cons (IsB.gr (by assumption) (by repeat (with_reducible first | exact Gr.refl _ | assumption | refine Gr.alloc ?_ _ | refine Gr.drew ?_ | refine Gr.drewN ?_ _ | refine Gr.trans ?_ (by assumption)))) (Reads.cons (IsB.gr (by assumption) (by repeat (with_reducible first | exact Gr.refl _ | assumption | refine Gr.alloc ?_ _ | refine Gr.drew ?_ | refine Gr.drewN ?_ _ | refine Gr.trans ?_ (by assumption)))) (Reads.cons (lit2_gr (by repeat (with_reducible first | exact Gr.refl _ | assumption | refine Gr.alloc ?_ _ | refine Gr.drew ?_ | refine Gr.drewN ?_ _ | refine Gr.trans ?_ (by assumption))) (by simp) (by omega) (by omega)) (Reads.cons (IsB.gr (by assumption) (by repeat (with_reducible first | exact Gr.refl _ | assumption | refine Gr.alloc ?_ _ | refine Gr.drew ?_ | refine Gr.drewN ?_ _ | refine Gr.trans ?_ (by assumption)))) (Reads.cons (IsB.gr (by assumption) (by repeat (with_reducible first | exact Gr.refl _ | assumption | refine Gr.alloc ?_ _ | refine Gr.drew ?_ | refine Gr.drewN ?_ _ | refine Gr.trans ?_ (by assumption)))) (Reads.cons (IsB.gr (by assumption) (by repeat (with_reducible first | exact Gr.refl _ | assumption | refine Gr.alloc ?_ _ | refine Gr.drew ?_ | refine Gr.drewN ?_ _ | refine Gr.trans ?_ (by assumption)))) (Reads.cons (IsB.gr (by assumption) (by repeat (with_reducible first | exact Gr.refl _ | assumption | refine Gr.alloc ?_ _ | refine Gr.drew ?_ | refine Gr.drewN ?_ _ | refine Gr.trans ?_ (by assumption)))) (Reads.cons (IsB.gr (by assumption) (by repeat (with_reducible first | exact Gr.refl _ | assumption | refine Gr.alloc ?_ _ | refine Gr.drew ?_ | refine Gr.drewN ?_ _ | refine Gr.trans ?_ (by assumption)))) (Reads.nil _))))))))) _ rfl _ (by simp)) (by simp [sh]; omega) (by simp)).mono ?_; rintro e w9 ⟨_, _, _, rfl, ho9, hg9⟩))
  go_wp2
  all_goals (go_ret; exact RetB.after (by repeat (with_reducible first | exact Gr.refl _ | assumption | refine Gr.alloc ?_ _ | refine Gr.drew ?_ | refine Gr.drewN ?_ _ | refine Gr.trans ?_ (by assumption))) ho9 hg9)

end Go.Proofs.Ytbojideclbjlgaa
