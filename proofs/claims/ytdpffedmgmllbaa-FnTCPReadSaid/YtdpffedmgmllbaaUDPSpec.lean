/-
  The header that checksums have in front; the header of a datagram: the law's own functions.
-/
import Derived.Test.YtdpffedmgmllbaaCk
import Derived.Test.YtdpffedmgmllbaaLib2
import Derived.Deep.RegionHeld3
import Derived.Deep.RegionWith
namespace Go.Proofs.Ytdpffedmgmllbaa
open Go.RowKit

/-- the header that a checksum over addresses has in front -/
def psd (ls ld : List Int) (p n : Int) : List Int := if ls.length = 4 then [ls, ld, [0, p % 256], sh n].flatten else [ls, ld, lo n, [0, 0, 0, p % 256]].flatten

set_option maxRecDepth 100000 in
set_option maxHeartbeats 1000000 in
theorem pseudo_calls (a0 : Option Addr) (n0 c0 : Nat) (a1 : Option Addr) (n1 c1 : Nat) (ls ld : List Int) (p n : Int) (w : World) (hs : IsB w (.slice a0 n0 c0) ls) (hd : IsB w (.slice a1 n1 c1) ld) (h0 : ls.length ≤ 16) (h1 : ld.length ≤ 16) :
    Calls Try.prog 42 #[.slice a0 n0 c0, .slice a1 n1 c1, .int .i64 p, .int .i64 n] w (RetB w (psd ls ld p n)) := by
  have g0 := fun ty => hs.len (P := Try.prog) 25 ty 5 Try.underlying25
  by_cases h4 : ls.length = 4
  · have e4 : ((ls.length : Int) == 4) = true := by simp; omega
    have E : Hid (psd ls ld p n = [ls, ld, [0, p % 256], sh n].flatten) := if_pos h4
    clear h4
    go_enter Try.func42, Try.ntmps42
    go_wp2_with (first
      | (go_at_call 46; refine (short_calls _ _).mono ?_; rintro e w9 ⟨_, _, _, rfl, ho9, hg9⟩; have hb9 := ho9.isB)
      | (go_at_call 15; refine (joined_calls _ [ls, ld, [0, p % 256], sh n] _ (isBs_at _ _ [ls, ld, [0, p % 256], sh n] _ (Reads.cons (IsB.gr (by assumption) (by repeat (with_reducible first | exact Gr.refl _ | assumption | refine Gr.alloc ?_ _ | refine Gr.drew ?_ | refine Gr.drewN ?_ _ | refine Gr.trans ?_ (by assumption)))) (Reads.cons (IsB.gr (by assumption) (by repeat (with_reducible first | exact Gr.refl _ | assumption | refine Gr.alloc ?_ _ | refine Gr.drew ?_ | refine Gr.drewN ?_ _ | refine Gr.trans ?_ (by assumption)))) (Reads.cons (lit2_gr (by repeat (with_reducible first | exact Gr.refl _ | assumption | refine Gr.alloc ?_ _ | refine Gr.drew ?_ | refine Gr.drewN ?_ _ | refine Gr.trans ?_ (by assumption))) (by simp) (by omega) (by omega)) (Reads.cons (IsB.gr (by assumption) (by repeat (with_reducible first | exact Gr.refl _ | assumption | refine Gr.alloc ?_ _ | refine Gr.drew ?_ | refine Gr.drewN ?_ _ | refine Gr.trans ?_ (by assumption)))) (Reads.nil _))))) _ rfl _ (by simp)) (by simp [sh]; omega) (by simp)).mono ?_; rintro e w9 ⟨_, _, _, rfl, ho9, hg9⟩))
    go_ret
    rw [E.out]
    exact RetB.after (by repeat (with_reducible first | exact Gr.refl _ | assumption | refine Gr.alloc ?_ _ | refine Gr.drew ?_ | refine Gr.drewN ?_ _ | refine Gr.trans ?_ (by assumption))) ho9 hg9
  · have e4 : ((ls.length : Int) == 4) = false := by simp; omega
    have E : Hid (psd ls ld p n = [ls, ld, lo n, [0, 0, 0, p % 256]].flatten) := if_neg h4
    clear h4
    go_enter Try.func42, Try.ntmps42
    go_wp2_with (first
      | (go_at_call 47; refine (long_calls _ _).mono ?_; rintro e w9 ⟨_, _, _, rfl, ho9, hg9⟩; have hb9 := ho9.isB)
      | (go_at_call 15; refine (joined_calls _ [ls, ld, lo n, [0, 0, 0, p % 256]] _ (isBs_at _ _ [ls, ld, lo n, [0, 0, 0, p % 256]] _ (Reads.cons (IsB.gr (by assumption) (by repeat (with_reducible first | exact Gr.refl _ | assumption | refine Gr.alloc ?_ _ | refine Gr.drew ?_ | refine Gr.drewN ?_ _ | refine Gr.trans ?_ (by assumption)))) (Reads.cons (IsB.gr (by assumption) (by repeat (with_reducible first | exact Gr.refl _ | assumption | refine Gr.alloc ?_ _ | refine Gr.drew ?_ | refine Gr.drewN ?_ _ | refine Gr.trans ?_ (by assumption)))) (Reads.cons (IsB.gr (by assumption) (by repeat (with_reducible first | exact Gr.refl _ | assumption | refine Gr.alloc ?_ _ | refine Gr.drew ?_ | refine Gr.drewN ?_ _ | refine Gr.trans ?_ (by assumption)))) (Reads.cons (lit4_gr (by repeat (with_reducible first | exact Gr.refl _ | assumption | refine Gr.alloc ?_ _ | refine Gr.drew ?_ | refine Gr.drewN ?_ _ | refine Gr.trans ?_ (by assumption))) (by simp) (by omega) (by omega) (by omega) (by omega)) (Reads.nil _))))) _ rfl _ (by simp)) (by simp [sh, lo]; omega) (by simp)).mono ?_; rintro e w9 ⟨_, _, _, rfl, ho9, hg9⟩))
    go_ret
    rw [E.out]
    exact RetB.after (by repeat (with_reducible first | exact Gr.refl _ | assumption | refine Gr.alloc ?_ _ | refine Gr.drew ?_ | refine Gr.drewN ?_ _ | refine Gr.trans ?_ (by assumption))) ho9 hg9

def isUDP (s d : Int) : Bool := upto s 65535 && upto d 65535

set_option maxRecDepth 100000 in
set_option maxHeartbeats 1000000 in
theorem isUDP_calls (s d n c : Int) (w : World)  :
    Calls Try.prog 34 #[.agg #[.int .i64 s, .int .i64 d, .int .i64 n, .int .i64 c]] w fun e w' => e = .returned (.bool (isUDP s d)) ∧ Gr w w' := by
  cases hc0 : (upto s 65535 : Bool) with
  | false =>
    go_enter Try.func34, Try.ntmps34
    go_wp2_with ((first | (go_at_call 39; refine (upTo_calls _ _ _).mono ?_; rintro e w9 ⟨rfl, rfl⟩)))
    go_ret
    exact ⟨by simp [isUDP, hc0], (by repeat (with_reducible first | exact Gr.refl _ | assumption | refine Gr.alloc ?_ _ | refine Gr.drew ?_ | refine Gr.drewN ?_ _ | refine Gr.trans ?_ (by assumption)))⟩
  | true =>
    cases hc1 : (upto d 65535 : Bool) with
    | false =>
      go_enter Try.func34, Try.ntmps34
      go_wp2_with ((first | (go_at_call 39; refine (upTo_calls _ _ _).mono ?_; rintro e w9 ⟨rfl, rfl⟩)))
      go_ret
      exact ⟨by simp [isUDP, hc0, hc1], (by repeat (with_reducible first | exact Gr.refl _ | assumption | refine Gr.alloc ?_ _ | refine Gr.drew ?_ | refine Gr.drewN ?_ _ | refine Gr.trans ?_ (by assumption)))⟩
    | true =>
      go_enter Try.func34, Try.ntmps34
      go_wp2_with ((first | (go_at_call 39; refine (upTo_calls _ _ _).mono ?_; rintro e w9 ⟨rfl, rfl⟩)))
      go_ret
      exact ⟨by simp [isUDP, hc0, hc1], (by repeat (with_reducible first | exact Gr.refl _ | assumption | refine Gr.alloc ?_ _ | refine Gr.drew ?_ | refine Gr.drewN ?_ _ | refine Gr.trans ?_ (by assumption)))⟩

def udp (s d n c : Int) : List Int := [sh s, sh d, sh n, sh c].flatten

set_option maxRecDepth 100000 in
set_option maxHeartbeats 1000000 in
theorem udp_calls (s d n c : Int) (w : World)  :
    Calls Try.prog 37 #[.agg #[.int .i64 s, .int .i64 d, .int .i64 n, .int .i64 c]] w (RetB w (udp s d n c)) := by
  go_enter Try.func37, Try.ntmps37
  go_wp2_with fail
  go_region_held3 (fun w' => w'.cell? ⟨w.heap.size, 0, none⟩ = some (.int .i64 s) ∧ w'.cell? ⟨w.heap.size, 1, none⟩ = some (.int .i64 d) ∧ w'.cell? ⟨w.heap.size, 2, none⟩ = some (.int .i64 n) ∧ w'.cell? ⟨w.heap.size, 3, none⟩ = some (.int .i64 c)) (first | exact And.imp (Gr.cell (by assumption)) (And.imp (Gr.cell (by assumption)) (And.imp (Gr.cell (by assumption)) (Gr.cell (by assumption)))) (by assumption) | go_keep) (first
    | (go_at_call 46; refine (short_calls _ _).mono ?_; rintro e w9 ⟨_, _, _, rfl, ho9, hg9⟩; have hb9 := ho9.isB)
    | (go_at_call 15; refine (joined_calls _ [sh s, sh d, sh n, sh c] _ (isBs_at _ _ [sh s, sh d, sh n, sh c] _ (Reads.cons (IsB.gr (by assumption) (by repeat (with_reducible first | exact Gr.refl _ | assumption | refine Gr.alloc ?_ _ | refine Gr.drew ?_ | refine Gr.drewN ?_ _ | refine Gr.trans ?_ (by assumption)))) (Reads.cons (IsB.gr (by assumption) (by repeat (with_reducible first | exact Gr.refl _ | assumption | refine Gr.alloc ?_ _ | refine Gr.drew ?_ | refine Gr.drewN ?_ _ | refine Gr.trans ?_ (by assumption)))) (Reads.cons (IsB.gr (by assumption) (by repeat (with_reducible first | exact Gr.refl _ | assumption | refine Gr.alloc ?_ _ | refine Gr.drew ?_ | refine Gr.drewN ?_ _ | refine Gr.trans ?_ (by assumption)))) (Reads.cons (IsB.gr (by assumption) (by repeat (with_reducible first | exact Gr.refl _ | assumption | refine Gr.alloc ?_ _ | refine Gr.drew ?_ | refine Gr.drewN ?_ _ | refine Gr.trans ?_ (by assumption)))) (Reads.nil _))))) _ rfl _ (by simp)) (by simp [sh]) (by simp)).mono ?_; rintro e w9 ⟨_, _, _, rfl, ho9, hg9⟩))
  go_wp2
  go_ret
  exact RetB.after (by repeat (with_reducible first | exact Gr.refl _ | assumption | refine Gr.alloc ?_ _ | refine Gr.drew ?_ | refine Gr.drewN ?_ _ | refine Gr.trans ?_ (by assumption))) ho9 hg9

/-- two addresses of 4 bytes, or of 16 -/
def areAddr (ls ld : List Int) : Bool := ((ls.length : Int) == (ld.length : Int)) && (((ls.length : Int) == 4) || ((ls.length : Int) == 16))

set_option maxRecDepth 100000 in
set_option maxHeartbeats 1000000 in
theorem areAddr_calls (a0 : Option Addr) (n0 c0 : Nat) (a1 : Option Addr) (n1 c1 : Nat) (ls ld : List Int) (w : World) (hs : IsB w (.slice a0 n0 c0) ls) (hd : IsB w (.slice a1 n1 c1) ld) :
    Calls Try.prog 11 #[.slice a0 n0 c0, .slice a1 n1 c1] w fun e w' => e = .returned (.bool (areAddr ls ld)) ∧ Gr w w' := by
  have g0 := fun ty => hs.len (P := Try.prog) 25 ty 5 Try.underlying25
  have g1 := fun ty => hd.len (P := Try.prog) 25 ty 5 Try.underlying25
  cases h0 : ((ls.length : Int) == (ld.length : Int)) with
  | false =>
    go_enter Try.func11, Try.ntmps11
    go_wp2_with (fail)
    go_ret
    exact ⟨by simp [areAddr, h0], Gr.refl _⟩
  | true =>
    cases h1 : ((ls.length : Int) == 4) with
    | true =>
      go_enter Try.func11, Try.ntmps11
      go_wp2_with (fail)
      go_ret
      exact ⟨by simp [areAddr, h0, h1], Gr.refl _⟩
    | false =>
      cases h2 : ((ls.length : Int) == 16)
      all_goals
        go_enter Try.func11, Try.ntmps11
        go_wp2_with (fail)
        go_ret
        exact ⟨by simp [areAddr, h0, h1, h2], Gr.refl _⟩

end Go.Proofs.Ytdpffedmgmllbaa
