/-
  Messages of the discovery of neighbors: plain facts.
-/
import Derived.Test.YtoopkfnkmaaieaaNbBytes
import Derived.Test.YtoopkfnkmaaieaaNbRead
import Derived.Test.YtoopkfnkmaaieaaNbShort
namespace Go.Proofs.Ytoopkfnkmaaieaa
open Go.RowKit

theorem units_ok {os : List Opt} (h : unitsOk os = true) : os.length ≤ 20 ∧ ∀ x ∈ os, UOk x := by
  simp only [unitsOk, Bool.and_eq_true, decide_eq_true_eq, List.all_eq_true] at h
  refine ⟨by omega, fun x hx => ?_⟩
  have h1 := h.1 x hx
  simp only [unitOk, Bool.and_eq_true, upto_iff, decide_eq_true_eq, beq_iff_eq] at h1
  exact ⟨h1.1, by omega, by omega⟩
theorem units_bound : ∀ os : List Opt, (∀ x ∈ os, UOk x) → (unitsB os).length ≤ 502 * os.length
  | [], _ => by simp [unitsB]
  | x :: r, h => by
    have h1 := units_bound r (fun y hy => h y (List.mem_cons_of_mem _ hy))
    obtain ⟨-, -, h2⟩ := h x List.mem_cons_self
    have e : unitsB (x :: r) = unitB x ++ unitsB r := by simp [unitsB]
    rw [e, List.length_append, List.length_cons]
    have : (unitB x).length = x.data.length + 2 := by simp [unitB]
    omega
theorem alike_u (os : List Opt) : Alike (os.map outU) os := by
  refine ⟨by simp, fun k hk => ?_⟩
  have e : (os.map outU).getD k Opt.zero = outU (os.getD k Opt.zero) := by
    rw [List.getD_eq_getElem?_getD, List.getD_eq_getElem?_getD, List.getElem?_map, List.getElem?_eq_getElem hk]
    rfl
  rw [e]
  exact ⟨rfl, rfl⟩
theorem ra_at (ho fg lf re be : Int) (u : List Int) (h1 : 0 ≤ lf ∧ lf ≤ 65535) (h2 : 0 ≤ re ∧ re ≤ 4294967295) (h3 : 0 ≤ be ∧ be ≤ 4294967295) (l : List Int) (hl : l = [[ho, fg], sh lf, lo re, lo be, u].flatten) :
    bt l 0 = ho ∧ bt l 1 = fg ∧ bt l 2 * 256 + bt l 3 = lf ∧ bt l 4 * 16777216 + bt l 5 * 65536 + bt l 6 * 256 + bt l 7 = re ∧ bt l 8 * 16777216 + bt l 9 * 65536 + bt l 10 * 256 + bt l 11 = be ∧ l.drop 12 = u ∧ l.length = 12 + u.length := by
  subst hl
  refine ⟨rfl, rfl, ?_, ?_, ?_, ?_, by simp [sh, lo]; omega⟩
  · show lf / 256 % 256 * 256 + lf % 256 = lf; omega
  · show re / 65536 / 256 % 256 * 16777216 + re / 65536 % 256 * 65536 + re / 256 % 256 * 256 + re % 256 = re; omega
  · show be / 65536 / 256 % 256 * 16777216 + be / 65536 % 256 * 65536 + be / 256 % 256 * 256 + be % 256 = be; omega
  · simp [sh, lo]
theorem n0_at (l1 l2 u l : List Int) (hl : l = [lo 0, l1, l2, u].flatten) (n : Nat) (hn : n = l1.length) (m : Nat) (hm : m = l2.length) : (l.take (4 + n)).drop 4 = l1 ∧ (l.take (4 + n + m)).drop (4 + n) = l2 ∧ l.drop (4 + n + m) = u ∧ l.length = 4 + n + m + u.length := by
  subst hl
  have e : [lo 0, l1, l2, u].flatten = lo 0 ++ (l1 ++ (l2 ++ u)) := by simp
  have h4 : (lo 0).length = 4 := by simp [sh, lo]
  rw [e]
  refine ⟨take_mid h4 (by omega), ?_, ?_, by simp only [List.length_append]; omega⟩
  · rw [← List.append_assoc]
    exact take_mid (by rw [List.length_append]; omega) (by omega)
  · rw [← List.append_assoc, ← List.append_assoc]
    exact drop_pre (by rw [List.length_append, List.length_append]; omega)
theorem na_at (fg : Int) (l1 u l : List Int) (hl : l = [[fg, 0, 0, 0], l1, u].flatten) (h16 : l1.length = 16) : bt l 0 = fg ∧ (l.take 20).drop 4 = l1 ∧ l.drop 20 = u ∧ l.length = 20 + u.length := by
  subst hl
  have e : [[fg, 0, 0, 0], l1, u].flatten = [fg, 0, 0, 0] ++ (l1 ++ u) := by simp
  rw [e]
  refine ⟨rfl, take_mid rfl (by omega), ?_, by simp only [List.length_append, List.length_cons, List.length_nil]; omega⟩
  rw [← List.append_assoc]
  exact drop_pre (by rw [List.length_append]; simp; omega)

end Go.Proofs.Ytoopkfnkmaaieaa
