/-
  The bytes of a message for addresses, read back: no program in sight.
-/
import Derived.Test.YtoopkfnkmaaieaaDHCPSame
import Derived.Test.YtoopkfnkmaaieaaDHCPRead
namespace Go.Proofs.Ytoopkfnkmaaieaa
open Go.RowKit

/-- what stands behind the addresses -/
def tailD (l5 l6 l7 : List Int) (os : List Opt) : List Int := padB l5 16 ++ (padB l6 64 ++ (padB l7 128 ++ ([99, 130, 83, 99] ++ (typedB os ++ [255]))))
theorem dhcp_flat (op hw hp xd sc fl : Int) (l1 l2 l3 l4 l5 l6 l7 : List Int) (os : List Opt) : dhcpB op hw hp xd sc fl l1 l2 l3 l4 l5 l6 l7 os = ([op, hw, (l5.length : Int), hp] ++ (lo xd ++ (sh sc ++ sh fl))) ++ (l1 ++ (l2 ++ (l3 ++ (l4 ++ tailD l5 l6 l7 os)))) := by simp [dhcpB, tailD]
theorem dhcp_h12 (op hw hp xd sc fl : Int) (l5 : List Int) : ([op, hw, (l5.length : Int), hp] ++ (lo xd ++ (sh sc ++ sh fl))).length = 12 := by simp [sh, lo]
theorem dhcp_at (op hw hp xd sc fl : Int) (l1 l2 l3 l4 l5 l6 l7 : List Int) (os : List Opt) (h1 : 0 ≤ xd ∧ xd ≤ 4294967295) (h2 : 0 ≤ sc ∧ sc ≤ 65535) (h3 : 0 ≤ fl ∧ fl ≤ 65535) :
    bt (dhcpB op hw hp xd sc fl l1 l2 l3 l4 l5 l6 l7 os) 0 = op ∧ bt (dhcpB op hw hp xd sc fl l1 l2 l3 l4 l5 l6 l7 os) 1 = hw ∧ bt (dhcpB op hw hp xd sc fl l1 l2 l3 l4 l5 l6 l7 os) 2 = (l5.length : Int) ∧ bt (dhcpB op hw hp xd sc fl l1 l2 l3 l4 l5 l6 l7 os) 3 = hp ∧ bt (dhcpB op hw hp xd sc fl l1 l2 l3 l4 l5 l6 l7 os) 4 * 16777216 + bt (dhcpB op hw hp xd sc fl l1 l2 l3 l4 l5 l6 l7 os) 5 * 65536 + bt (dhcpB op hw hp xd sc fl l1 l2 l3 l4 l5 l6 l7 os) 6 * 256 + bt (dhcpB op hw hp xd sc fl l1 l2 l3 l4 l5 l6 l7 os) 7 = xd ∧ bt (dhcpB op hw hp xd sc fl l1 l2 l3 l4 l5 l6 l7 os) 8 * 256 + bt (dhcpB op hw hp xd sc fl l1 l2 l3 l4 l5 l6 l7 os) 9 = sc ∧ bt (dhcpB op hw hp xd sc fl l1 l2 l3 l4 l5 l6 l7 os) 10 * 256 + bt (dhcpB op hw hp xd sc fl l1 l2 l3 l4 l5 l6 l7 os) 11 = fl := by
  rw [dhcp_flat]
  refine ⟨rfl, rfl, rfl, rfl, ?_, ?_, ?_⟩
  · show xd / 65536 / 256 % 256 * 16777216 + xd / 65536 % 256 * 65536 + xd / 256 % 256 * 256 + xd % 256 = xd
    omega
  · show sc / 256 % 256 * 256 + sc % 256 = sc
    omega
  · show fl / 256 % 256 * 256 + fl % 256 = fl
    omega
theorem pad_cut (l : List Int) (n : Nat) : (padB l n).take l.length = l := by unfold padB; simp
theorem dhcp_cut (op hw hp xd sc fl : Int) (l1 l2 l3 l4 l5 l6 l7 : List Int) (os : List Opt) (z1 : l1.length = 4) (z2 : l2.length = 4) (z3 : l3.length = 4) (z4 : l4.length = 4) (z5 : l5.length ≤ 16) (z6 : l6.length ≤ 64) (z7 : l7.length ≤ 128) :
    ((dhcpB op hw hp xd sc fl l1 l2 l3 l4 l5 l6 l7 os).take 16).drop 12 = l1 ∧ ((dhcpB op hw hp xd sc fl l1 l2 l3 l4 l5 l6 l7 os).take 20).drop 16 = l2 ∧ ((dhcpB op hw hp xd sc fl l1 l2 l3 l4 l5 l6 l7 os).take 24).drop 20 = l3 ∧ ((dhcpB op hw hp xd sc fl l1 l2 l3 l4 l5 l6 l7 os).take 28).drop 24 = l4 ∧ ((dhcpB op hw hp xd sc fl l1 l2 l3 l4 l5 l6 l7 os).take (28 + l5.length)).drop 28 = l5 ∧ ((dhcpB op hw hp xd sc fl l1 l2 l3 l4 l5 l6 l7 os).take 108).drop 44 = padB l6 64 ∧ ((dhcpB op hw hp xd sc fl l1 l2 l3 l4 l5 l6 l7 os).take 236).drop 108 = padB l7 128 ∧
    (dhcpB op hw hp xd sc fl l1 l2 l3 l4 l5 l6 l7 os).drop 236 = [99, 130, 83, 99] ++ (typedB os ++ [255]) ∧ (dhcpB op hw hp xd sc fl l1 l2 l3 l4 l5 l6 l7 os).drop 240 = typedB os ++ [255] ∧ (dhcpB op hw hp xd sc fl l1 l2 l3 l4 l5 l6 l7 os).length = 241 + (typedB os).length := by
  have hh := dhcp_h12 op hw hp xd sc fl l5
  have p5 := padB_len l5 16 z5
  have p6 := padB_len l6 64 z6
  have p7 := padB_len l7 128 z7
  rw [dhcp_flat]
  obtain ⟨P, hP⟩ : ∃ P, P = ([op, hw, (l5.length : Int), hp] ++ (lo xd ++ (sh sc ++ sh fl))) := ⟨_, rfl⟩
  rw [← hP] at hh ⊢
  clear hP
  unfold tailD
  obtain ⟨Q, hQ⟩ : ∃ Q, Q = padB l5 16 := ⟨_, rfl⟩
  have hQ5 := pad_cut l5 16
  rw [← hQ] at p5 hQ5 ⊢
  have hQe : Q = l5 ++ List.replicate (16 - l5.length) 0 := hQ
  clear hQ
  refine ⟨take_mid hh (by omega), ?_, ?_, ?_, ?_, ?_, ?_, ?_, ?_, ?_⟩
  · rw [← List.append_assoc]
    exact take_mid (by rw [List.length_append]; omega) (by omega)
  · rw [← List.append_assoc, ← List.append_assoc]
    exact take_mid (by rw [List.length_append, List.length_append]; omega) (by omega)
  · rw [← List.append_assoc, ← List.append_assoc, ← List.append_assoc]
    exact take_mid (by rw [List.length_append, List.length_append, List.length_append]; omega) (by omega)
  · rw [hQe, ← List.append_assoc, ← List.append_assoc, ← List.append_assoc, ← List.append_assoc, List.append_assoc l5]
    exact take_mid (by rw [List.length_append, List.length_append, List.length_append, List.length_append]; omega) (by omega)
  · rw [← List.append_assoc, ← List.append_assoc, ← List.append_assoc, ← List.append_assoc, ← List.append_assoc]
    exact take_mid (by simp only [List.length_append]; omega) (by omega)
  · rw [← List.append_assoc, ← List.append_assoc, ← List.append_assoc, ← List.append_assoc, ← List.append_assoc, ← List.append_assoc]
    exact take_mid (by simp only [List.length_append]; omega) (by omega)
  · rw [← List.append_assoc, ← List.append_assoc, ← List.append_assoc, ← List.append_assoc, ← List.append_assoc, ← List.append_assoc, ← List.append_assoc]
    exact drop_pre (by simp only [List.length_append]; omega)
  · rw [← List.append_assoc, ← List.append_assoc, ← List.append_assoc, ← List.append_assoc, ← List.append_assoc, ← List.append_assoc, ← List.append_assoc, ← List.append_assoc]
    exact drop_pre (by simp only [List.length_append, List.length_cons, List.length_nil]; omega)
  · simp only [List.length_append, List.length_cons, List.length_nil]; omega
theorem dhcp_magic {l R : List Int} (h : l.drop 236 = [99, 130, 83, 99] ++ R) : bt l 236 * 16777216 + bt l 237 * 65536 + bt l 238 * 256 + bt l 239 = 1669485411 := by
  have e0 : bt l 236 = 99 := by rw [show bt l 236 = bt (l.drop 236) 0 from (bt_drop (n := 236) (i := 0)).symm, h]; rfl
  have e1 : bt l 237 = 130 := by rw [show bt l 237 = bt (l.drop 236) 1 from (bt_drop (n := 236) (i := 1)).symm, h]; rfl
  have e2 : bt l 238 = 83 := by rw [show bt l 238 = bt (l.drop 236) 2 from (bt_drop (n := 236) (i := 2)).symm, h]; rfl
  have e3 : bt l 239 = 99 := by rw [show bt l 239 = bt (l.drop 236) 3 from (bt_drop (n := 236) (i := 3)).symm, h]; rfl
  rw [e0, e1, e2, e3]
  rfl
theorem kinds_ok {os : List Opt} (h : kindsOk 254 os = true) : os.length ≤ 30 ∧ ∀ x ∈ os, OkKind x := by
  simp only [kindsOk, Bool.and_eq_true, decide_eq_true_eq, List.all_eq_true] at h
  refine ⟨by omega, fun x hx => ?_⟩
  have h1 := h.2 x hx
  simp only [kindOk, Bool.and_eq_true, upto_iff, decide_eq_true_eq, Bool.not_eq_true', Bool.and_eq_false_iff, Bool.not_eq_false', beq_eq_false_iff_ne] at h1
  refine ⟨h1.1, by omega, fun hk => ?_⟩
  rcases h1.2.2 with h2 | h2
  · exact absurd hk h2
  · exact List.eq_nil_of_length_eq_zero (by omega)
theorem typed_bound : ∀ os : List Opt, (∀ x ∈ os, OkKind x) → (typedB os).length ≤ 257 * os.length
  | [], _ => by simp [typedB]
  | x :: r, h => by
    have h1 := typed_bound r (fun y hy => h y (List.mem_cons_of_mem _ hy))
    obtain ⟨-, h2, -⟩ := h x List.mem_cons_self
    have e : typedB (x :: r) = typB x ++ typedB r := by simp [typedB]
    rw [e, List.length_append, List.length_cons]
    have : (typB x).length ≤ 257 := by unfold typB; split <;> simp <;> omega
    omega
theorem alike_out (os : List Opt) : Alike (os.map outO) os := by
  refine ⟨by simp, fun k hk => ?_⟩
  have e : (os.map outO).getD k Opt.zero = outO (os.getD k Opt.zero) := by
    rw [List.getD_eq_getElem?_getD, List.getD_eq_getElem?_getD, List.getElem?_map, List.getElem?_eq_getElem hk]
    rfl
  rw [e]
  exact ⟨rfl, rfl⟩
theorem isDHCP_iff {op hw hp xd sc fl : Int} {l1 l2 l3 l4 l5 l6 l7 : List Int} {os : List Opt} (h : isDHCP op hw hp xd sc fl l1 l2 l3 l4 l5 l6 l7 os = true) : (l1.length = 4 ∧ l2.length = 4 ∧ l3.length = 4 ∧ l4.length = 4) ∧ (l5.length ≤ 16 ∧ l6.length ≤ 64 ∧ l7.length ≤ 128) ∧ (0 ≤ op ∧ op ≤ 255) ∧ (0 ≤ hw ∧ hw ≤ 255) ∧ (0 ≤ hp ∧ hp ≤ 255) ∧ (0 ≤ xd ∧ xd ≤ 4294967295) ∧ (0 ≤ sc ∧ sc ≤ 65535) ∧ (0 ≤ fl ∧ fl ≤ 65535) ∧ kindsOk 254 os = true := by
  simp only [isDHCP, Bool.and_eq_true, upto_iff, beq_iff_eq, decide_eq_true_eq] at h
  obtain ⟨h, hk⟩ := h
  refine ⟨by omega, by omega, by omega, by omega, by omega, by omega, by omega, by omega, hk⟩

end Go.Proofs.Ytoopkfnkmaaieaa
