/-
  The bytes of a header of the fourth version, read back: no program in sight.
-/
import Derived.Test.YtdpffedmgmllbaaIP4Whole
import Derived.Test.YtdpffedmgmllbaaIP4H
namespace Go.Proofs.Ytdpffedmgmllbaa
open Go.RowKit

theorem ip4_flat (wo sv ln idn fl fo tt pr ck : Int) (l1 l2 : List Int) (os : List Opt) (l : List Int) : ip4B wo sv ln idn fl fo tt pr ck l1 l2 os ++ l = ([64 + wo, sv] ++ (sh ln ++ (sh idn ++ (sh (fl * 8192 + fo) ++ ([tt, pr] ++ sh ck))))) ++ (l1 ++ (l2 ++ (optsB os ++ l))) := by simp [ip4B]
theorem ip4_len (wo sv ln idn fl fo tt pr ck : Int) (l1 l2 : List Int) (os : List Opt) : (ip4B wo sv ln idn fl fo tt pr ck l1 l2 os).length = 12 + l1.length + l2.length + (optsB os).length := by simp [ip4B, sh]; omega
theorem ip4_at (wo sv ln idn fl fo tt pr ck : Int) (l1 l2 : List Int) (os : List Opt) (l : List Int) (h0 : 0 ≤ wo ∧ wo ≤ 15) (h2 : 0 ≤ ln ∧ ln ≤ 65535) (h3 : 0 ≤ idn ∧ idn ≤ 65535) (h4 : 0 ≤ fl ∧ fl ≤ 7) (h5 : 0 ≤ fo ∧ fo ≤ 8191) (h6 : 0 ≤ ck ∧ ck ≤ 65535) :
    bt (ip4B wo sv ln idn fl fo tt pr ck l1 l2 os ++ l) 0 % 16 = wo ∧ bt (ip4B wo sv ln idn fl fo tt pr ck l1 l2 os ++ l) 1 = sv ∧ bt (ip4B wo sv ln idn fl fo tt pr ck l1 l2 os ++ l) 2 * 256 + bt (ip4B wo sv ln idn fl fo tt pr ck l1 l2 os ++ l) 3 = ln ∧ bt (ip4B wo sv ln idn fl fo tt pr ck l1 l2 os ++ l) 4 * 256 + bt (ip4B wo sv ln idn fl fo tt pr ck l1 l2 os ++ l) 5 = idn ∧ (bt (ip4B wo sv ln idn fl fo tt pr ck l1 l2 os ++ l) 6 * 256 + bt (ip4B wo sv ln idn fl fo tt pr ck l1 l2 os ++ l) 7) / 8192 = fl ∧ (bt (ip4B wo sv ln idn fl fo tt pr ck l1 l2 os ++ l) 6 * 256 + bt (ip4B wo sv ln idn fl fo tt pr ck l1 l2 os ++ l) 7) % 8192 = fo ∧ bt (ip4B wo sv ln idn fl fo tt pr ck l1 l2 os ++ l) 8 = tt ∧ bt (ip4B wo sv ln idn fl fo tt pr ck l1 l2 os ++ l) 9 = pr ∧ bt (ip4B wo sv ln idn fl fo tt pr ck l1 l2 os ++ l) 10 * 256 + bt (ip4B wo sv ln idn fl fo tt pr ck l1 l2 os ++ l) 11 = ck := by
  have e0 : bt (ip4B wo sv ln idn fl fo tt pr ck l1 l2 os ++ l) 0 = 64 + wo := rfl
  have e1 : bt (ip4B wo sv ln idn fl fo tt pr ck l1 l2 os ++ l) 1 = sv := rfl
  have e2 : bt (ip4B wo sv ln idn fl fo tt pr ck l1 l2 os ++ l) 2 = ln / 256 % 256 := rfl
  have e3 : bt (ip4B wo sv ln idn fl fo tt pr ck l1 l2 os ++ l) 3 = ln % 256 := rfl
  have e4 : bt (ip4B wo sv ln idn fl fo tt pr ck l1 l2 os ++ l) 4 = idn / 256 % 256 := rfl
  have e5 : bt (ip4B wo sv ln idn fl fo tt pr ck l1 l2 os ++ l) 5 = idn % 256 := rfl
  have e6 : bt (ip4B wo sv ln idn fl fo tt pr ck l1 l2 os ++ l) 6 = (fl * 8192 + fo) / 256 % 256 := rfl
  have e7 : bt (ip4B wo sv ln idn fl fo tt pr ck l1 l2 os ++ l) 7 = (fl * 8192 + fo) % 256 := rfl
  have e8 : bt (ip4B wo sv ln idn fl fo tt pr ck l1 l2 os ++ l) 8 = tt := rfl
  have e9 : bt (ip4B wo sv ln idn fl fo tt pr ck l1 l2 os ++ l) 9 = pr := rfl
  have e10 : bt (ip4B wo sv ln idn fl fo tt pr ck l1 l2 os ++ l) 10 = ck / 256 % 256 := rfl
  have e11 : bt (ip4B wo sv ln idn fl fo tt pr ck l1 l2 os ++ l) 11 = ck % 256 := rfl
  rw [e0, e1, e2, e3, e4, e5, e6, e7, e8, e9, e10, e11]
  exact ⟨by omega, rfl, by omega, by omega, by omega, by omega, rfl, rfl, by omega⟩
theorem ip4_cut (wo sv ln idn fl fo tt pr ck : Int) (l1 l2 : List Int) (os : List Opt) (l : List Int) (z1 : l1.length = 4) (z2 : l2.length = 4) :
    ((ip4B wo sv ln idn fl fo tt pr ck l1 l2 os ++ l).take 16).drop 12 = l1 ∧ ((ip4B wo sv ln idn fl fo tt pr ck l1 l2 os ++ l).take 20).drop 16 = l2 ∧ ∀ n, n = 20 + (optsB os).length → ((ip4B wo sv ln idn fl fo tt pr ck l1 l2 os ++ l).take n).drop 20 = optsB os ∧ (ip4B wo sv ln idn fl fo tt pr ck l1 l2 os ++ l).drop n = l := by
  have hh : (([64 + wo, sv] ++ (sh ln ++ (sh idn ++ (sh (fl * 8192 + fo) ++ ([tt, pr] ++ sh ck)))))).length = 12 := by simp [sh]
  rw [ip4_flat]
  refine ⟨take_mid hh (by omega), ?_, fun n hn => ⟨?_, ?_⟩⟩
  · rw [← List.append_assoc]
    exact take_mid (by rw [List.length_append, hh]; omega) (by omega)
  · rw [← List.append_assoc, ← List.append_assoc]
    exact take_mid (by rw [List.length_append, List.length_append, hh]; omega) (by omega)
  · rw [← List.append_assoc, ← List.append_assoc, ← List.append_assoc]
    exact drop_pre (by rw [List.length_append, List.length_append, List.length_append, hh]; omega)
theorem isIPv4_iff {sv idn fl fo tt pr : Int} {l1 l2 : List Int} {os : List Opt} : isIPv4 sv idn fl fo tt pr l1 l2 os = true ↔ ((((((((l1.length : Int) = 4 ∧ (l2.length : Int) = 4) ∧ (0 ≤ sv ∧ sv ≤ 255)) ∧ (0 ≤ idn ∧ idn ≤ 65535)) ∧ (0 ≤ fl ∧ fl ≤ 7)) ∧ (0 ≤ fo ∧ fo ≤ 8191)) ∧ (0 ≤ tt ∧ tt ≤ 255)) ∧ (0 ≤ pr ∧ pr ≤ 255)) ∧ optsOk 0 os = true := by
  simp only [isIPv4, Bool.and_eq_true, upto_iff, beq_iff_eq]
theorem raw_lens : ∀ os : List Opt, (∀ x ∈ os, OkOpt x) → ((optsRaw os).length : Int) = lens os
  | [], _ => rfl
  | x :: r, h => by
    have h1 := raw_lens r (fun y hy => h y (List.mem_cons_of_mem _ hy))
    obtain ⟨h2, -, -⟩ := h x List.mem_cons_self
    have e : optsRaw (x :: r) = optB x ++ optsRaw r := by simp [optsRaw]
    rw [e, List.length_append, lens, ← h1]
    rcases h2 with ⟨k1, k2, k3⟩ | ⟨k1, k2⟩
    · simp [optB, k1, k2]
    · simp only [optB, if_neg k1, List.length_append, List.length_cons, List.length_nil]; omega
theorem opts_ok {os : List Opt} (h : optsOk 0 os = true) : (∀ x ∈ os, OkOpt x) ∧ (optsRaw os).length ≤ 40 := by
  obtain ⟨h1, h2⟩ := optsOk_iff os 0 (by omega) h
  have h3 := raw_lens os h1
  refine ⟨h1, ?_⟩
  omega
theorem optsB_len (os : List Opt) : 4 * wordsOf os = 20 + ((optsB os).length : Int) := by
  unfold wordsOf optsB
  rw [List.length_append, List.length_replicate]
  omega
theorem bare_none {os : List Opt} (h : hasBare os = false) : ∀ x ∈ os, x.kind ≠ 1 → x.data ≠ [] := by
  intro x hx hk hd
  have := List.any_eq_false.1 h x hx
  simp [bareX, hk, hd] at this
theorem IsOpts.allB {w : World} {v : Value} {os : List Opt} (h : IsOpts w v os) : ∀ x ∈ os, AllB x.data := by
  intro x hx
  obtain ⟨i, hi⟩ := List.mem_iff_getElem?.1 hx
  obtain ⟨a, c, rfl, h1, h2, h3⟩ := h
  rcases h3 with ⟨-, rfl⟩ | ⟨ad, rfl, h4⟩
  · have := (List.getElem?_eq_some_iff.1 hi).1
    omega
  · obtain ⟨-, -, -, -, -, a, n, c, -, hb⟩ := h4 i x hi
    exact hb.bytes
theorem raw_bytes : ∀ os : List Opt, (∀ x ∈ os, AllB x.data) → AllB (optsRaw os)
  | [], _ => by intro y hy; simp [optsRaw] at hy
  | x :: r, h => by
    have e : optsRaw (x :: r) = optB x ++ optsRaw r := by simp [optsRaw]
    rw [e]
    intro y hy
    rcases List.mem_append.1 hy with hy | hy
    · unfold optB at hy
      split at hy
      · simp at hy; subst hy; omega
      · simp only [List.cons_append, List.nil_append, List.mem_cons] at hy
        rcases hy with rfl | rfl | hy
        · omega
        · omega
        · exact h x List.mem_cons_self y hy
    · exact raw_bytes r (fun z hz => h z (List.mem_cons_of_mem _ hz)) y hy
theorem optsB_bytes {os : List Opt} (h : ∀ x ∈ os, AllB x.data) : AllB (optsB os) := by
  intro y hy
  unfold optsB at hy
  rcases List.mem_append.1 hy with hy | hy
  · exact raw_bytes os h y hy
  · have := List.eq_of_mem_replicate hy
    subst this; omega
theorem ip4_bytes (wo sv ln idn fl fo tt pr ck : Int) (l1 l2 : List Int) (os : List Opt) (h0 : 0 ≤ wo ∧ wo ≤ 15) (h1 : 0 ≤ sv ∧ sv ≤ 255) (h2 : 0 ≤ tt ∧ tt ≤ 255) (h3 : 0 ≤ pr ∧ pr ≤ 255) (a1 : AllB l1) (a2 : AllB l2) (ao : ∀ x ∈ os, AllB x.data) : AllB (ip4B wo sv ln idn fl fo tt pr ck l1 l2 os) := by
  refine AllB.flat fun x hx => ?_
  simp only [List.mem_cons, List.not_mem_nil, or_false] at hx
  rcases hx with rfl | rfl | rfl | rfl | rfl | rfl
  · refine AllB.flat fun x hx => ?_
    simp only [List.mem_cons, List.not_mem_nil, or_false] at hx
    rcases hx with rfl | rfl | rfl | rfl
    · intro y hy; simp at hy; rcases hy with rfl | rfl <;> omega
    · exact sh_bytes _
    · exact sh_bytes _
    · exact sh_bytes _
  · intro y hy; simp at hy; rcases hy with rfl | rfl <;> omega
  · exact sh_bytes _
  · exact a1
  · exact a2
  · exact optsB_bytes ao

end Go.Proofs.Ytdpffedmgmllbaa
