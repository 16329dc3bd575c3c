/-
  What the readers of options share: what holds ahead of a round that copies one; the flags of a segment.
-/
import Derived.Test.YtdpffedmgmllbaaIP4H
import Derived.Test.YtdpffedmgmllbaaTCP
import Derived.Test.YtdpffedmgmllbaaOpts
namespace Go.Proofs.Ytdpffedmgmllbaa
open Go.RowKit

theorem info_oI : (Try.prog.info? 96).map (fun i => (i.zero, i.size, i.bytes)) = some (some (.agg #[.int .i64 0, .int .i64 0, .slice none 0 0]), 3, 40) := by kernel_rfl

theorem raw_mem : ∀ (os : List Opt) (x : Opt), x ∈ os → (optB x).length ≤ (optsRaw os).length
  | [], x, h => by cases h
  | y :: r, x, h => by
    have e : optsRaw (y :: r) = optB y ++ optsRaw r := by simp [optsRaw]
    rw [e, List.length_append]
    rcases List.mem_cons.1 h with rfl | h
    · omega
    · have := raw_mem r x h
      omega

theorem opt_rng {os : List Opt} (hok : ∀ x ∈ os, OkOpt x) (hraw : (optsRaw os).length ≤ 40) : ∀ x ∈ os ++ padO os, 0 ≤ x.kind ∧ x.kind ≤ 255 ∧ 0 ≤ x.len ∧ x.len ≤ 255 ∧ x.data.length ≤ 255 := by
  intro x hx
  rcases List.mem_append.1 hx with hx | hx
  · obtain ⟨h1, h2, h3⟩ := hok x hx
    rcases h1 with ⟨k1, k2, k3⟩ | ⟨k1, k2⟩
    · rw [k2, k3]; simp; omega
    · have h := raw_mem os x hx
      simp only [optB, if_neg k1, List.length_append, List.length_cons, List.length_nil] at h
      omega
  · unfold padO at hx
    split at hx
    · cases hx
    · simp at hx; subst hx; simp

/-- another block that the data lies aside from -/
theorem OwnO.other {q1 q2 : IntKind} {w : World} {base : Nat} {e : TypeId} {D D' : Nat} {v : Value} {rs : List (Opt × Value)} (h : OwnO q1 q2 w base e D v rs) (hD : ∀ p ∈ rs, Aside p.2 p.1.data D') : OwnO q1 q2 w base e D' v rs :=
  ⟨h.1, fun p hp => ⟨(h.2 p hp).1, hD p hp, (h.2 p hp).2.2⟩⟩

theorem opt_step {rs : List (Opt × Value)} {k : Nat} {p : Opt × Value} (h : rs[k]? = some p) : rs.take (k + 1) = rs.take k ++ [p] := by
  rw [List.take_add_one, h]; rfl

/-- what holds ahead of a round that copies an option -/
def CopyRel (wb : World) (T : Nat) (TI : TypeId) (rs : List (Opt × Value)) (c : Value → List Value) (i : Value) (wr : World) : Prop :=
  ∃ (k : Nat) (rs' : List (Opt × Value)) (x : World) (a : Option Addr) (n m : Nat), k ≤ rs.length ∧ i = .int .i64 k ∧ wr = rowW x T (c (.slice a n m)) TI ∧ Has x T ∧ Gr wb x ∧ OwnO .i64 .i64 wr wb.heap.size 96 T (.slice a n m) rs' ∧ rs'.map Prod.fst = (rs.take k).map Prod.fst ∧ ∀ p ∈ rs', ∀ k, k < wb.heap.size → Aside p.2 p.1.data k

/-- the bits of a list, one behind the other -/
def fsum (f : List Bool) : Nat → Int
  | 0 => 0
  | k + 1 => fsum f k + (if f.getD k false = true then 2 ^ k else 0)

theorem fsum_bd (f : List Bool) : ∀ k, 0 ≤ fsum f k ∧ fsum f k < 2 ^ k
  | 0 => by simp [fsum]
  | k + 1 => by
    have := fsum_bd f k
    have h2 : (2 : Int) ^ (k + 1) = 2 ^ k + 2 ^ k := by rw [Int.pow_succ]; omega
    rw [fsum, h2]
    split <;> omega

/-- the flags of a header -/
def flagsOf (l : List Int) : List Bool := [(fb (bt l 13) 1), (fb (bt l 13) 2), (fb (bt l 13) 4), (fb (bt l 13) 8), (fb (bt l 13) 16), (fb (bt l 13) 32), (fb (bt l 13) 64), (fb (bt l 13) 128), (fb (bt l 12) 1)]

end Go.Proofs.Ytdpffedmgmllbaa
