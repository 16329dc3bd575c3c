/-
  A list of options that came in: how it reads. No program in sight but its types.
-/
import Derived.Test.YtdhilikbmeffkaaDoorBase
import Derived.Deep.Slices
namespace Go.Proofs.YtdhilikbmeffkaaDoor
open Go.RowKit

/-- an option: its kind, its length, its data -/
structure Opt where
  kind : Int
  len : Int
  data : List Int

/-- none -/
def Opt.zero : Opt := ⟨0, 0, []⟩

instance : Inhabited Opt := ⟨Opt.zero⟩

/-- at a place in memory stands an option -/
def IsOpt (w : World) (b o : Nat) (x : Opt) : Prop :=
  (Lit.int .i64 x.kind).wf = true ∧ (Lit.int .i64 x.len).wf = true ∧ w.cell? ⟨b, o, none⟩ = some (.int .i64 x.kind) ∧ w.cell? ⟨b, o + 1, none⟩ = some (.int .i64 x.len) ∧
    ∃ a n c, w.cell? ⟨b, o + 2, none⟩ = some (.slice a n c) ∧ IsB w (.slice a n c) x.data

/-- The slice value v reads in the world w as these options. -/
def IsOpts (w : World) (v : Value) (os : List Opt) : Prop :=
  ∃ a c, v = .slice a os.length c ∧ os.length ≤ c ∧ c ≤ maxLen ∧
    ((a = none ∧ c = 0) ∨ ∃ ad : Addr, a = some ad ∧ ∀ i x, os[i]? = some x → ad.spot = none ∧ IsOpt w ad.block (ad.off + i * 3) x)

theorem isOpts_nil {w : World} : IsOpts w (.slice none 0 0) [] := ⟨none, 0, rfl, Nat.le_refl _, by unfold maxLen; omega, .inl ⟨rfl, rfl⟩⟩

theorem IsOpt.gr {w w' : World} {b o : Nat} {x : Opt} (h : IsOpt w b o x) (hg : Gr w w') : IsOpt w' b o x := by
  obtain ⟨h1, h2, h3, h4, a, n, c, h5, h6⟩ := h
  exact ⟨h1, h2, hg.cell h3, hg.cell h4, a, n, c, hg.cell h5, h6.gr hg⟩
theorem IsOpts.gr {w w' : World} {v : Value} {os : List Opt} (h : IsOpts w v os) (hg : Gr w w') : IsOpts w' v os := by
  obtain ⟨a, c, rfl, h1, h2, h3⟩ := h
  refine ⟨a, c, rfl, h1, h2, ?_⟩
  rcases h3 with h3 | ⟨ad, rfl, h4⟩
  · exact .inl h3
  · exact .inr ⟨ad, rfl, fun i x hi => ⟨(h4 i x hi).1, (h4 i x hi).2.gr hg⟩⟩
theorem IsOpts.drew {w : World} {v : Value} {os : List Opt} (h : IsOpts w v os) : IsOpts w.drew v os := h
theorem IsOpts.at {w : World} {b o n c : Nat} {os : List Opt} (h : IsOpts w (.slice (some ⟨b, o, none⟩) n c) os) (i : Nat) (hi : i < os.length) : IsOpt w b (o + i * 3) (os.getD i Opt.zero) := by
  obtain ⟨a, c', e, h1, h2, h3⟩ := h
  obtain ⟨rfl, -, -⟩ := Value.slice.inj e
  rcases h3 with ⟨h3, -⟩ | ⟨ad, h3, h4⟩
  · cases h3
  · injection h3 with h3
    subst h3
    refine (h4 i _ ?_).2
    rw [List.getD_eq_getElem?_getD, List.getElem?_eq_getElem hi]
    rfl
theorem IsOpts.count {w : World} {a : Option Addr} {n c : Nat} {os : List Opt} (h : IsOpts w (.slice a n c) os) : n = os.length := by
  obtain ⟨a', c', e, -⟩ := h
  exact (Value.slice.inj e).2.1
theorem IsOpts.place {w : World} {v : Value} {os : List Opt} (h : IsOpts w v os) (hp : 0 < os.length) : ∃ b o c, v = .slice (some ⟨b, o, none⟩) os.length c ∧ os.length ≤ c ∧ c ≤ maxLen := by
  obtain ⟨a, c, rfl, h1, h2, h3⟩ := h
  rcases h3 with ⟨rfl, rfl⟩ | ⟨⟨b, o, s⟩, rfl, h4⟩
  · omega
  · have hs := (h4 0 _ (List.getElem?_eq_getElem hp)).1
    have hs : s = none := hs
    subst hs
    exact ⟨b, o, c, rfl, h1, h2⟩
theorem IsOpts.max {w : World} {v : Value} {os : List Opt} (h : IsOpts w v os) : os.length ≤ maxLen := by
  obtain ⟨a, c, rfl, h1, h2, h3⟩ := h
  omega

end Go.Proofs.YtdhilikbmeffkaaDoor
