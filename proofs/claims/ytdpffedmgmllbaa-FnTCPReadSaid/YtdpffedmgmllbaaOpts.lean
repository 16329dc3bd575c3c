/-
  A list of options that came in: how it reads. No program in sight but its types.
-/
import Derived.Test.YtdpffedmgmllbaaOpen
import Derived.Test.YtdpffedmgmllbaaBase
import Derived.Deep.Slices
namespace Go.Proofs.Ytdpffedmgmllbaa
open Go.ChangeShapes Go.WideShapes Go.ChangeAt Go.RowKit

/-- an option: its kind, its length, its data -/
structure Opt where
  kind : Int
  len : Int
  data : List Int

/-- none -/
def Opt.zero : Opt := ⟨0, 0, []⟩

instance : Inhabited Opt := ⟨Opt.zero⟩

/-- at a place in memory stands an option -/
def IsOpt (w : World) (b o : Nat) (x : Opt) : Prop :=
  (Lit.int .i64 x.kind).wf = true ∧ (Lit.int .i64 x.len).wf = true ∧ w.cell? ⟨b, o, none⟩ = some (.int .i64 x.kind) ∧ w.cell? ⟨b, o + 1, none⟩ = some (.int .i64 x.len) ∧
    ∃ a n c, w.cell? ⟨b, o + 2, none⟩ = some (.slice a n c) ∧ IsB w (.slice a n c) x.data

/-- The slice value v reads in the world w as these options. -/
def IsOpts (w : World) (v : Value) (os : List Opt) : Prop :=
  ∃ a c, v = .slice a os.length c ∧ os.length ≤ c ∧ c ≤ maxLen ∧
    ((a = none ∧ c = 0) ∨ ∃ ad : Addr, a = some ad ∧ ∀ i x, os[i]? = some x → ad.spot = none ∧ IsOpt w ad.block (ad.off + i * 3) x)

theorem isOpts_nil {w : World} : IsOpts w (.slice none 0 0) [] := ⟨none, 0, rfl, Nat.le_refl _, by unfold maxLen; omega, .inl ⟨rfl, rfl⟩⟩

theorem IsOpt.gr {w w' : World} {b o : Nat} {x : Opt} (h : IsOpt w b o x) (hg : Gr w w') : IsOpt w' b o x := by
  obtain ⟨h1, h2, h3, h4, a, n, c, h5, h6⟩ := h
  exact ⟨h1, h2, hg.cell h3, hg.cell h4, a, n, c, hg.cell h5, h6.gr hg⟩
theorem IsOpts.gr {w w' : World} {v : Value} {os : List Opt} (h : IsOpts w v os) (hg : Gr w w') : IsOpts w' v os := by
  obtain ⟨a, c, rfl, h1, h2, h3⟩ := h
  refine ⟨a, c, rfl, h1, h2, ?_⟩
  rcases h3 with h3 | ⟨ad, rfl, h4⟩
  · exact .inl h3
  · exact .inr ⟨ad, rfl, fun i x hi => ⟨(h4 i x hi).1, (h4 i x hi).2.gr hg⟩⟩
theorem IsOpts.drew {w : World} {v : Value} {os : List Opt} (h : IsOpts w v os) : IsOpts w.drew v os := h
theorem IsOpts.at {w : World} {b o n c : Nat} {os : List Opt} (h : IsOpts w (.slice (some ⟨b, o, none⟩) n c) os) (i : Nat) (hi : i < os.length) : IsOpt w b (o + i * 3) (os.getD i Opt.zero) := by
  obtain ⟨a, c', e, h1, h2, h3⟩ := h
  obtain ⟨rfl, -, -⟩ := Value.slice.inj e
  rcases h3 with ⟨h3, -⟩ | ⟨ad, h3, h4⟩
  · cases h3
  · injection h3 with h3
    subst h3
    refine (h4 i _ ?_).2
    rw [List.getD_eq_getElem?_getD, List.getElem?_eq_getElem hi]
    rfl
theorem IsOpts.count {w : World} {a : Option Addr} {n c : Nat} {os : List Opt} (h : IsOpts w (.slice a n c) os) : n = os.length := by
  obtain ⟨a', c', e, -⟩ := h
  exact (Value.slice.inj e).2.1
theorem IsOpts.place {w : World} {v : Value} {os : List Opt} (h : IsOpts w v os) (hp : 0 < os.length) : ∃ b o c, v = .slice (some ⟨b, o, none⟩) os.length c ∧ os.length ≤ c ∧ c ≤ maxLen := by
  obtain ⟨a, c, rfl, h1, h2, h3⟩ := h
  rcases h3 with ⟨rfl, rfl⟩ | ⟨⟨b, o, s⟩, rfl, h4⟩
  · omega
  · have hs := (h4 0 _ (List.getElem?_eq_getElem hp)).1
    have hs : s = none := hs
    subst hs
    exact ⟨b, o, c, rfl, h1, h2⟩
theorem IsOpts.max {w : World} {v : Value} {os : List Opt} (h : IsOpts w v os) : os.length ≤ maxLen := by
  obtain ⟨a, c, rfl, h1, h2, h3⟩ := h
  omega

theorem IsOpts.len {w : World} {v : Value} {os : List Opt} (h : IsOpts w v os) (ty : TypeId) (w' : World) : (Builtin.len_ #[22] ty #[v]).run Try.prog w' = .ok (.int .i64 os.length) w' := by
  obtain ⟨a, c, rfl, h1, h2, h3⟩ := h
  simp [Builtin.len_, run_underlying Try.underlying22, goInt]
theorem sizeOpts : (Try.prog.info? 96).map (·.size) = some 3 := by kernel_rfl
theorem IsOpts.idx {w : World} {v : Value} {os : List Opt} (h : IsOpts w v os) (k : IntKind) (z : Int) (j : Nat) (hz : z = j) (hj : j < os.length) :
    ∃ b o : Nat, (∀ w', (Instr.indexAt 22 v (.int k z)).run Try.prog w' = .ok (.pointer (some ⟨b, o, none⟩)) w') ∧ IsOpt w b o (os.getD j Opt.zero) := by
  subst hz
  obtain ⟨a, c, rfl, h1, h2, h3⟩ := h
  rcases h3 with ⟨rfl, rfl⟩ | ⟨⟨b, o, s⟩, rfl, h4⟩
  · omega
  · obtain ⟨hs, h5⟩ := h4 j _ (List.getElem?_eq_getElem hj)
    have hs : s = none := hs
    subst hs
    obtain ⟨i, hi, hs⟩ := Option.map_eq_some_iff.1 sizeOpts
    refine ⟨b, o + j * 3, fun w' => ?_, ?_⟩
    · simp [Instr.indexAt, run_underlying Try.underlying22, sizeOf, typeInfo, hi, hs, Addr.add_lit, asIntOf, hj]
    · rw [List.getD_eq_getElem?_getD, List.getElem?_eq_getElem hj]
      exact h5

section
variable {H : Type} {enc : TypeId × Value → H} {w : World} {base : Nat} {spare : Nat → Bool} {held : Bool} {fuel : Nat}

theorem fieldsO : ∃ fs : Array Field, Try.prog.underlying 96 = some (.struct fs) ∧ (fs[0]?).map (fun f => (f.type, f.offset)) = some (2, 0) ∧ (fs[1]?).map (fun f => (f.type, f.offset)) = some (2, 1) ∧ (fs[2]?).map (fun f => (f.type, f.offset)) = some (25, 2) :=
  ⟨_, Try.underlying96, rfl, rfl, rfl⟩
theorem cellsO : Try.prog.cellsOf 96 = 3 := by kernel_rfl
theorem cellsI : Try.prog.cellsOf 2 = 1 := by kernel_rfl
theorem cellsB : Try.prog.cellsOf 25 = 1 := by kernel_rfl
theorem cellsU : Try.prog.cellsOf 5 = 1 := by kernel_rfl

theorem isOpt_trod {a : Addr} {cs : List Value} {x : DataW H × List MemPlace} (hs : a.spot = none) (hc : w.cells? base a 3 = some cs) (h : DataW.trod enc Try.prog w base spare held fuel 96 cs = some x) :
    ∃ y, IsOpt w a.block a.off y := by
  obtain ⟨fs, hT, f0, f1, f2⟩ := fieldsO
  obtain ⟨xs, n, -, -, hl, hlen, hf⟩ := DataW.trod_struct hT h
  obtain ⟨-, h3, hat⟩ := World.cells?_some hc
  have get : ∀ (i : Nat) (t : TypeId) (o : Nat), (fs[i]?).map (fun f => (f.type, f.offset)) = some (t, o) → ∃ x, DataW.trod enc Try.prog w base spare held n t ((cs.drop o).take (Try.prog.cellsOf t)) = some x := by
    intro i t o hi0
    obtain ⟨f, hi, he⟩ := Option.map_eq_some_iff.1 hi0
    simp only [Prod.mk.injEq] at he
    obtain ⟨rfl, rfl⟩ := he
    have h1 := hf i f hi
    have h2 : i < xs.length := by
      have := (Array.getElem?_eq_some_iff.1 hi).1
      omega
    rw [List.getElem?_eq_getElem h2] at h1
    exact ⟨_, h1⟩
  obtain ⟨c0, c1, c2, rfl⟩ := len3 h3
  have a0 := hat 0 (by omega)
  have a1 := hat 1 (by omega)
  have a2 := hat 2 (by omega)
  rw [add_spot hs] at a0 a1 a2
  obtain ⟨x0, t0⟩ := get 0 _ _ f0
  obtain ⟨x1, t1⟩ := get 1 _ _ f1
  obtain ⟨x2, t2⟩ := get 2 _ _ f2
  rw [cellsI] at t0 t1
  rw [cellsB] at t2
  simp only [List.drop_zero, List.drop_succ_cons, List.take_succ_cons, List.take_zero] at t0 t1 t2
  obtain ⟨n0, rfl, w0⟩ := int_trod Try.underlying2 t0
  obtain ⟨n1, rfl, w1⟩ := int_trod Try.underlying2 t1
  obtain ⟨b, m, k, l, rfl, hb⟩ := slice_trod Try.underlying25 Try.underlying5 cellsU t2
  exact ⟨⟨n0, n1, l⟩, w0, w1, by simpa using a0, by simpa using a1, b, m, k, by simpa using a2, hb⟩

theorem isOpts_trod {c : Value} {x : DataW H × List MemPlace} (h : DataW.trod enc Try.prog w base spare held fuel 22 [c] = some x) : ∃ a n k os, c = .slice a n k ∧ IsOpts w (.slice a n k) os := by
  rcases Go.Deep.open_slice Try.underlying22 h with ⟨h0, -⟩ | ⟨a, len, cap, m, n, D, Pl, hcs, hb, hl, hm, hmm, hx, hi⟩
  · injection h0 with h0 _
    subst h0
    exact ⟨none, 0, 0, [], rfl, isOpts_nil⟩
  · injection hcs with hcs _
    subst hcs
    rw [cellsO] at hi
    have hml : len ≤ m := by rw [hmm]; split <;> omega
    have hall : ∀ i, i < len → ∃ y : Opt, a.spot = none ∧ IsOpt w a.block (a.off + i * 3) y := by
      intro i him
      obtain ⟨cs', hc, ht⟩ := hi i (by omega)
      have hsp : a.spot = none := by
        obtain ⟨cs0, hc0, -⟩ := hi 0 (by omega)
        obtain ⟨-, h3, hat⟩ := World.cells?_some hc0
        have h1 := hat 0 (by omega)
        rw [List.getElem?_eq_getElem (by omega)] at h1
        simpa [Addr.add] using World.cell?_spot h1
      obtain ⟨y, hy⟩ := isOpt_trod (by rw [add_spot hsp]) hc ht
      rw [add_spot hsp] at hy
      exact ⟨y, hsp, hy⟩
    obtain ⟨f, hf⟩ := Go.Deep.choose_lt hall
    refine ⟨_, _, _, (List.range len).map f, rfl, _, _, by simp, by simpa using hl, hm, .inr ⟨a, rfl, fun i x hix => ?_⟩⟩
    have hil : i < len := by
      have := (List.getElem?_eq_some_iff.1 hix).1
      simpa using this
    rw [List.getElem?_map, List.getElem?_range hil] at hix
    injection hix with hix
    subst hix
    exact hf i hil
end
end Go.Proofs.Ytdpffedmgmllbaa
