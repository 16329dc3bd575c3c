/-
  How arguments read: slices of bytes, structs of plain fields. No program in sight.
-/
import Derived.Test.YtdpffedmgmllbaaLib
import Derived.ProofKit
import Derived.OpenShut
import Derived.ShutString
import Derived.ChangeOld
import Derived.Below
namespace Go.Proofs.Ytdpffedmgmllbaa
open Go.ChangeShapes Go.WideShapes Go.ChangeAt Go.RowKit

section
variable {H : Type} {enc : TypeId × Value → H} {P : Program} {w : World} {base : Nat} {spare : Nat → Bool} {held : Bool} {fuel : Nat}

theorem isB_trod {T E : TypeId} {cs : List Value} {x : DataW H × List MemPlace} (hT : P.underlying T = some (.slice E)) (hE : P.underlying E = some (.int .u8)) (hc : P.cellsOf E = 1)
    (h : DataW.trod enc P w base spare held fuel T cs = some x) : ∃ a n c l, cs = [.slice a n c] ∧ IsB w (.slice a n c) l := by
  rcases open_ints hT hE hc h with ⟨rfl, -⟩ | ⟨a, len, cap, zs, rfl, -, hl, hm, hz, -, hcell, hwf⟩
  · exact ⟨none, 0, 0, [], rfl, isB_nil⟩
  · have hlen : (zs.take len).length = len := by
      rw [List.length_take]
      split at hz <;> omega
    refine ⟨some a, len, cap, zs.take len, rfl, some a, cap, by rw [hlen], by rw [hlen]; exact hl, hm, ?_, .inr ⟨a, rfl, fun i hi => ?_⟩⟩
    · intro z hz'
      have := bounds_u8 (hwf z (List.mem_of_mem_take hz'))
      omega
    · rw [hlen] at hi
      have hi' : i < zs.length := by split at hz <;> omega
      have h1 := hcell i hi'
      obtain ⟨b, o, s⟩ := a
      have hs : s = none := by
        by_cases hi0 : i = 0
        · subst hi0
          simpa [Addr.add] using World.cell?_spot h1
        · have h2 := hcell 0 (by omega)
          simpa [Addr.add] using World.cell?_spot h2
      subst hs
      refine ⟨rfl, ?_⟩
      rw [Addr.add_lit] at h1
      rw [h1]
      congr 2
      simp [List.getD, hi]

theorem int_trod {T : TypeId} {k : IntKind} {c : Value} {x : DataW H × List MemPlace} (hT : P.underlying T = some (.int k)) (h : DataW.trod enc P w base spare held fuel T [c] = some x) : ∃ n, c = .int k n ∧ (Lit.int k n).wf = true := by
  obtain ⟨n, h1, -, h2⟩ := DataW.trod_int hT h
  exact ⟨n, by simpa using h1, h2⟩
theorem bool_trod {T : TypeId} {c : Value} {x : DataW H × List MemPlace} (hT : P.underlying T = some .bool) (h : DataW.trod enc P w base spare held fuel T [c] = some x) : ∃ b, c = .bool b := by
  obtain ⟨b, h1, -⟩ := DataW.trod_bool hT h
  exact ⟨b, by simpa using h1⟩
theorem slice_trod {T E : TypeId} {c : Value} {x : DataW H × List MemPlace} (hT : P.underlying T = some (.slice E)) (hE : P.underlying E = some (.int .u8)) (hc : P.cellsOf E = 1)
    (h : DataW.trod enc P w base spare held fuel T [c] = some x) : ∃ a n k l, c = .slice a n k ∧ IsB w (.slice a n k) l := by
  obtain ⟨a, n, k, l, h1, h2⟩ := isB_trod hT hE hc h
  exact ⟨a, n, k, l, by simpa using h1, h2⟩

/-- a struct by value, field by field -/
theorem struct_trod {T : TypeId} {fs : Array Field} {v : Value} {d : DataW H} {p : List MemPlace} {r : Reach} {b0 : Nat} (hT : P.underlying T = some (.struct fs)) (hv : Value.okWide P w r b0 T v) (h : DataW.Trod enc P w base spare held T v d p) :
    ∃ cs : List Value, v = .agg cs.toArray ∧ cs.length = P.cellsOf T ∧ ∀ (i : Nat) (t : TypeId) (o : Nat), (fs[i]?).map (fun f => (f.type, f.offset)) = some (t, o) → ∃ n x, DataW.trod enc P w base spare held n t ((cs.drop o).take (P.cellsOf t)) = some x := by
  obtain ⟨⟨cs⟩, rfl, hsz⟩ := okWide_struct hT hv
  obtain ⟨fuel, hf⟩ := h
  obtain ⟨xs, n, -, -, hl, hlen, hf⟩ := DataW.trod_struct hT hf
  refine ⟨cs, rfl, by simpa using hsz, fun i t o hi0 => ?_⟩
  obtain ⟨f, hi, he⟩ := Option.map_eq_some_iff.1 hi0
  simp only [Prod.mk.injEq] at he
  obtain ⟨rfl, rfl⟩ := he
  have h1 := hf i f hi
  have h2 : i < xs.length := by
    have := (Array.getElem?_eq_some_iff.1 hi).1
    omega
  refine ⟨n, xs[i], ?_⟩
  rw [List.getElem?_eq_getElem h2] at h1
  simpa [Value.cells] using h1
end
end Go.Proofs.Ytdpffedmgmllbaa
