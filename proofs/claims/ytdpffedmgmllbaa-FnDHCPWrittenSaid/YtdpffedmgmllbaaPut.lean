/-
  Blocks that are written: a slice's parts told by numbers, two and four bytes put.
-/
import Derived.Test.YtdpffedmgmllbaaLib3
import Derived.Test.YtdpffedmgmllbaaLib4
import Derived.Test.YtdpffedmgmllbaaLib2
import Derived.Test.YtdpffedmgmllbaaBase
import Derived.Laws.CopyOwn
import Derived.Deep.RegionLaw
import Derived.Deep.OwnRows
import Derived.Deep.RegionHeld3
import Derived.Deep.RegionWith
namespace Go.Proofs.Ytdpffedmgmllbaa
open Go.RowKit

theorem size_u8 : (Try.prog.info? 5).map (·.size) = some 1 := by kernel_rfl

section
variable {w : World} {D : Nat} {cs : List Value} {e : TypeId}
@[go_sem] theorem rowW_alloc (hD : Has w D) (o : Obj) : (rowW w D cs e).alloc o = rowW (w.alloc o) D cs e := by
  have h : D < w.heap.size := hD
  simp only [rowW, World.alloc]
  congr 1
  apply Array.ext_getElem?
  intro i
  rw [Array.getElem?_push, Array.getElem?_setIfInBounds, Array.getElem?_setIfInBounds, Array.getElem?_push, Array.size_push, Array.size_setIfInBounds]
  by_cases h1 : i = w.heap.size
  · subst h1
    rw [if_pos rfl, if_neg (by omega), if_pos rfl]
  · rw [if_neg h1]
    by_cases h2 : D = i
    · subst h2
      rw [if_pos rfl, if_pos rfl, if_pos h, if_pos (by omega)]
    · rw [if_neg h2, if_neg h2, if_neg h1]
@[go_sem] theorem has_alloc (hD : Has w D) (o : Obj) : Has (w.alloc o) D = True := by
  have h : D < w.heap.size := hD
  refine eq_true ?_
  show D < (w.alloc o).heap.size
  rw [World.size_alloc]; omega
end

section
variable {P : Program} (T E : TypeId) (i : TypeInfo) (hT : P.underlying T = some (.slice E)) (hi : P.info? E = some i) (hs : i.size = 1)
include hT hi hs
theorem at_l (b o n c lo n' c' o' : Nat) (zl : Int) (hz : zl = lo) (hn : n = lo + n') (hc : c = lo + c') (hnc : n ≤ c) (hp : 0 < c') (ho : o' = o + lo) (k : IntKind) (w : World) :
    (Instr.sliceAt T (.slice (some ⟨b, o, none⟩) n c) (some (.int k zl)) none none).run P w = .ok (.slice (some ⟨b, o', none⟩) n' c') w := by
  subst hz hn hc ho
  have hE : P.elem T = E := by simp [Program.elem, hT]
  rw [run_sliceAt_slice w T _ _ _ _ (by rw [hE]; exact hT), run_slice_l w T _ _ _ (by rw [hE]; exact hT) k lo (by omega) (by omega)]
  simp [sizeOf, typeInfo, hE, hi, hs, Result.andThen, sliced, Addr.add_lit]
  omega
theorem at_h (b o n c hi' : Nat) (zh : Int) (hz : zh = hi') (hh : hi' ≤ c) (k : IntKind) (w : World) :
    (Instr.sliceAt T (.slice (some ⟨b, o, none⟩) n c) none (some (.int k zh)) none).run P w = .ok (.slice (some ⟨b, o, none⟩) hi' c) w := by
  subst hz
  have hE : P.elem T = E := by simp [Program.elem, hT]
  rw [run_sliceAt_slice w T _ _ _ _ (by rw [hE]; exact hT), run_slice_h w T _ _ _ (by rw [hE]; exact hT) k hi' (by omega) (by omega)]
  simp [sizeOf, typeInfo, hE, hi, hs, Result.andThen, sliced, Addr.add_lit]
theorem at_lh (b o n c lo hi' n' c' o' : Nat) (zl zh : Int) (hz : zl = lo) (hz' : zh = hi') (hh : hi' ≤ c) (hnc : n ≤ c) (hn : hi' = lo + n') (hc : c = lo + c') (hp : 0 < c') (ho : o' = o + lo) (k k' : IntKind) (w : World) :
    (Instr.sliceAt T (.slice (some ⟨b, o, none⟩) n c) (some (.int k zl)) (some (.int k' zh)) none).run P w = .ok (.slice (some ⟨b, o', none⟩) n' c') w := by
  subst hz hz' hc ho
  subst hn
  have hE : P.elem T = E := by simp [Program.elem, hT]
  rw [run_sliceAt_slice w T _ _ _ _ (by rw [hE]; exact hT), run_slice_lh w T _ _ _ (by rw [hE]; exact hT) k k' (lo : Int) ((lo + n' : Nat) : Int) (by omega) (by omega) (by omega)]
  simp [sizeOf, typeInfo, hE, hi, hs, Result.andThen, sliced, Addr.add_lit]
  omega
end

set_option maxRecDepth 100000 in
set_option maxHeartbeats 1000000 in
theorem put16_calls (D o n c : Nat) (x : Int) (cs : List Value) (w : World) (hD : Has w D) (h : o + 2 ≤ cs.length) (hn : 2 ≤ n) :
    Calls Try.prog 72 #[.slice (some ⟨D, o, none⟩) n c, .int .u16 x] (rowW w D cs 5) fun e w' => e = .returned (.tuple #[]) ∧ w' = rowW w D ((cs.set o (.int .u8 (x / 256 % 256))).set (o + 1) (.int .u8 (x % 256))) 5 := by
  obtain ⟨i, hi, hz0, hz1, hz2⟩ := info_parts info_u8
  have hix : ∀ (j : Nat) (k : IntKind) (w : World), j < n → (Instr.indexAt 25 (.slice (some ⟨D, o, none⟩) n c) (.int k j)).run Try.prog w = .ok (.pointer (some ⟨D, o + j, none⟩)) w := by
    intro j k w hj
    simp [Instr.indexAt, run_underlying Try.underlying25, sizeOf, typeInfo, hi, hz1, Addr.add_lit, asIntOf, hj]
  have i0 := fun k w => hix 0 k w (by omega)
  have i1 := fun k w => hix 1 k w (by omega)
  simp only [Nat.add_zero] at i0
  obtain ⟨y0, c0⟩ : ∃ y, (cs)[o + 0]? = some y := ⟨_, List.getElem?_eq_getElem (by simp; omega)⟩
  obtain ⟨y1, c1⟩ : ∃ y, ((cs.set o (.int .u8 (x / 256 % 256))))[o + 1]? = some y := ⟨_, List.getElem?_eq_getElem (by simp; omega)⟩
  obtain ⟨y, hy⟩ : ∃ y, cs[o + 1]? = some y := ⟨_, List.getElem?_eq_getElem (by omega)⟩
  simp only [Nat.add_zero] at c0
  clear hi hz0 hz1 hz2 hix
  go_enter Try.func72, Try.ntmps72
  go_wp2_with fail
  go_end0
  exact ⟨rfl, rfl⟩

set_option maxRecDepth 100000 in
set_option maxHeartbeats 1000000 in
theorem put32_calls (D o n c : Nat) (x : Int) (cs : List Value) (w : World) (hD : Has w D) (h : o + 4 ≤ cs.length) (hn : 4 ≤ n) :
    Calls Try.prog 71 #[.slice (some ⟨D, o, none⟩) n c, .int .u32 x] (rowW w D cs 5) fun e w' => e = .returned (.tuple #[]) ∧ w' = rowW w D ((((cs.set o (.int .u8 (x / 16777216 % 256))).set (o + 1) (.int .u8 (x / 65536 % 256))).set (o + 2) (.int .u8 (x / 256 % 256))).set (o + 3) (.int .u8 (x % 256))) 5 := by
  obtain ⟨i, hi, hz0, hz1, hz2⟩ := info_parts info_u8
  have hix : ∀ (j : Nat) (k : IntKind) (w : World), j < n → (Instr.indexAt 25 (.slice (some ⟨D, o, none⟩) n c) (.int k j)).run Try.prog w = .ok (.pointer (some ⟨D, o + j, none⟩)) w := by
    intro j k w hj
    simp [Instr.indexAt, run_underlying Try.underlying25, sizeOf, typeInfo, hi, hz1, Addr.add_lit, asIntOf, hj]
  have i0 := fun k w => hix 0 k w (by omega)
  have i1 := fun k w => hix 1 k w (by omega)
  have i2 := fun k w => hix 2 k w (by omega)
  have i3 := fun k w => hix 3 k w (by omega)
  simp only [Nat.add_zero] at i0
  obtain ⟨y0, c0⟩ : ∃ y, (cs)[o + 0]? = some y := ⟨_, List.getElem?_eq_getElem (by simp; omega)⟩
  obtain ⟨y1, c1⟩ : ∃ y, ((cs.set o (.int .u8 (x / 16777216 % 256))))[o + 1]? = some y := ⟨_, List.getElem?_eq_getElem (by simp; omega)⟩
  obtain ⟨y2, c2⟩ : ∃ y, (((cs.set o (.int .u8 (x / 16777216 % 256))).set (o + 1) (.int .u8 (x / 65536 % 256))))[o + 2]? = some y := ⟨_, List.getElem?_eq_getElem (by simp; omega)⟩
  obtain ⟨y3, c3⟩ : ∃ y, ((((cs.set o (.int .u8 (x / 16777216 % 256))).set (o + 1) (.int .u8 (x / 65536 % 256))).set (o + 2) (.int .u8 (x / 256 % 256))))[o + 3]? = some y := ⟨_, List.getElem?_eq_getElem (by simp; omega)⟩
  obtain ⟨y, hy⟩ : ∃ y, cs[o + 3]? = some y := ⟨_, List.getElem?_eq_getElem (by omega)⟩
  simp only [Nat.add_zero] at c0
  clear hi hz0 hz1 hz2 hix
  go_enter Try.func71, Try.ntmps71
  go_wp2_with fail
  go_end0
  exact ⟨rfl, rfl⟩

end Go.Proofs.Ytdpffedmgmllbaa
