/-
  A header that is laid in front of what is carried: the room that is opened, and the end.
-/
import Derived.Test.YtdpffedmgmllbaaBuf2
namespace Go.Proofs.Ytdpffedmgmllbaa
open Go.RowKit

/-- '|' of a number that lies between two others' bits -/
theorem bor_mid (k : IntKind) (i j : Nat) {x y z : Int} (hx0 : 0 ≤ x) (hy0 : 0 ≤ y) (hz0 : 0 ≤ z) (hx : x % 2 ^ i = 0) (hyz : y + z < 2 ^ i) (hy : y % 2 ^ j = 0) (hz : z < 2 ^ j) (hji : z < 2 ^ i) (hm : x + y + z ≤ k.max) : bits .or k (x + z) y = x + y + z := by
  have e1 : bits .or k x z = x + z := bor k i hx0 hz0 hx hji (by omega)
  have e2 : bits .or k y z = y + z := bor k j hy0 hz0 hy hz (by omega)
  have e3 : bits .or k x (y + z) = x + (y + z) := bor k i hx0 (by omega) hx hyz (by omega)
  have hk := max_lt k
  have w1 : ∀ u v : Int, 0 ≤ u → 0 ≤ v → u ≤ k.max → v ≤ k.max → (bits .or k u v) = k.wrap ((u.toNat ||| v.toNat : Nat) : Int) := by
    intro u v hu hv hu' hv'
    show k.wrap ((BitVec.ofInt k.bits u ||| BitVec.ofInt k.bits v).toNat : Int) = _
    rw [BitVec.toNat_or, ofInt_in _ u hu (by omega), ofInt_in _ v hv (by omega)]
  have n1 : x.toNat ||| z.toNat = (x + z).toNat := by
    have h1 := Int.toNat_emod (y := 2 ^ i) hx0 (by exact Int.le_of_lt (Int.pow_pos (by decide)))
    have e2' : ((2 : Int) ^ i).toNat = 2 ^ i := by
      have : ((2 : Int) ^ i) = ((2 ^ i : Nat) : Int) := by simp
      rw [this, Int.toNat_natCast]
    have : (z.toNat : Int) < ((2 ^ i : Nat) : Int) := by rw [Int.toNat_of_nonneg hz0]; simpa using hji
    rw [nat_join i x.toNat z.toNat (by rw [hx, e2'] at h1; simpa using h1.symm) (by omega)]
    omega
  have n2 : y.toNat ||| z.toNat = (y + z).toNat := by
    have h1 := Int.toNat_emod (y := 2 ^ j) hy0 (by exact Int.le_of_lt (Int.pow_pos (by decide)))
    have e2' : ((2 : Int) ^ j).toNat = 2 ^ j := by
      have : ((2 : Int) ^ j) = ((2 ^ j : Nat) : Int) := by simp
      rw [this, Int.toNat_natCast]
    have : (z.toNat : Int) < ((2 ^ j : Nat) : Int) := by rw [Int.toNat_of_nonneg hz0]; simpa using hz
    rw [nat_join j y.toNat z.toNat (by rw [hy, e2'] at h1; simpa using h1.symm) (by omega)]
    omega
  rw [w1 (x + z) y (by omega) hy0 (by omega) (by omega), ← n1, Nat.or_assoc, Nat.or_comm z.toNat, n2]
  rw [w1 x (y + z) hx0 (by omega) (by omega) (by omega)] at e3
  rw [e3]; omega

theorem at_i {P : Program} (T E : TypeId) (i : TypeInfo) (hT : P.underlying T = some (.slice E)) (hi : P.info? E = some i) (hs : i.size = 1) (b o n c j o' : Nat) (zj : Int) (hz : zj = j) (hj : j < n) (ho : o' = o + j) (k : IntKind) (w : World) :
    (Instr.indexAt T (.slice (some ⟨b, o, none⟩) n c) (.int k zj)).run P w = .ok (.pointer (some ⟨b, o', none⟩)) w := by
  subst hz ho
  simp [Instr.indexAt, run_underlying hT, sizeOf, typeInfo, hi, hs, Addr.add_lit, asIntOf, hj]

/-- the room is opened: what z holds beside the block N that is being filled -/
structure Opened (w z : World) (N B P k : Nat) (l : List Int) : Prop where
  has : Has z N
  out : B ≤ P
  size : B ≤ w.heap.size
  new : w.heap.size ≤ N
  ne : N ≠ P
  buf : ∃ q ly, z.heap[P]? = some (.cells [.slice (some ⟨N, 0, none⟩) (l.length + k) (l.length + k), .int .i64 0, .int .i64 (k : Int), q, ly].toArray 160 (0, 0))
  below : Below B w z
  keep : ∀ j, j < w.heap.size → j ≠ P → z.heap[j]? = w.heap[j]?
  bytes : AllB l

theorem Opened.drew {w z : World} {N B P k : Nat} {l : List Int} (h : Opened w z N B P k l) : Opened w z.drew N B P k l := ⟨h.has, h.out, h.size, h.new, h.ne, h.buf, ⟨h.below.1, h.below.2, h.below.3, h.below.4, h.below.5⟩, h.keep, h.bytes⟩
theorem Opened.drewN {w z : World} {N B P k : Nat} {l : List Int} (h : Opened w z N B P k l) (r : Nat) : Opened w (z.drewN r) N B P k l := ⟨h.has, h.out, h.size, h.new, h.ne, h.buf, ⟨h.below.1, h.below.2, h.below.3, h.below.4, h.below.5⟩, h.keep, h.bytes⟩

/-- a buffer that holds these bytes, from its data's beginning on -/
def Done (w : World) (P : Nat) (l : List Int) : Prop := ∃ a n p q ly, w.heap[P]? = some (.cells [.slice a n n, .int .i64 0, p, q, ly].toArray 160 (0, 0)) ∧ IsB w (.slice a n n) l

theorem Opened.done {w z : World} {N B P k : Nat} {l hd : List Int} {row : List Value} (h : Opened w z N B P k l) (hk : hd.length = k) (hb : AllB hd) (hl : l.length ≤ 1000000) (hkl : k ≤ 1000000) (hrow : row = bcells hd ++ bcells l) :
    Below B w (rowW z N row 5) ∧ Done (rowW z N row 5) P (hd ++ l) := by
  obtain ⟨q, ly, hP⟩ := h.buf
  have hr : row = bcells (hd ++ l) := by rw [hrow]; simp [bcells]
  subst hr hk
  have hs := h.size
  have hn := h.new
  refine ⟨⟨h.below.1, h.below.2, h.below.3, ?_, fun j hj => ?_⟩, some ⟨N, 0, none⟩, l.length + hd.length, .int .i64 (hd.length : Int), q, ly, ?_, ?_⟩
  · rw [rowW_size]; exact h.below.4
  · rw [rowW_other (by omega)]; exact h.below.5 j hj
  · rw [rowW_other (Ne.symm h.ne)]; exact hP
  · have := isB_row (w := rowW z N (bcells (hd ++ l)) 5) (b := N) (rowW_heap h.has) (hb.append h.bytes) (by unfold maxLen; rw [List.length_append]; omega)
    rw [List.length_append, Nat.add_comm] at this
    exact this

theorem Opened.fin {w0 w z : World} {N B P k : Nat} {l hd : List Int} {row : List Value} (h : Opened w z N B P k l) (hw : Below B w0 w) (r : Nat) (hk : hd.length = k) (hb : AllB hd) (hl : l.length ≤ 1000000) (hkl : k ≤ 1000000) (hrow : row = bcells hd ++ bcells l) :
    Below B w0 (rowW (z.drewN r) N row 5) ∧ Done (rowW (z.drewN r) N row 5) P (hd ++ l) :=
  And.imp_left (fun x => hw.trans x) ((h.drewN r).done hk hb hl hkl hrow)

theorem Opened.fin0 {w0 w z : World} {N B P k : Nat} {l hd : List Int} {row : List Value} (h : Opened w z N B P k l) (hw : Below B w0 w) (hk : hd.length = k) (hb : AllB hd) (hl : l.length ≤ 1000000) (hkl : k ≤ 1000000) (hrow : row = bcells hd ++ bcells l) :
    Below B w0 (rowW z N row 5) ∧ Done (rowW z N row 5) P (hd ++ l) :=
  And.imp_left (fun x => hw.trans x) (h.done hk hb hl hkl hrow)

theorem Carries.gr {w w' : World} {B P : Nat} {l : List Int} (hg : Gr w w') (h : Carries w B P l) : Carries w' B P l := by
  obtain ⟨a, h1, h2, h3, h4⟩ := h
  exact ⟨a, h1, heap_gr hg h2, h3.gr hg, h4⟩
theorem Carries.to {w : World} {B C P : Nat} {l : List Int} (h : Carries w B P l) (hC : C ≤ B) : Carries w C P l := by
  obtain ⟨a, h1, h2, h3, h4⟩ := h
  exact ⟨a, by omega, h2, h3, h4⟩
theorem Carries.lt {w : World} {B P : Nat} {l : List Int} (h : Carries w B P l) : P < w.heap.size := by
  obtain ⟨a, h1, h2, h3, h4⟩ := h
  exact (Array.getElem?_eq_some_iff.1 h2).1

theorem prepC_calls (P k N : Nat) (row : List Value) (l : List Int) (B : Nat) (w : World) (hC : Carries w B P l) (hN : N = w.heap.size) (hrow : row = zs k ++ bcells l) (hk0 : 0 < k) (hk : k ≤ 1000000) (hl : l.length ≤ 1000000) (hB : B ≤ w.heap.size) :
    Calls Try.prog 119 #[.pointer (some ⟨P, 0, none⟩), .int .i64 (k : Int)] w fun e w' => e = .returned (.tuple #[.slice (some ⟨N, 0, none⟩) k (l.length + k), .nilIface]) ∧
      ∃ z, w' = rowW z N row 5 ∧ Opened w z N B P k l := by
  have hlt := hC.lt
  obtain ⟨a, h1, h2, h3, h4⟩ := hC
  subst hN hrow
  refine (prep_calls P k a l.length _ _ l w h2 h3 h4 hk0 hk hl).mono ?_
  rintro e w' ⟨rfl, hg, hP, hn⟩
  refine ⟨rfl, w', (rowW_self hn).symm, ?_⟩
  exact ⟨(Array.getElem?_eq_some_iff.1 hn).1, h1, hB, Nat.le_refl _, by omega, ⟨_, _, hP⟩, below_grown hg hB h1, fun j hj hne => hg.block j hj (fun e => hne (Option.some.inj e)), h3.bytes⟩
end Go.Proofs.Ytdpffedmgmllbaa
