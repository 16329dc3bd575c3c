/-
  What is written into the room, and what it holds then.
-/
import Derived.Test.YtdpffedmgmllbaaW4Pre
import Derived.Test.YtdpffedmgmllbaaIP6Cp
import Derived.Test.YtdpffedmgmllbaaIP4Whole
import Derived.Deep.QuietTactic
import Derived.Deep.RegionHeld3
import Derived.Deep.RegionLaw
import Derived.BigQuiet
namespace Go.Proofs.Ytdpffedmgmllbaa
open Go.RowKit

theorem rows20 (H Z T A B : List Value) (hH : H.length = 12) (hZ : Z.length = 8) (hA : A.length = 4) (hB : B.length = 4) : splice (splice (H ++ (Z ++ T)) 12 A) 16 B = H ++ (A ++ (B ++ T)) := by
  have e1 : splice (H ++ (Z ++ T)) 12 A = H ++ (A ++ (Z.drop 4 ++ T)) := by
    unfold splice
    rw [hA, ← hH, List.take_left]
    congr 2
    rw [List.drop_append, List.drop_of_length_le (by omega), List.nil_append, List.drop_append]
    have e : H.length + 4 - H.length = 4 := by omega
    rw [e, show 4 - Z.length = 0 by omega, List.drop_zero]
  rw [e1]
  unfold splice
  rw [hB]
  have e2 : (H ++ (A ++ (Z.drop 4 ++ T))).take 16 = H ++ A := by
    rw [← List.append_assoc, List.take_append_of_le_length (by rw [List.length_append]; omega), List.take_of_length_le (by rw [List.length_append]; omega)]
  have e3 : (H ++ (A ++ (Z.drop 4 ++ T))).drop (16 + 4) = T := by
    rw [← List.append_assoc, ← List.append_assoc]
    refine List.drop_left' ?_
    rw [List.length_append, List.length_append, List.length_drop]; omega
  rw [e2, e3, List.append_assoc]
theorem zs_add (a b : Nat) : zs (a + b) = zs a ++ zs b := by simp [zs]
theorem set_mid (A : List Int) (m : Nat) (T : List Value) (x : Int) : (bcells A ++ (zs (m + 1) ++ T)).set A.length (.int .u8 x) = bcells (A ++ [x]) ++ (zs m ++ T) := by
  have h : (bcells A).length = A.length := bcells_length A
  rw [List.set_append_right _ _ (by omega), h, Nat.sub_self]
  have e : zs (m + 1) = .int .u8 0 :: zs m := by simp [zs, List.replicate_succ]
  rw [e]
  simp [bcells]
theorem splice_mid (A d : List Int) (m : Nat) (T : List Value) : splice (bcells A ++ (zs (d.length + m) ++ T)) A.length (bcells d) = bcells (A ++ d) ++ (zs m ++ T) := by
  have h : (bcells A).length = A.length := bcells_length A
  unfold splice
  rw [zs_add, bcells_length, List.take_left' h, show A.length + d.length = (bcells A ++ zs d.length).length by rw [List.length_append, h, zs_length]]
  have e : bcells A ++ (zs d.length ++ zs m ++ T) = (bcells A ++ zs d.length) ++ (zs m ++ T) := by simp
  rw [e, List.drop_left]
  simp [bcells]
theorem Opened.gr {w z z' : World} {N B P k : Nat} {l : List Int} (h : Opened w z N B P k l) (hg : Gr z z') : Opened w z' N B P k l := by
  have hn := h.new
  have hN : N < z.heap.size := h.has
  have hlt : ∀ j, j < w.heap.size → j < z.heap.size := fun j hj => by omega
  obtain ⟨q, ly, hP⟩ := h.buf
  have hs := h.size
  have hbl := h.below
  refine ⟨Nat.lt_of_lt_of_le hN hg.size, h.out, h.size, h.new, h.ne, ⟨q, ly, heap_gr hg hP⟩, ⟨hg.os.trans hbl.1, hg.tape.trans hbl.2, hg.output.trans hbl.3, Nat.le_trans hbl.4 hg.size, fun j hj => ?_⟩, fun j hj hne => ?_, h.bytes⟩
  · rw [hg.block j (by omega) (by simp)]; exact hbl.5 j hj
  · rw [hg.block j (by omega) (by simp)]; exact h.keep j hj hne
theorem Opened.hasV {w y : World} {V N B P k : Nat} {l : List Int} {cs : List Value} {e : TypeId} (h : Opened w (rowW y V cs e) N B P k l) (hV : V < w.heap.size) (hP : V ≠ P) : Has y V := by
  have hk := h.keep V hV hP
  show V < y.heap.size
  rcases Nat.lt_or_ge V y.heap.size with h' | h'
  · exact h'
  · have hx : (rowW y V cs e).heap[V]? = none := Array.getElem?_eq_none (by rw [rowW_size]; exact h')
    rw [hx] at hk
    have := Array.getElem?_eq_none_iff.1 hk.symm
    omega
/-- what was there ahead stays, but for the receiver and the buffer -/
theorem Opened.old {w y : World} {V N B P k : Nat} {l : List Int} {cs cs' row : List Value} {e t : TypeId} (h : Opened w (rowW y V cs e) N B P k l) : ∀ j, j < w.heap.size → ¬ (j = V ∨ j = P) → (rowW (rowW y V cs' e) N row t).heap[j]? = w.heap[j]? := by
  intro j hj hb
  have hn := h.new
  rw [rowW_other (by omega), rowW_other (by omega)]
  have := h.keep j hj (by omega)
  rw [rowW_other (by omega)] at this
  exact this
theorem isB_out {w : World} {v : Value} {l : List Int} (h : IsB w v l) (hp : 0 < l.length) : ∃ ad n c, v = .slice (some ad) n c := by
  obtain ⟨a, c, rfl, h1, h2, h3, h4⟩ := h
  rcases h4 with ⟨-, rfl⟩ | ⟨ad, rfl, -⟩
  · omega
  · exact ⟨_, _, _, rfl⟩
theorem RdO.to {q1 q2 : IntKind} {w : World} {v : Value} {rs : List (Opt × Value)} {bad bad' : Nat → Prop} (h : RdO q1 q2 w v rs bad) (hb : ∀ k, bad' k → bad k) : RdO q1 q2 w v rs bad' := by
  rcases h with h | ⟨g, c, e, hg, h⟩
  · exact .inl h
  · exact .inr ⟨g, c, e, fun x => hg (hb _ x), fun j p hp => by
      obtain ⟨a0, a1, a2, a3, a4⟩ := h j p hp
      exact ⟨a0, a1, a2, a3, fun k hk => a4 k (hb k hk)⟩⟩
theorem setRow_row {z : World} {g : Nat} {cur new : List Value} {t : TypeId} (hz : Has z g) : (rowW z g cur t).setRow g new.toArray = rowW z g new t := by
  have h : g < z.heap.size := hz
  simp only [World.setRow, rowW]
  congr 1
  apply Array.ext_getElem?
  intro i
  rw [Array.getElem?_modify, Array.getElem?_setIfInBounds, Array.getElem?_setIfInBounds]
  by_cases hi : g = i
  · subst hi; simp [h]
  · simp [hi]
/-- a copy into a row, and nothing else -/
theorem step_copy_row {P : Program} {ops : Array Oper} {o : Oper} {a : Act} {z : World} {K : Act → World → Prop} {Q : Exit → Act → World → Prop} {E : Prop} (hgd : o.guard = none) (d s : Operand) (dT sT : TypeId)
    (ho : o.op = .call { callee := .builtin .copy, args := #[d, s], argTypes := #[dT, sT] }) (elem : TypeId) (hu : P.underlying dT = some (.slice elem)) (hsz : (P.info? elem).map (·.size) = some 1)
    (dp sp : Option Addr) (dLen dCap sLen sCap : Nat) (hd : a.eval d = .slice dp dLen dCap) (hs : a.eval s = .slice sp sLen sCap)
    (g off : Nat) (cur : List Value) (t : TypeId) (hz : Has z g) (cs : List Value) (hn : cs.length = Nat.min sLen dLen)
    (hpos : 0 < cs.length → dp = some ⟨g, off, none⟩ ∧ ∃ ad, sp = some ad ∧ ∀ j v, cs[j]? = some v → (rowW z g cur t).cell? (ad.add j) = some v)
    (hfit : off + cs.length ≤ cur.length) (h1 : ∀ v ∈ cs, v.oneCell' = true)
    (h : K (a.put o.dst (goInt cs.length)) (rowW z g (splice cur off cs) t)) :
    if Region.wanted o (yielded ops a.tmps) = true then Oper.wp P o a (rowW z g cur t) K Q else E := by
  have hw : Region.wanted o (yielded ops a.tmps) = true := by simp [Region.wanted, hgd]
  rw [if_pos hw]
  by_cases h0 : cs.length = 0
  · obtain rfl : cs = [] := List.eq_nil_of_length_eq_zero h0
    have hrun := run_copy_none (P := P) (rowW z g cur t) dT sT o.type elem dp sp dLen dCap sLen sCap hu hsz (by simpa using hn.symm)
    unfold Oper.wp
    simp [execOp, ho, resolve, invoke, builtin, hd, hs, hrun, Result.andThen]
    have e : splice cur off [] = cur := by simp [splice]
    rw [e] at h
    exact h
  · obtain ⟨rfl, ad, rfl, hsrc⟩ := hpos (by omega)
    have hrun := run_copy_row (P := P) (rowW z g cur t) dT sT o.type elem g off dLen dCap ad sLen sCap cur.toArray t cs hu hsz (rowW_heap hz) hn hsrc (by simpa using hfit) h1
    have e : (rowW z g cur t).setRow g (cur.toArray.toList.take off ++ cs ++ cur.toArray.toList.drop (off + cs.length)).toArray = rowW z g (splice cur off cs) t := by
      rw [setRow_row hz]; simp [splice]
    rw [e] at hrun
    unfold Oper.wp
    simp [execOp, ho, resolve, invoke, builtin, hd, hs, hrun, Result.andThen]
    exact h
/-- the room with a header, options so far, zeros, and what is carried -/
def serRow (hdr r : List Int) (L : Nat) (T : List Value) : List Value := bcells (hdr ++ r) ++ (zs (L - r.length) ++ T)
theorem ser_len {hdr r : List Int} {L : Nat} {T : List Value} (h : r.length ≤ L) : (serRow hdr r L T).length = hdr.length + L + T.length := by
  unfold serRow
  simp only [List.length_append, bcells_length, zs_length]; omega
theorem ser_one {hdr r : List Int} {L c : Nat} {T : List Value} (h : r.length < L) (hc : c = hdr.length + r.length) (x : Int) : (serRow hdr r L T).set c (.int .u8 x) = serRow hdr (r ++ [x]) L T := by
  subst hc
  have e : L - r.length = (L - r.length - 1) + 1 := by omega
  unfold serRow
  rw [e, ← List.length_append, set_mid, List.append_assoc, List.length_append]
  rfl
theorem ser_copy {hdr r d : List Int} {L c : Nat} {T : List Value} (h : r.length + d.length ≤ L) (hc : c = hdr.length + r.length) : splice (serRow hdr r L T) c (bcells d) = serRow hdr (r ++ d) L T := by
  subst hc
  have e : L - r.length = d.length + (L - r.length - d.length) := by omega
  unfold serRow
  rw [e, ← List.length_append, splice_mid, List.append_assoc, List.length_append, show L - (r.length + d.length) = L - r.length - d.length by omega]
theorem at_lhg {P : Program} (T E : TypeId) (i : TypeInfo) (hT : P.underlying T = some (.slice E)) (hi : P.info? E = some i) (hs : i.size = 1) (b n c lo hi' n' : Nat) (zl zh : Int) (hz : zl = lo) (hz' : zh = hi') (hh : hi' ≤ c) (hn : hi' = lo + n') :
    ∃ dp, (0 < n' → dp = some ⟨b, lo, none⟩) ∧ ∀ (k k' : IntKind) (w : World), (Instr.sliceAt T (.slice (some ⟨b, 0, none⟩) n c) (some (.int k zl)) (some (.int k' zh)) none).run P w = .ok (.slice dp n' (c - lo)) w := by
  subst hz hz' hn
  have hE : P.elem T = E := by simp [Program.elem, hT]
  refine ⟨if c = lo then some ⟨b, 0, none⟩ else some ⟨b, lo, none⟩, fun h => by rw [if_neg (by omega)], fun k k' w => ?_⟩
  rw [run_sliceAt_slice w T _ _ _ _ (by rw [hE]; exact hT), run_slice_lh w T _ _ _ (by rw [hE]; exact hT) k k' (lo : Int) ((lo + n' : Nat) : Int) (by omega) (by omega) (by omega)]
  simp [sizeOf, typeInfo, hE, hi, hs, Result.andThen, sliced, Addr.add_lit]
  omega
/-- the parts of a header -/
theorem ip4_parts (wo sv ln idn fl fo tt pr ck : Int) (l1 l2 : List Int) (os : List Opt) : ip4B wo sv ln idn fl fo tt pr ck l1 l2 os = [64 + wo, sv, ln / 256 % 256, ln % 256, idn / 256 % 256, idn % 256, (fl * 8192 + fo) / 256 % 256, (fl * 8192 + fo) % 256, tt, pr] ++ ([ck / 256 % 256, ck % 256] ++ (l1 ++ (l2 ++ optsB os))) := by simp [ip4B, sh]
theorem ck_put (A B : List Int) (T : List Value) (h : A.length = 10) (x y : Int) : ((bcells (A ++ ([0, 0] ++ B)) ++ T).set 10 (.int .u8 x)).set 11 (.int .u8 y) = bcells (A ++ ([x, y] ++ B)) ++ T := by
  have hA : (bcells A).length = 10 := by rw [bcells_length, h]
  have e : ∀ x y : Int, bcells (A ++ ([x, y] ++ B)) ++ T = bcells A ++ (.int .u8 x :: .int .u8 y :: (bcells B ++ T)) := fun x y => by simp [bcells]
  rw [e, e, List.set_append_right _ _ (by omega), hA, List.set_append_right _ _ (by omega), hA]
  rfl
/-- what is ahead of a round that writes an option -/
def SerRel (w3 : World) (N V P B K : Nat) (C0 C2 : List Value) (hdr : List Int) (os : List Opt) (L : Nat) (l : List Int) (cur i : Value) (wr : World) : Prop :=
  ∃ (k c : Nat) (y : World), k ≤ os.length ∧ i = .int .i64 k ∧ cur = .int .i64 c ∧ c = hdr.length + (optsRaw (os.take k)).length ∧ wr = rowW (rowW y V C2 179) N (serRow hdr (optsRaw (os.take k)) L (bcells l)) 5 ∧ Opened w3 (rowW y V C0 179) N B P K l ∧ Has y V
end Go.Proofs.Ytdpffedmgmllbaa
