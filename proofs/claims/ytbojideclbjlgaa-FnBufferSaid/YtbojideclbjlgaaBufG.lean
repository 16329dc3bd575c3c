/-
  A buffer of whatever sizes: bytes laid in front, behind; emptied; read.
-/
import Derived.Test.YtbojideclbjlgaaBuf
namespace Go.Proofs.Ytbojideclbjlgaa
open Go.RowKit

theorem splice_get {L cs : List Value} {o i : Nat} (h : o + cs.length ≤ L.length) : (splice L o cs)[i]? = if i < o then L[i]? else if i < o + cs.length then cs[i - o]? else L[i]? := by
  unfold splice
  rw [List.getElem?_append]
  split
  · rename_i h1
    rw [List.length_take] at h1
    rw [if_pos (by omega), List.getElem?_take_of_lt (by omega)]
  · rename_i h1
    rw [List.length_take] at h1
    have e : min o L.length = o := by omega
    rw [if_neg (by omega), List.length_take, e, List.getElem?_append]
    split
    · rw [if_pos (by omega)]
    · rw [if_neg (by omega), List.getElem?_drop]
      congr 1
      omega
theorem bcells_get {l : List Int} {i : Nat} (h : i < l.length) : (bcells l)[i]? = some (.int .u8 (l.getD i 0)) := by
  simp [bcells, List.getD, h]
theorem getD_left {a b : List Int} {i : Nat} (h : i < a.length) : (a ++ b).getD i 0 = a.getD i 0 := by
  rw [List.getD_eq_getElem?_getD, List.getD_eq_getElem?_getD, List.getElem?_append_left h]
theorem getD_right {a b : List Int} {i : Nat} (h : a.length ≤ i) : (a ++ b).getD i 0 = b.getD (i - a.length) 0 := by
  rw [List.getD_eq_getElem?_getD, List.getD_eq_getElem?_getD, List.getElem?_append_right h]

/-- a copy into a block that is known whole: nothing else turns -/
theorem wpList_copy_grown {P : Program} {w : World} {ops : Array Oper} {rest : List Oper} {o : Oper} {a : Act} {Q : Exit → Act → World → Prop} (hgd : o.guard = none) (d s : Operand) (dT sT : TypeId)
    (ho : o.op = .call { callee := .builtin .copy, args := #[d, s], argTypes := #[dT, sT] }) (elem : TypeId) (hu : P.underlying dT = some (.slice elem)) (hsz : (P.info? elem).map (·.size) = some 1)
    (dp sp : Option Addr) (dLen dCap sLen sCap : Nat) (hd : a.eval d = .slice dp dLen dCap) (hs : a.eval s = .slice sp sLen sCap)
    (g off : Nat) (cur : List Value) (t : TypeId) (hg : w.heap[g]? = some (.cells cur.toArray t (0, 0))) (cs : List Value) (hn : cs.length = Nat.min sLen dLen)
    (hpos : 0 < cs.length → dp = some ⟨g, off, none⟩ ∧ ∃ ad, sp = some ad ∧ ∀ j v, cs[j]? = some v → w.cell? (ad.add j) = some v)
    (hfit : off + cs.length ≤ cur.length) (h1 : ∀ v ∈ cs, v.oneCell' = true)
    (h : ∀ w', Hid (w'.heap[g]? = some (.cells (splice cur off cs).toArray t (0, 0))) → w.grownBy w' (some g) → wpList P ops Q rest (a.put o.dst (goInt cs.length)) w') :
    wpList P ops Q (o :: rest) a w := by
  by_cases h0 : cs.length = 0
  · obtain rfl : cs = [] := List.eq_nil_of_length_eq_zero h0
    refine wpList_copy_nothing hgd d s dT sT ho elem hu hsz dp sp dLen dCap sLen sCap hd hs (by simpa using hn.symm) ?_
    exact h w (show _ = _ by simpa [splice] using hg) (World.grownBy.refl w _)
  · obtain ⟨rfl, ad, rfl, hsrc⟩ := hpos (by omega)
    refine wpList_copy_own hgd d s dT sT ho elem hu hsz g off dLen dCap ad sLen sCap hd hs cur.toArray t hg cs hn hsrc (by simpa using hfit) h1 ?_
    exact h _ (show _ = _ by simpa [splice] using setRow_heap w g _ _ t _ hg) ⟨rfl, rfl, rfl, by simp [World.setRow], fun k hk hne => setRow_other w g k _ (fun e => hne (by rw [e]))⟩

/-- a buffer: it begins at s, was made for p in front and q behind; it holds these bytes -/
def Buf (w : World) (B P s p q : Nat) (l : List Int) : Prop :=
  ∃ (N : Nat) (row : List Value), B ≤ P ∧ B ≤ N ∧ N ≠ P ∧ w.heap[P]? = some (.cells [.slice (some ⟨N, 0, none⟩) (s + l.length) (p + q), .int .i64 (s : Int), .int .i64 (p : Int), .int .i64 (q : Int), .slice none 0 0].toArray 182 (0, 0)) ∧
    w.heap[N]? = some (.cells row.toArray 5 (0, 0)) ∧ row.length = p + q ∧ (∀ i, i < l.length → row[s + i]? = some (.int .u8 (l.getD i 0))) ∧ AllB l ∧ s ≤ p ∧ p ≤ s + l.length ∧ s + l.length ≤ p + q

/-- a buffer with room for k bytes at o, between others -/
def Room (w : World) (B P N : Nat) (row : List Value) (o k s p q : Nat) (pre post : List Int) : Prop :=
  B ≤ P ∧ B ≤ N ∧ N ≠ P ∧ o = s + pre.length ∧ w.heap[P]? = some (.cells [.slice (some ⟨N, 0, none⟩) (o + k + post.length) (p + q), .int .i64 (s : Int), .int .i64 (p : Int), .int .i64 (q : Int), .slice none 0 0].toArray 182 (0, 0)) ∧
    w.heap[N]? = some (.cells row.toArray 5 (0, 0)) ∧ row.length = p + q ∧ (∀ i, i < pre.length → row[s + i]? = some (.int .u8 (pre.getD i 0))) ∧ (∀ i, i < post.length → row[o + k + i]? = some (.int .u8 (post.getD i 0))) ∧
    AllB pre ∧ AllB post ∧ s ≤ p ∧ p ≤ o + k + post.length ∧ o + k + post.length ≤ p + q

/-- what opening a room answers -/
def Opens (w : World) (B P k o s p q : Nat) (pre post : List Int) (e : Ending) (w' : World) : Prop :=
  ∃ (a : Option Addr) (c N : Nat) (row : List Value), e = .returned (.tuple #[.slice a k c, .nilIface]) ∧ (0 < k → a = some ⟨N, o, none⟩) ∧ w.grownBy w' (some P) ∧ Room w' B P N row o k s p q pre post

theorem Room.fill {w w' : World} {B P N : Nat} {row : List Value} {o k s p q : Nat} {pre post d : List Int} (h : Room w B P N row o k s p q pre post) (hd : AllB d) (hk : d.length = k)
    (hr : w'.heap[N]? = some (.cells (splice row o (bcells d)).toArray 5 (0, 0))) (hg : w.grownBy w' (some N)) : Buf w' B P s p q (pre ++ (d ++ post)) := by
  obtain ⟨h1, h2, h3, h4, h5, h6, h7, h8, h9, h10, h11, h12, h13, h14⟩ := h
  subst hk h4
  have hf : s + pre.length + (bcells d).length ≤ row.length := by rw [bcells_length, h7]; omega
  have hP := hg.block P (Array.getElem?_eq_some_iff.1 h5).1 (fun e => h3 (Option.some.inj e).symm)
  have hl : (pre ++ (d ++ post)).length = pre.length + d.length + post.length := by simp; omega
  refine ⟨N, _, h1, h2, h3, ?_, hr, ?_, fun i hi => ?_, h10.append (hd.append h11), h12, by rw [hl]; omega, by rw [hl]; omega⟩
  · rw [hP, h5, hl, show s + (pre.length + d.length + post.length) = s + pre.length + d.length + post.length by omega]
  · rw [length_splice _ _ _ hf, h7]
  · rw [hl] at hi
    rw [splice_get hf, bcells_length]
    by_cases c1 : i < pre.length
    · rw [if_pos (by omega), getD_left c1]
      exact h8 i c1
    · rw [if_neg (by omega), getD_right (by omega)]
      by_cases c2 : i < pre.length + d.length
      · rw [if_pos (by omega), getD_left (by omega), bcells_get (by omega)]
        congr 3
        omega
      · rw [if_neg (by omega), getD_right (by omega)]
        have := h9 (i - pre.length - d.length) (by omega)
        rw [← this]
        congr 1
        omega

/-- a part of a slice, its place open where there is none -/
theorem cutd_l {b n c lo : Nat} (zl : Int) (hz : zl = lo) (hl : lo ≤ n) (hc : n ≤ c) : ∃ dp : Option Addr, (lo < c → dp = some ⟨b, lo, none⟩) ∧ (∀ x, dp = some x → x.block = b) ∧
    ∀ (k : IntKind) (w : World), (Instr.sliceAt 22 (.slice (some ⟨b, 0, none⟩) n c) (some (.int k zl)) none none).run Try.prog w = .ok (.slice dp (n - lo) (c - lo)) w := by
  obtain ⟨i, hi, hz0, hz1, hz2⟩ := info_parts info_u8
  by_cases h : lo < c
  · exact ⟨some ⟨b, lo, none⟩, fun _ => rfl, fun x hx => by cases hx; rfl, fun k w => at_l (P := Try.prog) 22 5 i Try.underlying22 hi hz1 b 0 n c lo (n - lo) (c - lo) lo zl hz (by omega) (by omega) hc (by omega) (by omega) k w⟩
  · subst hz
    obtain rfl : lo = n := by omega
    obtain rfl : lo = c := by omega
    refine ⟨some ⟨b, 0, none⟩, fun h => absurd h (by omega), fun x hx => by cases hx; rfl, fun k w => ?_⟩
    have hE : Try.prog.elem 22 = 5 := by simp [Program.elem, Try.underlying22]
    rw [run_sliceAt_slice w 22 _ _ _ _ (by rw [hE]; exact Try.underlying22), run_slice_l w 22 _ _ _ (by rw [hE]; exact Try.underlying22) k lo (by omega) (by omega)]
    simp [sizeOf, typeInfo, hE, hi, hz1, Result.andThen, sliced]
theorem cutd_lh {b n c lo hi' : Nat} (zl zh : Int) (hz : zl = lo) (hz' : zh = hi') (hl : lo ≤ hi') (hn : n ≤ c) (hc : hi' ≤ c) : ∃ dp : Option Addr, (lo < c → dp = some ⟨b, lo, none⟩) ∧ (∀ x, dp = some x → x.block = b) ∧
    ∀ (k k' : IntKind) (w : World), (Instr.sliceAt 22 (.slice (some ⟨b, 0, none⟩) n c) (some (.int k zl)) (some (.int k' zh)) none).run Try.prog w = .ok (.slice dp (hi' - lo) (c - lo)) w := by
  obtain ⟨i, hi, hz0, hz1, hz2⟩ := info_parts info_u8
  by_cases h : lo < c
  · exact ⟨some ⟨b, lo, none⟩, fun _ => rfl, fun x hx => by cases hx; rfl, fun k k' w => at_lh (P := Try.prog) 22 5 i Try.underlying22 hi hz1 b 0 n c lo hi' (hi' - lo) (c - lo) lo zl zh hz hz' hc hn (by omega) (by omega) (by omega) (by omega) k k' w⟩
  · subst hz hz'
    obtain rfl : lo = hi' := by omega
    obtain rfl : lo = c := by omega
    refine ⟨some ⟨b, 0, none⟩, fun h => absurd h (by omega), fun x hx => by cases hx; rfl, fun k k' w => ?_⟩
    have hE : Try.prog.elem 22 = 5 := by simp [Program.elem, Try.underlying22]
    rw [run_sliceAt_slice w 22 _ _ _ _ (by rw [hE]; exact Try.underlying22), run_slice_lh w 22 _ _ _ (by rw [hE]; exact Try.underlying22) k k' lo lo (by omega) (by omega) (by omega)]
    simp [sizeOf, typeInfo, hE, hi, hz1, Result.andThen, sliced]
theorem cutd_h {b n c hi' : Nat} (zh : Int) (hz' : zh = hi') (_hn : n ≤ c) (hc : hi' ≤ c) (k' : IntKind) (w : World) : (Instr.sliceAt 22 (.slice (some ⟨b, 0, none⟩) n c) none (some (.int k' zh)) none).run Try.prog w = .ok (.slice (some ⟨b, 0, none⟩) hi' c) w := by
  obtain ⟨i, hi, hz0, hz1, hz2⟩ := info_parts info_u8
  exact at_h (P := Try.prog) 22 5 i Try.underlying22 hi hz1 b 0 n c hi' zh hz' hc k' w

set_option maxRecDepth 100000 in
set_option maxHeartbeats 1000000 in
theorem bufBytes_calls (B P s p q : Nat) (l : List Int) (w : World) (hB : Buf w B P s p q l) (hp : p ≤ 100000) (hq : q ≤ 100000) :
    Calls Try.prog 157 #[.pointer (some ⟨P, 0, none⟩)] w fun e w' => ∃ a c, e = .returned (.slice a l.length c) ∧ IsB w' (.slice a l.length c) l ∧ ∃ r, w' = w.drewN r := by
  obtain ⟨N, row, b1, b2, b3, b4, b5, b6, b7, b8, b9, b10, b11⟩ := hB
  obtain ⟨dp, d1, d2, s1⟩ := cutd_l (b := N) (n := s + l.length) (c := p + q) (lo := s) (s : Int) rfl (by omega) (by omega)
  have e1 : s + l.length - s = l.length := by omega
  rw [e1] at s1
  have hI : IsB w (.slice dp l.length (p + q - s)) l := by
    refine ⟨dp, _, rfl, by omega, by unfold maxLen; omega, b8, ?_⟩
    by_cases h0 : s < p + q
    · refine .inr ⟨_, d1 h0, fun i hi => ⟨rfl, ?_⟩⟩
      have := b7 i hi
      simp [World.cell?, b5, this]
    · obtain ⟨x, hx⟩ : ∃ x, dp = x := ⟨_, rfl⟩
      cases x with
      | none => exact .inl ⟨hx, by omega⟩
      | some ad => exact .inr ⟨ad, hx, fun i hi => by omega⟩
  have c0 := cell_of_heap b4 0 _ rfl
  have c1 := cell_of_heap b4 1 _ rfl
  have HB := Lib.hid hI
  clear b1 b2 b3 b4 b5 b6 b7 b8 b9 b10 b11 d1 d2 e1 hI
  go_enter Try.func157, Try.ntmps157
  go_wp2_with fail
  go_quiet (fail)
  go_wp2
  go_ret
  exact ⟨dp, _, rfl, HB.out, nq, rfl⟩

set_option maxRecDepth 100000 in
set_option maxHeartbeats 2000000 in
theorem prepIn_calls (B P s p q k : Nat) (l : List Int) (w : World) (hB : Buf w B P s p q l) (hp : p ≤ 100000) (_hq : q ≤ 100000) (hk : k ≤ s) :
    Calls Try.prog 160 #[.pointer (some ⟨P, 0, none⟩), .int .i64 (k : Int)] w (Opens w B P k (s - k) (s - k) p q [] l) := by
  obtain ⟨N, row, b1, b2, b3, b4, b5, b6, b7, b8, b9, b10, b11⟩ := hB
  obtain ⟨n, hn⟩ : ∃ n, n = s + l.length := ⟨_, rfl⟩
  obtain ⟨c, hc⟩ : ∃ c, c = p + q := ⟨_, rfl⟩
  rw [← hn, ← hc] at b4
  rw [← hc] at b6
  have n1 : n ≤ s + l.length := by omega
  have n2 : s + l.length ≤ n := by omega
  have c1 : c ≤ p + q := by omega
  have c2 : p + q ≤ c := by omega
  have HN := Lib.hid hn
  have HC := Lib.hid hc
  clear hn hc
  obtain ⟨w0, rfl⟩ : ∃ w0, w = rowW w0 P [.slice (some ⟨N, 0, none⟩) n c, .int .i64 (s : Int), .int .i64 (p : Int), .int .i64 (q : Int), .slice none 0 0] 182 := ⟨w, (rowW_self b4).symm⟩
  have hd : Has w0 P := by unfold Has; rw [← rowW_size (cs := [.slice (some ⟨N, 0, none⟩) n c, .int .i64 (s : Int), .int .i64 (p : Int), .int .i64 (q : Int), .slice none 0 0]) (e := 182) (D := P)]; exact (Array.getElem?_eq_some_iff.1 b4).1
  obtain ⟨dp, d1, d2, s1⟩ := cutd_lh (b := N) (n := n) (c := c) (lo := s - k) (hi' := s) ((s : Int) - (k : Int)) ((s : Int) - (k : Int) + (k : Int)) (by omega) (by omega) (by omega) (by omega) (by omega)
  have e1 : s - (s - k) = k := by omega
  rw [e1] at s1
  have t0 : decide ((k : Int) < 0) = false := by simp
  have t1 : decide ((s : Int) < (k : Int)) = false := by simp; omega
  have u1 : IntKind.i64.wrap ((s : Int) - (k : Int)) = (s : Int) - (k : Int) := w64 (by omega) (by omega)
  have u2 : IntKind.i64.wrap ((s : Int) - (k : Int) + (k : Int)) = (s : Int) - (k : Int) + (k : Int) := w64 (by omega) (by omega)
  have H1 := Lib.hid b1; have H2 := Lib.hid b2; have H3 := Lib.hid b3; have H5 := Lib.hid b5; have H6 := Lib.hid b6; have H7 := Lib.hid b7; have H8 := Lib.hid b8
  have E1 := Lib.hid e1
  clear b1 b2 b3 b4 b5 b6 b7 b8 d1 d2 e1 s1
  go_enter Try.func160, Try.ntmps160
  go_wp2_with fail
  go_quiet (fail)
  go_wp2
  · refine bodyPost_ret (v := .tuple #[.slice (some ⟨N, 0, none⟩) (s - (s - k)) 0, .nilIface]) (by simp [results, Try.results160, go_sem]) rfl ⟨_, _, N, row, by rw [E1.out], fun h0 => absurd h0 (by omega), ?_, ?_⟩
    · exact rowW_rowW
    · have hh := H5.out
      rw [rowW_other H3.out] at hh
      refine ⟨H1.out, H2.out, H3.out, by simp, ?_, ?_, by rw [H6.out, HC.out], fun i hi => absurd hi (by simp), fun i hi => ?_, allB_nil, H8.out, by omega, by omega, by omega⟩
      · have x1 : ((s - k : Nat) : Int) = (s : Int) - (k : Int) := by omega
        have x2 : s - k + k + l.length = n := by omega
        rw [x1, x2, ← HC.out]
        (try rw [show s - k = c by omega])
        exact rowW_heap (w := w0.drewN nq) hd
      · rw [rowW_other H3.out]
        exact hh
      · have := H7.out i hi
        rw [← this]
        congr 1
        omega
  · refine bodyPost_ret (v := .tuple #[.slice (some ⟨N, s - k, none⟩) (s - (s - k)) (c - (s - k)), .nilIface]) (by simp [results, Try.results160, go_sem]) rfl ⟨_, _, N, row, by rw [E1.out], fun h0 => rfl, ?_, ?_⟩
    · exact rowW_rowW
    · have hh := H5.out
      rw [rowW_other H3.out] at hh
      refine ⟨H1.out, H2.out, H3.out, by simp, ?_, ?_, by rw [H6.out, HC.out], fun i hi => absurd hi (by simp), fun i hi => ?_, allB_nil, H8.out, by omega, by omega, by omega⟩
      · have x1 : ((s - k : Nat) : Int) = (s : Int) - (k : Int) := by omega
        have x2 : s - k + k + l.length = n := by omega
        rw [x1, x2, ← HC.out]
        (try rw [show s - k = c by omega])
        exact rowW_heap (w := w0.drewN nq) hd
      · rw [rowW_other H3.out]
        exact hh
      · have := H7.out i hi
        rw [← this]
        congr 1
        omega

set_option maxRecDepth 100000 in
set_option maxHeartbeats 4000000 in
theorem prepGrowA_calls (B P s p q k : Nat) (l : List Int) (w : World) (hB : Buf w B P s p q l) (hp : p ≤ 100000) (hq : q ≤ 100000) (hk : s < k) (hk2 : k ≤ 1000) (hBw : B ≤ w.heap.size) (hpk : p < k) :
    Calls Try.prog 160 #[.pointer (some ⟨P, 0, none⟩), .int .i64 (k : Int)] w (Opens w B P k (s) (s) (p + k) q [] l) := by
  obtain ⟨N, row, b1, b2, b3, b4, b5, b6, b7, b8, b9, b10, b11⟩ := hB
  obtain ⟨n, hn⟩ : ∃ n, n = s + l.length := ⟨_, rfl⟩
  obtain ⟨c, hc⟩ : ∃ c, c = p + q := ⟨_, rfl⟩
  rw [← hn, ← hc] at b4
  rw [← hc] at b6
  have n1 : n ≤ s + l.length := by omega
  have n2 : s + l.length ≤ n := by omega
  have c1 : c ≤ p + q := by omega
  have c2 : p + q ≤ c := by omega
  have HN := Lib.hid hn
  have HC := Lib.hid hc
  clear hn hc
  obtain ⟨w0, rfl⟩ : ∃ w0, w = rowW w0 P [.slice (some ⟨N, 0, none⟩) n c, .int .i64 (s : Int), .int .i64 (p : Int), .int .i64 (q : Int), .slice none 0 0] 182 := ⟨w, (rowW_self b4).symm⟩
  have hd : Has w0 P := by unfold Has; rw [← rowW_size (cs := [.slice (some ⟨N, 0, none⟩) n c, .int .i64 (s : Int), .int .i64 (p : Int), .int .i64 (q : Int), .slice none 0 0]) (e := 182) (D := P)]; exact (Array.getElem?_eq_some_iff.1 b4).1
  rw [rowW_size] at hBw
  have hPN : w0.heap.size ≠ P := fun h => by have : P < w0.heap.size := hd; omega
  have hsrc0 : IsB (rowW w0 P [.slice (some ⟨N, 0, none⟩) n c, .int .i64 (s : Int), .int .i64 (p : Int), .int .i64 (q : Int), .slice none 0 0] 182) (.slice (some ⟨N, s, none⟩) l.length (l.length)) l := by
    refine ⟨_, _, rfl, Nat.le_refl _, by unfold maxLen; omega, b8, .inr ⟨_, rfl, fun i hi => ⟨rfl, ?_⟩⟩⟩
    have := b7 i hi
    simp [World.cell?, b5, this]
  have hsb : (Value.slice (some ⟨N, s, none⟩) l.length l.length).ownBlock ≠ some P := by simp [Value.ownBlock]; exact b3
  have hsrc1 : IsB w0 (.slice (some ⟨N, s, none⟩) l.length (l.length)) l := hsrc0.unrow hsb
  obtain ⟨a', a1, a2, s1⟩ := cutd_l (b := N) (n := n) (c := c) (lo := s) (s : Int) rfl (by omega) (by omega)
  have e1 : n - s = l.length := by omega
  rw [e1] at s1
  obtain ⟨M, hM⟩ : ∃ M, M = c + k := ⟨_, rfl⟩
  have hMi : (M : Int) = (c : Int) + (k : Int) := by omega
  obtain ⟨dp, d1, d2, s2⟩ := cutd_l (b := w0.heap.size) (n := M) (c := M) (lo := s + k) ((s : Int) + (k : Int)) (by omega) (by omega) (by omega)
  have s3 := fun K w => cutd_h (b := w0.heap.size) (n := M) (c := M) (hi' := k + n) ((k : Int) + (n : Int)) (by omega) (by omega) (by omega) K w
  have e2 : k = k := by omega
  have hmk := make_zs M (by omega)
  rw [hMi] at hmk
  have t0 : decide ((k : Int) < 0) = false := by simp
  have t1 : decide ((s : Int) < (k : Int)) = true := by simp; omega
  have t2 : decide ((p : Int) < (k : Int)) = true := by simp; omega
  have u1 : IntKind.i64.wrap ((p : Int) + (k : Int)) = (p : Int) + (k : Int) := w64 (by omega) (by omega)
  have u2 : IntKind.i64.wrap ((c : Int) + (k : Int)) = (c : Int) + (k : Int) := w64 (by omega) (by omega)
  have u3 : IntKind.i64.wrap ((s : Int) + (k : Int)) = (s : Int) + (k : Int) := w64 (by omega) (by omega)
  have u4 : IntKind.i64.wrap ((k : Int) + (n : Int)) = (k : Int) + (n : Int) := w64 (by omega) (by omega)
  have u5 : IntKind.i64.wrap ((s : Int) + (k : Int) - (k : Int)) = (s : Int) + (k : Int) - (k : Int) := w64 (by omega) (by omega)
  have u6 : IntKind.i64.wrap ((s : Int) + (k : Int) - (k : Int) + (k : Int)) = (s : Int) + (k : Int) - (k : Int) + (k : Int) := w64 (by omega) (by omega)
  have m1 : M ≤ c + k := by omega
  have m2 : c + k ≤ M := by omega
  have hmin : l.length = Nat.min l.length (M - (s + k)) := by simp only [Nat.min_def]; split <;> omega
  have HMIN := Lib.hid hmin
  have H1 := Lib.hid b1; have H2 := Lib.hid b2; have H3 := Lib.hid b3; have H5 := Lib.hid b5; have H6 := Lib.hid b6; have H7 := Lib.hid b7; have H8 := Lib.hid b8
  have HS := Lib.hid hsrc1; have HSB := Lib.hid hsb; have A1 := Lib.hid a1; have D1 := Lib.hid d1; have E2 := Lib.hid e2; have HM := Lib.hid hM
  clear b1 b2 b3 b4 b5 b6 b7 b8 a1 a2 d1 d2 e1 e2 hM hMi hsrc0 hsrc1 hsb hmin
  go_enter Try.func160, Try.ntmps160
  go_wp2_with fail
  have hz : (rowW (w0.alloc (.cells (zs M).toArray 5)) P [.slice (some ⟨N, 0, none⟩) n c, .int .i64 (s : Int), .int .i64 ((p : Int) + (k : Int)), .int .i64 (q : Int), .slice none 0 0] 182).heap[w0.heap.size]? = some (.cells (zs M).toArray 5 (0, 0)) := by
    rw [rowW_other hPN]; exact heap_alloc_new w0 _
  have hG0 : Gr (rowW w0 P [.slice (some ⟨N, 0, none⟩) n c, .int .i64 (s : Int), .int .i64 ((p : Int) + (k : Int)), .int .i64 (q : Int), .slice none 0 0] 182) (rowW (w0.alloc (.cells (zs M).toArray 5)) P [.slice (some ⟨N, 0, none⟩) n c, .int .i64 (s : Int), .int .i64 ((p : Int) + (k : Int)), .int .i64 (q : Int), .slice none 0 0] 182).drew := by
    rw [← rowW_alloc hd]; exact ((Gr.refl _).alloc _).drew
  have hS : IsB (rowW (w0.alloc (.cells (zs M).toArray 5)) P [.slice (some ⟨N, 0, none⟩) n c, .int .i64 (s : Int), .int .i64 ((p : Int) + (k : Int)), .int .i64 (q : Int), .slice none 0 0] 182).drew (.slice (some ⟨N, s, none⟩) l.length l.length) l := ((HS.out.gr ((Gr.refl _).alloc _)).rowW HSB.out).drew
  have hsrc : 0 < (bcells l).length → dp = some ⟨w0.heap.size, s + k, none⟩ ∧ ∃ ad, a' = some ad ∧ ∀ j v, (bcells l)[j]? = some v → (rowW (w0.alloc (.cells (zs M).toArray 5)) P [.slice (some ⟨N, 0, none⟩) n c, .int .i64 (s : Int), .int .i64 ((p : Int) + (k : Int)), .int .i64 (q : Int), .slice none 0 0] 182).drew.cell? (ad.add j) = some v := fun h0 => by
    rw [bcells_length] at h0
    obtain ⟨ad, e, hh⟩ := hS.src h0
    cases e
    exact ⟨D1.out (by omega), _, A1.out (by omega), hh⟩
  go_region_law (refine step_copy_splice rfl (.tmp 52) (.tmp 61) 22 22 rfl 5 Try.underlying22 size_u8 dp a' (M - (s + k)) (M - (s + k)) l.length (c - s) (by simp [Act.eval, Act.put]) (by simp [Act.eval, Act.put]) w0.heap.size (s + k) (zs M) 5 hz (bcells l) (by rw [bcells_length]; exact HMIN.out) hsrc (by rw [zs_length, bcells_length]; omega) (bcells_one l) (rowW w0 P [.slice (some ⟨N, 0, none⟩) n c, .int .i64 (s : Int), .int .i64 ((p : Int) + (k : Int)), .int .i64 (q : Int), .slice none 0 0] 182).heap.size (rowW w0 P [.slice (some ⟨N, 0, none⟩) n c, .int .i64 (s : Int), .int .i64 ((p : Int) + (k : Int)), .int .i64 (q : Int), .slice none 0 0] 182) hG0.below (by rw [rowW_size]; exact Nat.le_refl _) ?_; intro w4 hg4 hb4)
  all_goals
    have G4 := gr_of_below hb4
    clear hb4 hz hG0 hS hsrc
    obtain ⟨wC, hdC, rfl⟩ := G4.rowOut hd
    go_wp2_with fail
    go_quiet (fail)
    go_wp2
    have hrow := hg4.out
    rw [rowW_other hPN] at hrow
    have hf : s + k + (bcells l).length ≤ (zs M).length := by rw [zs_length, bcells_length]; omega
    refine bodyPost_ret (v := .tuple #[.slice (some ⟨w0.heap.size, s, none⟩) (k) (M - (s)), .nilIface]) (by simp [results, Try.results160, go_sem]) rfl ⟨_, _, w0.heap.size, splice (zs M) (s + k) (bcells l), rfl, fun h0 => rfl, ?_, ?_⟩
    · rw [rowW_drewN]
      exact row_turn (wC := wC.drewN nq) (show Gr (rowW w0 P [.slice (some ⟨N, 0, none⟩) n c, .int .i64 (s : Int), .int .i64 ((p : Int) + (k : Int)), .int .i64 (q : Int), .slice none 0 0] 182) (rowW (wC.drewN nq) P [.slice (some ⟨N, 0, none⟩) n c, .int .i64 (s : Int), .int .i64 ((p : Int) + (k : Int)), .int .i64 (q : Int), .slice none 0 0] 182) from G4.drewN nq)
    · refine ⟨H1.out, hBw, hPN, by simp, ?_, ?_, by rw [length_splice _ _ _ hf, zs_length, HM.out, HC.out]; omega, fun i hi => absurd hi (by simp), fun i hi => ?_, allB_nil, H8.out, by omega, by omega, by omega⟩
      · rw [rowW_drewN, rowW_heap (w := wC.drewN nq) (show Has (wC.drewN nq) P from hdC)]
        have x1 : ((s : Nat) : Int) = (s : Int) := by omega
        have x2 : s + k + l.length = k + n := by omega
        have x3 : ((p + k : Nat) : Int) = (p : Int) + (k : Int) := by omega
        have x4 : p + k + q = M := by omega
        rw [x1, x2, x3, x4]
      · rw [rowW_drewN, rowW_other (w := wC.drewN nq) hPN]
        exact hrow
      · rw [splice_get hf, bcells_length, if_neg (by omega), if_pos (by omega), bcells_get (by omega)]
        congr 3
        omega

set_option maxRecDepth 100000 in
set_option maxHeartbeats 4000000 in
theorem prepGrowB_calls (B P s p q k : Nat) (l : List Int) (w : World) (hB : Buf w B P s p q l) (hp : p ≤ 100000) (hq : q ≤ 100000) (hk : s < k) (hk2 : k ≤ 1000) (hBw : B ≤ w.heap.size) (hpk : k ≤ p) :
    Calls Try.prog 160 #[.pointer (some ⟨P, 0, none⟩), .int .i64 (k : Int)] w (Opens w B P k (s + p - k) (s + p - k) (p + p) q [] l) := by
  obtain ⟨N, row, b1, b2, b3, b4, b5, b6, b7, b8, b9, b10, b11⟩ := hB
  obtain ⟨n, hn⟩ : ∃ n, n = s + l.length := ⟨_, rfl⟩
  obtain ⟨c, hc⟩ : ∃ c, c = p + q := ⟨_, rfl⟩
  rw [← hn, ← hc] at b4
  rw [← hc] at b6
  have n1 : n ≤ s + l.length := by omega
  have n2 : s + l.length ≤ n := by omega
  have c1 : c ≤ p + q := by omega
  have c2 : p + q ≤ c := by omega
  have HN := Lib.hid hn
  have HC := Lib.hid hc
  clear hn hc
  obtain ⟨w0, rfl⟩ : ∃ w0, w = rowW w0 P [.slice (some ⟨N, 0, none⟩) n c, .int .i64 (s : Int), .int .i64 (p : Int), .int .i64 (q : Int), .slice none 0 0] 182 := ⟨w, (rowW_self b4).symm⟩
  have hd : Has w0 P := by unfold Has; rw [← rowW_size (cs := [.slice (some ⟨N, 0, none⟩) n c, .int .i64 (s : Int), .int .i64 (p : Int), .int .i64 (q : Int), .slice none 0 0]) (e := 182) (D := P)]; exact (Array.getElem?_eq_some_iff.1 b4).1
  rw [rowW_size] at hBw
  have hPN : w0.heap.size ≠ P := fun h => by have : P < w0.heap.size := hd; omega
  have hsrc0 : IsB (rowW w0 P [.slice (some ⟨N, 0, none⟩) n c, .int .i64 (s : Int), .int .i64 (p : Int), .int .i64 (q : Int), .slice none 0 0] 182) (.slice (some ⟨N, s, none⟩) l.length (l.length)) l := by
    refine ⟨_, _, rfl, Nat.le_refl _, by unfold maxLen; omega, b8, .inr ⟨_, rfl, fun i hi => ⟨rfl, ?_⟩⟩⟩
    have := b7 i hi
    simp [World.cell?, b5, this]
  have hsb : (Value.slice (some ⟨N, s, none⟩) l.length l.length).ownBlock ≠ some P := by simp [Value.ownBlock]; exact b3
  have hsrc1 : IsB w0 (.slice (some ⟨N, s, none⟩) l.length (l.length)) l := hsrc0.unrow hsb
  obtain ⟨a', a1, a2, s1⟩ := cutd_l (b := N) (n := n) (c := c) (lo := s) (s : Int) rfl (by omega) (by omega)
  have e1 : n - s = l.length := by omega
  rw [e1] at s1
  obtain ⟨M, hM⟩ : ∃ M, M = c + p := ⟨_, rfl⟩
  have hMi : (M : Int) = (c : Int) + (p : Int) := by omega
  obtain ⟨dp, d1, d2, s2⟩ := cutd_l (b := w0.heap.size) (n := M) (c := M) (lo := s + p) ((s : Int) + (p : Int)) (by omega) (by omega) (by omega)
  have s3 := fun K w => cutd_h (b := w0.heap.size) (n := M) (c := M) (hi' := p + n) ((p : Int) + (n : Int)) (by omega) (by omega) (by omega) K w
  have e2 : s + p - (s + p - k) = k := by omega
  have hmk := make_zs M (by omega)
  rw [hMi] at hmk
  have t0 : decide ((k : Int) < 0) = false := by simp
  have t1 : decide ((s : Int) < (k : Int)) = true := by simp; omega
  have t2 : decide ((p : Int) < (k : Int)) = false := by simp; omega
  have u1 : IntKind.i64.wrap ((p : Int) + (p : Int)) = (p : Int) + (p : Int) := w64 (by omega) (by omega)
  have u2 : IntKind.i64.wrap ((c : Int) + (p : Int)) = (c : Int) + (p : Int) := w64 (by omega) (by omega)
  have u3 : IntKind.i64.wrap ((s : Int) + (p : Int)) = (s : Int) + (p : Int) := w64 (by omega) (by omega)
  have u4 : IntKind.i64.wrap ((p : Int) + (n : Int)) = (p : Int) + (n : Int) := w64 (by omega) (by omega)
  have u5 : IntKind.i64.wrap ((s : Int) + (p : Int) - (k : Int)) = (s : Int) + (p : Int) - (k : Int) := w64 (by omega) (by omega)
  have u6 : IntKind.i64.wrap ((s : Int) + (p : Int) - (k : Int) + (k : Int)) = (s : Int) + (p : Int) - (k : Int) + (k : Int) := w64 (by omega) (by omega)
  have m1 : M ≤ c + p := by omega
  have m2 : c + p ≤ M := by omega
  have hmin : l.length = Nat.min l.length (M - (s + p)) := by simp only [Nat.min_def]; split <;> omega
  have HMIN := Lib.hid hmin
  have H1 := Lib.hid b1; have H2 := Lib.hid b2; have H3 := Lib.hid b3; have H5 := Lib.hid b5; have H6 := Lib.hid b6; have H7 := Lib.hid b7; have H8 := Lib.hid b8
  have HS := Lib.hid hsrc1; have HSB := Lib.hid hsb; have A1 := Lib.hid a1; have D1 := Lib.hid d1; have E2 := Lib.hid e2; have HM := Lib.hid hM
  clear b1 b2 b3 b4 b5 b6 b7 b8 a1 a2 d1 d2 e1 e2 hM hMi hsrc0 hsrc1 hsb hmin
  go_enter Try.func160, Try.ntmps160
  go_wp2_with fail
  have hz : (rowW (w0.alloc (.cells (zs M).toArray 5)) P [.slice (some ⟨N, 0, none⟩) n c, .int .i64 (s : Int), .int .i64 ((p : Int) + (p : Int)), .int .i64 (q : Int), .slice none 0 0] 182).heap[w0.heap.size]? = some (.cells (zs M).toArray 5 (0, 0)) := by
    rw [rowW_other hPN]; exact heap_alloc_new w0 _
  have hG0 : Gr (rowW w0 P [.slice (some ⟨N, 0, none⟩) n c, .int .i64 (s : Int), .int .i64 ((p : Int) + (p : Int)), .int .i64 (q : Int), .slice none 0 0] 182) (rowW (w0.alloc (.cells (zs M).toArray 5)) P [.slice (some ⟨N, 0, none⟩) n c, .int .i64 (s : Int), .int .i64 ((p : Int) + (p : Int)), .int .i64 (q : Int), .slice none 0 0] 182).drew := by
    rw [← rowW_alloc hd]; exact ((Gr.refl _).alloc _).drew
  have hS : IsB (rowW (w0.alloc (.cells (zs M).toArray 5)) P [.slice (some ⟨N, 0, none⟩) n c, .int .i64 (s : Int), .int .i64 ((p : Int) + (p : Int)), .int .i64 (q : Int), .slice none 0 0] 182).drew (.slice (some ⟨N, s, none⟩) l.length l.length) l := ((HS.out.gr ((Gr.refl _).alloc _)).rowW HSB.out).drew
  have hsrc : 0 < (bcells l).length → dp = some ⟨w0.heap.size, s + p, none⟩ ∧ ∃ ad, a' = some ad ∧ ∀ j v, (bcells l)[j]? = some v → (rowW (w0.alloc (.cells (zs M).toArray 5)) P [.slice (some ⟨N, 0, none⟩) n c, .int .i64 (s : Int), .int .i64 ((p : Int) + (p : Int)), .int .i64 (q : Int), .slice none 0 0] 182).drew.cell? (ad.add j) = some v := fun h0 => by
    rw [bcells_length] at h0
    obtain ⟨ad, e, hh⟩ := hS.src h0
    cases e
    exact ⟨D1.out (by omega), _, A1.out (by omega), hh⟩
  go_region_law (refine step_copy_splice rfl (.tmp 52) (.tmp 61) 22 22 rfl 5 Try.underlying22 size_u8 dp a' (M - (s + p)) (M - (s + p)) l.length (c - s) (by simp [Act.eval, Act.put]) (by simp [Act.eval, Act.put]) w0.heap.size (s + p) (zs M) 5 hz (bcells l) (by rw [bcells_length]; exact HMIN.out) hsrc (by rw [zs_length, bcells_length]; omega) (bcells_one l) (rowW w0 P [.slice (some ⟨N, 0, none⟩) n c, .int .i64 (s : Int), .int .i64 ((p : Int) + (p : Int)), .int .i64 (q : Int), .slice none 0 0] 182).heap.size (rowW w0 P [.slice (some ⟨N, 0, none⟩) n c, .int .i64 (s : Int), .int .i64 ((p : Int) + (p : Int)), .int .i64 (q : Int), .slice none 0 0] 182) hG0.below (by rw [rowW_size]; exact Nat.le_refl _) ?_; intro w4 hg4 hb4)
  all_goals
    have G4 := gr_of_below hb4
    clear hb4 hz hG0 hS hsrc
    obtain ⟨wC, hdC, rfl⟩ := G4.rowOut hd
    go_wp2_with fail
    go_quiet (fail)
    go_wp2
    have hrow := hg4.out
    rw [rowW_other hPN] at hrow
    have hf : s + p + (bcells l).length ≤ (zs M).length := by rw [zs_length, bcells_length]; omega
    refine bodyPost_ret (v := .tuple #[.slice (some ⟨w0.heap.size, s + p - k, none⟩) (s + p - (s + p - k)) (M - (s + p - k)), .nilIface]) (by simp [results, Try.results160, go_sem]) rfl ⟨_, _, w0.heap.size, splice (zs M) (s + p) (bcells l), by rw [E2.out], fun h0 => rfl, ?_, ?_⟩
    · rw [rowW_drewN]
      exact row_turn (wC := wC.drewN nq) (show Gr (rowW w0 P [.slice (some ⟨N, 0, none⟩) n c, .int .i64 (s : Int), .int .i64 ((p : Int) + (p : Int)), .int .i64 (q : Int), .slice none 0 0] 182) (rowW (wC.drewN nq) P [.slice (some ⟨N, 0, none⟩) n c, .int .i64 (s : Int), .int .i64 ((p : Int) + (p : Int)), .int .i64 (q : Int), .slice none 0 0] 182) from G4.drewN nq)
    · refine ⟨H1.out, hBw, hPN, by simp, ?_, ?_, by rw [length_splice _ _ _ hf, zs_length, HM.out, HC.out]; omega, fun i hi => absurd hi (by simp), fun i hi => ?_, allB_nil, H8.out, by omega, by omega, by omega⟩
      · rw [rowW_drewN, rowW_heap (w := wC.drewN nq) (show Has (wC.drewN nq) P from hdC)]
        have x1 : ((s + p - k : Nat) : Int) = (s : Int) + (p : Int) - (k : Int) := by omega
        have x2 : s + p - k + k + l.length = p + n := by omega
        have x3 : ((p + p : Nat) : Int) = (p : Int) + (p : Int) := by omega
        have x4 : p + p + q = M := by omega
        rw [x1, x2, x3, x4]
      · rw [rowW_drewN, rowW_other (w := wC.drewN nq) hPN]
        exact hrow
      · rw [splice_get hf, bcells_length, if_neg (by omega), if_pos (by omega), bcells_get (by omega)]
        congr 3
        omega

/-- bytes laid in front, whatever room there is -/
theorem prepB_calls (B P s p q k : Nat) (l : List Int) (w : World) (hB : Buf w B P s p q l) (hp : p ≤ 50000) (hq : q ≤ 50000) (hk : k ≤ 1000) (hl : l.length ≤ 20000) (hBw : B ≤ w.heap.size) :
    Calls Try.prog 160 #[.pointer (some ⟨P, 0, none⟩), .int .i64 (k : Int)] w fun e w' => ∃ (a : Option Addr) (c N : Nat) (row : List Value) (o p' : Nat), e = .returned (.tuple #[.slice a k c, .nilIface]) ∧ (0 < k → a = some ⟨N, o, none⟩) ∧ w.grownBy w' (some P) ∧ Room w' B P N row o k o p' q [] l ∧ p' ≤ 50000 := by
  have hps : p ≤ s + l.length := by obtain ⟨N, row, b1, b2, b3, b4, b5, b6, b7, b8, b9, b10, b11⟩ := hB; exact b10
  by_cases h1 : k ≤ s
  · refine (prepIn_calls B P s p q k l w hB (by omega) (by omega) h1).mono ?_
    rintro e w' ⟨a, c, N, row, rfl, ha, hg, hr⟩
    exact ⟨a, c, N, row, _, _, rfl, ha, hg, hr, hp⟩
  · by_cases h2 : p < k
    · refine (prepGrowA_calls B P s p q k l w hB (by omega) (by omega) (by omega) hk hBw h2).mono ?_
      rintro e w' ⟨a, c, N, row, rfl, ha, hg, hr⟩
      exact ⟨a, c, N, row, _, _, rfl, ha, hg, hr, by omega⟩
    · refine (prepGrowB_calls B P s p q k l w hB (by omega) (by omega) (by omega) hk hBw (by omega)).mono ?_
      rintro e w' ⟨a, c, N, row, rfl, ha, hg, hr⟩
      exact ⟨a, c, N, row, _, _, rfl, ha, hg, hr, by omega⟩

set_option maxRecDepth 100000 in
set_option maxHeartbeats 2000000 in
theorem appIn_calls (B P s p q k : Nat) (l : List Int) (w : World) (hB : Buf w B P s p q l) (hp : p ≤ 100000) (hq : q ≤ 100000) (hk : s + l.length + k ≤ p + q) :
    Calls Try.prog 156 #[.pointer (some ⟨P, 0, none⟩), .int .i64 (k : Int)] w (Opens w B P k (s + l.length) s p q l []) := by
  obtain ⟨N, row, b1, b2, b3, b4, b5, b6, b7, b8, b9, b10, b11⟩ := hB
  obtain ⟨n, hn⟩ : ∃ n, n = s + l.length := ⟨_, rfl⟩
  obtain ⟨c, hc⟩ : ∃ c, c = p + q := ⟨_, rfl⟩
  rw [← hn, ← hc] at b4
  rw [← hc] at b6
  have n1 : n ≤ s + l.length := by omega
  have n2 : s + l.length ≤ n := by omega
  have c1 : c ≤ p + q := by omega
  have c2 : p + q ≤ c := by omega
  have HN := Lib.hid hn
  have HC := Lib.hid hc
  clear hn hc
  obtain ⟨w0, rfl⟩ : ∃ w0, w = rowW w0 P [.slice (some ⟨N, 0, none⟩) n c, .int .i64 (s : Int), .int .i64 (p : Int), .int .i64 (q : Int), .slice none 0 0] 182 := ⟨w, (rowW_self b4).symm⟩
  have hd : Has w0 P := by unfold Has; rw [← rowW_size (cs := [.slice (some ⟨N, 0, none⟩) n c, .int .i64 (s : Int), .int .i64 (p : Int), .int .i64 (q : Int), .slice none 0 0]) (e := 182) (D := P)]; exact (Array.getElem?_eq_some_iff.1 b4).1
  have s1 := fun K w => cutd_h (b := N) (n := n) (c := c) (hi' := n + k) ((n : Int) + (k : Int)) (by omega) (by omega) (by omega) K w
  obtain ⟨dp, d1, d2, s2⟩ := cutd_l (b := N) (n := n + k) (c := c) (lo := n) (n : Int) rfl (by omega) (by omega)
  have e1 : n + k - n = k := by omega
  rw [e1] at s2
  have t0 : decide ((k : Int) < 0) = false := by simp
  have t1 : decide ((c : Int) - (n : Int) < (k : Int)) = false := by simp; omega
  have u1 : IntKind.i64.wrap ((c : Int) - (n : Int)) = (c : Int) - (n : Int) := w64 (by omega) (by omega)
  have u2 : IntKind.i64.wrap ((n : Int) + (k : Int)) = (n : Int) + (k : Int) := w64 (by omega) (by omega)
  have H1 := Lib.hid b1; have H2 := Lib.hid b2; have H3 := Lib.hid b3; have H5 := Lib.hid b5; have H6 := Lib.hid b6; have H7 := Lib.hid b7; have H8 := Lib.hid b8
  have D1 := Lib.hid d1
  clear b1 b2 b3 b4 b5 b6 b7 b8 d1 d2 e1
  go_enter Try.func156, Try.ntmps156
  go_wp2_with fail
  refine bodyPost_ret (v := .tuple #[.slice dp k (c - n), .nilIface]) (by simp [results, Try.results156, go_sem]) rfl ⟨_, _, N, row, rfl, fun h0 => by rw [← HN.out]; exact D1.out (by omega), ?_, ?_⟩
  · exact rowW_rowW (n := 0)
  · have hh : (rowW w0 P [.slice (some ⟨N, 0, none⟩) n c, .int .i64 (s : Int), .int .i64 (p : Int), .int .i64 (q : Int), .slice none 0 0] 182).heap[N]? = some (.cells row.toArray 5 (0, 0)) := H5.out
    rw [rowW_other H3.out] at hh
    rw [← HN.out]
    refine ⟨H1.out, H2.out, H3.out, HN.out, ?_, ?_, by rw [H6.out, HC.out], fun i hi => H7.out i hi, fun i hi => absurd hi (by simp), H8.out, allB_nil, by omega, by simp; omega, by simp; omega⟩
    · have := rowW_heap (w := w0) (cs := [.slice (some ⟨N, 0, none⟩) (n + k) c, .int .i64 (s : Int), .int .i64 (p : Int), .int .i64 (q : Int), .slice none 0 0]) (e := 182) (D := P) hd
      rw [← HC.out]
      exact this
    · rw [rowW_other H3.out]
      exact hh

set_option maxRecDepth 100000 in
set_option maxHeartbeats 4000000 in
theorem appGrowA_calls (B P s p q k : Nat) (l : List Int) (w : World) (hB : Buf w B P s p q l) (hp : p ≤ 100000) (hq : q ≤ 100000) (hk : p + q < s + l.length + k) (hk2 : k ≤ 1000) (hl : l.length ≤ 100000) (hBw : B ≤ w.heap.size) (hqk : q < k) :
    Calls Try.prog 156 #[.pointer (some ⟨P, 0, none⟩), .int .i64 (k : Int)] w (Opens w B P k (s + l.length) s p (q + k) l []) := by
  obtain ⟨N, row, b1, b2, b3, b4, b5, b6, b7, b8, b9, b10, b11⟩ := hB
  obtain ⟨n, hn⟩ : ∃ n, n = s + l.length := ⟨_, rfl⟩
  obtain ⟨c, hc⟩ : ∃ c, c = p + q := ⟨_, rfl⟩
  rw [← hn, ← hc] at b4
  rw [← hc] at b6
  have n1 : n ≤ s + l.length := by omega
  have n2 : s + l.length ≤ n := by omega
  have c1 : c ≤ p + q := by omega
  have c2 : p + q ≤ c := by omega
  have HN := Lib.hid hn
  have HC := Lib.hid hc
  clear hn hc
  obtain ⟨w0, rfl⟩ : ∃ w0, w = rowW w0 P [.slice (some ⟨N, 0, none⟩) n c, .int .i64 (s : Int), .int .i64 (p : Int), .int .i64 (q : Int), .slice none 0 0] 182 := ⟨w, (rowW_self b4).symm⟩
  have hd : Has w0 P := by unfold Has; rw [← rowW_size (cs := [.slice (some ⟨N, 0, none⟩) n c, .int .i64 (s : Int), .int .i64 (p : Int), .int .i64 (q : Int), .slice none 0 0]) (e := 182) (D := P)]; exact (Array.getElem?_eq_some_iff.1 b4).1
  rw [rowW_size] at hBw
  have hPN : w0.heap.size ≠ P := fun h => by have : P < w0.heap.size := hd; omega
  have hsrc0 : IsB (rowW w0 P [.slice (some ⟨N, 0, none⟩) n c, .int .i64 (s : Int), .int .i64 (p : Int), .int .i64 (q : Int), .slice none 0 0] 182) (.slice (some ⟨N, s, none⟩) l.length (l.length)) l := by
    refine ⟨_, _, rfl, Nat.le_refl _, by unfold maxLen; omega, b8, .inr ⟨_, rfl, fun i hi => ⟨rfl, ?_⟩⟩⟩
    have := b7 i hi
    simp [World.cell?, b5, this]
  have hsb : (Value.slice (some ⟨N, s, none⟩) l.length l.length).ownBlock ≠ some P := by simp [Value.ownBlock]; exact b3
  have hsrc1 : IsB w0 (.slice (some ⟨N, s, none⟩) l.length (l.length)) l := hsrc0.unrow hsb
  obtain ⟨a', a1, a2, s1⟩ := cutd_l (b := N) (n := n) (c := c) (lo := s) (s : Int) rfl (by omega) (by omega)
  have e1 : n - s = l.length := by omega
  rw [e1] at s1
  obtain ⟨M, hM⟩ : ∃ M, M = c + k := ⟨_, rfl⟩
  have hMi : (M : Int) = (c : Int) + (k : Int) := by omega
  obtain ⟨dp, d1, d2, s2⟩ := cutd_l (b := w0.heap.size) (n := M) (c := M) (lo := s) (s : Int) rfl (by omega) (by omega)
  have s3 := fun K w => cutd_h (b := w0.heap.size) (n := M) (c := M) (hi' := n) (n : Int) rfl (by omega) (by omega) K w
  have s5 := fun K w => cutd_h (b := w0.heap.size) (n := n) (c := M) (hi' := n + k) ((n : Int) + (k : Int)) (by omega) (by omega) (by omega) K w
  obtain ⟨rp, r1, r2, s4⟩ := cutd_l (b := w0.heap.size) (n := n + k) (c := M) (lo := n) (n : Int) rfl (by omega) (by omega)
  have e2 : n + k - n = k := by omega
  rw [e2] at s4
  have hmk := make_zs M (by omega)
  rw [hMi] at hmk
  have t0 : decide ((k : Int) < 0) = false := by simp
  have t1 : decide ((c : Int) - (n : Int) < (k : Int)) = true := by simp; omega
  have t2 : decide ((q : Int) < (k : Int)) = true := by simp; omega
  have u1 : IntKind.i64.wrap ((q : Int) + (k : Int)) = (q : Int) + (k : Int) := w64 (by omega) (by omega)
  have u2 : IntKind.i64.wrap ((c : Int) + (k : Int)) = (c : Int) + (k : Int) := w64 (by omega) (by omega)
  have u3 : IntKind.i64.wrap ((n : Int) + (k : Int)) = (n : Int) + (k : Int) := w64 (by omega) (by omega)
  have u4 : IntKind.i64.wrap ((c : Int) - (n : Int)) = (c : Int) - (n : Int) := w64 (by omega) (by omega)
  have m1 : M ≤ c + k := by omega
  have m2 : c + k ≤ M := by omega
  have hmin : l.length = Nat.min l.length (M - s) := by simp only [Nat.min_def]; split <;> omega
  have HMIN := Lib.hid hmin
  have H1 := Lib.hid b1; have H2 := Lib.hid b2; have H3 := Lib.hid b3; have H5 := Lib.hid b5; have H6 := Lib.hid b6; have H7 := Lib.hid b7; have H8 := Lib.hid b8
  have HS := Lib.hid hsrc1; have HSB := Lib.hid hsb; have A1 := Lib.hid a1; have D1 := Lib.hid d1; have R1 := Lib.hid r1; have HM := Lib.hid hM
  clear b1 b2 b3 b4 b5 b6 b7 b8 a1 a2 d1 d2 r1 r2 e1 e2 hM hMi hsrc0 hsrc1 hsb hmin
  go_enter Try.func156, Try.ntmps156
  go_wp2_with fail
  have hz : (rowW (w0.alloc (.cells (zs M).toArray 5)) P [.slice (some ⟨N, 0, none⟩) n c, .int .i64 (s : Int), .int .i64 (p : Int), .int .i64 ((q : Int) + (k : Int)), .slice none 0 0] 182).heap[w0.heap.size]? = some (.cells (zs M).toArray 5 (0, 0)) := by
    rw [rowW_other hPN]; exact heap_alloc_new w0 _
  have hG0 : Gr (rowW w0 P [.slice (some ⟨N, 0, none⟩) n c, .int .i64 (s : Int), .int .i64 (p : Int), .int .i64 ((q : Int) + (k : Int)), .slice none 0 0] 182) (rowW (w0.alloc (.cells (zs M).toArray 5)) P [.slice (some ⟨N, 0, none⟩) n c, .int .i64 (s : Int), .int .i64 (p : Int), .int .i64 ((q : Int) + (k : Int)), .slice none 0 0] 182).drew := by
    rw [← rowW_alloc hd]; exact ((Gr.refl _).alloc _).drew
  have hS : IsB (rowW (w0.alloc (.cells (zs M).toArray 5)) P [.slice (some ⟨N, 0, none⟩) n c, .int .i64 (s : Int), .int .i64 (p : Int), .int .i64 ((q : Int) + (k : Int)), .slice none 0 0] 182).drew (.slice (some ⟨N, s, none⟩) l.length l.length) l := ((HS.out.gr ((Gr.refl _).alloc _)).rowW HSB.out).drew
  have hsrc : 0 < (bcells l).length → dp = some ⟨w0.heap.size, s, none⟩ ∧ ∃ ad, a' = some ad ∧ ∀ j v, (bcells l)[j]? = some v → (rowW (w0.alloc (.cells (zs M).toArray 5)) P [.slice (some ⟨N, 0, none⟩) n c, .int .i64 (s : Int), .int .i64 (p : Int), .int .i64 ((q : Int) + (k : Int)), .slice none 0 0] 182).drew.cell? (ad.add j) = some v := fun h0 => by
    rw [bcells_length] at h0
    obtain ⟨ad, e, hh⟩ := hS.src h0
    cases e
    exact ⟨D1.out (by omega), _, A1.out (by omega), hh⟩
  go_region_law (refine step_copy_splice rfl (.tmp 55) (.tmp 64) 22 22 rfl 5 Try.underlying22 size_u8 dp a' (M - s) (M - s) l.length (c - s) (by simp [Act.eval, Act.put]) (by simp [Act.eval, Act.put]) w0.heap.size s (zs M) 5 hz (bcells l) (by rw [bcells_length]; exact HMIN.out) hsrc (by rw [zs_length, bcells_length]; omega) (bcells_one l) (rowW w0 P [.slice (some ⟨N, 0, none⟩) n c, .int .i64 (s : Int), .int .i64 (p : Int), .int .i64 ((q : Int) + (k : Int)), .slice none 0 0] 182).heap.size (rowW w0 P [.slice (some ⟨N, 0, none⟩) n c, .int .i64 (s : Int), .int .i64 (p : Int), .int .i64 ((q : Int) + (k : Int)), .slice none 0 0] 182) hG0.below (by rw [rowW_size]; exact Nat.le_refl _) ?_; intro w4 hg4 hb4)
  all_goals
    have G4 := gr_of_below hb4
    clear hb4 hz hG0 hS hsrc
    obtain ⟨wC, hdC, rfl⟩ := G4.rowOut hd
    go_wp2_with fail
    have hrow := hg4.out
    rw [rowW_other hPN] at hrow
    have hf : s + (bcells l).length ≤ (zs M).length := by rw [zs_length, bcells_length]; omega
    refine bodyPost_ret (v := .tuple #[.slice rp k (M - n), .nilIface]) (by simp [results, Try.results156, go_sem]) rfl ⟨_, _, w0.heap.size, splice (zs M) s (bcells l), rfl, fun h0 => by rw [← HN.out]; exact R1.out (by omega), row_turn G4, ?_⟩
    rw [← HN.out]
    refine ⟨H1.out, hBw, hPN, HN.out, ?_, ?_, by rw [length_splice _ _ _ hf, zs_length, HM.out, HC.out]; omega, fun i hi => ?_, fun i hi => absurd hi (by simp), H8.out, allB_nil, by omega, by simp; omega, by simp; omega⟩
    · rw [rowW_heap hdC]
      have x3 : ((q + k : Nat) : Int) = (q : Int) + (k : Int) := by omega
      have x4 : p + (q + k) = M := by omega
      rw [x3, x4]
      simp
    · rw [rowW_other hPN]
      exact hrow
    · rw [splice_get hf, bcells_length, if_neg (by omega), if_pos (by omega), bcells_get (by omega)]
      congr 3
      omega

set_option maxRecDepth 100000 in
set_option maxHeartbeats 4000000 in
theorem appGrowB_calls (B P s p q k : Nat) (l : List Int) (w : World) (hB : Buf w B P s p q l) (hp : p ≤ 100000) (hq : q ≤ 100000) (hk : p + q < s + l.length + k) (hk2 : k ≤ 1000) (hl : l.length ≤ 100000) (hBw : B ≤ w.heap.size) (hqk : k ≤ q) :
    Calls Try.prog 156 #[.pointer (some ⟨P, 0, none⟩), .int .i64 (k : Int)] w (Opens w B P k (s + l.length) s p (q + q) l []) := by
  obtain ⟨N, row, b1, b2, b3, b4, b5, b6, b7, b8, b9, b10, b11⟩ := hB
  obtain ⟨n, hn⟩ : ∃ n, n = s + l.length := ⟨_, rfl⟩
  obtain ⟨c, hc⟩ : ∃ c, c = p + q := ⟨_, rfl⟩
  rw [← hn, ← hc] at b4
  rw [← hc] at b6
  have n1 : n ≤ s + l.length := by omega
  have n2 : s + l.length ≤ n := by omega
  have c1 : c ≤ p + q := by omega
  have c2 : p + q ≤ c := by omega
  have HN := Lib.hid hn
  have HC := Lib.hid hc
  clear hn hc
  obtain ⟨w0, rfl⟩ : ∃ w0, w = rowW w0 P [.slice (some ⟨N, 0, none⟩) n c, .int .i64 (s : Int), .int .i64 (p : Int), .int .i64 (q : Int), .slice none 0 0] 182 := ⟨w, (rowW_self b4).symm⟩
  have hd : Has w0 P := by unfold Has; rw [← rowW_size (cs := [.slice (some ⟨N, 0, none⟩) n c, .int .i64 (s : Int), .int .i64 (p : Int), .int .i64 (q : Int), .slice none 0 0]) (e := 182) (D := P)]; exact (Array.getElem?_eq_some_iff.1 b4).1
  rw [rowW_size] at hBw
  have hPN : w0.heap.size ≠ P := fun h => by have : P < w0.heap.size := hd; omega
  have hsrc0 : IsB (rowW w0 P [.slice (some ⟨N, 0, none⟩) n c, .int .i64 (s : Int), .int .i64 (p : Int), .int .i64 (q : Int), .slice none 0 0] 182) (.slice (some ⟨N, s, none⟩) l.length (l.length)) l := by
    refine ⟨_, _, rfl, Nat.le_refl _, by unfold maxLen; omega, b8, .inr ⟨_, rfl, fun i hi => ⟨rfl, ?_⟩⟩⟩
    have := b7 i hi
    simp [World.cell?, b5, this]
  have hsb : (Value.slice (some ⟨N, s, none⟩) l.length l.length).ownBlock ≠ some P := by simp [Value.ownBlock]; exact b3
  have hsrc1 : IsB w0 (.slice (some ⟨N, s, none⟩) l.length (l.length)) l := hsrc0.unrow hsb
  obtain ⟨a', a1, a2, s1⟩ := cutd_l (b := N) (n := n) (c := c) (lo := s) (s : Int) rfl (by omega) (by omega)
  have e1 : n - s = l.length := by omega
  rw [e1] at s1
  obtain ⟨M, hM⟩ : ∃ M, M = c + q := ⟨_, rfl⟩
  have hMi : (M : Int) = (c : Int) + (q : Int) := by omega
  obtain ⟨dp, d1, d2, s2⟩ := cutd_l (b := w0.heap.size) (n := M) (c := M) (lo := s) (s : Int) rfl (by omega) (by omega)
  have s3 := fun K w => cutd_h (b := w0.heap.size) (n := M) (c := M) (hi' := n) (n : Int) rfl (by omega) (by omega) K w
  have s5 := fun K w => cutd_h (b := w0.heap.size) (n := n) (c := M) (hi' := n + k) ((n : Int) + (k : Int)) (by omega) (by omega) (by omega) K w
  obtain ⟨rp, r1, r2, s4⟩ := cutd_l (b := w0.heap.size) (n := n + k) (c := M) (lo := n) (n : Int) rfl (by omega) (by omega)
  have e2 : n + k - n = k := by omega
  rw [e2] at s4
  have hmk := make_zs M (by omega)
  rw [hMi] at hmk
  have t0 : decide ((k : Int) < 0) = false := by simp
  have t1 : decide ((c : Int) - (n : Int) < (k : Int)) = true := by simp; omega
  have t2 : decide ((q : Int) < (k : Int)) = false := by simp; omega
  have u1 : IntKind.i64.wrap ((q : Int) + (q : Int)) = (q : Int) + (q : Int) := w64 (by omega) (by omega)
  have u2 : IntKind.i64.wrap ((c : Int) + (q : Int)) = (c : Int) + (q : Int) := w64 (by omega) (by omega)
  have u3 : IntKind.i64.wrap ((n : Int) + (k : Int)) = (n : Int) + (k : Int) := w64 (by omega) (by omega)
  have u4 : IntKind.i64.wrap ((c : Int) - (n : Int)) = (c : Int) - (n : Int) := w64 (by omega) (by omega)
  have m1 : M ≤ c + q := by omega
  have m2 : c + q ≤ M := by omega
  have hmin : l.length = Nat.min l.length (M - s) := by simp only [Nat.min_def]; split <;> omega
  have HMIN := Lib.hid hmin
  have H1 := Lib.hid b1; have H2 := Lib.hid b2; have H3 := Lib.hid b3; have H5 := Lib.hid b5; have H6 := Lib.hid b6; have H7 := Lib.hid b7; have H8 := Lib.hid b8
  have HS := Lib.hid hsrc1; have HSB := Lib.hid hsb; have A1 := Lib.hid a1; have D1 := Lib.hid d1; have R1 := Lib.hid r1; have HM := Lib.hid hM
  clear b1 b2 b3 b4 b5 b6 b7 b8 a1 a2 d1 d2 r1 r2 e1 e2 hM hMi hsrc0 hsrc1 hsb hmin
  go_enter Try.func156, Try.ntmps156
  go_wp2_with fail
  have hz : (rowW (w0.alloc (.cells (zs M).toArray 5)) P [.slice (some ⟨N, 0, none⟩) n c, .int .i64 (s : Int), .int .i64 (p : Int), .int .i64 ((q : Int) + (q : Int)), .slice none 0 0] 182).heap[w0.heap.size]? = some (.cells (zs M).toArray 5 (0, 0)) := by
    rw [rowW_other hPN]; exact heap_alloc_new w0 _
  have hG0 : Gr (rowW w0 P [.slice (some ⟨N, 0, none⟩) n c, .int .i64 (s : Int), .int .i64 (p : Int), .int .i64 ((q : Int) + (q : Int)), .slice none 0 0] 182) (rowW (w0.alloc (.cells (zs M).toArray 5)) P [.slice (some ⟨N, 0, none⟩) n c, .int .i64 (s : Int), .int .i64 (p : Int), .int .i64 ((q : Int) + (q : Int)), .slice none 0 0] 182).drew := by
    rw [← rowW_alloc hd]; exact ((Gr.refl _).alloc _).drew
  have hS : IsB (rowW (w0.alloc (.cells (zs M).toArray 5)) P [.slice (some ⟨N, 0, none⟩) n c, .int .i64 (s : Int), .int .i64 (p : Int), .int .i64 ((q : Int) + (q : Int)), .slice none 0 0] 182).drew (.slice (some ⟨N, s, none⟩) l.length l.length) l := ((HS.out.gr ((Gr.refl _).alloc _)).rowW HSB.out).drew
  have hsrc : 0 < (bcells l).length → dp = some ⟨w0.heap.size, s, none⟩ ∧ ∃ ad, a' = some ad ∧ ∀ j v, (bcells l)[j]? = some v → (rowW (w0.alloc (.cells (zs M).toArray 5)) P [.slice (some ⟨N, 0, none⟩) n c, .int .i64 (s : Int), .int .i64 (p : Int), .int .i64 ((q : Int) + (q : Int)), .slice none 0 0] 182).drew.cell? (ad.add j) = some v := fun h0 => by
    rw [bcells_length] at h0
    obtain ⟨ad, e, hh⟩ := hS.src h0
    cases e
    exact ⟨D1.out (by omega), _, A1.out (by omega), hh⟩
  go_region_law (refine step_copy_splice rfl (.tmp 55) (.tmp 64) 22 22 rfl 5 Try.underlying22 size_u8 dp a' (M - s) (M - s) l.length (c - s) (by simp [Act.eval, Act.put]) (by simp [Act.eval, Act.put]) w0.heap.size s (zs M) 5 hz (bcells l) (by rw [bcells_length]; exact HMIN.out) hsrc (by rw [zs_length, bcells_length]; omega) (bcells_one l) (rowW w0 P [.slice (some ⟨N, 0, none⟩) n c, .int .i64 (s : Int), .int .i64 (p : Int), .int .i64 ((q : Int) + (q : Int)), .slice none 0 0] 182).heap.size (rowW w0 P [.slice (some ⟨N, 0, none⟩) n c, .int .i64 (s : Int), .int .i64 (p : Int), .int .i64 ((q : Int) + (q : Int)), .slice none 0 0] 182) hG0.below (by rw [rowW_size]; exact Nat.le_refl _) ?_; intro w4 hg4 hb4)
  all_goals
    have G4 := gr_of_below hb4
    clear hb4 hz hG0 hS hsrc
    obtain ⟨wC, hdC, rfl⟩ := G4.rowOut hd
    go_wp2_with fail
    have hrow := hg4.out
    rw [rowW_other hPN] at hrow
    have hf : s + (bcells l).length ≤ (zs M).length := by rw [zs_length, bcells_length]; omega
    refine bodyPost_ret (v := .tuple #[.slice rp k (M - n), .nilIface]) (by simp [results, Try.results156, go_sem]) rfl ⟨_, _, w0.heap.size, splice (zs M) s (bcells l), rfl, fun h0 => by rw [← HN.out]; exact R1.out (by omega), row_turn G4, ?_⟩
    rw [← HN.out]
    refine ⟨H1.out, hBw, hPN, HN.out, ?_, ?_, by rw [length_splice _ _ _ hf, zs_length, HM.out, HC.out]; omega, fun i hi => ?_, fun i hi => absurd hi (by simp), H8.out, allB_nil, by omega, by simp; omega, by simp; omega⟩
    · rw [rowW_heap hdC]
      have x3 : ((q + q : Nat) : Int) = (q : Int) + (q : Int) := by omega
      have x4 : p + (q + q) = M := by omega
      rw [x3, x4]
      simp
    · rw [rowW_other hPN]
      exact hrow
    · rw [splice_get hf, bcells_length, if_neg (by omega), if_pos (by omega), bcells_get (by omega)]
      congr 3
      omega

/-- bytes laid behind, whatever room there is -/
theorem appB_calls (B P s p q k : Nat) (l : List Int) (w : World) (hB : Buf w B P s p q l) (hp : p ≤ 50000) (hq : q ≤ 50000) (hk : k ≤ 1000) (hl : l.length ≤ 20000) (hBw : B ≤ w.heap.size) :
    Calls Try.prog 156 #[.pointer (some ⟨P, 0, none⟩), .int .i64 (k : Int)] w fun e w' => ∃ (a : Option Addr) (c N : Nat) (row : List Value) (q' : Nat), e = .returned (.tuple #[.slice a k c, .nilIface]) ∧ (0 < k → a = some ⟨N, s + l.length, none⟩) ∧ w.grownBy w' (some P) ∧ Room w' B P N row (s + l.length) k s p q' l [] ∧ q' ≤ 50000 := by
  have hps : s ≤ p := by obtain ⟨N, row, b1, b2, b3, b4, b5, b6, b7, b8, b9, b10, b11⟩ := hB; exact b9
  by_cases h1 : s + l.length + k ≤ p + q
  · refine (appIn_calls B P s p q k l w hB (by omega) (by omega) h1).mono ?_
    rintro e w' ⟨a, c, N, row, rfl, ha, hg, hr⟩
    exact ⟨a, c, N, row, _, rfl, ha, hg, hr, hq⟩
  · by_cases h2 : q < k
    · refine (appGrowA_calls B P s p q k l w hB (by omega) (by omega) (by omega) hk (by omega) hBw h2).mono ?_
      rintro e w' ⟨a, c, N, row, rfl, ha, hg, hr⟩
      exact ⟨a, c, N, row, _, rfl, ha, hg, hr, by omega⟩
    · refine (appGrowB_calls B P s p q k l w hB (by omega) (by omega) (by omega) hk (by omega) hBw (by omega)).mono ?_
      rintro e w' ⟨a, c, N, row, rfl, ha, hg, hr⟩
      exact ⟨a, c, N, row, _, rfl, ha, hg, hr, by omega⟩

end Go.Proofs.Ytbojideclbjlgaa
