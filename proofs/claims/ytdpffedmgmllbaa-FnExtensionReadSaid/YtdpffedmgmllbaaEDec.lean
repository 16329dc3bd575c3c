/-
  A header behind that of a packet: decoding, with its options in memory of their own.
-/
import Derived.Test.YtdpffedmgmllbaaEDec0
import Derived.Test.YtdpffedmgmllbaaESpec
import Derived.Test.YtdpffedmgmllbaaRecsG
import Derived.Test.YtdpffedmgmllbaaIP4H
namespace Go.Proofs.Ytdpffedmgmllbaa
open Go.RowKit

/-- a record that is a pointer at a block: the block's number stands as the kind -/
def rcP (p : Opt × Value) : List Value := [.pointer (some ⟨p.1.kind.toNat, 0, none⟩)]
theorem rcP_len (p : Opt × Value) : (rcP p).length = 1 := rfl
/-- an option in a block of its own -/
def TlvAt (w : World) (b : Nat) (xo : Opt) (B : Option Nat) : Prop := ∃ ln M a n c, w.heap[b]? = some (.cells #[.int .u8 xo.kind, .int .u8 ln, .int .i64 M, .slice a n c, .int .u8 0, .int .u8 0] 175 (0, 0)) ∧ IsB w (.slice a n c) xo.data ∧ ((Value.slice a n c).ownBlock = B ∨ xo.data = [])
theorem IsB.empty {w w' : World} {s : Value} {l : List Int} (h : IsB w s l) (hl : l = []) : IsB w' s l := by
  obtain ⟨a, c, rfl, h1, h2, h3, h4⟩ := h
  subst hl
  refine ⟨a, c, rfl, h1, h2, h3, ?_⟩
  rcases h4 with h4 | ⟨ad, rfl, h5⟩
  · exact .inl h4
  · exact .inr ⟨ad, rfl, fun i hi => absurd hi (by simp)⟩
theorem TlvAt.keep {w w' : World} {b : Nat} {xo : Opt} {B : Option Nat} (h : TlvAt w b xo B) (hb : w'.heap[b]? = w.heap[b]?) (hd : ∀ s l, IsB w s l → s.ownBlock = B → IsB w' s l) : TlvAt w' b xo B := by
  obtain ⟨ln, M, a, n, c, h1, h2, h3⟩ := h
  refine ⟨ln, M, a, n, c, hb.trans h1, ?_, h3⟩
  rcases h3 with h3 | h3
  · exact hd _ _ h2 h3
  · exact h2.empty h3
theorem typed_cons {os : List Opt} {k : Nat} (h : k < os.length) : typedB (os.drop k) = typB (os.getD k Opt.zero) ++ typedB (os.drop (k + 1)) := by
  unfold typedB
  rw [List.drop_eq_getElem_cons h, List.map_cons, List.flatten_cons, List.getD_eq_getElem?_getD, List.getElem?_eq_getElem h]
  rfl
theorem typed_rest (os : List Opt) (k : Nat) : typedB os = typedB (os.take k) ++ typedB (os.drop k) := by
  conv => lhs; rw [← List.take_append_drop k os]
  exact typed_append _ _
theorem typB_pos (x : Opt) : 1 ≤ (typB x).length := by unfold typB; split <;> simp
theorem box1 {w : World} {b : Nat} (hb : b = w.heap.size) (p : Value) (t : TypeId) : ∀ i u, [p][i]? = some u → (w.alloc (.cells #[p] t)).cell? ⟨b, i, none⟩ = some u := by
  subst hb
  exact fun i u hu => cell_of_heap (cs := [p]) (heap_alloc_new w (.cells #[p] t)) i u hu
theorem box1P {w : World} {b : Nat} (hb : b = w.heap.size) (B : Nat) (s : Value) (t : TypeId) : ∀ i u, (rcP (⟨(B : Int), 0, []⟩, s))[i]? = some u → (w.alloc (.cells #[.pointer (some ⟨B, 0, none⟩)] t)).cell? ⟨b, i, none⟩ = some u := fun i u hu => box1 hb _ t i u hu
theorem isB_nilP {w : World} (B : Nat) : IsB w (.slice none 0 0) (Opt.mk (B : Int) 0 []).data := isB_nil
theorem asideP (B : Nat) (s : Value) (k : Nat) : Aside s (Opt.mk (B : Int) 0 []).data k := Or.inl rfl
theorem one1P (B : Nat) (s : Value) : ∀ u ∈ rcP (⟨(B : Int), 0, []⟩, s), u.oneCell' = true := by
  intro u hu
  simp [rcP] at hu
  subst hu; rfl
theorem row_step0 {w x : World} {D : Nat} {cs cs' : List Value} {e : TypeId} (hd : Has w D) (hg : Gr w x) (hw : w.heap[D]? = some (.cells cs.toArray e (0, 0))) : w.grownBy (rowW x D cs' e) (some D) := by
  have h := row_step (cs := cs) (cs' := cs') (e := e) hd hg
  rw [rowW_self hw] at h
  exact h
theorem OwnG.base {rc : Opt × Value → List Value} {z : Nat} {w : World} {base base' : Nat} {e : TypeId} {D : Nat} {v : Value} {rs : List (Opt × Value)} (h : OwnG rc z w base e D v rs) (hb : base' ≤ base) : OwnG rc z w base' e D v rs := by
  obtain ⟨⟨h1, h2⟩, h3⟩ := h
  refine ⟨⟨h1, ?_⟩, h3⟩
  rcases h2 with h2 | ⟨g, cap, cur, e1, e2, e3⟩
  · exact .inl h2
  · exact .inr ⟨g, cap, cur, e1, by omega, e3⟩
/-- the options as they are kept -/
def ExtKept (w : World) (D base : Nat) (v : Value) (B : Option Nat) (rs : List (Opt × Value)) (os : List Opt) : Prop :=
  ∀ (j : Nat) (p : Opt × Value) (xo : Opt), rs[j]? = some p → os[j]? = some xo → ∃ b : Nat, p.1.kind = (b : Int) ∧ b ≠ D ∧ base ≤ b ∧ b < w.heap.size ∧ v.ownBlock ≠ some b ∧ TlvAt w b xo B

theorem info_pH : (Try.prog.info? 128).map (fun i => (i.zero, i.size, i.bytes)) = some (some (.pointer none), 1, 8) := by kernel_rfl
theorem nil_hH (k : IntKind) (w : World) : (Instr.sliceAt 125 (.slice none 0 0) none (some (.int k 0)) none).run Try.prog w = .ok (.slice none 0 0) w := by
  obtain ⟨i, hi, he⟩ := Option.map_eq_some_iff.1 info_pH
  simp only [Prod.mk.injEq] at he
  have hE : Try.prog.elem 125 = 128 := by simp [Program.elem, Try.underlying125]
  rw [run_sliceAt_slice w 125 _ _ _ _ (by rw [hE]; exact Try.underlying125), run_slice_h w 125 _ _ _ (by rw [hE]; exact Try.underlying125) k 0 (by omega) (by omega)]
  simp [sizeOf, typeInfo, hE, hi, he.2.1, Result.andThen, sliced]
/-- what holds ahead of a round -/
def ERelH (wb : World) (D : Nat) (B : Option Nat) (os : List Opt) (c : Value → List Value) (i : Value) (wr : World) : Prop :=
  ∃ (k : Nat) (q : Nat) (rs : List (Opt × Value)) (x : World) (a : Option Addr) (n m : Nat), k ≤ os.length ∧ i = .int .i64 q ∧ q = 2 + (typedB (os.take k)).length ∧ wr = rowW x D (c (.slice a n m)) 127 ∧ Has x D ∧ Gr wb x ∧ OwnG rcP 1 wr wb.heap.size 128 D (.slice a n m) rs ∧ rs.length = k ∧ ExtKept wr D wb.heap.size (.slice a n m) B rs os

set_option linter.unusedVariables false in
set_option linter.unusedSimpArgs false in
set_option maxRecDepth 100000 in
set_option maxHeartbeats 8000000 in
theorem extDecodeH_calls (D : Nat) (av : Option Addr) (nv cv : Nat) (l pl : List Int) (os : List Opt) (w : World) (hD : w.heap[D]? = some (.cells [.slice none 0 0, .slice none 0 0, .int .u8 0, .int .u8 0, .int .i64 0, .slice none 0 0].toArray 127 (0, 0))) (h : IsB w (.slice av nv cv) l) (hne : (Value.slice av nv cv).ownBlock ≠ some D) (hok : ∀ x ∈ os, OkKind x) (hlo : os.length ≤ 30) (hl : l.length ≤ 1000000) (hA : bt l 1 * 8 + 8 = 2 + ((typedB os).length : Int)) (hO : l.drop 2 = typedB os ++ pl) (hp : pl ≠ []) (h2 : 2 ≤ l.length) :
    Calls Try.prog 56 #[.pointer (some ⟨D, 0, none⟩), .slice av nv cv, .iface 156 (.agg #[])] w fun e w' => e = .returned .nilIface ∧ w.grownBy w' (some D) ∧ ∃ a1 n1 c1 a2 n2 c2 a n m rs, w'.heap[D]? = some (.cells [.slice a1 n1 c1, .slice a2 n2 c2, .int .u8 (bt l 0), .int .u8 (bt l 1), .int .i64 (2 + ((typedB os).length : Int)), .slice a n m].toArray 127 (0, 0)) ∧ IsB w' (.slice a2 n2 c2) pl ∧ OwnG rcP 1 w' w.heap.size 128 D (.slice a n m) rs ∧ rs.length = os.length ∧ ExtKept w' D w.heap.size (.slice a n m) (Value.slice av nv cv).ownBlock rs os := by
  obtain ⟨i, hi, hz0, hz1, hz2⟩ := info_parts info_u8
  have HI8 := Lib.hid (And.intro hi hz1)
  have hDl : D < w.heap.size := (Array.getElem?_eq_some_iff.1 hD).1
  have hll : l.length = 2 + ((typedB os).length + pl.length) := by have e := congrArg List.length hO; rw [List.length_drop, List.length_append] at e; omega
  have hpl : 0 < pl.length := List.length_pos_iff.2 hp
  obtain ⟨AL, hAL⟩ : ∃ AL : Nat, AL = 2 + (typedB os).length := ⟨_, rfl⟩
  have hlen := fun ty => h.len (P := Try.prog) 25 ty 5 Try.underlying25
  have hdrop : l.drop AL = pl := by rw [hAL, ← List.drop_drop, hO, List.drop_left]
  have hnh := nil_hH
  have HV := Lib.hid h
  have HNE := Lib.hid hne
  have HD := Lib.hid hD
  have HO := Lib.hid hO
  have HOK := Lib.hid hok
  have hA' : bt l 1 * 8 + 8 = (AL : Int) := by omega
  have HA := Lib.hid hA'
  have HAL := Lib.hid hAL
  have HDR := Lib.hid hdrop
  have hAll : AL ≤ l.length := by omega
  have HLL := Lib.hid hll
  have hlp : 0 < l.length := by omega
  have hAL2 : AL ≤ 1000000 := by omega
  clear hi hz0 hz1 hz2 h hne hD hO hok hA hA' hAL hdrop hll
  go_enter Try.func56, Try.ntmps56
  go_wp2_with (go_at_call 76; refine (extBase_calls (.slice av nv cv) _ l AL w HV.out (by omega) HA.out hAll (by omega)).mono ?_; rintro e w1 ⟨a1, n1, c1, a2, n2, c2, rfl, hI1, hI2, hB2, hg1⟩; obtain ⟨x, hX, rfl⟩ : ∃ x, Has x D ∧ w1 = rowW x D [.slice none 0 0, .slice none 0 0, .int .u8 0, .int .u8 0, .int .i64 0, .slice none 0 0] 127 := ⟨w1, (Array.getElem?_eq_some_iff.1 (heap_gr hg1 HD.out)).1, (rowW_self (heap_gr hg1 HD.out)).symm⟩)
  obtain ⟨x0, hx0⟩ : ∃ x0, x0 = bt l 0 := ⟨_, rfl⟩
  obtain ⟨x1, hx1⟩ : ∃ x1, x1 = bt l 1 := ⟨_, rfl⟩
  rw [← hx0, ← hx1]
  obtain ⟨wb, hwb⟩ : ∃ wb, wb = rowW x D [.slice a1 n1 c1, .slice a2 n2 c2, .int .u8 x0, .int .u8 x1, .int .i64 (AL : Int), .slice none 0 0] 127 := ⟨_, rfl⟩
  have hHB : wb.heap[D]? = some (.cells [.slice a1 n1 c1, .slice a2 n2 c2, .int .u8 x0, .int .u8 x1, .int .i64 (AL : Int), .slice none 0 0].toArray 127 (0, 0)) := by rw [hwb]; exact rowW_heap hX
  have hgw : w.grownBy wb (some D) := by rw [hwb]; exact grownBy_step (hg1.to (some D)) (rowW_rowW (n := 0)) (fun _ _ => .inr rfl)
  have hVb : IsB wb (.slice av nv cv) l := by rw [hwb]; exact (HV.out.gr hg1).keptE (rowW_rowW (n := 0)) (.inr HNE.out)
  have hPb : IsB wb (.slice a2 n2 c2) pl := by rw [hwb]; rw [HDR.out] at hI2; exact hI2.keptE (rowW_rowW (n := 0)) (.inr (by rw [hB2]; exact HNE.out))
  rw [← hwb]
  have hdT : Has wb D := (Array.getElem?_eq_some_iff.1 hHB).1
  have hsw := hgw.size
  obtain ⟨B, hB⟩ : ∃ B, B = (Value.slice av nv cv).ownBlock := ⟨_, rfl⟩
  have hBlt : ∀ k, B = some k → k < wb.heap.size := fun k hk => by
    rcases Nat.lt_or_ge k wb.heap.size with h | h
    · exact h
    · exact absurd (hB.symm.trans hk) ((hVb.aside h).resolve_left (by intro e; rw [e] at hlp; simp at hlp))
  have hBD : B ≠ some D := by rw [hB]; exact HNE.out
  have HHB := Lib.hid hHB
  have HGW := Lib.hid hgw
  have HVB := Lib.hid hVb
  have HPB := Lib.hid hPb
  have HBB := Lib.hid (And.intro hB (And.intro hBlt hBD))
  have HX01 := Lib.hid (And.intro hx0 hx1)
  have HB2 := Lib.hid (hB2.trans hB.symm)
  clear hwb hX hg1 hI1 hI2 hB2 hHB hgw hVb hPb hB hBlt hBD hx0 hx1 x
  go_loopw [8] (ERelH wb D B os (fun o => [.slice a1 n1 c1, .slice a2 n2 c2, .int .u8 x0, .int .u8 x1, .int .i64 (AL : Int), o])) (fun i _ => AL - (intOf i).toNat)
  case atStart => exact ⟨0, 2, [], wb, none, 0, 0, Nat.zero_le _, rfl, by simp [typedB], (rowW_self HHB.out).symm, hdT, Gr.refl _, OwnG.nil, rfl, fun j p xo h => by simp at h⟩
  case round =>
    obtain ⟨k, q, rs, x, a, n, m, hk, rfl, hq, rfl, hX, hG, hOw, hrl, hkept⟩ := hrel
    have htr := typed_rest os k
    have htl := congrArg List.length htr
    rw [List.length_append] at htl
    by_cases hlt : k < os.length
    · have htc := typed_cons hlt
      have hpos := typB_pos (os.getD k Opt.zero)
      have hsn := typed_snoc hlt
      have hmem : os.getD k Opt.zero ∈ os := by rw [List.getD_eq_getElem?_getD, List.getElem?_eq_getElem hlt]; exact List.getElem_mem hlt
      have hxk : os[k]? = some (os.getD k Opt.zero) := by rw [List.getD_eq_getElem?_getD, List.getElem?_eq_getElem hlt]; rfl
      obtain ⟨xo, hxo⟩ : ∃ xo, xo = os.getD k Opt.zero := ⟨_, rfl⟩
      rw [← hxo] at htc hpos hsn hmem hxk
      obtain ⟨⟨hk0, hk1⟩, hd5, hkz⟩ := HOK.out xo hmem
      obtain ⟨TT, hTT⟩ : ∃ TT, TT = typedB (os.drop (k + 1)) ++ pl := ⟨_, rfl⟩
      have hTl : 0 < TT.length := by rw [hTT, List.length_append]; omega
      have hR : l.drop q = typB xo ++ TT := by
        rw [hq, ← List.drop_drop, HO.out, htr, htc, hTT, List.append_assoc, List.drop_left, List.append_assoc]
      have hqA : q < AL := by
        have := congrArg List.length htc
        rw [List.length_append] at this
        rw [HAL.out, hq]; omega
      have d0 : decide ((q : Int) < (AL : Int)) = true := by simp; omega
      have hWI : IsB (rowW x D [.slice a1 n1 c1, .slice a2 n2 c2, .int .u8 x0, .int .u8 x1, .int .i64 (AL : Int), .slice a n m] 127) (.slice av nv cv) l := (HVB.out.gr hG).rowW HNE.out
      obtain ⟨a', n', c', hRI, hBR, sl⟩ := hWI.cutL (P := Try.prog) 25 5 i Try.underlying25 HI8.out.1 HI8.out.2 (q : Int) q rfl (by omega)
      rw [hR] at hRI
      rw [← HBB.out.1] at hBR
      have hT : ∀ d, Calls Try.prog 77 #[.slice a' n' c', d] (rowW x D [.slice a1 n1 c1, .slice a2 n2 c2, .int .u8 x0, .int .u8 x1, .int .i64 (AL : Int), .slice a n m] 127) fun e w' => e = .returned (.tuple #[.pointer (some ⟨(rowW x D [.slice a1 n1 c1, .slice a2 n2 c2, .int .u8 x0, .int .u8 x1, .int .i64 (AL : Int), .slice a n m] 127).heap.size, 0, none⟩), .nilIface]) ∧ ∃ (ln : Int) (M : Nat) (ad : Option Addr) (nd md : Nat), w' = (rowW x D [.slice a1 n1 c1, .slice a2 n2 c2, .int .u8 x0, .int .u8 x1, .int .i64 (AL : Int), .slice a n m] 127).alloc (.cells #[.int .u8 xo.kind, .int .u8 ln, .int .i64 (M : Int), .slice ad nd md, .int .u8 0, .int .u8 0] 175) ∧ IsB (rowW x D [.slice a1 n1 c1, .slice a2 n2 c2, .int .u8 x0, .int .u8 x1, .int .i64 (AL : Int), .slice a n m] 127) (.slice ad nd md) xo.data ∧ ((Value.slice ad nd md).ownBlock = B ∨ xo.data = []) ∧ q + M = 2 + (typedB (os.take (k + 1))).length := by
        intro d
        by_cases hz : xo.kind = 0
        · have hdz := hkz hz
          have hty : typB xo = [0] := by unfold typB; rw [if_pos hz, hz]; rfl
          refine (tlv0_calls _ d (typB xo ++ TT) _ hRI (by rw [hty]; simp only [List.length_append, List.length_cons, List.length_nil]; omega) (by rw [hty]; rfl)).mono ?_
          rintro e w5 ⟨rfl, rfl⟩
          exact ⟨rfl, 0, 1, none, 0, 0, by rw [hz]; rfl, by rw [hdz]; exact isB_nil, .inr hdz, by rw [hsn, List.length_append, hty, hq]; simp only [List.length_cons, List.length_nil]; omega⟩
        · have hty : typB xo = xo.kind :: (xo.data.length : Int) :: xo.data := by
            unfold typB; rw [if_neg hz]
            have h1 : xo.kind % 256 = xo.kind := by omega
            have h2 : (xo.data.length : Int) % 256 = (xo.data.length : Int) := by omega
            rw [h1, h2]; rfl
          refine (tlvN_calls _ d (typB xo ++ TT) xo.kind (xo.data.length + 2) _ hRI (by rw [hty]; rfl) hz (by rw [hty]; show (xo.data.length : Int) + 2 = _; omega) (by rw [hty]; simp only [List.length_append, List.length_cons]; omega) (by omega) (by rw [← hR, List.length_drop]; omega)).mono ?_
          rintro e w5 ⟨rfl, ad, nd, md, rfl, hID, hBD⟩
          have e4 : ((typB xo ++ TT).take (xo.data.length + 2)).drop 2 = xo.data := by rw [hty]; simp
          rw [e4] at hID
          exact ⟨rfl, _, xo.data.length + 2, ad, nd, md, rfl, hID, .inl (hBD.trans hBR), by rw [hsn, List.length_append, hty, hq]; simp only [List.length_cons, List.length_nil]; omega⟩
      have HTT := Lib.hid hT
      have HOw := Lib.hid hOw
      have HG := Lib.hid hG
      have HKP := Lib.hid hkept
      have HXK := Lib.hid hxk
      have HRL := Lib.hid hrl
      have HLT := Lib.hid hlt
      have hDx : D < x.heap.size := hX
      have hDx' : D < (rowW x D [.slice a1 n1 c1, .slice a2 n2 c2, .int .u8 x0, .int .u8 x1, .int .i64 (AL : Int), .slice a n m] 127).heap.size := by rw [rowW_size]; exact hX
      have hszG := hG.size
      have HQ := Lib.hid (And.intro hq hqA)
      have HTK := Lib.hid (show (typedB (os.take (k + 1))).length = (typedB (os.take k)).length + (typB xo).length ∧ 1 ≤ (typB xo).length from ⟨by rw [hsn, List.length_append], hpos⟩)
      clear hT hOw hG hkept hxk hrl hlt htr htl htc hpos hsn hmem hxo hTT hTl hR hWI hRI hBR hq hk0 hk1 hd5 hkz
      have HGWY := Lib.hid (gr_rows (cs := [.slice a1 n1 c1, .slice a2 n2 c2, .int .u8 x0, .int .u8 x1, .int .i64 (AL : Int), .slice a n m]) (e := 127) hdT HG.out)
      go_wp2_with (first
        | (go_at_call 77; refine (HTT.out _).mono ?_; rintro e w5 ⟨rfl, ln, M, ad, nd, md, rfl, hID, hBD, hqM⟩; have hqb : q + M ≤ 1000000 := (by have h1 := typed_le os (k + 1); have h2 := HAL.out; omega); have HID := Lib.hid (And.intro hID (And.intro hBD hqM)); clear hID hBD hqM)
        | (with_reducible refine wpList_appG rfl (.tmp 53) (.tmp 55) 125 128 rfl Try.underlying125 _ 8 info_pH rfl (by decide) rcP_len (by omega) wb.heap.size D (.slice a n m) rs (by simp [Act.eval]) (HOw.out.gr (((Gr.refl _).alloc _).alloc _)) (x.heap.size + 1) 1 ⟨(x.heap.size : Int), 0, []⟩ (.slice none 0 0) (by simp [Act.eval]) (box1P (by rw [World.size_alloc, rowW_size]) _ _ _) (one1P _ _) (isB_nilP _) (asideP _ _ _) (fun _ _ => asideP _ _ _) (by rw [HRL.out]; omega) (by rw [World.size_alloc, World.size_alloc, rowW_size]; omega) ?_
           intro v4 w4 ho4 hg4 hat4
           obtain ⟨g4, n4, c4, rfl, hg41⟩ := ho4.slice_pos (by simp)
           have G4 := grownBy_step ((HGWY.out.alloc _).alloc _) hg4 (fun k hk => .inl (by rw [rowW_size]; exact (HOw.out.fresh k hk).1))
           have hOB := heap_alloc_new (rowW x D [.slice a1 n1 c1, .slice a2 n2 c2, .int .u8 x0, .int .u8 x1, .int .i64 (AL : Int), .slice a n m] 127) (.cells #[.int .u8 xo.kind, .int .u8 ln, .int .i64 (M : Int), .slice ad nd md, .int .u8 0, .int .u8 0] 175)
           rw [rowW_size] at hOB
           have hnb : ∀ b, b < x.heap.size + 1 → (Value.slice a n m).ownBlock ≠ some b → w4.heap[b]? = ((rowW x D [.slice a1 n1 c1, .slice a2 n2 c2, .int .u8 x0, .int .u8 x1, .int .i64 (AL : Int), .slice a n m] 127).alloc (.cells #[.int .u8 xo.kind, .int .u8 ln, .int .i64 (M : Int), .slice ad nd md, .int .u8 0, .int .u8 0] 175)).heap[b]? := fun b hb hne => by
             rw [hg4.block b (by rw [World.size_alloc, World.size_alloc, rowW_size]; omega) (by intro e; exact hne (by first | exact e | exact e.symm))]
             exact ((Gr.refl _).alloc _).block b (by rw [World.size_alloc, rowW_size]; exact hb) (by simp)
           have hownx : (Value.slice a n m).ownBlock ≠ some x.heap.size := fun e => by have := (HOw.out.fresh _ e).2; rw [rowW_size] at this; omega
           have h4 := (hnb x.heap.size (Nat.lt_succ_self _) hownx).trans hOB
           obtain ⟨x4, gx4, dx4, rfl⟩ := Gr.unrow hdT G4
           have hxD : x.heap.size ≠ D := by omega
           have kM := fun C' => rowW_swap (cs' := C') hxD (cell_of_heap (cs := [.int .u8 xo.kind, .int .u8 ln, .int .i64 (M : Int), .slice ad nd md, .int .u8 0, .int .u8 0]) h4 2 _ rfl)
           have HAP := Lib.hid (And.intro ho4 (And.intro hg4 (And.intro hat4 (And.intro hnb h4))))
           have HGX := Lib.hid gx4
           clear ho4 hg4 hat4 G4 hOB hnb h4 gx4))
      go_roundw
      case rel =>
        obtain ⟨ho4, hg4, hat4, hnb, h4⟩ := HAP.out
        obtain ⟨hID, hBD, hqM⟩ := HID.out
        have hgn : ∀ b, b < x.heap.size + 1 → (Value.slice a n m).ownBlock ≠ some b → g4 ≠ b := fun b hb hne e => by
          rcases hat4 with h | h
          · exact hne (by rw [← h, ← e]; rfl)
          · have h' : some g4 = some _ := h
            rw [World.size_alloc, World.size_alloc, rowW_size] at h'
            have := Option.some.inj h'
            omega
        have hfw : ∀ (s : Value) (ls : List Int), IsB (rowW x D [.slice a1 n1 c1, .slice a2 n2 c2, .int .u8 x0, .int .u8 x1, .int .i64 (AL : Int), .slice a n m] 127) s ls → s.ownBlock = B → IsB (rowW x4 D [.slice a1 n1 c1, .slice a2 n2 c2, .int .u8 x0, .int .u8 x1, .int .i64 (AL : Int), .slice (some ⟨g4, 0, none⟩) n4 c4] 127) s ls := fun s ls hs hsB => by
          have hB2 := HBB.out.2.1
          have hB3 := HBB.out.2.2
          have h1 := hs.gr (((Gr.refl (rowW x D [.slice a1 n1 c1, .slice a2 n2 c2, .int .u8 x0, .int .u8 x1, .int .i64 (AL : Int), .slice a n m] 127)).alloc (.cells #[.int .u8 xo.kind, .int .u8 ln, .int .i64 (M : Int), .slice ad nd md, .int .u8 0, .int .u8 0] 175)).alloc (.cells #[.pointer (some ⟨x.heap.size, 0, none⟩)] 128))
          have h2 := h1.kept hg4 (by
            cases hs2 : s.ownBlock with
            | none => exact .inl rfl
            | some kk =>
              refine .inr fun e => ?_
              have h3 := (HOw.out.fresh kk e.symm).1
              have h4' := hB2 kk (hsB.symm.trans hs2)
              omega)
          exact h2.keptE (rowW_rowW (n := 0)) (.inr (by rw [hsB]; exact hB3))
        have hheap : ∀ b, b ≠ D → (rowW x4 D [.slice a1 n1 c1, .slice a2 n2 c2, .int .u8 x0, .int .u8 x1, .int .i64 (AL : Int), .slice (some ⟨g4, 0, none⟩) n4 c4] 127).heap[b]? = (rowW x4 D [.slice a1 n1 c1, .slice a2 n2 c2, .int .u8 x0, .int .u8 x1, .int .i64 (AL : Int), .slice a n m] 127).heap[b]? := fun b hb => by rw [rowW_other hb, rowW_other hb]
        refine ⟨k + 1, q + M, rs ++ [(⟨(x.heap.size : Int), 0, []⟩, .slice none 0 0)], x4, some ⟨g4, 0, none⟩, n4, c4, HLT.out, by go_num, hqM, rfl, dx4, HGX.out, ho4.reRow hdT, by rw [List.length_append, HRL.out]; rfl, fun j p xo' hp hxo' => ?_⟩
        have hx4 : x.heap.size + 1 ≤ x4.heap.size := by
          have := hg4.size
          rw [World.size_alloc, World.size_alloc, rowW_size, rowW_size] at this
          omega
        rcases Nat.lt_or_ge j rs.length with hj | hj
        · rw [List.getElem?_append_left hj] at hp
          obtain ⟨b, e1, e2, e3, e4, e5, e6⟩ := HKP.out j p xo' hp hxo'
          rw [rowW_size] at e4
          refine ⟨b, e1, e2, e3, by rw [rowW_size]; omega, fun e => hgn b (by omega) e5 (Option.some.inj e), e6.keep ?_ hfw⟩
          rw [hheap b e2, hnb b (by omega) e5]
          exact (World.grownBy_alloc _ _ none).block b (by rw [rowW_size]; exact e4) (by simp)
        · have hjk : j = k := by
            have := (List.getElem?_eq_some_iff.1 hp).1
            rw [List.length_append, HRL.out] at this
            rw [HRL.out] at hj
            simp at this
            omega
          subst hjk
          rw [HXK.out] at hxo'
          obtain rfl := Option.some.inj hxo'
          rw [List.getElem?_append_right (by rw [HRL.out]; exact Nat.le_refl _), HRL.out, Nat.sub_self] at hp
          obtain rfl := Option.some.inj hp
          have hown : (Value.slice a n m).ownBlock ≠ some x.heap.size := fun e => by have := (HOw.out.fresh _ e).2; rw [rowW_size] at this; omega
          refine ⟨x.heap.size, rfl, by omega, hszG, by rw [rowW_size]; omega, fun e => hgn x.heap.size (by omega) hown (Option.some.inj e), ln, M, ad, nd, md, (hheap _ (by omega)).trans h4, ?_, hBD⟩
          rcases hBD with h | h
          · exact hfw _ _ hID h
          · exact hID.empty h
      case measure =>
        have := HID.out.2.2
        have h1 := HTK.out
        have h2 := HQ.out
        simp [intOf]
        omega
    · obtain rfl : k = os.length := by omega
      have HOw := Lib.hid hOw
      have HG := Lib.hid hG
      have HKP := Lib.hid hkept
      have hqA : q = AL := by rw [hq, HAL.out, List.take_length]
      subst hqA
      have HRL := Lib.hid hrl
      clear hOw hG hkept hrl hq htr htl hlt
      go_wp2_with fail
      go_ret
      refine ⟨rfl, ?_, a1, n1, c1, a2, n2, c2, a, n, m, ?_, ?_, rs, ?_, HRL.out, ?_⟩
      · exact grownBy_step HGW.out (row_step0 hdT HG.out HHB.out) (fun _ _ => .inr rfl)
      · have e : (q : Int) = 2 + ((typedB os).length : Int) := by rw [HAL.out]; omega
        refine (rowW_heap hX).trans ?_
        rw [HX01.out.1, HX01.out.2, e]
      · exact (HPB.out.gr HG.out).rowW (by rw [HB2.out]; exact HBB.out.2.2)
      · exact HOw.out.base hsw
      · rw [← HBB.out.1]
        exact fun j p xo hp hxo => by
          obtain ⟨b, e1, e2, e3, e4⟩ := HKP.out j p xo hp hxo
          exact ⟨b, e1, e2, by omega, e4⟩

theorem info_pD : (Try.prog.info? 136).map (fun i => (i.zero, i.size, i.bytes)) = some (some (.pointer none), 1, 8) := by kernel_rfl
theorem nil_hD (k : IntKind) (w : World) : (Instr.sliceAt 133 (.slice none 0 0) none (some (.int k 0)) none).run Try.prog w = .ok (.slice none 0 0) w := by
  obtain ⟨i, hi, he⟩ := Option.map_eq_some_iff.1 info_pD
  simp only [Prod.mk.injEq] at he
  have hE : Try.prog.elem 133 = 136 := by simp [Program.elem, Try.underlying133]
  rw [run_sliceAt_slice w 133 _ _ _ _ (by rw [hE]; exact Try.underlying133), run_slice_h w 133 _ _ _ (by rw [hE]; exact Try.underlying133) k 0 (by omega) (by omega)]
  simp [sizeOf, typeInfo, hE, hi, he.2.1, Result.andThen, sliced]
/-- what holds ahead of a round -/
def ERelD (wb : World) (D : Nat) (B : Option Nat) (os : List Opt) (c : Value → List Value) (i : Value) (wr : World) : Prop :=
  ∃ (k : Nat) (q : Nat) (rs : List (Opt × Value)) (x : World) (a : Option Addr) (n m : Nat), k ≤ os.length ∧ i = .int .i64 q ∧ q = 2 + (typedB (os.take k)).length ∧ wr = rowW x D (c (.slice a n m)) 135 ∧ Has x D ∧ Gr wb x ∧ OwnG rcP 1 wr wb.heap.size 136 D (.slice a n m) rs ∧ rs.length = k ∧ ExtKept wr D wb.heap.size (.slice a n m) B rs os

set_option linter.unusedVariables false in
set_option linter.unusedSimpArgs false in
set_option maxRecDepth 100000 in
set_option maxHeartbeats 8000000 in
theorem extDecodeD_calls (D : Nat) (av : Option Addr) (nv cv : Nat) (l pl : List Int) (os : List Opt) (w : World) (hD : w.heap[D]? = some (.cells [.slice none 0 0, .slice none 0 0, .int .u8 0, .int .u8 0, .int .i64 0, .slice none 0 0].toArray 135 (0, 0))) (h : IsB w (.slice av nv cv) l) (hne : (Value.slice av nv cv).ownBlock ≠ some D) (hok : ∀ x ∈ os, OkKind x) (hlo : os.length ≤ 30) (hl : l.length ≤ 1000000) (hA : bt l 1 * 8 + 8 = 2 + ((typedB os).length : Int)) (hO : l.drop 2 = typedB os ++ pl) (hp : pl ≠ []) (h2 : 2 ≤ l.length) :
    Calls Try.prog 57 #[.pointer (some ⟨D, 0, none⟩), .slice av nv cv, .iface 156 (.agg #[])] w fun e w' => e = .returned .nilIface ∧ w.grownBy w' (some D) ∧ ∃ a1 n1 c1 a2 n2 c2 a n m rs, w'.heap[D]? = some (.cells [.slice a1 n1 c1, .slice a2 n2 c2, .int .u8 (bt l 0), .int .u8 (bt l 1), .int .i64 (2 + ((typedB os).length : Int)), .slice a n m].toArray 135 (0, 0)) ∧ IsB w' (.slice a2 n2 c2) pl ∧ OwnG rcP 1 w' w.heap.size 136 D (.slice a n m) rs ∧ rs.length = os.length ∧ ExtKept w' D w.heap.size (.slice a n m) (Value.slice av nv cv).ownBlock rs os := by
  obtain ⟨i, hi, hz0, hz1, hz2⟩ := info_parts info_u8
  have HI8 := Lib.hid (And.intro hi hz1)
  have hDl : D < w.heap.size := (Array.getElem?_eq_some_iff.1 hD).1
  have hll : l.length = 2 + ((typedB os).length + pl.length) := by have e := congrArg List.length hO; rw [List.length_drop, List.length_append] at e; omega
  have hpl : 0 < pl.length := List.length_pos_iff.2 hp
  obtain ⟨AL, hAL⟩ : ∃ AL : Nat, AL = 2 + (typedB os).length := ⟨_, rfl⟩
  have hlen := fun ty => h.len (P := Try.prog) 25 ty 5 Try.underlying25
  have hdrop : l.drop AL = pl := by rw [hAL, ← List.drop_drop, hO, List.drop_left]
  have hnh := nil_hD
  have HV := Lib.hid h
  have HNE := Lib.hid hne
  have HD := Lib.hid hD
  have HO := Lib.hid hO
  have HOK := Lib.hid hok
  have hA' : bt l 1 * 8 + 8 = (AL : Int) := by omega
  have HA := Lib.hid hA'
  have HAL := Lib.hid hAL
  have HDR := Lib.hid hdrop
  have hAll : AL ≤ l.length := by omega
  have HLL := Lib.hid hll
  have hlp : 0 < l.length := by omega
  have hAL2 : AL ≤ 1000000 := by omega
  clear hi hz0 hz1 hz2 h hne hD hO hok hA hA' hAL hdrop hll
  go_enter Try.func57, Try.ntmps57
  go_wp2_with (go_at_call 76; refine (extBase_calls (.slice av nv cv) _ l AL w HV.out (by omega) HA.out hAll (by omega)).mono ?_; rintro e w1 ⟨a1, n1, c1, a2, n2, c2, rfl, hI1, hI2, hB2, hg1⟩; obtain ⟨x, hX, rfl⟩ : ∃ x, Has x D ∧ w1 = rowW x D [.slice none 0 0, .slice none 0 0, .int .u8 0, .int .u8 0, .int .i64 0, .slice none 0 0] 135 := ⟨w1, (Array.getElem?_eq_some_iff.1 (heap_gr hg1 HD.out)).1, (rowW_self (heap_gr hg1 HD.out)).symm⟩)
  obtain ⟨x0, hx0⟩ : ∃ x0, x0 = bt l 0 := ⟨_, rfl⟩
  obtain ⟨x1, hx1⟩ : ∃ x1, x1 = bt l 1 := ⟨_, rfl⟩
  rw [← hx0, ← hx1]
  obtain ⟨wb, hwb⟩ : ∃ wb, wb = rowW x D [.slice a1 n1 c1, .slice a2 n2 c2, .int .u8 x0, .int .u8 x1, .int .i64 (AL : Int), .slice none 0 0] 135 := ⟨_, rfl⟩
  have hHB : wb.heap[D]? = some (.cells [.slice a1 n1 c1, .slice a2 n2 c2, .int .u8 x0, .int .u8 x1, .int .i64 (AL : Int), .slice none 0 0].toArray 135 (0, 0)) := by rw [hwb]; exact rowW_heap hX
  have hgw : w.grownBy wb (some D) := by rw [hwb]; exact grownBy_step (hg1.to (some D)) (rowW_rowW (n := 0)) (fun _ _ => .inr rfl)
  have hVb : IsB wb (.slice av nv cv) l := by rw [hwb]; exact (HV.out.gr hg1).keptE (rowW_rowW (n := 0)) (.inr HNE.out)
  have hPb : IsB wb (.slice a2 n2 c2) pl := by rw [hwb]; rw [HDR.out] at hI2; exact hI2.keptE (rowW_rowW (n := 0)) (.inr (by rw [hB2]; exact HNE.out))
  rw [← hwb]
  have hdT : Has wb D := (Array.getElem?_eq_some_iff.1 hHB).1
  have hsw := hgw.size
  obtain ⟨B, hB⟩ : ∃ B, B = (Value.slice av nv cv).ownBlock := ⟨_, rfl⟩
  have hBlt : ∀ k, B = some k → k < wb.heap.size := fun k hk => by
    rcases Nat.lt_or_ge k wb.heap.size with h | h
    · exact h
    · exact absurd (hB.symm.trans hk) ((hVb.aside h).resolve_left (by intro e; rw [e] at hlp; simp at hlp))
  have hBD : B ≠ some D := by rw [hB]; exact HNE.out
  have HHB := Lib.hid hHB
  have HGW := Lib.hid hgw
  have HVB := Lib.hid hVb
  have HPB := Lib.hid hPb
  have HBB := Lib.hid (And.intro hB (And.intro hBlt hBD))
  have HX01 := Lib.hid (And.intro hx0 hx1)
  have HB2 := Lib.hid (hB2.trans hB.symm)
  clear hwb hX hg1 hI1 hI2 hB2 hHB hgw hVb hPb hB hBlt hBD hx0 hx1 x
  go_loopw [8] (ERelD wb D B os (fun o => [.slice a1 n1 c1, .slice a2 n2 c2, .int .u8 x0, .int .u8 x1, .int .i64 (AL : Int), o])) (fun i _ => AL - (intOf i).toNat)
  case atStart => exact ⟨0, 2, [], wb, none, 0, 0, Nat.zero_le _, rfl, by simp [typedB], (rowW_self HHB.out).symm, hdT, Gr.refl _, OwnG.nil, rfl, fun j p xo h => by simp at h⟩
  case round =>
    obtain ⟨k, q, rs, x, a, n, m, hk, rfl, hq, rfl, hX, hG, hOw, hrl, hkept⟩ := hrel
    have htr := typed_rest os k
    have htl := congrArg List.length htr
    rw [List.length_append] at htl
    by_cases hlt : k < os.length
    · have htc := typed_cons hlt
      have hpos := typB_pos (os.getD k Opt.zero)
      have hsn := typed_snoc hlt
      have hmem : os.getD k Opt.zero ∈ os := by rw [List.getD_eq_getElem?_getD, List.getElem?_eq_getElem hlt]; exact List.getElem_mem hlt
      have hxk : os[k]? = some (os.getD k Opt.zero) := by rw [List.getD_eq_getElem?_getD, List.getElem?_eq_getElem hlt]; rfl
      obtain ⟨xo, hxo⟩ : ∃ xo, xo = os.getD k Opt.zero := ⟨_, rfl⟩
      rw [← hxo] at htc hpos hsn hmem hxk
      obtain ⟨⟨hk0, hk1⟩, hd5, hkz⟩ := HOK.out xo hmem
      obtain ⟨TT, hTT⟩ : ∃ TT, TT = typedB (os.drop (k + 1)) ++ pl := ⟨_, rfl⟩
      have hTl : 0 < TT.length := by rw [hTT, List.length_append]; omega
      have hR : l.drop q = typB xo ++ TT := by
        rw [hq, ← List.drop_drop, HO.out, htr, htc, hTT, List.append_assoc, List.drop_left, List.append_assoc]
      have hqA : q < AL := by
        have := congrArg List.length htc
        rw [List.length_append] at this
        rw [HAL.out, hq]; omega
      have d0 : decide ((q : Int) < (AL : Int)) = true := by simp; omega
      have hWI : IsB (rowW x D [.slice a1 n1 c1, .slice a2 n2 c2, .int .u8 x0, .int .u8 x1, .int .i64 (AL : Int), .slice a n m] 135) (.slice av nv cv) l := (HVB.out.gr hG).rowW HNE.out
      obtain ⟨a', n', c', hRI, hBR, sl⟩ := hWI.cutL (P := Try.prog) 25 5 i Try.underlying25 HI8.out.1 HI8.out.2 (q : Int) q rfl (by omega)
      rw [hR] at hRI
      rw [← HBB.out.1] at hBR
      have hT : ∀ d, Calls Try.prog 77 #[.slice a' n' c', d] (rowW x D [.slice a1 n1 c1, .slice a2 n2 c2, .int .u8 x0, .int .u8 x1, .int .i64 (AL : Int), .slice a n m] 135) fun e w' => e = .returned (.tuple #[.pointer (some ⟨(rowW x D [.slice a1 n1 c1, .slice a2 n2 c2, .int .u8 x0, .int .u8 x1, .int .i64 (AL : Int), .slice a n m] 135).heap.size, 0, none⟩), .nilIface]) ∧ ∃ (ln : Int) (M : Nat) (ad : Option Addr) (nd md : Nat), w' = (rowW x D [.slice a1 n1 c1, .slice a2 n2 c2, .int .u8 x0, .int .u8 x1, .int .i64 (AL : Int), .slice a n m] 135).alloc (.cells #[.int .u8 xo.kind, .int .u8 ln, .int .i64 (M : Int), .slice ad nd md, .int .u8 0, .int .u8 0] 175) ∧ IsB (rowW x D [.slice a1 n1 c1, .slice a2 n2 c2, .int .u8 x0, .int .u8 x1, .int .i64 (AL : Int), .slice a n m] 135) (.slice ad nd md) xo.data ∧ ((Value.slice ad nd md).ownBlock = B ∨ xo.data = []) ∧ q + M = 2 + (typedB (os.take (k + 1))).length := by
        intro d
        by_cases hz : xo.kind = 0
        · have hdz := hkz hz
          have hty : typB xo = [0] := by unfold typB; rw [if_pos hz, hz]; rfl
          refine (tlv0_calls _ d (typB xo ++ TT) _ hRI (by rw [hty]; simp only [List.length_append, List.length_cons, List.length_nil]; omega) (by rw [hty]; rfl)).mono ?_
          rintro e w5 ⟨rfl, rfl⟩
          exact ⟨rfl, 0, 1, none, 0, 0, by rw [hz]; rfl, by rw [hdz]; exact isB_nil, .inr hdz, by rw [hsn, List.length_append, hty, hq]; simp only [List.length_cons, List.length_nil]; omega⟩
        · have hty : typB xo = xo.kind :: (xo.data.length : Int) :: xo.data := by
            unfold typB; rw [if_neg hz]
            have h1 : xo.kind % 256 = xo.kind := by omega
            have h2 : (xo.data.length : Int) % 256 = (xo.data.length : Int) := by omega
            rw [h1, h2]; rfl
          refine (tlvN_calls _ d (typB xo ++ TT) xo.kind (xo.data.length + 2) _ hRI (by rw [hty]; rfl) hz (by rw [hty]; show (xo.data.length : Int) + 2 = _; omega) (by rw [hty]; simp only [List.length_append, List.length_cons]; omega) (by omega) (by rw [← hR, List.length_drop]; omega)).mono ?_
          rintro e w5 ⟨rfl, ad, nd, md, rfl, hID, hBD⟩
          have e4 : ((typB xo ++ TT).take (xo.data.length + 2)).drop 2 = xo.data := by rw [hty]; simp
          rw [e4] at hID
          exact ⟨rfl, _, xo.data.length + 2, ad, nd, md, rfl, hID, .inl (hBD.trans hBR), by rw [hsn, List.length_append, hty, hq]; simp only [List.length_cons, List.length_nil]; omega⟩
      have HTT := Lib.hid hT
      have HOw := Lib.hid hOw
      have HG := Lib.hid hG
      have HKP := Lib.hid hkept
      have HXK := Lib.hid hxk
      have HRL := Lib.hid hrl
      have HLT := Lib.hid hlt
      have hDx : D < x.heap.size := hX
      have hDx' : D < (rowW x D [.slice a1 n1 c1, .slice a2 n2 c2, .int .u8 x0, .int .u8 x1, .int .i64 (AL : Int), .slice a n m] 135).heap.size := by rw [rowW_size]; exact hX
      have hszG := hG.size
      have HQ := Lib.hid (And.intro hq hqA)
      have HTK := Lib.hid (show (typedB (os.take (k + 1))).length = (typedB (os.take k)).length + (typB xo).length ∧ 1 ≤ (typB xo).length from ⟨by rw [hsn, List.length_append], hpos⟩)
      clear hT hOw hG hkept hxk hrl hlt htr htl htc hpos hsn hmem hxo hTT hTl hR hWI hRI hBR hq hk0 hk1 hd5 hkz
      have HGWY := Lib.hid (gr_rows (cs := [.slice a1 n1 c1, .slice a2 n2 c2, .int .u8 x0, .int .u8 x1, .int .i64 (AL : Int), .slice a n m]) (e := 135) hdT HG.out)
      go_wp2_with (first
        | (go_at_call 77; refine (HTT.out _).mono ?_; rintro e w5 ⟨rfl, ln, M, ad, nd, md, rfl, hID, hBD, hqM⟩; have hqb : q + M ≤ 1000000 := (by have h1 := typed_le os (k + 1); have h2 := HAL.out; omega); have HID := Lib.hid (And.intro hID (And.intro hBD hqM)); clear hID hBD hqM)
        | (with_reducible refine wpList_appG rfl (.tmp 45) (.tmp 47) 133 136 rfl Try.underlying133 _ 8 info_pD rfl (by decide) rcP_len (by omega) wb.heap.size D (.slice a n m) rs (by simp [Act.eval]) (HOw.out.gr (((Gr.refl _).alloc _).alloc _)) (x.heap.size + 1) 1 ⟨(x.heap.size : Int), 0, []⟩ (.slice none 0 0) (by simp [Act.eval]) (box1P (by rw [World.size_alloc, rowW_size]) _ _ _) (one1P _ _) (isB_nilP _) (asideP _ _ _) (fun _ _ => asideP _ _ _) (by rw [HRL.out]; omega) (by rw [World.size_alloc, World.size_alloc, rowW_size]; omega) ?_
           intro v4 w4 ho4 hg4 hat4
           obtain ⟨g4, n4, c4, rfl, hg41⟩ := ho4.slice_pos (by simp)
           have G4 := grownBy_step ((HGWY.out.alloc _).alloc _) hg4 (fun k hk => .inl (by rw [rowW_size]; exact (HOw.out.fresh k hk).1))
           have hOB := heap_alloc_new (rowW x D [.slice a1 n1 c1, .slice a2 n2 c2, .int .u8 x0, .int .u8 x1, .int .i64 (AL : Int), .slice a n m] 135) (.cells #[.int .u8 xo.kind, .int .u8 ln, .int .i64 (M : Int), .slice ad nd md, .int .u8 0, .int .u8 0] 175)
           rw [rowW_size] at hOB
           have hnb : ∀ b, b < x.heap.size + 1 → (Value.slice a n m).ownBlock ≠ some b → w4.heap[b]? = ((rowW x D [.slice a1 n1 c1, .slice a2 n2 c2, .int .u8 x0, .int .u8 x1, .int .i64 (AL : Int), .slice a n m] 135).alloc (.cells #[.int .u8 xo.kind, .int .u8 ln, .int .i64 (M : Int), .slice ad nd md, .int .u8 0, .int .u8 0] 175)).heap[b]? := fun b hb hne => by
             rw [hg4.block b (by rw [World.size_alloc, World.size_alloc, rowW_size]; omega) (by intro e; exact hne (by first | exact e | exact e.symm))]
             exact ((Gr.refl _).alloc _).block b (by rw [World.size_alloc, rowW_size]; exact hb) (by simp)
           have hownx : (Value.slice a n m).ownBlock ≠ some x.heap.size := fun e => by have := (HOw.out.fresh _ e).2; rw [rowW_size] at this; omega
           have h4 := (hnb x.heap.size (Nat.lt_succ_self _) hownx).trans hOB
           obtain ⟨x4, gx4, dx4, rfl⟩ := Gr.unrow hdT G4
           have hxD : x.heap.size ≠ D := by omega
           have kM := fun C' => rowW_swap (cs' := C') hxD (cell_of_heap (cs := [.int .u8 xo.kind, .int .u8 ln, .int .i64 (M : Int), .slice ad nd md, .int .u8 0, .int .u8 0]) h4 2 _ rfl)
           have HAP := Lib.hid (And.intro ho4 (And.intro hg4 (And.intro hat4 (And.intro hnb h4))))
           have HGX := Lib.hid gx4
           clear ho4 hg4 hat4 G4 hOB hnb h4 gx4))
      go_roundw
      case rel =>
        obtain ⟨ho4, hg4, hat4, hnb, h4⟩ := HAP.out
        obtain ⟨hID, hBD, hqM⟩ := HID.out
        have hgn : ∀ b, b < x.heap.size + 1 → (Value.slice a n m).ownBlock ≠ some b → g4 ≠ b := fun b hb hne e => by
          rcases hat4 with h | h
          · exact hne (by rw [← h, ← e]; rfl)
          · have h' : some g4 = some _ := h
            rw [World.size_alloc, World.size_alloc, rowW_size] at h'
            have := Option.some.inj h'
            omega
        have hfw : ∀ (s : Value) (ls : List Int), IsB (rowW x D [.slice a1 n1 c1, .slice a2 n2 c2, .int .u8 x0, .int .u8 x1, .int .i64 (AL : Int), .slice a n m] 135) s ls → s.ownBlock = B → IsB (rowW x4 D [.slice a1 n1 c1, .slice a2 n2 c2, .int .u8 x0, .int .u8 x1, .int .i64 (AL : Int), .slice (some ⟨g4, 0, none⟩) n4 c4] 135) s ls := fun s ls hs hsB => by
          have hB2 := HBB.out.2.1
          have hB3 := HBB.out.2.2
          have h1 := hs.gr (((Gr.refl (rowW x D [.slice a1 n1 c1, .slice a2 n2 c2, .int .u8 x0, .int .u8 x1, .int .i64 (AL : Int), .slice a n m] 135)).alloc (.cells #[.int .u8 xo.kind, .int .u8 ln, .int .i64 (M : Int), .slice ad nd md, .int .u8 0, .int .u8 0] 175)).alloc (.cells #[.pointer (some ⟨x.heap.size, 0, none⟩)] 136))
          have h2 := h1.kept hg4 (by
            cases hs2 : s.ownBlock with
            | none => exact .inl rfl
            | some kk =>
              refine .inr fun e => ?_
              have h3 := (HOw.out.fresh kk e.symm).1
              have h4' := hB2 kk (hsB.symm.trans hs2)
              omega)
          exact h2.keptE (rowW_rowW (n := 0)) (.inr (by rw [hsB]; exact hB3))
        have hheap : ∀ b, b ≠ D → (rowW x4 D [.slice a1 n1 c1, .slice a2 n2 c2, .int .u8 x0, .int .u8 x1, .int .i64 (AL : Int), .slice (some ⟨g4, 0, none⟩) n4 c4] 135).heap[b]? = (rowW x4 D [.slice a1 n1 c1, .slice a2 n2 c2, .int .u8 x0, .int .u8 x1, .int .i64 (AL : Int), .slice a n m] 135).heap[b]? := fun b hb => by rw [rowW_other hb, rowW_other hb]
        refine ⟨k + 1, q + M, rs ++ [(⟨(x.heap.size : Int), 0, []⟩, .slice none 0 0)], x4, some ⟨g4, 0, none⟩, n4, c4, HLT.out, by go_num, hqM, rfl, dx4, HGX.out, ho4.reRow hdT, by rw [List.length_append, HRL.out]; rfl, fun j p xo' hp hxo' => ?_⟩
        have hx4 : x.heap.size + 1 ≤ x4.heap.size := by
          have := hg4.size
          rw [World.size_alloc, World.size_alloc, rowW_size, rowW_size] at this
          omega
        rcases Nat.lt_or_ge j rs.length with hj | hj
        · rw [List.getElem?_append_left hj] at hp
          obtain ⟨b, e1, e2, e3, e4, e5, e6⟩ := HKP.out j p xo' hp hxo'
          rw [rowW_size] at e4
          refine ⟨b, e1, e2, e3, by rw [rowW_size]; omega, fun e => hgn b (by omega) e5 (Option.some.inj e), e6.keep ?_ hfw⟩
          rw [hheap b e2, hnb b (by omega) e5]
          exact (World.grownBy_alloc _ _ none).block b (by rw [rowW_size]; exact e4) (by simp)
        · have hjk : j = k := by
            have := (List.getElem?_eq_some_iff.1 hp).1
            rw [List.length_append, HRL.out] at this
            rw [HRL.out] at hj
            simp at this
            omega
          subst hjk
          rw [HXK.out] at hxo'
          obtain rfl := Option.some.inj hxo'
          rw [List.getElem?_append_right (by rw [HRL.out]; exact Nat.le_refl _), HRL.out, Nat.sub_self] at hp
          obtain rfl := Option.some.inj hp
          have hown : (Value.slice a n m).ownBlock ≠ some x.heap.size := fun e => by have := (HOw.out.fresh _ e).2; rw [rowW_size] at this; omega
          refine ⟨x.heap.size, rfl, by omega, hszG, by rw [rowW_size]; omega, fun e => hgn x.heap.size (by omega) hown (Option.some.inj e), ln, M, ad, nd, md, (hheap _ (by omega)).trans h4, ?_, hBD⟩
          rcases hBD with h | h
          · exact hfw _ _ hID h
          · exact hID.empty h
      case measure =>
        have := HID.out.2.2
        have h1 := HTK.out
        have h2 := HQ.out
        simp [intOf]
        omega
    · obtain rfl : k = os.length := by omega
      have HOw := Lib.hid hOw
      have HG := Lib.hid hG
      have HKP := Lib.hid hkept
      have hqA : q = AL := by rw [hq, HAL.out, List.take_length]
      subst hqA
      have HRL := Lib.hid hrl
      clear hOw hG hkept hrl hq htr htl hlt
      go_wp2_with fail
      go_ret
      refine ⟨rfl, ?_, a1, n1, c1, a2, n2, c2, a, n, m, ?_, ?_, rs, ?_, HRL.out, ?_⟩
      · exact grownBy_step HGW.out (row_step0 hdT HG.out HHB.out) (fun _ _ => .inr rfl)
      · have e : (q : Int) = 2 + ((typedB os).length : Int) := by rw [HAL.out]; omega
        refine (rowW_heap hX).trans ?_
        rw [HX01.out.1, HX01.out.2, e]
      · exact (HPB.out.gr HG.out).rowW (by rw [HB2.out]; exact HBB.out.2.2)
      · exact HOw.out.base hsw
      · rw [← HBB.out.1]
        exact fun j p xo hp hxo => by
          obtain ⟨b, e1, e2, e3, e4⟩ := HKP.out j p xo hp hxo
          exact ⟨b, e1, e2, by omega, e4⟩
end Go.Proofs.Ytdpffedmgmllbaa
