/-
  A message for addresses: reading.
-/
import Derived.Test.YtoopkfnkmaaieaaDHCPOpt
namespace Go.Proofs.Ytoopkfnkmaaieaa
open Go.RowKit

/-- an option as it is read -/
def normO (x : Opt) : Opt := ⟨x.kind, if x.kind = 0 then 0 else (x.data.length : Int), x.data⟩
/-- an option that may be there -/
def OkKind (x : Opt) : Prop := (0 ≤ x.kind ∧ x.kind ≤ 254) ∧ x.data.length ≤ 255 ∧ (x.kind = 0 → x.data = [])
theorem typed_split (os : List Opt) (k : Nat) : typedB os = typedB (os.take k) ++ typedB (os.drop k) := by
  conv => lhs; rw [← List.take_append_drop k os]
  exact typed_append _ _
theorem typed_rest (os : List Opt) (k : Nat) : (typedB os ++ [255]).drop (typedB (os.take k)).length = typedB (os.drop k) ++ [255] := by
  rw [typed_split os k, List.append_assoc, List.drop_left]
theorem typed_cons {os : List Opt} {k : Nat} (h : k < os.length) : typedB (os.drop k) = typB (os.getD k Opt.zero) ++ typedB (os.drop (k + 1)) := by
  unfold typedB
  rw [List.drop_eq_getElem_cons h, List.map_cons, List.flatten_cons, List.getD_eq_getElem?_getD, List.getElem?_eq_getElem h]
  rfl
/-- a message that was read -/
def DhcpPost (w w' : World) (D : Nat) (l : List Int) (HL : Nat) (os : List Opt) (e : Ending) : Prop := e = .returned .nilIface ∧ w.grownBy w' (some D) ∧ ∃ a0 n0 m0 a5 n5 m5 a6 n6 m6 a7 n7 m7 a8 n8 m8 a9 n9 m9 a10 n10 m10 a11 n11 m11 vo rs,
  IsB w' (.slice a5 n5 m5) ((l.take 16).drop 12) ∧ IsB w' (.slice a6 n6 m6) ((l.take 20).drop 16) ∧ IsB w' (.slice a7 n7 m7) ((l.take 24).drop 20) ∧ IsB w' (.slice a8 n8 m8) ((l.take 28).drop 24) ∧ IsB w' (.slice a9 n9 m9) ((l.take (28 + HL)).drop 28) ∧ IsB w' (.slice a10 n10 m10) ((l.take 108).drop 44) ∧ IsB w' (.slice a11 n11 m11) ((l.take 236).drop 108) ∧
  w'.heap[D]? = some (.cells #[.slice a0 n0 m0, .slice none 0 0, .int .u8 (bt l 0), .int .u8 (bt l 1), .int .u8 (HL : Int), .int .u8 (bt l 3), .int .u32 (bt l 4 * 16777216 + bt l 5 * 65536 + bt l 6 * 256 + bt l 7), .int .u16 (bt l 8 * 256 + bt l 9), .int .u16 (bt l 10 * 256 + bt l 11), .slice a5 n5 m5, .slice a6 n6 m6, .slice a7 n7 m7, .slice a8 n8 m8, .slice a9 n9 m9, .slice a10 n10 m10, .slice a11 n11 m11, vo] 119 (0, 0)) ∧ OwnO .u8 .u8 w' w.heap.size 122 D vo rs ∧ rs.map Prod.fst = os.map normO
/-- what is read of the options ahead of a round -/
def DhcpRel (w1 : World) (D : Nat) (os : List Opt) (c : Value → List Value) (i : Value) (wr : World) : Prop :=
  ∃ k rs x a n m, k ≤ os.length ∧ i = .int .i64 ((typedB (os.take k)).length : Int) ∧ wr = rowW x D (c (.slice a n m)) 119 ∧ Has x D ∧ Gr w1 x ∧ OwnO .u8 .u8 wr w1.heap.size 122 D (.slice a n m) rs ∧ rs.map Prod.fst = (os.take k).map normO

set_option linter.unusedSimpArgs false in
set_option maxRecDepth 100000 in
set_option maxHeartbeats 4000000 in
theorem dhcpDecode_calls (D : Nat) (av : Option Addr) (nv cv : Nat) (l : List Int) (HL : Nat) (os : List Opt) (w : World) (hD : w.heap[D]? = some (.cells #[.slice none 0 0, .slice none 0 0, .int .u8 0, .int .u8 0, .int .u8 0, .int .u8 0, .int .u32 0, .int .u16 0, .int .u16 0, .slice none 0 0, .slice none 0 0, .slice none 0 0, .slice none 0 0, .slice none 0 0, .slice none 0 0, .slice none 0 0, .slice none 0 0] 119 (0, 0))) (h : IsB w (.slice av nv cv) l) (hll : l.length = 241 + (typedB os).length) (hHL : bt l 2 = (HL : Int)) (h16 : HL ≤ 16) (hmg : bt l 236 * 16777216 + bt l 237 * 65536 + bt l 238 * 256 + bt l 239 = 1669485411)
    (hO : l.drop 240 = typedB os ++ [255]) (hok : ∀ x ∈ os, OkKind x) (hmx : os.length ≤ 30) (htl : (typedB os).length ≤ 50000) (hne : (Value.slice av nv cv).ownBlock ≠ some D) :
    Calls Try.prog 55 #[.pointer (some ⟨D, 0, none⟩), .slice av nv cv, .iface 156 (.agg #[])] w fun e w' => DhcpPost w w' D l HL os e := by
  obtain ⟨w0, rfl⟩ : ∃ w0, w = rowW w0 D [.slice none 0 0, .slice none 0 0, .int .u8 0, .int .u8 0, .int .u8 0, .int .u8 0, .int .u32 0, .int .u16 0, .int .u16 0, .slice none 0 0, .slice none 0 0, .slice none 0 0, .slice none 0 0, .slice none 0 0, .slice none 0 0, .slice none 0 0, .slice none 0 0] 119 := ⟨w, (rowW_self hD).symm⟩
  have hd : Has w0 D := by unfold Has; rw [← rowW_size (cs := [.slice none 0 0, .slice none 0 0, .int .u8 0, .int .u8 0, .int .u8 0, .int .u8 0, .int .u32 0, .int .u16 0, .int .u16 0, .slice none 0 0, .slice none 0 0, .slice none 0 0, .slice none 0 0, .slice none 0 0, .slice none 0 0, .slice none 0 0, .slice none 0 0]) (e := 119) (D := D)]; exact (Array.getElem?_eq_some_iff.1 hD).1
  clear hD
  replace h := h.unrow hne
  obtain ⟨w1, rfl⟩ : ∃ w1 : World, w0 = w1.drewN 0 := ⟨w0, rfl⟩
  have h : IsB w1 (.slice av nv cv) l := h
  have hd : Has w1 D := hd
  have hlen := fun ty => h.len (P := Try.prog) 25 ty 5 Try.underlying25
  obtain ⟨i, hi, hz0, hz1, hz2⟩ := info_parts info_u8
  obtain ⟨b0, o0, i0, c0, z0⟩ := h.idx (P := Try.prog) 25 5 i Try.underlying25 hi hz1 .i64 0 0 rfl (by omega)
  have e0 : b0 ≠ D := by rintro rfl; exact hne z0
  clear z0
  have p0 := h.bytes.bt0 0
  have q0 := h.bytes.bt1 0
  obtain ⟨b1, o1, i1, c1, z1⟩ := h.idx (P := Try.prog) 25 5 i Try.underlying25 hi hz1 .i64 1 1 rfl (by omega)
  have e1 : b1 ≠ D := by rintro rfl; exact hne z1
  clear z1
  have p1 := h.bytes.bt0 1
  have q1 := h.bytes.bt1 1
  obtain ⟨b2, o2, i2, c2, z2⟩ := h.idx (P := Try.prog) 25 5 i Try.underlying25 hi hz1 .i64 2 2 rfl (by omega)
  have e2 : b2 ≠ D := by rintro rfl; exact hne z2
  clear z2
  have p2 := h.bytes.bt0 2
  have q2 := h.bytes.bt1 2
  obtain ⟨b3, o3, i3, c3, z3⟩ := h.idx (P := Try.prog) 25 5 i Try.underlying25 hi hz1 .i64 3 3 rfl (by omega)
  have e3 : b3 ≠ D := by rintro rfl; exact hne z3
  clear z3
  have p3 := h.bytes.bt0 3
  have q3 := h.bytes.bt1 3
  have p4 := h.bytes.bt0 4
  have q4 := h.bytes.bt1 4
  have p5 := h.bytes.bt0 5
  have q5 := h.bytes.bt1 5
  have p6 := h.bytes.bt0 6
  have q6 := h.bytes.bt1 6
  have p7 := h.bytes.bt0 7
  have q7 := h.bytes.bt1 7
  have p8 := h.bytes.bt0 8
  have q8 := h.bytes.bt1 8
  have p9 := h.bytes.bt0 9
  have q9 := h.bytes.bt1 9
  have p10 := h.bytes.bt0 10
  have q10 := h.bytes.bt1 10
  have p11 := h.bytes.bt0 11
  have q11 := h.bytes.bt1 11
  have p236 := h.bytes.bt0 236
  have q236 := h.bytes.bt1 236
  have p237 := h.bytes.bt0 237
  have q237 := h.bytes.bt1 237
  have p238 := h.bytes.bt0 238
  have q238 := h.bytes.bt1 238
  have p239 := h.bytes.bt0 239
  have q239 := h.bytes.bt1 239
  obtain ⟨a1, n1, m1, hv1, hb1, s1⟩ := h.cutLH (P := Try.prog) 25 5 i Try.underlying25 hi hz1 4 8 4 8 rfl rfl (by omega) (by omega)
  rw [← hb1] at hne
  have hne1 := hne
  rw [hb1] at hne
  clear hb1
  obtain ⟨a2, n2, m2, hv2, hb2, s2⟩ := h.cutLH (P := Try.prog) 25 5 i Try.underlying25 hi hz1 8 10 8 10 rfl rfl (by omega) (by omega)
  rw [← hb2] at hne
  have hne2 := hne
  rw [hb2] at hne
  clear hb2
  obtain ⟨a3, n3, m3, hv3, hb3, s3⟩ := h.cutLH (P := Try.prog) 25 5 i Try.underlying25 hi hz1 10 12 10 12 rfl rfl (by omega) (by omega)
  rw [← hb3] at hne
  have hne3 := hne
  rw [hb3] at hne
  clear hb3
  obtain ⟨a5, n5, m5, hv5, hb5, s5⟩ := h.cutLH (P := Try.prog) 25 5 i Try.underlying25 hi hz1 12 16 12 16 rfl rfl (by omega) (by omega)
  rw [← hb5] at hne
  have hne5 := hne
  rw [hb5] at hne
  clear hb5
  obtain ⟨a6, n6, m6, hv6, hb6, s6⟩ := h.cutLH (P := Try.prog) 25 5 i Try.underlying25 hi hz1 16 20 16 20 rfl rfl (by omega) (by omega)
  rw [← hb6] at hne
  have hne6 := hne
  rw [hb6] at hne
  clear hb6
  obtain ⟨a7, n7, m7, hv7, hb7, s7⟩ := h.cutLH (P := Try.prog) 25 5 i Try.underlying25 hi hz1 20 24 20 24 rfl rfl (by omega) (by omega)
  rw [← hb7] at hne
  have hne7 := hne
  rw [hb7] at hne
  clear hb7
  obtain ⟨a8, n8, m8, hv8, hb8, s8⟩ := h.cutLH (P := Try.prog) 25 5 i Try.underlying25 hi hz1 24 28 24 28 rfl rfl (by omega) (by omega)
  rw [← hb8] at hne
  have hne8 := hne
  rw [hb8] at hne
  clear hb8
  obtain ⟨a10, n10, m10, hv10, hb10, s10⟩ := h.cutLH (P := Try.prog) 25 5 i Try.underlying25 hi hz1 44 108 44 108 rfl rfl (by omega) (by omega)
  rw [← hb10] at hne
  have hne10 := hne
  rw [hb10] at hne
  clear hb10
  obtain ⟨a11, n11, m11, hv11, hb11, s11⟩ := h.cutLH (P := Try.prog) 25 5 i Try.underlying25 hi hz1 108 236 108 236 rfl rfl (by omega) (by omega)
  rw [← hb11] at hne
  have hne11 := hne
  rw [hb11] at hne
  clear hb11
  obtain ⟨a12, n12, m12, hv12, hb12, s12⟩ := h.cutLH (P := Try.prog) 25 5 i Try.underlying25 hi hz1 236 240 236 240 rfl rfl (by omega) (by omega)
  rw [← hb12] at hne
  have hne12 := hne
  rw [hb12] at hne
  clear hb12
  obtain ⟨a13, n13, m13, hv13, hb13, s13⟩ := h.cutL (P := Try.prog) 25 5 i Try.underlying25 hi hz1 240 240 rfl (by omega)
  rw [← hb13] at hne
  have hne13 := hne
  rw [hb13] at hne
  clear hb13
  obtain ⟨a9, n9, m9, hv9, hb9, s9⟩ := h.cutLH (P := Try.prog) 25 5 i Try.underlying25 hi hz1 28 (28 + (HL : Int)) 28 (28 + HL) rfl (by omega) (by omega) (by omega)
  have hne9 := hne
  rw [← hb9] at hne9
  clear hb9
  rw [hO] at hv13
  rw [hHL] at c2
  have hl13 := fun ty => hv13.len (P := Try.prog) 25 ty 5 Try.underlying25
  have e13 : (typedB os ++ [255]).length = (typedB os).length + 1 := by simp
  rw [e13] at hl13
  obtain ⟨Z, hZ⟩ : ∃ Z, Z = (typedB os).length + 1 := ⟨_, rfl⟩
  rw [← hZ] at hl13
  have H13 := Lib.hid hv13
  have N13 := Lib.hid hne13
  have H5 := Lib.hid hv5
  have N5 := Lib.hid hne5
  have H6 := Lib.hid hv6
  have N6 := Lib.hid hne6
  have H7 := Lib.hid hv7
  have N7 := Lib.hid hne7
  have H8 := Lib.hid hv8
  have N8 := Lib.hid hne8
  have H9 := Lib.hid hv9
  have N9 := Lib.hid hne9
  have H10 := Lib.hid hv10
  have N10 := Lib.hid hne10
  have H11 := Lib.hid hv11
  have N11 := Lib.hid hne11
  have HNE := Lib.hid hne
  have HOK := Lib.hid hok
  have HZ := Lib.hid hZ
  have so := nil_dh
  have HTL := Lib.hid htl
  have v0 : IntKind.u8.wrap (28 + (HL : Int)) = 28 + (HL : Int) := wrap_in .u8 _ (by have := min_le .u8; omega) (by rw [max_u8]; omega)
  have v1 : decide ((l.length : Int) < 240) = false := by simp; omega
  have v2 : ¬ ((l.length : Int) < 240) := by omega
  have v3 : decide ((l.length : Int) ≤ 240) = false := by simp; omega
  have v4 : (bt l 236 * 16777216 + bt l 237 * 65536 + bt l 238 * 256 + bt l 239 != 1669485411) = false := by rw [hmg]; rfl
  clear hO hok hv13 hne13 hne e13 hZ hmg hHL hll htl hv5 hne5 hv6 hne6 hv7 hne7 hv8 hne8 hv9 hne9 hv10 hne10 hv11 hne11
  go_enter Try.func55, Try.ntmps55
  go_wp2_with (first
      | (go_at_call 73; refine (be16_calls _ _ _ (IsB.row0 (by assumption) (by assumption) _) (by simp; try omega)).mono ?_; rintro e w' ⟨rfl, n, rfl⟩)
      | (go_at_call 74; refine (be32_calls _ _ _ (IsB.row0 (by assumption) (by assumption) _) (by simp; try omega)).mono ?_; rintro e w' ⟨rfl, n, rfl⟩))
  go_loopw [9, 11] (fun i _ wr => DhcpRel w1 D os (fun o => [.slice none 0 0, .slice none 0 0, .int .u8 (bt l 0), .int .u8 (bt l 1), .int .u8 (HL : Int), .int .u8 (bt l 3), .int .u32 (bt l 4 * 16777216 + bt l 5 * 65536 + bt l 6 * 256 + bt l 7), .int .u16 (bt l 8 * 256 + bt l 9), .int .u16 (bt l 10 * 256 + bt l 11), .slice a5 n5 m5, .slice a6 n6 m6, .slice a7 n7 m7, .slice a8 n8 m8, .slice a9 n9 m9, .slice a10 n10 m10, .slice a11 n11 m11, o]) i wr) (fun i _ _ => Z - (intOf i).toNat)
  case atStart => exact ⟨0, [], w1.drewN _, none, 0, 0, Nat.zero_le _, by simp [typedB], rfl, hd, (Gr.refl w1).drewN _, OwnO.nil, by simp⟩
  case round =>
    obtain ⟨k, rs, x, a, n, m, hk, rfl, rfl, hX, hG, hOw, hrs⟩ := hrel
    obtain ⟨s, hs⟩ : ∃ s, s = (typedB (os.take k)).length := ⟨_, rfl⟩
    have hsle := typed_le os k
    rw [← hs] at hsle ⊢
    have htl := HTL.out
    have hZ' := HZ.out
    have sZ : s < Z := by omega
    have sb : s ≤ 50000 := by omega
    have v5 : decide ((s : Int) < (Z : Int)) = true := decide_eq_true (by omega)
    obtain ⟨a', n', m', hI', hbI', si⟩ := H13.out.cutL (P := Try.prog) 25 5 i Try.underlying25 hi hz1 (s : Int) s rfl (by rw [List.length_append]; simp; omega)
    obtain ⟨R, hR⟩ : ∃ R, R = (typedB os ++ [255]).drop s := ⟨_, rfl⟩
    rw [← hR] at hI'
    rw [hs, typed_rest] at hR
    have hRne : R ≠ [] := by rw [hR]; simp
    have hTb : w1.heap.size ≤ x.heap.size := hG.size
    have HNT := Lib.hid (show (Value.slice a' n' m').ownBlock ≠ some x.heap.size from (hI'.aside hTb).resolve_left hRne)
    have HI' := Lib.hid hI'
    have HNE' := Lib.hid (show (Value.slice a' n' m').ownBlock ≠ some D by rw [hbI']; exact N13.out)
    have HS := Lib.hid hs
    have HK := Lib.hid hk
    have HRS := Lib.hid hrs
    have HG := Lib.hid hG
    have HOw := Lib.hid hOw
    have hmx' : rs.length ≤ 30 := by have e := congrArg List.length hrs; rw [List.length_map, List.length_map, List.length_take] at e; omega
    have HRSL := Lib.hid (show rs.length ≤ 1000000000 by omega)
    clear hI' hbI' hs hrs hOw hG hRne htl hZ' hmx'
    by_cases hlt : k < os.length
    · rw [typed_cons hlt] at hR
      have hmem : os.getD k Opt.zero ∈ os := by rw [List.getD_eq_getElem?_getD, List.getElem?_eq_getElem hlt]; exact List.getElem_mem hlt
      have hsn := typed_snoc hlt
      have hle2 := typed_le os (k + 1)
      have htk := opt_take hlt
      obtain ⟨xo, hxo⟩ : ∃ xo, xo = os.getD k Opt.zero := ⟨_, rfl⟩
      rw [← hxo] at hR hmem hsn htk
      obtain ⟨⟨hk0, hk1⟩, hdl, hd0⟩ := HOK.out xo hmem
      have HTK := Lib.hid htk
      have HLT := Lib.hid hlt
      obtain ⟨kd, ln, d⟩ := xo
      simp only at hk0 hk1 hdl hd0
      rw [hsn, List.length_append, ← HS.out] at hle2
      have HSN := Lib.hid hsn
      clear hxo hmem htk hsn hlt
      by_cases z0 : kd = 0
      · have e1 : typB ⟨kd, ln, d⟩ = [kd] := by subst z0; simp [typB]
        have ed : d = [] := hd0 z0
        rw [e1, List.append_assoc] at hR
        rw [e1] at HSN hle2
        have hR : R = kd :: (typedB (os.drop (k + 1)) ++ [255]) := hR
        have t0 : (kd == 0) = true := beq_iff_eq.2 z0
        have t1 : (kd == 255) = false := by rw [z0]; rfl
        have eno : normO ⟨kd, ln, d⟩ = ⟨kd, 0, []⟩ := by simp [normO, z0, ed]
        have ENO := Lib.hid eno
        have w1' : IntKind.i64.wrap ((s : Int) + 1) = (s : Int) + 1 := w64 (by omega) (by omega)
        have HR := Lib.hid hR
        have HZ0 := Lib.hid z0
        clear hR e1 ed eno hdl hd0 hle2 z0
        go_wp2_with fail
        obtain ⟨Y, hYd⟩ : ∃ Y, Y = ((rowW x D [.slice none 0 0, .slice none 0 0, .int .u8 (bt l 0), .int .u8 (bt l 1), .int .u8 (HL : Int), .int .u8 (bt l 3), .int .u32 (bt l 4 * 16777216 + bt l 5 * 65536 + bt l 6 * 256 + bt l 7), .int .u16 (bt l 8 * 256 + bt l 9), .int .u16 (bt l 10 * 256 + bt l 11), .slice a5 n5 m5, .slice a6 n6 m6, .slice a7 n7 m7, .slice a8 n8 m8, .slice a9 n9 m9, .slice a10 n10 m10, .slice a11 n11 m11, .slice a n m] 119).alloc (.cells #[.int .u8 0, .int .u8 0, .slice none 0 0] 122)) := ⟨_, rfl⟩
        rw [← hYd]
        have hYT : Y.heap[x.heap.size]? = some (.cells #[.int .u8 0, .int .u8 0, .slice none 0 0] 122 (0, 0)) := by
          have e := heap_alloc_new (rowW x D [.slice none 0 0, .slice none 0 0, .int .u8 (bt l 0), .int .u8 (bt l 1), .int .u8 (HL : Int), .int .u8 (bt l 3), .int .u32 (bt l 4 * 16777216 + bt l 5 * 65536 + bt l 6 * 256 + bt l 7), .int .u16 (bt l 8 * 256 + bt l 9), .int .u16 (bt l 10 * 256 + bt l 11), .slice a5 n5 m5, .slice a6 n6 m6, .slice a7 n7 m7, .slice a8 n8 m8, .slice a9 n9 m9, .slice a10 n10 m10, .slice a11 n11 m11, .slice a n m] 119) (.cells #[.int .u8 0, .int .u8 0, .slice none 0 0] 122)
          rw [← hYd, rowW_size] at e
          exact e
        have gY : Gr (rowW x D [.slice none 0 0, .slice none 0 0, .int .u8 (bt l 0), .int .u8 (bt l 1), .int .u8 (HL : Int), .int .u8 (bt l 3), .int .u32 (bt l 4 * 16777216 + bt l 5 * 65536 + bt l 6 * 256 + bt l 7), .int .u16 (bt l 8 * 256 + bt l 9), .int .u16 (bt l 10 * 256 + bt l 11), .slice a5 n5 m5, .slice a6 n6 m6, .slice a7 n7 m7, .slice a8 n8 m8, .slice a9 n9 m9, .slice a10 n10 m10, .slice a11 n11 m11, .slice a n m] 119) Y := by rw [hYd]; exact (Gr.refl _).alloc _
        have hYs : rowW Y x.heap.size [.int .u8 0, .int .u8 0, .slice none 0 0] 122 = Y := rowW_self hYT
        have hHT : Has Y x.heap.size := (Array.getElem?_eq_some_iff.1 hYT).1
        have hIY : IsB Y (.slice a' n' m') R := (isB_rows hd HG.out HI'.out HNE'.out).gr gY
        rw [← hYs]
        refine (dhcpOpt0_calls x.heap.size a' n' m' R (typedB (os.drop (k + 1)) ++ [255]) kd Y hHT hIY HNT.out HR.out (.inl HZ0.out)).mono ?_
        rintro e W ⟨rfl, q, rfl⟩
        obtain ⟨T, hTe⟩ : ∃ T, T = x.heap.size := ⟨_, rfl⟩
        rw [← hTe] at hHT ⊢
        have gW : Gr (rowW x D [.slice none 0 0, .slice none 0 0, .int .u8 (bt l 0), .int .u8 (bt l 1), .int .u8 (HL : Int), .int .u8 (bt l 3), .int .u32 (bt l 4 * 16777216 + bt l 5 * 65536 + bt l 6 * 256 + bt l 7), .int .u16 (bt l 8 * 256 + bt l 9), .int .u16 (bt l 10 * 256 + bt l 11), .slice a5 n5 m5, .slice a6 n6 m6, .slice a7 n7 m7, .slice a8 n8 m8, .slice a9 n9 m9, .slice a10 n10 m10, .slice a11 n11 m11, .slice a n m] 119) (rowW (Y.drewN q) T [.int .u8 kd, .int .u8 0, .slice none 0 0] 122) := (gY.drewN q).step (rowW_grown (some T) rfl) (by rw [rowW_size, hTe]; exact Nat.le_refl _)
        have bY0 := rowW_cell (cs := [.int .u8 kd, .int .u8 0, .slice none 0 0]) (e := 122) (show Has (Y.drewN q) T from hHT) 0
        have bY1 := rowW_cell (cs := [.int .u8 kd, .int .u8 0, .slice none 0 0]) (e := 122) (show Has (Y.drewN q) T from hHT) 1
        have bY2 := rowW_cell (cs := [.int .u8 kd, .int .u8 0, .slice none 0 0]) (e := 122) (show Has (Y.drewN q) T from hHT) 2
        obtain ⟨x2, gx2, dx2, hW⟩ := Gr.unrow hX gW
        rw [hW] at bY0 bY1 bY2 ⊢
        simp only [List.getElem?_cons_zero, List.getElem?_cons_succ] at bY0 bY1 bY2
        have neTD : T ≠ D := by have : D < x.heap.size := hX; omega
        have neV := Lib.hid (show ∀ k, (Value.slice a n m).ownBlock = some k → k ≠ T from fun k hk => by
          have h1 := (HOw.out.fresh k hk).2
          rw [rowW_size] at h1
          omega)
        have HOw := Lib.hid (HOw.out.gr (show Gr (rowW x D [.slice none 0 0, .slice none 0 0, .int .u8 (bt l 0), .int .u8 (bt l 1), .int .u8 (HL : Int), .int .u8 (bt l 3), .int .u32 (bt l 4 * 16777216 + bt l 5 * 65536 + bt l 6 * 256 + bt l 7), .int .u16 (bt l 8 * 256 + bt l 9), .int .u16 (bt l 10 * 256 + bt l 11), .slice a5 n5 m5, .slice a6 n6 m6, .slice a7 n7 m7, .slice a8 n8 m8, .slice a9 n9 m9, .slice a10 n10 m10, .slice a11 n11 m11, .slice a n m] 119) (rowW x2 D [.slice none 0 0, .slice none 0 0, .int .u8 (bt l 0), .int .u8 (bt l 1), .int .u8 (HL : Int), .int .u8 (bt l 3), .int .u32 (bt l 4 * 16777216 + bt l 5 * 65536 + bt l 6 * 256 + bt l 7), .int .u16 (bt l 8 * 256 + bt l 9), .int .u16 (bt l 10 * 256 + bt l 11), .slice a5 n5 m5, .slice a6 n6 m6, .slice a7 n7 m7, .slice a8 n8 m8, .slice a9 n9 m9, .slice a10 n10 m10, .slice a11 n11 m11, .slice a n m] 119) from gr_rows hX gx2))
        have HG := Lib.hid (HG.out.trans gx2)
        have hX := dx2
        clear hYd hYT gY hYs hHT hIY gW hW gx2 dx2 hTe
        clear si
        go_wp2_with fail
        have HB0 := Lib.hid (And.intro bY0 (And.intro bY1 bY2))
        have CY := Lib.hid (rowW_cell (cs := [.slice none 0 0, .slice none 0 0, .int .u8 (bt l 0), .int .u8 (bt l 1), .int .u8 (HL : Int), .int .u8 (bt l 3), .int .u32 (bt l 4 * 16777216 + bt l 5 * 65536 + bt l 6 * 256 + bt l 7), .int .u16 (bt l 8 * 256 + bt l 9), .int .u16 (bt l 10 * 256 + bt l 11), .slice a5 n5 m5, .slice a6 n6 m6, .slice a7 n7 m7, .slice a8 n8 m8, .slice a9 n9 m9, .slice a10 n10 m10, .slice a11 n11 m11, .slice a n m]) (e := 119) hX 16)
        have GWY := Lib.hid (gr_rows (cs := [.slice none 0 0, .slice none 0 0, .int .u8 (bt l 0), .int .u8 (bt l 1), .int .u8 (HL : Int), .int .u8 (bt l 3), .int .u32 (bt l 4 * 16777216 + bt l 5 * 65536 + bt l 6 * 256 + bt l 7), .int .u16 (bt l 8 * 256 + bt l 9), .int .u16 (bt l 10 * 256 + bt l 11), .slice a5 n5 m5, .slice a6 n6 m6, .slice a7 n7 m7, .slice a8 n8 m8, .slice a9 n9 m9, .slice a10 n10 m10, .slice a11 n11 m11, .slice a n m]) (e := 119) hd HG.out)
        have szY := HG.out.size
        refine wp_region_held_drew (S := (fun w' => w'.cell? ⟨T, 0, none⟩ = some (.int .u8 kd) ∧ w'.cell? ⟨T, 1, none⟩ = some (.int .u8 0) ∧ w'.cell? ⟨T, 2, none⟩ = some (.slice none 0 0))) (by kernel_rfl) ⟨bY0, bY1, bY2⟩ (fun hHeld => ?_)
        refine wpAnyH_take (i := 0) (v := .pointer (some ⟨D, 0, none⟩)) rfl (by kernel_rfl) (by kernel_rfl) (by kernel_rfl) (fun _ _ _ h => h) (Or.inl ⟨by rfl, fun w' hS => ?_⟩) (by assumption) ?_
        · obtain ⟨c0, c1, c2⟩ := hS
          clear hHeld
          go_simp
        try simp only [Act.put, List.getElem_toArray, List.getElem_cons_succ, List.getElem_cons_zero, List.setIfInBounds_toArray, List.set_cons_zero, List.set_cons_succ]
        refine wpAnyH_take (i := 1) (v := .pointer (some ⟨D, 0, none⟩)) rfl (by kernel_rfl) (by kernel_rfl) (by kernel_rfl) (fun _ _ _ h => h) (Or.inl ⟨by rfl, fun w' hS => ?_⟩) (by assumption) ?_
        · obtain ⟨c0, c1, c2⟩ := hS
          clear hHeld
          go_simp
        try simp only [Act.put, List.getElem_toArray, List.getElem_cons_succ, List.getElem_cons_zero, List.setIfInBounds_toArray, List.set_cons_zero, List.set_cons_succ]
        refine wpAnyH_take (i := 2) (v := .pointer (some ⟨D, 0, none⟩)) rfl (by kernel_rfl) (by kernel_rfl) (by kernel_rfl) (fun _ _ _ h => h) (Or.inl ⟨by rfl, fun w' hS => ?_⟩) (by assumption) ?_
        · obtain ⟨c0, c1, c2⟩ := hS
          clear hHeld
          go_simp
        try simp only [Act.put, List.getElem_toArray, List.getElem_cons_succ, List.getElem_cons_zero, List.setIfInBounds_toArray, List.set_cons_zero, List.set_cons_succ]
        refine wpAnyH_take (i := 3) (v := .pointer (some ⟨D, 16, none⟩)) rfl (by kernel_rfl) (by kernel_rfl) (by kernel_rfl) (fun _ _ _ h => h) (Or.inl ⟨by rfl, fun w' hS => ?_⟩) (by assumption) ?_
        · obtain ⟨c0, c1, c2⟩ := hS
          clear hHeld
          go_simp
        try simp only [Act.put, List.getElem_toArray, List.getElem_cons_succ, List.getElem_cons_zero, List.setIfInBounds_toArray, List.set_cons_zero, List.set_cons_succ]
        refine wpAnyH_take (i := 5) (v := .agg #[.int .u8 kd, .int .u8 0, .slice none 0 0]) rfl (by kernel_rfl) (by kernel_rfl) (by kernel_rfl) (fun _ _ _ h => h) (Or.inl ⟨by rfl, fun w' hS => ?_⟩) (by assumption) ?_
        · obtain ⟨c0, c1, c2⟩ := hS
          clear hHeld
          go_simp
        try simp only [Act.put, List.getElem_toArray, List.getElem_cons_succ, List.getElem_cons_zero, List.setIfInBounds_toArray, List.set_cons_zero, List.set_cons_succ]
        refine wpAnyH_ready (rs := [4, 6]) (by kernel_rfl) (by simp) ((AllReadyH.cons rfl (fun K hK => ?_) (AllReadyH.cons rfl (fun K hK => ?_) AllReadyH.nil)))
        · refine step_loadc (by rfl) 117 (.tmp 137) (by rfl) D 16 (by first | rfl | simp) (.slice a n m) 122 Try.underlying117 (CY.out) ?_
          refine hK.out _ _ ⟨HB0.out.1, HB0.out.2.1, HB0.out.2.2⟩ (fun hHeld => ?_)
          clear hK K
          try simp only [Act.put, List.getElem_toArray, List.getElem_cons_succ, List.getElem_cons_zero, List.setIfInBounds_toArray, List.set_cons_zero, List.set_cons_succ]
          refine wpAnyH_ready (rs := [6]) (by kernel_rfl) (by simp) ((AllReadyH.cons rfl (fun K hK => ?_) AllReadyH.nil))
          go_simp
          refine hK.out _ _ ⟨Gr.cell (((Gr.refl _).drew).alloc _) HB0.out.1, Gr.cell (((Gr.refl _).drew).alloc _) HB0.out.2.1, Gr.cell (((Gr.refl _).drew).alloc _) HB0.out.2.2⟩ (fun hHeld => ?_)
          clear hK K
          try simp only [Act.put, List.getElem_toArray, List.getElem_cons_succ, List.getElem_cons_zero, List.setIfInBounds_toArray, List.set_cons_zero, List.set_cons_succ]
          refine wpAnyH_ready (rs := [7]) (by kernel_rfl) (by simp) ((AllReadyH.cons rfl (fun K hK => ?_) AllReadyH.nil))
          refine step_appR rfl (.tmp 138) (.tmp 140) 117 122 rfl Try.underlying117 _ 32 info_dh rfl (by omega) w1.heap.size D (.slice a n m) rs (by first | rfl | simp [Act.eval]) (HOw.out.gr (((Gr.refl (rowW x2 D [.slice none 0 0, .slice none 0 0, .int .u8 (bt l 0), .int .u8 (bt l 1), .int .u8 (HL : Int), .int .u8 (bt l 3), .int .u32 (bt l 4 * 16777216 + bt l 5 * 65536 + bt l 6 * 256 + bt l 7), .int .u16 (bt l 8 * 256 + bt l 9), .int .u16 (bt l 10 * 256 + bt l 11), .slice a5 n5 m5, .slice a6 n6 m6, .slice a7 n7 m7, .slice a8 n8 m8, .slice a9 n9 m9, .slice a10 n10 m10, .slice a11 n11 m11, .slice a n m] 119)).drew).alloc _)) x2.heap.size 1 ⟨kd, 0, []⟩ (.slice none 0 0) (by first | rfl | simp [Act.eval]) (box3 (rowW_size (w := x2)).symm _ _ _ _).1 (box3 (rowW_size (w := x2)).symm _ _ _ _).2.1 (box3 (rowW_size (w := x2)).symm _ _ _ _).2.2 isB_nil (.inl rfl) (fun _ _ => .inl rfl) HRSL.out (by show w1.heap.size ≤ (World.alloc _ _).heap.size; rw [World.size_alloc]; show w1.heap.size ≤ (rowW x2 D [.slice none 0 0, .slice none 0 0, .int .u8 (bt l 0), .int .u8 (bt l 1), .int .u8 (HL : Int), .int .u8 (bt l 3), .int .u32 (bt l 4 * 16777216 + bt l 5 * 65536 + bt l 6 * 256 + bt l 7), .int .u16 (bt l 8 * 256 + bt l 9), .int .u16 (bt l 10 * 256 + bt l 11), .slice a5 n5 m5, .slice a6 n6 m6, .slice a7 n7 m7, .slice a8 n8 m8, .slice a9 n9 m9, .slice a10 n10 m10, .slice a11 n11 m11, .slice a n m] 119).heap.size + 1; rw [rowW_size]; omega) ?_
          intro v4 w4 ho4 hg4 hat4
          obtain ⟨g4, n4, c4, rfl, hg41⟩ := ho4.slice_pos (by simp)
          have G4 := grownBy_step ((GWY.out.drew).alloc _) hg4 (fun k hk => .inl (by rw [rowW_size]; exact (HOw.out.fresh k hk).1))
          have k4b := World.grownBy.cell hg4 (a := ⟨T, 0, none⟩) (Gr.cell (((Gr.refl _).drew).alloc _) HB0.out.1) (fun e => neV.out _ e.symm rfl)
          have k4c := World.grownBy.cell hg4 (a := ⟨T, 1, none⟩) (Gr.cell (((Gr.refl _).drew).alloc _) HB0.out.2.1) (fun e => neV.out _ e.symm rfl)
          have k4d := World.grownBy.cell hg4 (a := ⟨T, 2, none⟩) (Gr.cell (((Gr.refl _).drew).alloc _) HB0.out.2.2) (fun e => neV.out _ e.symm rfl)
          obtain ⟨x4, gx4, dx4, rfl⟩ := Gr.unrow hd G4
          refine hK.out _ _ ⟨k4b, k4c, k4d⟩ (fun hHeld => ?_)
          clear hK K
          try simp only [Act.put, List.getElem_toArray, List.getElem_cons_succ, List.getElem_cons_zero, List.setIfInBounds_toArray, List.set_cons_zero, List.set_cons_succ]
          refine wpAnyH_take (i := 8) (v := .pointer (some ⟨D, 0, none⟩)) rfl (by kernel_rfl) (by kernel_rfl) (by kernel_rfl) (fun _ _ _ h => h) (Or.inl ⟨by rfl, fun w' hS => ?_⟩) (by assumption) ?_
          · obtain ⟨c0, c1, c2⟩ := hS
            clear hHeld
            go_simp
          try simp only [Act.put, List.getElem_toArray, List.getElem_cons_succ, List.getElem_cons_zero, List.setIfInBounds_toArray, List.set_cons_zero, List.set_cons_succ]
          refine wpAnyH_take (i := 9) (v := .pointer (some ⟨D, 16, none⟩)) rfl (by kernel_rfl) (by kernel_rfl) (by kernel_rfl) (fun _ _ _ h => h) (Or.inl ⟨by rfl, fun w' hS => ?_⟩) (by assumption) ?_
          · obtain ⟨c0, c1, c2⟩ := hS
            clear hHeld
            go_simp
          try simp only [Act.put, List.getElem_toArray, List.getElem_cons_succ, List.getElem_cons_zero, List.setIfInBounds_toArray, List.set_cons_zero, List.set_cons_succ]
          refine wpAnyH_ready (rs := [10]) (by kernel_rfl) (by simp) ((AllReadyH.cons rfl (fun K hK => ?_) AllReadyH.nil))
          go_simp
          refine hK.out _ _ ⟨rowW_swap neTD k4b, rowW_swap neTD k4c, rowW_swap neTD k4d⟩ (fun hHeld => ?_)
          clear hK K
          try simp only [Act.put, List.getElem_toArray, List.getElem_cons_succ, List.getElem_cons_zero, List.setIfInBounds_toArray, List.set_cons_zero, List.set_cons_succ]
          have k4b := fun C' => rowW_swap (cs' := C') neTD k4b
          have k4c := fun C' => rowW_swap (cs' := C') neTD k4c
          refine wpAnyH_done (by kernel_rfl) ?_ _
          go_wp2_with fail
          go_roundw
          case rel => exact ⟨k + 1, rs ++ [(⟨kd, 0, []⟩, .slice none 0 0)], x4, some ⟨g4, 0, none⟩, n4, c4, HLT.out, by rw [HSN.out, List.length_append, ← HS.out]; simp, rfl, dx4, gx4, ho4.reRow hd, by rw [List.map_append, HRS.out, HTK.out, List.map_append]; simp [ENO.out]⟩
          case measure => simp [intOf]; omega
        · go_simp
          refine hK.out _ _ ⟨Gr.cell (((Gr.refl _).drew).alloc _) HB0.out.1, Gr.cell (((Gr.refl _).drew).alloc _) HB0.out.2.1, Gr.cell (((Gr.refl _).drew).alloc _) HB0.out.2.2⟩ (fun hHeld => ?_)
          clear hK K
          try simp only [Act.put, List.getElem_toArray, List.getElem_cons_succ, List.getElem_cons_zero, List.setIfInBounds_toArray, List.set_cons_zero, List.set_cons_succ]
          refine wpAnyH_ready (rs := [4]) (by kernel_rfl) (by simp) ((AllReadyH.cons rfl (fun K hK => ?_) AllReadyH.nil))
          refine step_loadc (by rfl) 117 (.tmp 137) (by rfl) D 16 (by first | rfl | simp) (.slice a n m) 122 Try.underlying117 (Gr.cell (((Gr.refl _).drew).alloc _) CY.out) ?_
          refine hK.out _ _ ⟨Gr.cell (((Gr.refl _).drew).alloc _) HB0.out.1, Gr.cell (((Gr.refl _).drew).alloc _) HB0.out.2.1, Gr.cell (((Gr.refl _).drew).alloc _) HB0.out.2.2⟩ (fun hHeld => ?_)
          clear hK K
          try simp only [Act.put, List.getElem_toArray, List.getElem_cons_succ, List.getElem_cons_zero, List.setIfInBounds_toArray, List.set_cons_zero, List.set_cons_succ]
          refine wpAnyH_ready (rs := [7]) (by kernel_rfl) (by simp) ((AllReadyH.cons rfl (fun K hK => ?_) AllReadyH.nil))
          refine step_appR rfl (.tmp 138) (.tmp 140) 117 122 rfl Try.underlying117 _ 32 info_dh rfl (by omega) w1.heap.size D (.slice a n m) rs (by first | rfl | simp [Act.eval]) (HOw.out.gr (((Gr.refl (rowW x2 D [.slice none 0 0, .slice none 0 0, .int .u8 (bt l 0), .int .u8 (bt l 1), .int .u8 (HL : Int), .int .u8 (bt l 3), .int .u32 (bt l 4 * 16777216 + bt l 5 * 65536 + bt l 6 * 256 + bt l 7), .int .u16 (bt l 8 * 256 + bt l 9), .int .u16 (bt l 10 * 256 + bt l 11), .slice a5 n5 m5, .slice a6 n6 m6, .slice a7 n7 m7, .slice a8 n8 m8, .slice a9 n9 m9, .slice a10 n10 m10, .slice a11 n11 m11, .slice a n m] 119)).drew).alloc _)) x2.heap.size 1 ⟨kd, 0, []⟩ (.slice none 0 0) (by first | rfl | simp [Act.eval]) (box3 (rowW_size (w := x2)).symm _ _ _ _).1 (box3 (rowW_size (w := x2)).symm _ _ _ _).2.1 (box3 (rowW_size (w := x2)).symm _ _ _ _).2.2 isB_nil (.inl rfl) (fun _ _ => .inl rfl) HRSL.out (by show w1.heap.size ≤ (World.alloc _ _).heap.size; rw [World.size_alloc]; show w1.heap.size ≤ (rowW x2 D [.slice none 0 0, .slice none 0 0, .int .u8 (bt l 0), .int .u8 (bt l 1), .int .u8 (HL : Int), .int .u8 (bt l 3), .int .u32 (bt l 4 * 16777216 + bt l 5 * 65536 + bt l 6 * 256 + bt l 7), .int .u16 (bt l 8 * 256 + bt l 9), .int .u16 (bt l 10 * 256 + bt l 11), .slice a5 n5 m5, .slice a6 n6 m6, .slice a7 n7 m7, .slice a8 n8 m8, .slice a9 n9 m9, .slice a10 n10 m10, .slice a11 n11 m11, .slice a n m] 119).heap.size + 1; rw [rowW_size]; omega) ?_
          intro v4 w4 ho4 hg4 hat4
          obtain ⟨g4, n4, c4, rfl, hg41⟩ := ho4.slice_pos (by simp)
          have G4 := grownBy_step ((GWY.out.drew).alloc _) hg4 (fun k hk => .inl (by rw [rowW_size]; exact (HOw.out.fresh k hk).1))
          have k4b := World.grownBy.cell hg4 (a := ⟨T, 0, none⟩) (Gr.cell (((Gr.refl _).drew).alloc _) HB0.out.1) (fun e => neV.out _ e.symm rfl)
          have k4c := World.grownBy.cell hg4 (a := ⟨T, 1, none⟩) (Gr.cell (((Gr.refl _).drew).alloc _) HB0.out.2.1) (fun e => neV.out _ e.symm rfl)
          have k4d := World.grownBy.cell hg4 (a := ⟨T, 2, none⟩) (Gr.cell (((Gr.refl _).drew).alloc _) HB0.out.2.2) (fun e => neV.out _ e.symm rfl)
          obtain ⟨x4, gx4, dx4, rfl⟩ := Gr.unrow hd G4
          refine hK.out _ _ ⟨k4b, k4c, k4d⟩ (fun hHeld => ?_)
          clear hK K
          try simp only [Act.put, List.getElem_toArray, List.getElem_cons_succ, List.getElem_cons_zero, List.setIfInBounds_toArray, List.set_cons_zero, List.set_cons_succ]
          refine wpAnyH_take (i := 8) (v := .pointer (some ⟨D, 0, none⟩)) rfl (by kernel_rfl) (by kernel_rfl) (by kernel_rfl) (fun _ _ _ h => h) (Or.inl ⟨by rfl, fun w' hS => ?_⟩) (by assumption) ?_
          · obtain ⟨c0, c1, c2⟩ := hS
            clear hHeld
            go_simp
          try simp only [Act.put, List.getElem_toArray, List.getElem_cons_succ, List.getElem_cons_zero, List.setIfInBounds_toArray, List.set_cons_zero, List.set_cons_succ]
          refine wpAnyH_take (i := 9) (v := .pointer (some ⟨D, 16, none⟩)) rfl (by kernel_rfl) (by kernel_rfl) (by kernel_rfl) (fun _ _ _ h => h) (Or.inl ⟨by rfl, fun w' hS => ?_⟩) (by assumption) ?_
          · obtain ⟨c0, c1, c2⟩ := hS
            clear hHeld
            go_simp
          try simp only [Act.put, List.getElem_toArray, List.getElem_cons_succ, List.getElem_cons_zero, List.setIfInBounds_toArray, List.set_cons_zero, List.set_cons_succ]
          refine wpAnyH_ready (rs := [10]) (by kernel_rfl) (by simp) ((AllReadyH.cons rfl (fun K hK => ?_) AllReadyH.nil))
          go_simp
          refine hK.out _ _ ⟨rowW_swap neTD k4b, rowW_swap neTD k4c, rowW_swap neTD k4d⟩ (fun hHeld => ?_)
          clear hK K
          try simp only [Act.put, List.getElem_toArray, List.getElem_cons_succ, List.getElem_cons_zero, List.setIfInBounds_toArray, List.set_cons_zero, List.set_cons_succ]
          have k4b := fun C' => rowW_swap (cs' := C') neTD k4b
          have k4c := fun C' => rowW_swap (cs' := C') neTD k4c
          refine wpAnyH_done (by kernel_rfl) ?_ _
          go_wp2_with fail
          go_roundw
          case rel => exact ⟨k + 1, rs ++ [(⟨kd, 0, []⟩, .slice none 0 0)], x4, some ⟨g4, 0, none⟩, n4, c4, HLT.out, by rw [HSN.out, List.length_append, ← HS.out]; simp, rfl, dx4, gx4, ho4.reRow hd, by rw [List.map_append, HRS.out, HTK.out, List.map_append]; simp [ENO.out]⟩
          case measure => simp [intOf]; omega
      · have e1 : typB ⟨kd, ln, d⟩ = [kd, (d.length : Int)] ++ d := by
          have h1 : kd % 256 = kd := by omega
          have h2 : (d.length : Int) % 256 = (d.length : Int) := by omega
          simp [typB, z0, h1, h2]
        rw [e1, List.append_assoc, List.append_assoc] at hR
        rw [e1] at HSN hle2
        simp only [List.length_append, List.length_cons, List.length_nil] at hle2
        obtain ⟨N, hN⟩ : ∃ N, N = d.length := ⟨_, rfl⟩
        have t0 : (kd == 0) = false := beq_eq_false_iff_ne.2 z0
        have k255 : kd ≠ 255 := by omega
        have t1 : (kd == 255) = false := beq_eq_false_iff_ne.2 k255
        have eno : normO ⟨kd, ln, d⟩ = ⟨kd, (N : Int), d⟩ := by simp [normO, z0, hN]
        have ENO := Lib.hid eno
        have w1' : IntKind.i64.wrap (N : Int) = (N : Int) := w64 (by omega) (by omega)
        have w2' : IntKind.i64.wrap ((N : Int) + 2) = (N : Int) + 2 := w64 (by omega) (by omega)
        have w3' : IntKind.i64.wrap ((s : Int) + ((N : Int) + 2)) = (s : Int) + ((N : Int) + 2) := w64 (by omega) (by omega)
        have HR := Lib.hid hR
        have HZ0 := Lib.hid z0
        have HDL := Lib.hid hdl
        have HN := Lib.hid hN
        clear hR e1 eno hdl hd0 hle2 z0 hN
        go_wp2_with fail
        obtain ⟨Y, hYd⟩ : ∃ Y, Y = ((rowW x D [.slice none 0 0, .slice none 0 0, .int .u8 (bt l 0), .int .u8 (bt l 1), .int .u8 (HL : Int), .int .u8 (bt l 3), .int .u32 (bt l 4 * 16777216 + bt l 5 * 65536 + bt l 6 * 256 + bt l 7), .int .u16 (bt l 8 * 256 + bt l 9), .int .u16 (bt l 10 * 256 + bt l 11), .slice a5 n5 m5, .slice a6 n6 m6, .slice a7 n7 m7, .slice a8 n8 m8, .slice a9 n9 m9, .slice a10 n10 m10, .slice a11 n11 m11, .slice a n m] 119).alloc (.cells #[.int .u8 0, .int .u8 0, .slice none 0 0] 122)) := ⟨_, rfl⟩
        rw [← hYd]
        have hYT : Y.heap[x.heap.size]? = some (.cells #[.int .u8 0, .int .u8 0, .slice none 0 0] 122 (0, 0)) := by
          have e := heap_alloc_new (rowW x D [.slice none 0 0, .slice none 0 0, .int .u8 (bt l 0), .int .u8 (bt l 1), .int .u8 (HL : Int), .int .u8 (bt l 3), .int .u32 (bt l 4 * 16777216 + bt l 5 * 65536 + bt l 6 * 256 + bt l 7), .int .u16 (bt l 8 * 256 + bt l 9), .int .u16 (bt l 10 * 256 + bt l 11), .slice a5 n5 m5, .slice a6 n6 m6, .slice a7 n7 m7, .slice a8 n8 m8, .slice a9 n9 m9, .slice a10 n10 m10, .slice a11 n11 m11, .slice a n m] 119) (.cells #[.int .u8 0, .int .u8 0, .slice none 0 0] 122)
          rw [← hYd, rowW_size] at e
          exact e
        have gY : Gr (rowW x D [.slice none 0 0, .slice none 0 0, .int .u8 (bt l 0), .int .u8 (bt l 1), .int .u8 (HL : Int), .int .u8 (bt l 3), .int .u32 (bt l 4 * 16777216 + bt l 5 * 65536 + bt l 6 * 256 + bt l 7), .int .u16 (bt l 8 * 256 + bt l 9), .int .u16 (bt l 10 * 256 + bt l 11), .slice a5 n5 m5, .slice a6 n6 m6, .slice a7 n7 m7, .slice a8 n8 m8, .slice a9 n9 m9, .slice a10 n10 m10, .slice a11 n11 m11, .slice a n m] 119) Y := by rw [hYd]; exact (Gr.refl _).alloc _
        have hYs : rowW Y x.heap.size [.int .u8 0, .int .u8 0, .slice none 0 0] 122 = Y := rowW_self hYT
        have hHT : Has Y x.heap.size := (Array.getElem?_eq_some_iff.1 hYT).1
        have hIY : IsB Y (.slice a' n' m') R := (isB_rows hd HG.out HI'.out HNE'.out).gr gY
        rw [← hYs]
        refine (dhcpOpt_calls x.heap.size a' n' m' R d (typedB (os.drop (k + 1)) ++ [255]) kd Y hHT hIY HNT.out HR.out HZ0.out k255 HDL.out).mono ?_
        rintro e W ⟨rfl, q, ad, nd, md, rfl, hd', hbd⟩
        rw [← HN.out]
        obtain ⟨T, hTe⟩ : ∃ T, T = x.heap.size := ⟨_, rfl⟩
        rw [← hTe] at hHT ⊢
        have gW : Gr (rowW x D [.slice none 0 0, .slice none 0 0, .int .u8 (bt l 0), .int .u8 (bt l 1), .int .u8 (HL : Int), .int .u8 (bt l 3), .int .u32 (bt l 4 * 16777216 + bt l 5 * 65536 + bt l 6 * 256 + bt l 7), .int .u16 (bt l 8 * 256 + bt l 9), .int .u16 (bt l 10 * 256 + bt l 11), .slice a5 n5 m5, .slice a6 n6 m6, .slice a7 n7 m7, .slice a8 n8 m8, .slice a9 n9 m9, .slice a10 n10 m10, .slice a11 n11 m11, .slice a n m] 119) (rowW (Y.drewN q) T [.int .u8 kd, .int .u8 (N : Int), .slice ad nd md] 122) := (gY.drewN q).step (rowW_grown (some T) rfl) (by rw [rowW_size, hTe]; exact Nat.le_refl _)
        have bY0 := rowW_cell (cs := [.int .u8 kd, .int .u8 (N : Int), .slice ad nd md]) (e := 122) (show Has (Y.drewN q) T from hHT) 0
        have bY1 := rowW_cell (cs := [.int .u8 kd, .int .u8 (N : Int), .slice ad nd md]) (e := 122) (show Has (Y.drewN q) T from hHT) 1
        have bY2 := rowW_cell (cs := [.int .u8 kd, .int .u8 (N : Int), .slice ad nd md]) (e := 122) (show Has (Y.drewN q) T from hHT) 2
        have HDT := Lib.hid (show IsB (rowW (Y.drewN q) T [.int .u8 kd, .int .u8 (N : Int), .slice ad nd md] 122) (.slice ad nd md) d from ((hd'.gr ((Gr.refl Y).drewN q))).rowW (by rw [hbd, hTe]; exact HNT.out))
        obtain ⟨x2, gx2, dx2, hW⟩ := Gr.unrow hX gW
        rw [hW] at bY0 bY1 bY2 ⊢
        rw [hW] at HDT
        have HND := Lib.hid (show (Value.slice ad nd md).ownBlock ≠ some D by rw [hbd]; exact HNE'.out)
        have HNV := Lib.hid (show ∀ k, (Value.slice a n m).ownBlock = some k → Aside (.slice ad nd md) d k from fun k hk => by
          have hb := (HOw.out.fresh k hk).1
          by_cases hdn : d = []
          · exact .inl hdn
          · refine .inr fun e => ?_
            rw [hbd] at e
            rcases HI'.out.aside (k := k) hb with h1 | h1
            · rw [HR.out] at h1; cases h1
            · exact h1 e)
        simp only [List.getElem?_cons_zero, List.getElem?_cons_succ] at bY0 bY1 bY2
        have neTD : T ≠ D := by have : D < x.heap.size := hX; omega
        have neV := Lib.hid (show ∀ k, (Value.slice a n m).ownBlock = some k → k ≠ T from fun k hk => by
          have h1 := (HOw.out.fresh k hk).2
          rw [rowW_size] at h1
          omega)
        have HOw := Lib.hid (HOw.out.gr (show Gr (rowW x D [.slice none 0 0, .slice none 0 0, .int .u8 (bt l 0), .int .u8 (bt l 1), .int .u8 (HL : Int), .int .u8 (bt l 3), .int .u32 (bt l 4 * 16777216 + bt l 5 * 65536 + bt l 6 * 256 + bt l 7), .int .u16 (bt l 8 * 256 + bt l 9), .int .u16 (bt l 10 * 256 + bt l 11), .slice a5 n5 m5, .slice a6 n6 m6, .slice a7 n7 m7, .slice a8 n8 m8, .slice a9 n9 m9, .slice a10 n10 m10, .slice a11 n11 m11, .slice a n m] 119) (rowW x2 D [.slice none 0 0, .slice none 0 0, .int .u8 (bt l 0), .int .u8 (bt l 1), .int .u8 (HL : Int), .int .u8 (bt l 3), .int .u32 (bt l 4 * 16777216 + bt l 5 * 65536 + bt l 6 * 256 + bt l 7), .int .u16 (bt l 8 * 256 + bt l 9), .int .u16 (bt l 10 * 256 + bt l 11), .slice a5 n5 m5, .slice a6 n6 m6, .slice a7 n7 m7, .slice a8 n8 m8, .slice a9 n9 m9, .slice a10 n10 m10, .slice a11 n11 m11, .slice a n m] 119) from gr_rows hX gx2))
        have HG := Lib.hid (HG.out.trans gx2)
        have hX := dx2
        clear hYd hYT gY hYs hHT hIY gW hW gx2 dx2 hTe
        clear si
        go_wp2_with fail
        have HB0 := Lib.hid (And.intro bY0 (And.intro bY1 bY2))
        have CY := Lib.hid (rowW_cell (cs := [.slice none 0 0, .slice none 0 0, .int .u8 (bt l 0), .int .u8 (bt l 1), .int .u8 (HL : Int), .int .u8 (bt l 3), .int .u32 (bt l 4 * 16777216 + bt l 5 * 65536 + bt l 6 * 256 + bt l 7), .int .u16 (bt l 8 * 256 + bt l 9), .int .u16 (bt l 10 * 256 + bt l 11), .slice a5 n5 m5, .slice a6 n6 m6, .slice a7 n7 m7, .slice a8 n8 m8, .slice a9 n9 m9, .slice a10 n10 m10, .slice a11 n11 m11, .slice a n m]) (e := 119) hX 16)
        have GWY := Lib.hid (gr_rows (cs := [.slice none 0 0, .slice none 0 0, .int .u8 (bt l 0), .int .u8 (bt l 1), .int .u8 (HL : Int), .int .u8 (bt l 3), .int .u32 (bt l 4 * 16777216 + bt l 5 * 65536 + bt l 6 * 256 + bt l 7), .int .u16 (bt l 8 * 256 + bt l 9), .int .u16 (bt l 10 * 256 + bt l 11), .slice a5 n5 m5, .slice a6 n6 m6, .slice a7 n7 m7, .slice a8 n8 m8, .slice a9 n9 m9, .slice a10 n10 m10, .slice a11 n11 m11, .slice a n m]) (e := 119) hd HG.out)
        have szY := HG.out.size
        refine wp_region_held_drew (S := (fun w' => w'.cell? ⟨T, 0, none⟩ = some (.int .u8 kd) ∧ w'.cell? ⟨T, 1, none⟩ = some (.int .u8 (N : Int)) ∧ w'.cell? ⟨T, 2, none⟩ = some (.slice ad nd md))) (by kernel_rfl) ⟨bY0, bY1, bY2⟩ (fun hHeld => ?_)
        refine wpAnyH_take (i := 0) (v := .pointer (some ⟨D, 0, none⟩)) rfl (by kernel_rfl) (by kernel_rfl) (by kernel_rfl) (fun _ _ _ h => h) (Or.inl ⟨by rfl, fun w' hS => ?_⟩) (by assumption) ?_
        · obtain ⟨c0, c1, c2⟩ := hS
          clear hHeld
          go_simp
        try simp only [Act.put, List.getElem_toArray, List.getElem_cons_succ, List.getElem_cons_zero, List.setIfInBounds_toArray, List.set_cons_zero, List.set_cons_succ]
        refine wpAnyH_take (i := 1) (v := .pointer (some ⟨D, 0, none⟩)) rfl (by kernel_rfl) (by kernel_rfl) (by kernel_rfl) (fun _ _ _ h => h) (Or.inl ⟨by rfl, fun w' hS => ?_⟩) (by assumption) ?_
        · obtain ⟨c0, c1, c2⟩ := hS
          clear hHeld
          go_simp
        try simp only [Act.put, List.getElem_toArray, List.getElem_cons_succ, List.getElem_cons_zero, List.setIfInBounds_toArray, List.set_cons_zero, List.set_cons_succ]
        refine wpAnyH_take (i := 2) (v := .pointer (some ⟨D, 0, none⟩)) rfl (by kernel_rfl) (by kernel_rfl) (by kernel_rfl) (fun _ _ _ h => h) (Or.inl ⟨by rfl, fun w' hS => ?_⟩) (by assumption) ?_
        · obtain ⟨c0, c1, c2⟩ := hS
          clear hHeld
          go_simp
        try simp only [Act.put, List.getElem_toArray, List.getElem_cons_succ, List.getElem_cons_zero, List.setIfInBounds_toArray, List.set_cons_zero, List.set_cons_succ]
        refine wpAnyH_take (i := 3) (v := .pointer (some ⟨D, 16, none⟩)) rfl (by kernel_rfl) (by kernel_rfl) (by kernel_rfl) (fun _ _ _ h => h) (Or.inl ⟨by rfl, fun w' hS => ?_⟩) (by assumption) ?_
        · obtain ⟨c0, c1, c2⟩ := hS
          clear hHeld
          go_simp
        try simp only [Act.put, List.getElem_toArray, List.getElem_cons_succ, List.getElem_cons_zero, List.setIfInBounds_toArray, List.set_cons_zero, List.set_cons_succ]
        refine wpAnyH_take (i := 5) (v := .agg #[.int .u8 kd, .int .u8 (N : Int), .slice ad nd md]) rfl (by kernel_rfl) (by kernel_rfl) (by kernel_rfl) (fun _ _ _ h => h) (Or.inl ⟨by rfl, fun w' hS => ?_⟩) (by assumption) ?_
        · obtain ⟨c0, c1, c2⟩ := hS
          clear hHeld
          go_simp
        try simp only [Act.put, List.getElem_toArray, List.getElem_cons_succ, List.getElem_cons_zero, List.setIfInBounds_toArray, List.set_cons_zero, List.set_cons_succ]
        refine wpAnyH_ready (rs := [4, 6]) (by kernel_rfl) (by simp) ((AllReadyH.cons rfl (fun K hK => ?_) (AllReadyH.cons rfl (fun K hK => ?_) AllReadyH.nil)))
        · refine step_loadc (by rfl) 117 (.tmp 137) (by rfl) D 16 (by first | rfl | simp) (.slice a n m) 122 Try.underlying117 (CY.out) ?_
          refine hK.out _ _ ⟨HB0.out.1, HB0.out.2.1, HB0.out.2.2⟩ (fun hHeld => ?_)
          clear hK K
          try simp only [Act.put, List.getElem_toArray, List.getElem_cons_succ, List.getElem_cons_zero, List.setIfInBounds_toArray, List.set_cons_zero, List.set_cons_succ]
          refine wpAnyH_ready (rs := [6]) (by kernel_rfl) (by simp) ((AllReadyH.cons rfl (fun K hK => ?_) AllReadyH.nil))
          go_simp
          refine hK.out _ _ ⟨Gr.cell (((Gr.refl _).drew).alloc _) HB0.out.1, Gr.cell (((Gr.refl _).drew).alloc _) HB0.out.2.1, Gr.cell (((Gr.refl _).drew).alloc _) HB0.out.2.2⟩ (fun hHeld => ?_)
          clear hK K
          try simp only [Act.put, List.getElem_toArray, List.getElem_cons_succ, List.getElem_cons_zero, List.setIfInBounds_toArray, List.set_cons_zero, List.set_cons_succ]
          refine wpAnyH_ready (rs := [7]) (by kernel_rfl) (by simp) ((AllReadyH.cons rfl (fun K hK => ?_) AllReadyH.nil))
          refine step_appR rfl (.tmp 138) (.tmp 140) 117 122 rfl Try.underlying117 _ 32 info_dh rfl (by omega) w1.heap.size D (.slice a n m) rs (by first | rfl | simp [Act.eval]) (HOw.out.gr (((Gr.refl (rowW x2 D [.slice none 0 0, .slice none 0 0, .int .u8 (bt l 0), .int .u8 (bt l 1), .int .u8 (HL : Int), .int .u8 (bt l 3), .int .u32 (bt l 4 * 16777216 + bt l 5 * 65536 + bt l 6 * 256 + bt l 7), .int .u16 (bt l 8 * 256 + bt l 9), .int .u16 (bt l 10 * 256 + bt l 11), .slice a5 n5 m5, .slice a6 n6 m6, .slice a7 n7 m7, .slice a8 n8 m8, .slice a9 n9 m9, .slice a10 n10 m10, .slice a11 n11 m11, .slice a n m] 119)).drew).alloc _)) x2.heap.size 1 ⟨kd, (N : Int), d⟩ (.slice ad nd md) (by first | rfl | simp [Act.eval]) (box3 (rowW_size (w := x2)).symm _ _ _ _).1 (box3 (rowW_size (w := x2)).symm _ _ _ _).2.1 (box3 (rowW_size (w := x2)).symm _ _ _ _).2.2 (HDT.out.gr (((Gr.refl (rowW x2 D [.slice none 0 0, .slice none 0 0, .int .u8 (bt l 0), .int .u8 (bt l 1), .int .u8 (HL : Int), .int .u8 (bt l 3), .int .u32 (bt l 4 * 16777216 + bt l 5 * 65536 + bt l 6 * 256 + bt l 7), .int .u16 (bt l 8 * 256 + bt l 9), .int .u16 (bt l 10 * 256 + bt l 11), .slice a5 n5 m5, .slice a6 n6 m6, .slice a7 n7 m7, .slice a8 n8 m8, .slice a9 n9 m9, .slice a10 n10 m10, .slice a11 n11 m11, .slice a n m] 119)).drew).alloc _)) (.inr HND.out) HNV.out HRSL.out (by show w1.heap.size ≤ (World.alloc _ _).heap.size; rw [World.size_alloc]; show w1.heap.size ≤ (rowW x2 D [.slice none 0 0, .slice none 0 0, .int .u8 (bt l 0), .int .u8 (bt l 1), .int .u8 (HL : Int), .int .u8 (bt l 3), .int .u32 (bt l 4 * 16777216 + bt l 5 * 65536 + bt l 6 * 256 + bt l 7), .int .u16 (bt l 8 * 256 + bt l 9), .int .u16 (bt l 10 * 256 + bt l 11), .slice a5 n5 m5, .slice a6 n6 m6, .slice a7 n7 m7, .slice a8 n8 m8, .slice a9 n9 m9, .slice a10 n10 m10, .slice a11 n11 m11, .slice a n m] 119).heap.size + 1; rw [rowW_size]; omega) ?_
          intro v4 w4 ho4 hg4 hat4
          obtain ⟨g4, n4, c4, rfl, hg41⟩ := ho4.slice_pos (by simp)
          have G4 := grownBy_step ((GWY.out.drew).alloc _) hg4 (fun k hk => .inl (by rw [rowW_size]; exact (HOw.out.fresh k hk).1))
          have k4b := World.grownBy.cell hg4 (a := ⟨T, 0, none⟩) (Gr.cell (((Gr.refl _).drew).alloc _) HB0.out.1) (fun e => neV.out _ e.symm rfl)
          have k4c := World.grownBy.cell hg4 (a := ⟨T, 1, none⟩) (Gr.cell (((Gr.refl _).drew).alloc _) HB0.out.2.1) (fun e => neV.out _ e.symm rfl)
          have k4d := World.grownBy.cell hg4 (a := ⟨T, 2, none⟩) (Gr.cell (((Gr.refl _).drew).alloc _) HB0.out.2.2) (fun e => neV.out _ e.symm rfl)
          obtain ⟨x4, gx4, dx4, rfl⟩ := Gr.unrow hd G4
          refine hK.out _ _ ⟨k4b, k4c, k4d⟩ (fun hHeld => ?_)
          clear hK K
          try simp only [Act.put, List.getElem_toArray, List.getElem_cons_succ, List.getElem_cons_zero, List.setIfInBounds_toArray, List.set_cons_zero, List.set_cons_succ]
          refine wpAnyH_take (i := 8) (v := .pointer (some ⟨D, 0, none⟩)) rfl (by kernel_rfl) (by kernel_rfl) (by kernel_rfl) (fun _ _ _ h => h) (Or.inl ⟨by rfl, fun w' hS => ?_⟩) (by assumption) ?_
          · obtain ⟨c0, c1, c2⟩ := hS
            clear hHeld
            go_simp
          try simp only [Act.put, List.getElem_toArray, List.getElem_cons_succ, List.getElem_cons_zero, List.setIfInBounds_toArray, List.set_cons_zero, List.set_cons_succ]
          refine wpAnyH_take (i := 9) (v := .pointer (some ⟨D, 16, none⟩)) rfl (by kernel_rfl) (by kernel_rfl) (by kernel_rfl) (fun _ _ _ h => h) (Or.inl ⟨by rfl, fun w' hS => ?_⟩) (by assumption) ?_
          · obtain ⟨c0, c1, c2⟩ := hS
            clear hHeld
            go_simp
          try simp only [Act.put, List.getElem_toArray, List.getElem_cons_succ, List.getElem_cons_zero, List.setIfInBounds_toArray, List.set_cons_zero, List.set_cons_succ]
          refine wpAnyH_ready (rs := [10]) (by kernel_rfl) (by simp) ((AllReadyH.cons rfl (fun K hK => ?_) AllReadyH.nil))
          go_simp
          refine hK.out _ _ ⟨rowW_swap neTD k4b, rowW_swap neTD k4c, rowW_swap neTD k4d⟩ (fun hHeld => ?_)
          clear hK K
          try simp only [Act.put, List.getElem_toArray, List.getElem_cons_succ, List.getElem_cons_zero, List.setIfInBounds_toArray, List.set_cons_zero, List.set_cons_succ]
          have k4b := fun C' => rowW_swap (cs' := C') neTD k4b
          have k4c := fun C' => rowW_swap (cs' := C') neTD k4c
          refine wpAnyH_done (by kernel_rfl) ?_ _
          go_wp2_with fail
          go_roundw
          case rel => exact ⟨k + 1, rs ++ [(⟨kd, (N : Int), d⟩, .slice ad nd md)], x4, some ⟨g4, 0, none⟩, n4, c4, HLT.out, by rw [HSN.out, List.length_append, ← HS.out, HN.out]; simp; omega, rfl, dx4, gx4, ho4.reRow hd, by rw [List.map_append, HRS.out, HTK.out, List.map_append]; simp [ENO.out]⟩
          case measure => simp [intOf]; omega
        · go_simp
          refine hK.out _ _ ⟨Gr.cell (((Gr.refl _).drew).alloc _) HB0.out.1, Gr.cell (((Gr.refl _).drew).alloc _) HB0.out.2.1, Gr.cell (((Gr.refl _).drew).alloc _) HB0.out.2.2⟩ (fun hHeld => ?_)
          clear hK K
          try simp only [Act.put, List.getElem_toArray, List.getElem_cons_succ, List.getElem_cons_zero, List.setIfInBounds_toArray, List.set_cons_zero, List.set_cons_succ]
          refine wpAnyH_ready (rs := [4]) (by kernel_rfl) (by simp) ((AllReadyH.cons rfl (fun K hK => ?_) AllReadyH.nil))
          refine step_loadc (by rfl) 117 (.tmp 137) (by rfl) D 16 (by first | rfl | simp) (.slice a n m) 122 Try.underlying117 (Gr.cell (((Gr.refl _).drew).alloc _) CY.out) ?_
          refine hK.out _ _ ⟨Gr.cell (((Gr.refl _).drew).alloc _) HB0.out.1, Gr.cell (((Gr.refl _).drew).alloc _) HB0.out.2.1, Gr.cell (((Gr.refl _).drew).alloc _) HB0.out.2.2⟩ (fun hHeld => ?_)
          clear hK K
          try simp only [Act.put, List.getElem_toArray, List.getElem_cons_succ, List.getElem_cons_zero, List.setIfInBounds_toArray, List.set_cons_zero, List.set_cons_succ]
          refine wpAnyH_ready (rs := [7]) (by kernel_rfl) (by simp) ((AllReadyH.cons rfl (fun K hK => ?_) AllReadyH.nil))
          refine step_appR rfl (.tmp 138) (.tmp 140) 117 122 rfl Try.underlying117 _ 32 info_dh rfl (by omega) w1.heap.size D (.slice a n m) rs (by first | rfl | simp [Act.eval]) (HOw.out.gr (((Gr.refl (rowW x2 D [.slice none 0 0, .slice none 0 0, .int .u8 (bt l 0), .int .u8 (bt l 1), .int .u8 (HL : Int), .int .u8 (bt l 3), .int .u32 (bt l 4 * 16777216 + bt l 5 * 65536 + bt l 6 * 256 + bt l 7), .int .u16 (bt l 8 * 256 + bt l 9), .int .u16 (bt l 10 * 256 + bt l 11), .slice a5 n5 m5, .slice a6 n6 m6, .slice a7 n7 m7, .slice a8 n8 m8, .slice a9 n9 m9, .slice a10 n10 m10, .slice a11 n11 m11, .slice a n m] 119)).drew).alloc _)) x2.heap.size 1 ⟨kd, (N : Int), d⟩ (.slice ad nd md) (by first | rfl | simp [Act.eval]) (box3 (rowW_size (w := x2)).symm _ _ _ _).1 (box3 (rowW_size (w := x2)).symm _ _ _ _).2.1 (box3 (rowW_size (w := x2)).symm _ _ _ _).2.2 (HDT.out.gr (((Gr.refl (rowW x2 D [.slice none 0 0, .slice none 0 0, .int .u8 (bt l 0), .int .u8 (bt l 1), .int .u8 (HL : Int), .int .u8 (bt l 3), .int .u32 (bt l 4 * 16777216 + bt l 5 * 65536 + bt l 6 * 256 + bt l 7), .int .u16 (bt l 8 * 256 + bt l 9), .int .u16 (bt l 10 * 256 + bt l 11), .slice a5 n5 m5, .slice a6 n6 m6, .slice a7 n7 m7, .slice a8 n8 m8, .slice a9 n9 m9, .slice a10 n10 m10, .slice a11 n11 m11, .slice a n m] 119)).drew).alloc _)) (.inr HND.out) HNV.out HRSL.out (by show w1.heap.size ≤ (World.alloc _ _).heap.size; rw [World.size_alloc]; show w1.heap.size ≤ (rowW x2 D [.slice none 0 0, .slice none 0 0, .int .u8 (bt l 0), .int .u8 (bt l 1), .int .u8 (HL : Int), .int .u8 (bt l 3), .int .u32 (bt l 4 * 16777216 + bt l 5 * 65536 + bt l 6 * 256 + bt l 7), .int .u16 (bt l 8 * 256 + bt l 9), .int .u16 (bt l 10 * 256 + bt l 11), .slice a5 n5 m5, .slice a6 n6 m6, .slice a7 n7 m7, .slice a8 n8 m8, .slice a9 n9 m9, .slice a10 n10 m10, .slice a11 n11 m11, .slice a n m] 119).heap.size + 1; rw [rowW_size]; omega) ?_
          intro v4 w4 ho4 hg4 hat4
          obtain ⟨g4, n4, c4, rfl, hg41⟩ := ho4.slice_pos (by simp)
          have G4 := grownBy_step ((GWY.out.drew).alloc _) hg4 (fun k hk => .inl (by rw [rowW_size]; exact (HOw.out.fresh k hk).1))
          have k4b := World.grownBy.cell hg4 (a := ⟨T, 0, none⟩) (Gr.cell (((Gr.refl _).drew).alloc _) HB0.out.1) (fun e => neV.out _ e.symm rfl)
          have k4c := World.grownBy.cell hg4 (a := ⟨T, 1, none⟩) (Gr.cell (((Gr.refl _).drew).alloc _) HB0.out.2.1) (fun e => neV.out _ e.symm rfl)
          have k4d := World.grownBy.cell hg4 (a := ⟨T, 2, none⟩) (Gr.cell (((Gr.refl _).drew).alloc _) HB0.out.2.2) (fun e => neV.out _ e.symm rfl)
          obtain ⟨x4, gx4, dx4, rfl⟩ := Gr.unrow hd G4
          refine hK.out _ _ ⟨k4b, k4c, k4d⟩ (fun hHeld => ?_)
          clear hK K
          try simp only [Act.put, List.getElem_toArray, List.getElem_cons_succ, List.getElem_cons_zero, List.setIfInBounds_toArray, List.set_cons_zero, List.set_cons_succ]
          refine wpAnyH_take (i := 8) (v := .pointer (some ⟨D, 0, none⟩)) rfl (by kernel_rfl) (by kernel_rfl) (by kernel_rfl) (fun _ _ _ h => h) (Or.inl ⟨by rfl, fun w' hS => ?_⟩) (by assumption) ?_
          · obtain ⟨c0, c1, c2⟩ := hS
            clear hHeld
            go_simp
          try simp only [Act.put, List.getElem_toArray, List.getElem_cons_succ, List.getElem_cons_zero, List.setIfInBounds_toArray, List.set_cons_zero, List.set_cons_succ]
          refine wpAnyH_take (i := 9) (v := .pointer (some ⟨D, 16, none⟩)) rfl (by kernel_rfl) (by kernel_rfl) (by kernel_rfl) (fun _ _ _ h => h) (Or.inl ⟨by rfl, fun w' hS => ?_⟩) (by assumption) ?_
          · obtain ⟨c0, c1, c2⟩ := hS
            clear hHeld
            go_simp
          try simp only [Act.put, List.getElem_toArray, List.getElem_cons_succ, List.getElem_cons_zero, List.setIfInBounds_toArray, List.set_cons_zero, List.set_cons_succ]
          refine wpAnyH_ready (rs := [10]) (by kernel_rfl) (by simp) ((AllReadyH.cons rfl (fun K hK => ?_) AllReadyH.nil))
          go_simp
          refine hK.out _ _ ⟨rowW_swap neTD k4b, rowW_swap neTD k4c, rowW_swap neTD k4d⟩ (fun hHeld => ?_)
          clear hK K
          try simp only [Act.put, List.getElem_toArray, List.getElem_cons_succ, List.getElem_cons_zero, List.setIfInBounds_toArray, List.set_cons_zero, List.set_cons_succ]
          have k4b := fun C' => rowW_swap (cs' := C') neTD k4b
          have k4c := fun C' => rowW_swap (cs' := C') neTD k4c
          refine wpAnyH_done (by kernel_rfl) ?_ _
          go_wp2_with fail
          go_roundw
          case rel => exact ⟨k + 1, rs ++ [(⟨kd, (N : Int), d⟩, .slice ad nd md)], x4, some ⟨g4, 0, none⟩, n4, c4, HLT.out, by rw [HSN.out, List.length_append, ← HS.out, HN.out]; simp; omega, rfl, dx4, gx4, ho4.reRow hd, by rw [List.map_append, HRS.out, HTK.out, List.map_append]; simp [ENO.out]⟩
          case measure => simp [intOf]; omega
    · obtain rfl : k = os.length := by have := HK.out; omega
      rw [List.drop_length] at hR
      have hR : R = 255 :: [] := hR
      have HR := Lib.hid hR
      clear hR hlt
      go_wp2_with fail
      obtain ⟨Y, hYd⟩ : ∃ Y, Y = ((rowW x D [.slice none 0 0, .slice none 0 0, .int .u8 (bt l 0), .int .u8 (bt l 1), .int .u8 (HL : Int), .int .u8 (bt l 3), .int .u32 (bt l 4 * 16777216 + bt l 5 * 65536 + bt l 6 * 256 + bt l 7), .int .u16 (bt l 8 * 256 + bt l 9), .int .u16 (bt l 10 * 256 + bt l 11), .slice a5 n5 m5, .slice a6 n6 m6, .slice a7 n7 m7, .slice a8 n8 m8, .slice a9 n9 m9, .slice a10 n10 m10, .slice a11 n11 m11, .slice a n m] 119).alloc (.cells #[.int .u8 0, .int .u8 0, .slice none 0 0] 122)) := ⟨_, rfl⟩
      rw [← hYd]
      have hYT : Y.heap[x.heap.size]? = some (.cells #[.int .u8 0, .int .u8 0, .slice none 0 0] 122 (0, 0)) := by
        have e := heap_alloc_new (rowW x D [.slice none 0 0, .slice none 0 0, .int .u8 (bt l 0), .int .u8 (bt l 1), .int .u8 (HL : Int), .int .u8 (bt l 3), .int .u32 (bt l 4 * 16777216 + bt l 5 * 65536 + bt l 6 * 256 + bt l 7), .int .u16 (bt l 8 * 256 + bt l 9), .int .u16 (bt l 10 * 256 + bt l 11), .slice a5 n5 m5, .slice a6 n6 m6, .slice a7 n7 m7, .slice a8 n8 m8, .slice a9 n9 m9, .slice a10 n10 m10, .slice a11 n11 m11, .slice a n m] 119) (.cells #[.int .u8 0, .int .u8 0, .slice none 0 0] 122)
        rw [← hYd, rowW_size] at e
        exact e
      have gY : Gr (rowW x D [.slice none 0 0, .slice none 0 0, .int .u8 (bt l 0), .int .u8 (bt l 1), .int .u8 (HL : Int), .int .u8 (bt l 3), .int .u32 (bt l 4 * 16777216 + bt l 5 * 65536 + bt l 6 * 256 + bt l 7), .int .u16 (bt l 8 * 256 + bt l 9), .int .u16 (bt l 10 * 256 + bt l 11), .slice a5 n5 m5, .slice a6 n6 m6, .slice a7 n7 m7, .slice a8 n8 m8, .slice a9 n9 m9, .slice a10 n10 m10, .slice a11 n11 m11, .slice a n m] 119) Y := by rw [hYd]; exact (Gr.refl _).alloc _
      have hYs : rowW Y x.heap.size [.int .u8 0, .int .u8 0, .slice none 0 0] 122 = Y := rowW_self hYT
      have hHT : Has Y x.heap.size := (Array.getElem?_eq_some_iff.1 hYT).1
      have hIY : IsB Y (.slice a' n' m') R := (isB_rows hd HG.out HI'.out HNE'.out).gr gY
      rw [← hYs]
      refine (dhcpOpt0_calls x.heap.size a' n' m' R [] 255 Y hHT hIY HNT.out HR.out (.inr rfl)).mono ?_
      rintro e W ⟨rfl, q, rfl⟩
      obtain ⟨T, hTe⟩ : ∃ T, T = x.heap.size := ⟨_, rfl⟩
      rw [← hTe] at hHT ⊢
      have gW : Gr (rowW x D [.slice none 0 0, .slice none 0 0, .int .u8 (bt l 0), .int .u8 (bt l 1), .int .u8 (HL : Int), .int .u8 (bt l 3), .int .u32 (bt l 4 * 16777216 + bt l 5 * 65536 + bt l 6 * 256 + bt l 7), .int .u16 (bt l 8 * 256 + bt l 9), .int .u16 (bt l 10 * 256 + bt l 11), .slice a5 n5 m5, .slice a6 n6 m6, .slice a7 n7 m7, .slice a8 n8 m8, .slice a9 n9 m9, .slice a10 n10 m10, .slice a11 n11 m11, .slice a n m] 119) (rowW (Y.drewN q) T [.int .u8 255, .int .u8 0, .slice none 0 0] 122) := (gY.drewN q).step (rowW_grown (some T) rfl) (by rw [rowW_size, hTe]; exact Nat.le_refl _)
      have bY0 := rowW_cell (cs := [.int .u8 255, .int .u8 0, .slice none 0 0]) (e := 122) (show Has (Y.drewN q) T from hHT) 0
      have bY1 := rowW_cell (cs := [.int .u8 255, .int .u8 0, .slice none 0 0]) (e := 122) (show Has (Y.drewN q) T from hHT) 1
      have bY2 := rowW_cell (cs := [.int .u8 255, .int .u8 0, .slice none 0 0]) (e := 122) (show Has (Y.drewN q) T from hHT) 2
      obtain ⟨x2, gx2, dx2, hW⟩ := Gr.unrow hX gW
      rw [hW] at bY0 bY1 bY2 ⊢
      simp only [List.getElem?_cons_zero, List.getElem?_cons_succ] at bY0 bY1 bY2
      have neTD : T ≠ D := by have : D < x.heap.size := hX; omega
      have neV := Lib.hid (show ∀ k, (Value.slice a n m).ownBlock = some k → k ≠ T from fun k hk => by
        have h1 := (HOw.out.fresh k hk).2
        rw [rowW_size] at h1
        omega)
      have HOw := Lib.hid (HOw.out.gr (show Gr (rowW x D [.slice none 0 0, .slice none 0 0, .int .u8 (bt l 0), .int .u8 (bt l 1), .int .u8 (HL : Int), .int .u8 (bt l 3), .int .u32 (bt l 4 * 16777216 + bt l 5 * 65536 + bt l 6 * 256 + bt l 7), .int .u16 (bt l 8 * 256 + bt l 9), .int .u16 (bt l 10 * 256 + bt l 11), .slice a5 n5 m5, .slice a6 n6 m6, .slice a7 n7 m7, .slice a8 n8 m8, .slice a9 n9 m9, .slice a10 n10 m10, .slice a11 n11 m11, .slice a n m] 119) (rowW x2 D [.slice none 0 0, .slice none 0 0, .int .u8 (bt l 0), .int .u8 (bt l 1), .int .u8 (HL : Int), .int .u8 (bt l 3), .int .u32 (bt l 4 * 16777216 + bt l 5 * 65536 + bt l 6 * 256 + bt l 7), .int .u16 (bt l 8 * 256 + bt l 9), .int .u16 (bt l 10 * 256 + bt l 11), .slice a5 n5 m5, .slice a6 n6 m6, .slice a7 n7 m7, .slice a8 n8 m8, .slice a9 n9 m9, .slice a10 n10 m10, .slice a11 n11 m11, .slice a n m] 119) from gr_rows hX gx2))
      have HG := Lib.hid (HG.out.trans gx2)
      have hX := dx2
      clear hYd hYT gY hYs hHT hIY gW hW gx2 dx2 hTe
      clear si
      go_wp2_with fail
      go_ret
      have hrs := HRS.out
      rw [List.take_length] at hrs
      unfold DhcpPost
      exact ⟨rfl, row_step hd HG.out, _, _, _, _, _, _, _, _, _, _, _, _, _, _, _, _, _, _, _, _, _, _, _, _, _, _, isB_rows hd HG.out H5.out N5.out, isB_rows hd HG.out H6.out N6.out, isB_rows hd HG.out H7.out N7.out, isB_rows hd HG.out H8.out N8.out, isB_rows hd HG.out H9.out N9.out, isB_rows hd HG.out H10.out N10.out, isB_rows hd HG.out H11.out N11.out, rowW_heap hX, by rw [rowW_size]; exact HOw.out.reRow hd, hrs⟩
end Go.Proofs.Ytoopkfnkmaaieaa
