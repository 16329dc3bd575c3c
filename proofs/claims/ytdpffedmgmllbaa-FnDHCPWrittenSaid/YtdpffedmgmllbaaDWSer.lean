/-
  A message for addresses, written.
-/
import Derived.Test.YtdpffedmgmllbaaDWPre
import Derived.Test.YtdpffedmgmllbaaDHCPSpec
import Derived.Deep.QuietTactic
import Derived.Deep.RegionHeld3
import Derived.Deep.RegionLaw
import Derived.BigQuiet
import Derived.Deep.DeepCutAuto
namespace Go.Proofs.Ytdpffedmgmllbaa
open Go.RowKit

theorem ser_pad {hdr r : List Int} {L k : Nat} {T : List Value} (h : r.length + k ≤ L) : serRow hdr r L T = serRow hdr (r ++ List.replicate k 0) L T := by
  unfold serRow
  obtain ⟨q, hq⟩ : ∃ q, q = L - r.length - k := ⟨_, rfl⟩
  have e : L - r.length = k + q := by omega
  have e2 : L - (r ++ List.replicate k 0).length = q := by rw [List.length_append, List.length_replicate]; omega
  have e3 : bcells (hdr ++ (r ++ List.replicate k 0)) = bcells (hdr ++ r) ++ zs k := by simp [bcells, zs]
  rw [e, e2, e3, zs_add, List.append_assoc, List.append_assoc]
theorem ser_copy0 {r d : List Int} {L c : Nat} {T : List Value} (h : r.length + d.length ≤ L) (hc : c = r.length) : splice (serRow [] r L T) c (bcells d) = serRow [] (r ++ d) L T := ser_copy h (by rw [hc]; simp)
theorem ser_put2 {r : List Int} {L c : Nat} {T : List Value} (h : r.length + 2 ≤ L) (hc : c = r.length) (x y : Int) : ((serRow [] r L T).set c (.int .u8 x)).set (c + 1) (.int .u8 y) = serRow [] (r ++ [x, y]) L T := by
  rw [ser_one (by omega) (by simp [hc]), ser_one (by rw [List.length_append]; simp; omega) (by simp; omega)]
  simp
theorem ser_put4 {r : List Int} {L c : Nat} {T : List Value} (h : r.length + 4 ≤ L) (hc : c = r.length) (x y z u : Int) : ((((serRow [] r L T).set c (.int .u8 x)).set (c + 1) (.int .u8 y)).set (c + 2) (.int .u8 z)).set (c + 3) (.int .u8 u) = serRow [] (r ++ [x, y, z, u]) L T := by
  rw [ser_put2 (by omega) hc, ser_one (by rw [List.length_append]; simp; omega) (by simp; omega), ser_one (by simp; omega) (by simp; omega)]
  simp
theorem ser_copyp {r d : List Int} {L c k : Nat} {T : List Value} (h : r.length + k ≤ L) (hk : d.length ≤ k) (hc : c = r.length) : splice (serRow [] r L T) c (bcells d) = serRow [] (r ++ padB d k) L T := by
  rw [ser_copy (by omega) (by simp [hc]), ser_pad (k := k - d.length) (by rw [List.length_append]; omega), List.append_assoc]
  rfl
theorem typed_bytesw : ∀ os : List Opt, (∀ x ∈ os, AllB x.data) → AllB (typedB os)
  | [], _ => by intro y hy; simp [typedB] at hy
  | x :: r, h => by
    have e : typedB (x :: r) = typB x ++ typedB r := by simp [typedB]
    rw [e]
    intro y hy
    rcases List.mem_append.1 hy with hy | hy
    · unfold typB at hy
      split at hy
      · simp at hy; subst hy; omega
      · simp only [List.cons_append, List.nil_append, List.mem_cons] at hy
        rcases hy with rfl | rfl | hy
        · omega
        · omega
        · exact h x List.mem_cons_self y hy
    · exact typed_bytesw r (fun z hz => h z (List.mem_cons_of_mem _ hz)) y hy
/-- what is ahead of a round that writes an option -/
def DSerRel (w3 : World) (N V P B K : Nat) (C0 C1 : List Value) (A : List Int) (os : List Opt) (l : List Int) (T : List Value) (cur i : Value) (wr : World) : Prop :=
  ∃ (k c : Nat) (y : World), k ≤ os.length ∧ i = .int .i64 k ∧ cur = .int .i64 c ∧ c = 240 + (typedB (os.take k)).length ∧ wr = rowW (rowW y V C1 108) N (serRow [] (A ++ typedB (os.take k)) K T) 5 ∧ Opened w3 (rowW y V C0 108) N B P K l ∧ Has y V

set_option linter.unusedVariables false in
set_option linter.unusedSimpArgs false in
set_option maxRecDepth 100000 in
set_option maxHeartbeats 12000000 in
theorem dhcpSer_calls (V P : Nat) (op hw hp xd sc fl : Int) (s1 s2 s3 s4 s5 s6 s7 : Option Addr) (k1 k2 k3 k4 k5 k6 k7 : Nat) (a : Option Addr) (n m : Nat) (l1 l2 l3 l4 l5 l6 l7 : List Int) (rs : List (Opt × Value)) (os : List Opt) (B : Nat) (l : List Int) (w : World) (hV : w.heap[V]? = some (.cells [.slice none 0 0, .slice none 0 0, .int .u8 op, .int .u8 hw, .int .u8 0, .int .u8 hp, .int .u32 xd, .int .u16 sc, .int .u16 fl, .slice s1 4 k1, .slice s2 4 k2, .slice s3 4 k3, .slice s4 4 k4, .slice s5 l5.length k5, .slice s6 l6.length k6, .slice s7 l7.length k7, .slice a n m].toArray 108 (0, 0))) (hC : Carries w B P l) (hVP : V ≠ P) (hBV : B ≤ V) (hB : B ≤ w.heap.size) (hl : l.length ≤ 2000) (h1 : IsB w (.slice s1 4 k1) l1) (h2 : IsB w (.slice s2 4 k2) l2) (h3 : IsB w (.slice s3 4 k3) l3) (h4 : IsB w (.slice s4 4 k4) l4) (h5 : IsB w (.slice s5 l5.length k5) l5) (h6 : IsB w (.slice s6 l6.length k6) l6) (h7 : IsB w (.slice s7 l7.length k7) l7) (e1 : ∀ k, (k = V ∨ k = P) → Aside (.slice s1 4 k1) l1 k) (e2 : ∀ k, (k = V ∨ k = P) → Aside (.slice s2 4 k2) l2 k) (e3 : ∀ k, (k = V ∨ k = P) → Aside (.slice s3 4 k3) l3 k) (e4 : ∀ k, (k = V ∨ k = P) → Aside (.slice s4 4 k4) l4 k) (e5 : ∀ k, (k = V ∨ k = P) → Aside (.slice s5 l5.length k5) l5 k) (e6 : ∀ k, (k = V ∨ k = P) → Aside (.slice s6 l6.length k6) l6 k) (e7 : ∀ k, (k = V ∨ k = P) → Aside (.slice s7 l7.length k7) l7 k) (z1 : l1.length = 4) (z2 : l2.length = 4) (z3 : l3.length = 4) (z4 : l4.length = 4) (z5 : l5.length ≤ 16) (z6 : l6.length ≤ 64) (z7 : l7.length ≤ 128) (u1 : 0 ≤ op ∧ op ≤ 255) (u2 : 0 ≤ hw ∧ hw ≤ 255) (u3 : 0 ≤ hp ∧ hp ≤ 255) (u4 : 0 ≤ xd ∧ xd ≤ 4294967295) (u5 : 0 ≤ sc ∧ sc ≤ 65535) (u6 : 0 ≤ fl ∧ fl ≤ 65535) (hR : RdO .u8 .u8 w (.slice a n m) rs (fun k => k = V ∨ k = P)) (hrs : rs.map Prod.fst = os.map outT) (hok : ∀ x ∈ os, x.data.length ≤ 255 ∧ 0 ≤ x.kind ∧ x.kind ≤ 254 ∧ (x.kind = 0 → x.data = [])) (hlo : os.length ≤ 30) (hpos : 0 < os.length) (hraw : (typedB os).length ≤ 9000) (hab : ∀ x ∈ os, AllB x.data) :
    Calls Try.prog 52 #[.pointer (some ⟨V, 0, none⟩), .iface 157 (.pointer (some ⟨P, 0, none⟩)), .agg #[.bool true, .bool false]] w fun e w' => e = .returned .nilIface ∧ Below B w w' ∧ Done w' P (dhcpB op hw hp xd sc fl l1 l2 l3 l4 l5 l6 l7 os ++ l) := by
  have hVl : V < w.heap.size := (Array.getElem?_eq_some_iff.1 hV).1
  have hVO : w.heap.size ≠ V := by omega
  have hPl := hC.lt
  have HV := Lib.hid hV
  clear hV
  have hmt := prepend_method
  obtain ⟨i0, hi, hz0, hz1, hz2⟩ := info_parts info_u8
  obtain ⟨M, hM⟩ : ∃ M, M = (typedB os).length := ⟨_, rfl⟩
  obtain ⟨K, hK⟩ : ∃ K, K = 241 + M := ⟨_, rfl⟩
  obtain ⟨T, hT⟩ : ∃ T, T = bcells l := ⟨_, rfl⟩
  have hTl : T.length = l.length := by rw [hT, bcells_length]
  have hM9 : M ≤ 9000 := by omega
  have hK1 : 241 ≤ K ∧ K ≤ 9241 := by omega
  obtain ⟨hK1, hK2⟩ := hK1
  obtain ⟨A0, hA0⟩ : ∃ A0 : List Int, A0 = [] := ⟨_, rfl⟩
  have n0 : A0.length = 0 := by rw [hA0]; rfl
  obtain ⟨A1, hA1⟩ : ∃ A1 : List Int, A1 = A0 ++ [op] := ⟨_, rfl⟩
  have n1 : A1.length = 1 := by rw [hA1, List.length_append]; first | omega | (simp; omega)
  obtain ⟨A2, hA2⟩ : ∃ A2 : List Int, A2 = A1 ++ [hw] := ⟨_, rfl⟩
  have n2 : A2.length = 2 := by rw [hA2, List.length_append]; first | omega | (simp; omega)
  obtain ⟨A3, hA3⟩ : ∃ A3 : List Int, A3 = A2 ++ [(l5.length : Int)] := ⟨_, rfl⟩
  have n3 : A3.length = 3 := by rw [hA3, List.length_append]; first | omega | (simp; omega)
  obtain ⟨A4, hA4⟩ : ∃ A4 : List Int, A4 = A3 ++ [hp] := ⟨_, rfl⟩
  have n4 : A4.length = 4 := by rw [hA4, List.length_append]; first | omega | (simp; omega)
  obtain ⟨A8, hA8⟩ : ∃ A8 : List Int, A8 = A4 ++ lo xd := ⟨_, rfl⟩
  have n8 : A8.length = 8 := by rw [hA8, List.length_append]; simp [lo, sh]; omega
  obtain ⟨A10, hA10⟩ : ∃ A10 : List Int, A10 = A8 ++ sh sc := ⟨_, rfl⟩
  have n10 : A10.length = 10 := by rw [hA10, List.length_append]; simp [lo, sh]; omega
  obtain ⟨A12, hA12⟩ : ∃ A12 : List Int, A12 = A10 ++ sh fl := ⟨_, rfl⟩
  have n12 : A12.length = 12 := by rw [hA12, List.length_append]; simp [lo, sh]; omega
  obtain ⟨A16, hA16⟩ : ∃ A16 : List Int, A16 = A12 ++ l1 := ⟨_, rfl⟩
  have n16 : A16.length = 16 := by rw [hA16, List.length_append]; first | omega | (simp; omega)
  obtain ⟨A20, hA20⟩ : ∃ A20 : List Int, A20 = A16 ++ l2 := ⟨_, rfl⟩
  have n20 : A20.length = 20 := by rw [hA20, List.length_append]; first | omega | (simp; omega)
  obtain ⟨A24, hA24⟩ : ∃ A24 : List Int, A24 = A20 ++ l3 := ⟨_, rfl⟩
  have n24 : A24.length = 24 := by rw [hA24, List.length_append]; first | omega | (simp; omega)
  obtain ⟨A28, hA28⟩ : ∃ A28 : List Int, A28 = A24 ++ l4 := ⟨_, rfl⟩
  have n28 : A28.length = 28 := by rw [hA28, List.length_append]; first | omega | (simp; omega)
  obtain ⟨A44, hA44⟩ : ∃ A44 : List Int, A44 = A28 ++ padB l5 16 := ⟨_, rfl⟩
  have n44 : A44.length = 44 := by rw [hA44, List.length_append, padB_len _ _ (by omega)]; omega
  obtain ⟨A108, hA108⟩ : ∃ A108 : List Int, A108 = A44 ++ padB l6 64 := ⟨_, rfl⟩
  have n108 : A108.length = 108 := by rw [hA108, List.length_append, padB_len _ _ (by omega)]; omega
  obtain ⟨A236, hA236⟩ : ∃ A236 : List Int, A236 = A108 ++ padB l7 128 := ⟨_, rfl⟩
  have n236 : A236.length = 236 := by rw [hA236, List.length_append, padB_len _ _ (by omega)]; omega
  obtain ⟨A240, hA240⟩ : ∃ A240 : List Int, A240 = A236 ++ [99, 130, 83, 99] := ⟨_, rfl⟩
  have n240 : A240.length = 240 := by rw [hA240, List.length_append]; first | omega | (simp; omega)
  have hset0 : (serRow [] A0 K T).set 0 (.int .u8 op) = (serRow [] A1 K T) := by rw [hA1]; exact ser_one (by omega) (by simp; omega) _
  have hl0' : 0 < (serRow [] A0 K T).length := by rw [ser_len (by omega)]; simp; omega
  have hset1 : (serRow [] A1 K T).set 1 (.int .u8 hw) = (serRow [] A2 K T) := by rw [hA2]; exact ser_one (by omega) (by simp; omega) _
  have hl1' : 1 < (serRow [] A1 K T).length := by rw [ser_len (by omega)]; simp; omega
  have hset2 : (serRow [] A2 K T).set 2 (.int .u8 (l5.length : Int)) = (serRow [] A3 K T) := by rw [hA3]; exact ser_one (by omega) (by simp; omega) _
  have hl2' : 2 < (serRow [] A2 K T).length := by rw [ser_len (by omega)]; simp; omega
  have hset3 : (serRow [] A3 K T).set 3 (.int .u8 hp) = (serRow [] A4 K T) := by rw [hA4]; exact ser_one (by omega) (by simp; omega) _
  have hl3' : 3 < (serRow [] A3 K T).length := by rw [ser_len (by omega)]; simp; omega
  have P4 := Lib.hid (show (((((serRow [] A4 K T).set 4 (.int .u8 (xd / 16777216 % 256))).set (4 + 1) (.int .u8 (xd / 65536 % 256))).set (4 + 2) (.int .u8 (xd / 256 % 256))).set (4 + 3) (.int .u8 (xd % 256))) = (serRow [] A8 K T) by rw [ser_put4 (by omega) (by omega), hA8]; congr 2; simp [lo, sh]; omega)
  have P8 := Lib.hid (show (((serRow [] A8 K T).set 8 (.int .u8 (sc / 256 % 256))).set (8 + 1) (.int .u8 (sc % 256))) = (serRow [] A10 K T) by rw [ser_put2 (by omega) (by omega), hA10]; rfl)
  have P10 := Lib.hid (show (((serRow [] A10 K T).set 10 (.int .u8 (fl / 256 % 256))).set (10 + 1) (.int .u8 (fl % 256))) = (serRow [] A12 K T) by rw [ser_put2 (by omega) (by omega), hA12]; rfl)
  have P236 := Lib.hid (show (((((serRow [] A236 K T).set 236 (.int .u8 (1669485411 / 16777216 % 256))).set (236 + 1) (.int .u8 (1669485411 / 65536 % 256))).set (236 + 2) (.int .u8 (1669485411 / 256 % 256))).set (236 + 3) (.int .u8 (1669485411 % 256))) = (serRow [] A240 K T) by rw [ser_put4 (by omega) (by omega), hA240]; congr 2)
  have E12 := Lib.hid (show splice (serRow [] A12 K T) 12 (bcells l1) = (serRow [] A16 K T) by rw [ser_copy0 (by omega) (by omega), hA16])
  have F12 := Lib.hid (show 12 + (bcells l1).length ≤ (serRow [] A12 K T).length by rw [ser_len (by omega), bcells_length]; simp; omega)
  have E16 := Lib.hid (show splice (serRow [] A16 K T) 16 (bcells l2) = (serRow [] A20 K T) by rw [ser_copy0 (by omega) (by omega), hA20])
  have F16 := Lib.hid (show 16 + (bcells l2).length ≤ (serRow [] A16 K T).length by rw [ser_len (by omega), bcells_length]; simp; omega)
  have E20 := Lib.hid (show splice (serRow [] A20 K T) 20 (bcells l3) = (serRow [] A24 K T) by rw [ser_copy0 (by omega) (by omega), hA24])
  have F20 := Lib.hid (show 20 + (bcells l3).length ≤ (serRow [] A20 K T).length by rw [ser_len (by omega), bcells_length]; simp; omega)
  have E24 := Lib.hid (show splice (serRow [] A24 K T) 24 (bcells l4) = (serRow [] A28 K T) by rw [ser_copy0 (by omega) (by omega), hA28])
  have F24 := Lib.hid (show 24 + (bcells l4).length ≤ (serRow [] A24 K T).length by rw [ser_len (by omega), bcells_length]; simp; omega)
  have E28 := Lib.hid (show splice (serRow [] A28 K T) 28 (bcells l5) = (serRow [] A44 K T) by rw [ser_copyp (k := 16) (by omega) (by omega) (by omega), hA44])
  have F28 := Lib.hid (show 28 + (bcells l5).length ≤ (serRow [] A28 K T).length by rw [ser_len (by omega), bcells_length]; simp; omega)
  have E44 := Lib.hid (show splice (serRow [] A44 K T) 44 (bcells l6) = (serRow [] A108 K T) by rw [ser_copyp (k := 64) (by omega) (by omega) (by omega), hA108])
  have F44 := Lib.hid (show 44 + (bcells l6).length ≤ (serRow [] A44 K T).length by rw [ser_len (by omega), bcells_length]; simp; omega)
  have E108 := Lib.hid (show splice (serRow [] A108 K T) 108 (bcells l7) = (serRow [] A236 K T) by rw [ser_copyp (k := 128) (by omega) (by omega) (by omega), hA236])
  have F108 := Lib.hid (show 108 + (bcells l7).length ≤ (serRow [] A108 K T).length by rw [ser_len (by omega), bcells_length]; simp; omega)
  have F4 := Lib.hid (show 4 + 4 ≤ (serRow [] A4 K T).length by rw [ser_len (by omega)]; simp; omega)
  have F8 := Lib.hid (show 8 + 2 ≤ (serRow [] A8 K T).length by rw [ser_len (by omega)]; simp; omega)
  have F10 := Lib.hid (show 10 + 2 ≤ (serRow [] A10 K T).length by rw [ser_len (by omega)]; simp; omega)
  have F236 := Lib.hid (show 236 + 4 ≤ (serRow [] A236 K T).length by rw [ser_len (by omega)]; simp; omega)
  have hdh : A240 ++ (typedB os ++ [255]) = dhcpB op hw hp xd sc fl l1 l2 l3 l4 l5 l6 l7 os := by
    rw [hA240, hA236, hA108, hA44, hA28, hA24, hA20, hA16, hA12, hA10, hA8, hA4, hA3, hA2, hA1, hA0]
    simp [dhcpB]
  have hbA : AllB A240 := by
    rw [hA240, hA236, hA108, hA44, hA28, hA24, hA20, hA16, hA12, hA10, hA8, hA4, hA3, hA2, hA1, hA0]
    have hp5 : ∀ (l : List Int) (n : Nat), AllB l → AllB (padB l n) := fun l n hl x hx => by
      unfold padB at hx
      rcases List.mem_append.1 hx with hx | hx
      · exact hl x hx
      · have := List.eq_of_mem_replicate hx; subst this; omega
    have hsing : ∀ x : Int, 0 ≤ x ∧ x ≤ 255 → AllB [x] := fun x hx y hy => by simp at hy; subst hy; omega
    refine AllB.append (AllB.append (AllB.append (AllB.append (AllB.append (AllB.append (AllB.append (AllB.append (AllB.append (AllB.append (AllB.append (AllB.append (AllB.append (AllB.append (AllB.append (fun x hx => by simp at hx) (hsing _ u1)) (hsing _ u2)) (hsing _ (by omega))) (hsing _ u3)) (lo_bytes _)) (sh_bytes _)) (sh_bytes _)) h1.bytes) h2.bytes) h3.bytes) h4.bytes) (hp5 _ _ h5.bytes)) (hp5 _ _ h6.bytes)) (hp5 _ _ h7.bytes)) ?_
    intro x hx; simp at hx; omega
  have hZ : zs K ++ bcells l = (serRow [] A0 K T) := by rw [hA0, hT]; simp [serRow, bcells]
  have hZb : (serRow [] A0 K T) = bcells (List.replicate K 0) ++ bcells l := by rw [← hZ]; simp [zs, bcells]
  have f0 : IntKind.i64.wrap (241 + (M : Int)) = (K : Int) := by rw [w64 (by omega) (by omega)]; omega
  have f1 : (241 : Int) + (M : Int) = (K : Int) := by omega
  have f2 : IntKind.u8.wrap (l5.length : Int) = (l5.length : Int) := by simp [IntKind.wrap, IntKind.bits, IntKind.signed]; omega
  have f3 : IntKind.u8.wrap op = op := by simp [IntKind.wrap, IntKind.bits, IntKind.signed]; omega
  have f4 : IntKind.u8.wrap hw = hw := by simp [IntKind.wrap, IntKind.bits, IntKind.signed]; omega
  have HZ := Lib.hid (And.intro hZ hZb)
  have HA := Lib.hid (And.intro hdh hbA)
  have HN := Lib.hid (show A240.length = 240 from n240)
  have HK := Lib.hid (And.intro hK f1)
  have HRD := Lib.hid hR
  have HCC := Lib.hid hC
  have HRS := Lib.hid hrs
  have HOK := Lib.hid hok
  have HT := Lib.hid hT
  have HMM := Lib.hid hM
  have HAB := Lib.hid hab
  have HI := Lib.hid (And.intro hi hz1)
  have H1 := Lib.hid (And.intro h1 e1)
  have H2 := Lib.hid (And.intro h2 e2)
  have H3 := Lib.hid (And.intro h3 e3)
  have H4 := Lib.hid (And.intro h4 e4)
  have H5 := Lib.hid (And.intro h5 e5)
  have H6 := Lib.hid (And.intro h6 e6)
  have H7 := Lib.hid (And.intro h7 e7)
  clear hA0 n0 hA1 n1 hA2 n2 hA3 n3 hA4 n4 hA8 n8 hA10 n10 hA12 n12 hA16 n16 hA20 n20 hA24 n24 hA28 n28 hA44 n44 hA108 n108 hA236 n236 hA240 n240 hdh hbA hZ hZb f1 hK hR hC hrs hok hT hM hab hi hz0 hz1 hz2 h1 h2 h3 h4 h5 h6 h7 e1 e2 e3 e4 e5 e6 e7
  go_enter Try.func52, Try.ntmps52
  go_wp2_with (first
      | (go_at_call 70; refine (dhcpLen_calls V (.slice a n m) rs os _ _ (cell_of_heap (heap_gr ((Gr.refl w).alloc _) HV.out) 16 _ rfl) (HRD.out.gr ((Gr.refl w).alloc _)) HRS.out (fun x hx => (HOK.out x hx).1) hlo (by have := HMM.out; omega)).mono ?_; rintro e w3 ⟨rfl, hgo⟩; rw [← HMM.out]; have hs3 := hgo.size; rw [World.size_alloc] at hs3; have HV3 := Lib.hid (heap_gr hgo (heap_gr ((Gr.refl w).alloc _) HV.out)); have HO3 := Lib.hid (heap_gr hgo (heap_alloc_new w (.cells #[.bool true, .bool false] 118))); have hg3 : Gr w w3 := ((Gr.refl w).alloc _).trans hgo; have hC3 := HCC.out.gr hg3; have hNE : V ≠ w3.heap.size := (by omega); have hNO : w.heap.size ≠ w3.heap.size := (by omega);
         have t4 := (fun K9 K8 w' => at_lh (P := Try.prog) 25 5 i0 Try.underlying25 HI.out.1 HI.out.2 w3.heap.size 0 K (l.length + K) 4 8 4 (l.length + K - 4) 4 4 8 rfl rfl (by omega) (by omega) rfl (by omega) (by omega) (by omega) K9 K8 w'); have t8 := (fun K9 K8 w' => at_lh (P := Try.prog) 25 5 i0 Try.underlying25 HI.out.1 HI.out.2 w3.heap.size 0 K (l.length + K) 8 10 2 (l.length + K - 8) 8 8 10 rfl rfl (by omega) (by omega) rfl (by omega) (by omega) (by omega) K9 K8 w'); have t10 := (fun K9 K8 w' => at_lh (P := Try.prog) 25 5 i0 Try.underlying25 HI.out.1 HI.out.2 w3.heap.size 0 K (l.length + K) 10 12 2 (l.length + K - 10) 10 10 12 rfl rfl (by omega) (by omega) rfl (by omega) (by omega) (by omega) K9 K8 w'); have t12 := (fun K9 K8 w' => at_lh (P := Try.prog) 25 5 i0 Try.underlying25 HI.out.1 HI.out.2 w3.heap.size 0 K (l.length + K) 12 16 4 (l.length + K - 12) 12 12 16 rfl rfl (by omega) (by omega) rfl (by omega) (by omega) (by omega) K9 K8 w'); have t16 := (fun K9 K8 w' => at_lh (P := Try.prog) 25 5 i0 Try.underlying25 HI.out.1 HI.out.2 w3.heap.size 0 K (l.length + K) 16 20 4 (l.length + K - 16) 16 16 20 rfl rfl (by omega) (by omega) rfl (by omega) (by omega) (by omega) K9 K8 w'); have t20 := (fun K9 K8 w' => at_lh (P := Try.prog) 25 5 i0 Try.underlying25 HI.out.1 HI.out.2 w3.heap.size 0 K (l.length + K) 20 24 4 (l.length + K - 20) 20 20 24 rfl rfl (by omega) (by omega) rfl (by omega) (by omega) (by omega) K9 K8 w'); have t24 := (fun K9 K8 w' => at_lh (P := Try.prog) 25 5 i0 Try.underlying25 HI.out.1 HI.out.2 w3.heap.size 0 K (l.length + K) 24 28 4 (l.length + K - 24) 24 24 28 rfl rfl (by omega) (by omega) rfl (by omega) (by omega) (by omega) K9 K8 w'); have t28 := (fun K9 K8 w' => at_lh (P := Try.prog) 25 5 i0 Try.underlying25 HI.out.1 HI.out.2 w3.heap.size 0 K (l.length + K) 28 44 16 (l.length + K - 28) 28 28 44 rfl rfl (by omega) (by omega) rfl (by omega) (by omega) (by omega) K9 K8 w'); have t44 := (fun K9 K8 w' => at_lh (P := Try.prog) 25 5 i0 Try.underlying25 HI.out.1 HI.out.2 w3.heap.size 0 K (l.length + K) 44 108 64 (l.length + K - 44) 44 44 108 rfl rfl (by omega) (by omega) rfl (by omega) (by omega) (by omega) K9 K8 w'); have t108 := (fun K9 K8 w' => at_lh (P := Try.prog) 25 5 i0 Try.underlying25 HI.out.1 HI.out.2 w3.heap.size 0 K (l.length + K) 108 236 128 (l.length + K - 108) 108 108 236 rfl rfl (by omega) (by omega) rfl (by omega) (by omega) (by omega) K9 K8 w'); have t236 := (fun K9 K8 w' => at_lh (P := Try.prog) 25 5 i0 Try.underlying25 HI.out.1 HI.out.2 w3.heap.size 0 K (l.length + K) 236 240 4 (l.length + K - 236) 236 236 240 rfl rfl (by omega) (by omega) rfl (by omega) (by omega) (by omega) K9 K8 w'); have x0 := (fun K9 w' => at_i (P := Try.prog) 25 5 i0 Try.underlying25 HI.out.1 HI.out.2 w3.heap.size 0 K (l.length + K) 0 0 0 rfl (by omega) (by omega) K9 w'); have x1 := (fun K9 w' => at_i (P := Try.prog) 25 5 i0 Try.underlying25 HI.out.1 HI.out.2 w3.heap.size 0 K (l.length + K) 1 1 1 rfl (by omega) (by omega) K9 w'); have x2 := (fun K9 w' => at_i (P := Try.prog) 25 5 i0 Try.underlying25 HI.out.1 HI.out.2 w3.heap.size 0 K (l.length + K) 2 2 2 rfl (by omega) (by omega) K9 w'); have x3 := (fun K9 w' => at_i (P := Try.prog) 25 5 i0 Try.underlying25 HI.out.1 HI.out.2 w3.heap.size 0 K (l.length + K) 3 3 3 rfl (by omega) (by omega) K9 w');  clear hgo)
      | (go_at_call 119; (try rw [HK.out.2]); refine (prepC_calls P K w3.heap.size (serRow [] A0 K T) l B _ hC3 rfl HZ.out.1.symm (by omega) (by omega) (by omega) (by omega)).mono ?_; rintro e w1 ⟨rfl, z, rfl, hO⟩; have hz := (hO.keep V (by omega) hVP).trans HV3.out; have hzo := (hO.keep w.heap.size (by omega) (by omega)).trans HO3.out; obtain ⟨y, hyV, rfl⟩ : ∃ y, Has y V ∧ z = rowW y V [.slice none 0 0, .slice none 0 0, .int .u8 op, .int .u8 hw, .int .u8 0, .int .u8 hp, .int .u32 xd, .int .u16 sc, .int .u16 fl, .slice s1 4 k1, .slice s2 4 k2, .slice s3 4 k3, .slice s4 4 k4, .slice s5 l5.length k5, .slice s6 l6.length k6, .slice s7 l7.length k7, .slice a n m] 108 := ⟨z, (Array.getElem?_eq_some_iff.1 hz).1, (rowW_self hz).symm⟩; rw [rowW_other hVO] at hzo; have ob0 := cell_of_heap (cs := [.bool true, .bool false]) hzo 0 _ rfl; have hd := hO.hasN; clear hz hzo))
  go_region_held3 (fun w' => w'.cell? ⟨V, 6, none⟩ = some (.int .u32 xd)) (first | exact ((rowW_cell_other hNE).trans (rowW_cell (show Has _ _ from hyV) 6)).trans rfl | go_keep) (first
        | (go_at_call 71; refine (put32_calls w3.heap.size 4 _ _ _ _ _ (by simp only [has_rowW, has_drew, has_drewN]; exact hd) F4.out (by omega)).mono ?_; rintro e w2 ⟨rfl, rfl⟩; rw [P4.out]))
  go_wp2_with fail
  go_region_held3 (fun w' => w'.cell? ⟨V, 7, none⟩ = some (.int .u16 sc)) (first | exact ((rowW_cell_other hNE).trans (rowW_cell (show Has _ _ from hyV) 7)).trans rfl | go_keep) (first
        | (go_at_call 72; refine (put16_calls w3.heap.size 8 _ _ _ _ _ (by simp only [has_rowW, has_drew, has_drewN]; exact hd) F8.out (by omega)).mono ?_; rintro e w2 ⟨rfl, rfl⟩; rw [P8.out]))
  go_wp2_with fail
  go_region_held3 (fun w' => w'.cell? ⟨V, 8, none⟩ = some (.int .u16 fl)) (first | exact ((rowW_cell_other hNE).trans (rowW_cell (show Has _ _ from hyV) 8)).trans rfl | go_keep) (first
        | (go_at_call 72; refine (put16_calls w3.heap.size 10 _ _ _ _ _ (by simp only [has_rowW, has_drew, has_drewN]; exact hd) F10.out (by omega)).mono ?_; rintro e w2 ⟨rfl, rfl⟩; rw [P10.out]))
  go_wp2_with fail
  have G1 : ∀ R, IsB (rowW (rowW y V [.slice none 0 0, .slice none 0 0, .int .u8 op, .int .u8 hw, .int .u8 (l5.length : Int), .int .u8 hp, .int .u32 xd, .int .u16 sc, .int .u16 fl, .slice s1 4 k1, .slice s2 4 k2, .slice s3 4 k3, .slice s4 4 k4, .slice s5 l5.length k5, .slice s6 l6.length k6, .slice s7 l7.length k7, .slice a n m] 108) w3.heap.size R 5) (.slice s1 4 k1) l1 := fun R => (H1.out.1.gr hg3).keepB hO.old H1.out.2
  have SR1 := Lib.hid (fun R (hp : 0 < l1.length) => (G1 R).src hp)
  clear G1
  have G2 : ∀ R, IsB (rowW (rowW y V [.slice none 0 0, .slice none 0 0, .int .u8 op, .int .u8 hw, .int .u8 (l5.length : Int), .int .u8 hp, .int .u32 xd, .int .u16 sc, .int .u16 fl, .slice s1 4 k1, .slice s2 4 k2, .slice s3 4 k3, .slice s4 4 k4, .slice s5 l5.length k5, .slice s6 l6.length k6, .slice s7 l7.length k7, .slice a n m] 108) w3.heap.size R 5) (.slice s2 4 k2) l2 := fun R => (H2.out.1.gr hg3).keepB hO.old H2.out.2
  have SR2 := Lib.hid (fun R (hp : 0 < l2.length) => (G2 R).src hp)
  clear G2
  have G3 : ∀ R, IsB (rowW (rowW y V [.slice none 0 0, .slice none 0 0, .int .u8 op, .int .u8 hw, .int .u8 (l5.length : Int), .int .u8 hp, .int .u32 xd, .int .u16 sc, .int .u16 fl, .slice s1 4 k1, .slice s2 4 k2, .slice s3 4 k3, .slice s4 4 k4, .slice s5 l5.length k5, .slice s6 l6.length k6, .slice s7 l7.length k7, .slice a n m] 108) w3.heap.size R 5) (.slice s3 4 k3) l3 := fun R => (H3.out.1.gr hg3).keepB hO.old H3.out.2
  have SR3 := Lib.hid (fun R (hp : 0 < l3.length) => (G3 R).src hp)
  clear G3
  have G4 : ∀ R, IsB (rowW (rowW y V [.slice none 0 0, .slice none 0 0, .int .u8 op, .int .u8 hw, .int .u8 (l5.length : Int), .int .u8 hp, .int .u32 xd, .int .u16 sc, .int .u16 fl, .slice s1 4 k1, .slice s2 4 k2, .slice s3 4 k3, .slice s4 4 k4, .slice s5 l5.length k5, .slice s6 l6.length k6, .slice s7 l7.length k7, .slice a n m] 108) w3.heap.size R 5) (.slice s4 4 k4) l4 := fun R => (H4.out.1.gr hg3).keepB hO.old H4.out.2
  have SR4 := Lib.hid (fun R (hp : 0 < l4.length) => (G4 R).src hp)
  clear G4
  have G5 : ∀ R, IsB (rowW (rowW y V [.slice none 0 0, .slice none 0 0, .int .u8 op, .int .u8 hw, .int .u8 (l5.length : Int), .int .u8 hp, .int .u32 xd, .int .u16 sc, .int .u16 fl, .slice s1 4 k1, .slice s2 4 k2, .slice s3 4 k3, .slice s4 4 k4, .slice s5 l5.length k5, .slice s6 l6.length k6, .slice s7 l7.length k7, .slice a n m] 108) w3.heap.size R 5) (.slice s5 l5.length k5) l5 := fun R => (H5.out.1.gr hg3).keepB hO.old H5.out.2
  have SR5 := Lib.hid (fun R (hp : 0 < l5.length) => (G5 R).src hp)
  clear G5
  have G6 : ∀ R, IsB (rowW (rowW y V [.slice none 0 0, .slice none 0 0, .int .u8 op, .int .u8 hw, .int .u8 (l5.length : Int), .int .u8 hp, .int .u32 xd, .int .u16 sc, .int .u16 fl, .slice s1 4 k1, .slice s2 4 k2, .slice s3 4 k3, .slice s4 4 k4, .slice s5 l5.length k5, .slice s6 l6.length k6, .slice s7 l7.length k7, .slice a n m] 108) w3.heap.size R 5) (.slice s6 l6.length k6) l6 := fun R => (H6.out.1.gr hg3).keepB hO.old H6.out.2
  have SR6 := Lib.hid (fun R (hp : 0 < l6.length) => (G6 R).src hp)
  clear G6
  have G7 : ∀ R, IsB (rowW (rowW y V [.slice none 0 0, .slice none 0 0, .int .u8 op, .int .u8 hw, .int .u8 (l5.length : Int), .int .u8 hp, .int .u32 xd, .int .u16 sc, .int .u16 fl, .slice s1 4 k1, .slice s2 4 k2, .slice s3 4 k3, .slice s4 4 k4, .slice s5 l5.length k5, .slice s6 l6.length k6, .slice s7 l7.length k7, .slice a n m] 108) w3.heap.size R 5) (.slice s7 l7.length k7) l7 := fun R => (H7.out.1.gr hg3).keepB hO.old H7.out.2
  have SR7 := Lib.hid (fun R (hp : 0 < l7.length) => (G7 R).src hp)
  clear G7
  go_region_law (first | (refine step_copy_row rfl (.tmp 85) (.tmp 90) 25 103 rfl 5 Try.underlying25 size_u8 (some ⟨w3.heap.size, 12, none⟩) s1 4 (l.length + K - 12) 4 k1 (by simp [Act.eval, Act.put]) (by simp [Act.eval, Act.put]) w3.heap.size 12 (serRow [] A12 K T) 5 (by simp only [has_rowW, has_drew, has_drewN]; exact hd) (bcells l1) (by rw [bcells_length]; rw [z1]; rfl) (fun hp => ⟨rfl, by rw [bcells_length] at hp; exact SR1.out _ hp⟩) F12.out (bcells_one l1) ?_) | (go_simp; go_at_call 73; refine (to4_calls _ _ _).mono ?_; rintro e w9 ⟨rfl, rfl⟩))
  rw [E12.out]
  go_wp2_with fail
  go_region_law (first | (refine step_copy_row rfl (.tmp 93) (.tmp 98) 25 103 rfl 5 Try.underlying25 size_u8 (some ⟨w3.heap.size, 16, none⟩) s2 4 (l.length + K - 16) 4 k2 (by simp [Act.eval, Act.put]) (by simp [Act.eval, Act.put]) w3.heap.size 16 (serRow [] A16 K T) 5 (by simp only [has_rowW, has_drew, has_drewN]; exact hd) (bcells l2) (by rw [bcells_length]; rw [z2]; rfl) (fun hp => ⟨rfl, by rw [bcells_length] at hp; exact SR2.out _ hp⟩) F16.out (bcells_one l2) ?_) | (go_simp; go_at_call 73; refine (to4_calls _ _ _).mono ?_; rintro e w9 ⟨rfl, rfl⟩))
  rw [E16.out]
  go_wp2_with fail
  go_region_law (first | (refine step_copy_row rfl (.tmp 101) (.tmp 106) 25 103 rfl 5 Try.underlying25 size_u8 (some ⟨w3.heap.size, 20, none⟩) s3 4 (l.length + K - 20) 4 k3 (by simp [Act.eval, Act.put]) (by simp [Act.eval, Act.put]) w3.heap.size 20 (serRow [] A20 K T) 5 (by simp only [has_rowW, has_drew, has_drewN]; exact hd) (bcells l3) (by rw [bcells_length]; rw [z3]; rfl) (fun hp => ⟨rfl, by rw [bcells_length] at hp; exact SR3.out _ hp⟩) F20.out (bcells_one l3) ?_) | (go_simp; go_at_call 73; refine (to4_calls _ _ _).mono ?_; rintro e w9 ⟨rfl, rfl⟩))
  rw [E20.out]
  go_wp2_with fail
  go_region_law (first | (refine step_copy_row rfl (.tmp 109) (.tmp 114) 25 103 rfl 5 Try.underlying25 size_u8 (some ⟨w3.heap.size, 24, none⟩) s4 4 (l.length + K - 24) 4 k4 (by simp [Act.eval, Act.put]) (by simp [Act.eval, Act.put]) w3.heap.size 24 (serRow [] A24 K T) 5 (by simp only [has_rowW, has_drew, has_drewN]; exact hd) (bcells l4) (by rw [bcells_length]; rw [z4]; rfl) (fun hp => ⟨rfl, by rw [bcells_length] at hp; exact SR4.out _ hp⟩) F24.out (bcells_one l4) ?_) | (go_simp; go_at_call 73; refine (to4_calls _ _ _).mono ?_; rintro e w9 ⟨rfl, rfl⟩))
  rw [E24.out]
  go_wp2_with fail
  go_region_law (refine step_copy_row rfl (.tmp 117) (.tmp 121) 25 104 rfl 5 Try.underlying25 size_u8 (some ⟨w3.heap.size, 28, none⟩) s5 16 (l.length + K - 28) l5.length k5 (by simp [Act.eval, Act.put]) (by simp [Act.eval, Act.put]) w3.heap.size 28 (serRow [] A28 K T) 5 (by simp only [has_rowW, has_drew, has_drewN]; exact hd) (bcells l5) (by rw [bcells_length]; exact (Nat.min_eq_left (by omega)).symm) (fun hp => ⟨rfl, by rw [bcells_length] at hp; exact SR5.out _ hp⟩) F28.out (bcells_one l5) ?_)
  rw [E28.out]
  go_wp2_with fail
  go_region_law (refine step_copy_row rfl (.tmp 124) (.tmp 128) 25 25 rfl 5 Try.underlying25 size_u8 (some ⟨w3.heap.size, 44, none⟩) s6 64 (l.length + K - 44) l6.length k6 (by simp [Act.eval, Act.put]) (by simp [Act.eval, Act.put]) w3.heap.size 44 (serRow [] A44 K T) 5 (by simp only [has_rowW, has_drew, has_drewN]; exact hd) (bcells l6) (by rw [bcells_length]; exact (Nat.min_eq_left (by omega)).symm) (fun hp => ⟨rfl, by rw [bcells_length] at hp; exact SR6.out _ hp⟩) F44.out (bcells_one l6) ?_)
  rw [E44.out]
  go_wp2_with fail
  go_region_law (refine step_copy_row rfl (.tmp 131) (.tmp 135) 25 25 rfl 5 Try.underlying25 size_u8 (some ⟨w3.heap.size, 108, none⟩) s7 128 (l.length + K - 108) l7.length k7 (by simp [Act.eval, Act.put]) (by simp [Act.eval, Act.put]) w3.heap.size 108 (serRow [] A108 K T) 5 (by simp only [has_rowW, has_drew, has_drewN]; exact hd) (bcells l7) (by rw [bcells_length]; exact (Nat.min_eq_left (by omega)).symm) (fun hp => ⟨rfl, by rw [bcells_length] at hp; exact SR7.out _ hp⟩) F108.out (bcells_one l7) ?_)
  rw [E108.out]
  have hlen := fun ty => HRD.out.len (P := Try.prog) 106 111 Try.underlying106 ty
  have hll : rs.length = os.length := by have e := congrArg List.length HRS.out; rw [List.length_map, List.length_map] at e; exact e
  rw [hll] at hlen
  have HLL := Lib.hid hll
  clear hll
  have d0 : decide ((0 : Int) < (os.length : Int)) = true := by simp; omega
  go_wp2_with (first
        | (go_at_call 71; refine (put32_calls w3.heap.size 236 _ _ _ _ _ (by simp only [has_rowW, has_drew, has_drewN]; exact hd) F236.out (by omega)).mono ?_; rintro e w2 ⟨rfl, rfl⟩; rw [P236.out]))
  have hO5 : Opened w3 (rowW y V [.slice none 0 0, .slice none 0 0, .int .u8 op, .int .u8 hw, .int .u8 0, .int .u8 hp, .int .u32 xd, .int .u16 sc, .int .u16 fl, .slice s1 4 k1, .slice s2 4 k2, .slice s3 4 k3, .slice s4 4 k4, .slice s5 l5.length k5, .slice s6 l6.length k6, .slice s7 l7.length k7, .slice a n m] 108) w3.heap.size B P K l := hO
  go_loopw [10, 151] (DSerRel w3 w3.heap.size V P B K [.slice none 0 0, .slice none 0 0, .int .u8 op, .int .u8 hw, .int .u8 0, .int .u8 hp, .int .u32 xd, .int .u16 sc, .int .u16 fl, .slice s1 4 k1, .slice s2 4 k2, .slice s3 4 k3, .slice s4 4 k4, .slice s5 l5.length k5, .slice s6 l6.length k6, .slice s7 l7.length k7, .slice a n m] [.slice none 0 0, .slice none 0 0, .int .u8 op, .int .u8 hw, .int .u8 (l5.length : Int), .int .u8 hp, .int .u32 xd, .int .u16 sc, .int .u16 fl, .slice s1 4 k1, .slice s2 4 k2, .slice s3 4 k3, .slice s4 4 k4, .slice s5 l5.length k5, .slice s6 l6.length k6, .slice s7 l7.length k7, .slice a n m] A240 os l T) (fun _ i _ => os.length - (intOf i).toNat)
  case atStart => exact ⟨0, 240, y.drew.drew.drew.drew.drew.drew.drew.drew.drew.drew, Nat.zero_le _, rfl, rfl, by simp [typedB], by simp only [List.take_zero]; rw [show A240 ++ typedB [] = A240 by simp [typedB]], (by repeat (first | exact hO | refine Opened.rdrew ?_ | refine Opened.rdrewN ?_ _)), hyV⟩
  case round =>
    clear hO hyV hd ob0 hO5
    obtain ⟨k, c, y, hk, rfl, rfl, hc, rfl, hO, hyV⟩ := hrel
    have hdC := hO.hasN
    have hle := typed_le os k
    rw [← HMM.out] at hle
    have hVy : V < y.heap.size := hyV
    have hNy : w3.heap.size < y.heap.size := hdC
    have hne1 : y.heap.size ≠ V := by omega
    have hne2 : y.heap.size ≠ w3.heap.size := by omega
    have sl4 := fun K9 w' => at_l (P := Try.prog) 25 5 i0 Try.underlying25 HI.out.1 HI.out.2 w3.heap.size 0 K (l.length + K) c (K - c) (l.length + K - c) c c rfl (by have := HK.out; omega) (by have := HK.out; omega) (by omega) (by have := HK.out; omega) (by omega) K9 w'
    by_cases hlt : k < os.length
    · obtain ⟨p, hpp⟩ : ∃ p, rs[k]? = some p := ⟨_, List.getElem?_eq_getElem (by rw [HLL.out]; exact hlt)⟩
      obtain ⟨g, o, ix, hnb, c0, c1, c2, hI, hA⟩ := (HRD.out.gr hg3).idx (P := Try.prog) 106 111 Try.underlying106 size_d4 .i64 k p hpp
      have hgl := cell_lt c0
      have hgV : g ≠ V := fun e => hnb (.inl e)
      have hgN : g ≠ w3.heap.size := Nat.ne_of_lt hgl
      have hky : y.heap[g]? = w3.heap[g]? := by have := hO.keep g hgl (fun e => hnb (.inr e)); rwa [rowW_other hgV] at this
      have hcy : ∀ o, y.cell? ⟨g, o, none⟩ = w3.cell? ⟨g, o, none⟩ := fun o => by simp only [World.cell?, hky]
      obtain ⟨hr1, hr2⟩ := typed_take hlt
      have hsn := typed_snoc hlt
      have hx : p.1 = outT (os.getD k Opt.zero) := by
        have e : (rs.map Prod.fst)[k]? = (os.map outT)[k]? := by rw [HRS.out]
        rw [List.getElem?_map, List.getElem?_map, hpp, List.getElem?_eq_getElem hlt] at e
        rw [List.getD_eq_getElem?_getD, List.getElem?_eq_getElem hlt]
        exact Option.some.inj e
      have hmem : os.getD k Opt.zero ∈ os := by rw [List.getD_eq_getElem?_getD, List.getElem?_eq_getElem hlt]; exact List.getElem_mem hlt
      obtain ⟨hd255, hk0, hk254, hkz⟩ := HOK.out _ hmem
      obtain ⟨⟨kd, ln, d⟩, ho⟩ : ∃ x, x = os.getD k Opt.zero := ⟨_, rfl⟩
      rw [← ho] at hr1 hx hd255 hk0 hk254 hkz hsn
      obtain ⟨p1, pv⟩ := p
      simp only at hx c0 c1 c2 hI hA
      subst hx
      obtain ⟨pa, pn, pc, rfl⟩ : ∃ a n c, pv = .slice a n c := by obtain ⟨a, c, e, -⟩ := hI; exact ⟨_, _, _, e⟩
      simp only [outT] at c0 c1 c2 hr1 hd255 hI hA hk0 hk254 hkz
      obtain rfl := hI.count
      have c0 := (hcy _).trans c0
      have c1 := (hcy _).trans c1
      have c2 := (hcy _).trans c2
      have hO2 := hO.gr (gr_rows (cs := [.slice none 0 0, .slice none 0 0, .int .u8 op, .int .u8 hw, .int .u8 0, .int .u8 hp, .int .u32 xd, .int .u16 sc, .int .u16 fl, .slice s1 4 k1, .slice s2 4 k2, .slice s3 4 k3, .slice s4 4 k4, .slice s5 l5.length k5, .slice s6 l6.length k6, .slice s7 l7.length k7, .slice a n m]) (e := 108) hyV ((Gr.refl y).alloc (.cells #[.int .u8 kd, .int .u8 (d.length : Int), .slice pa d.length pc] 111)))
      obtain ⟨R0, hR0⟩ : ∃ R0, R0 = A240 ++ typedB (os.take k) := ⟨_, rfl⟩
      have hR0l : R0.length = c := by rw [hR0, List.length_append, HN.out, hc]
      have HI3 := Lib.hid (And.intro hI hA)
      have HO2 := Lib.hid hO2
      have HLT := Lib.hid hlt
      have hb3 := box3 (w := rowW y V [.slice none 0 0, .slice none 0 0, .int .u8 op, .int .u8 hw, .int .u8 (l5.length : Int), .int .u8 hp, .int .u32 xd, .int .u16 sc, .int .u16 fl, .slice s1 4 k1, .slice s2 4 k2, .slice s3 4 k3, .slice s4 4 k4, .slice s5 l5.length k5, .slice s6 l6.length k6, .slice s7 l7.length k7, .slice a n m] 108) (b := y.heap.size) rowW_size.symm (.int .u8 kd) (.int .u8 (d.length : Int)) (.slice pa d.length pc) 111
      rw [rowW_alloc hyV] at hb3
      have HB3 := Lib.hid hb3
      have hKM := HK.out.1
      rw [← HMM.out] at hr2
      by_cases h1k : kd = 0
      · have hdn := hkz h1k
        subst h1k
        subst hdn
        have hnew : R0 ++ [0] = A240 ++ typedB (os.take (k + 1)) := by rw [hR0, hsn]; simp [typB]
        rw [if_pos rfl] at hr1
        have HC1 := Lib.hid (show c + 1 = 240 + (typedB (os.take (k + 1))).length by omega)
        have e1 : IntKind.i64.wrap ((c : Int) + 1) = (c : Int) + 1 := w64 (by omega) (by omega)
        have HX := Lib.hid (show R0.length < K ∧ 1 ≤ K - c ∧ c = R0.length by omega)
        have HNW := Lib.hid hnew
        rw [← hR0]
        clear hI hA hO2 hpp hky hcy hnb hO hgl hR0 hR0l hr1 hr2 hsn hnew hb3 hmem ho hKM hle hc hd255 hk254
        go_wp2_with (first
          | (go_at_call 74; refine (encode1_calls w3.heap.size y.heap.size c (K - c) (l.length + K - c) K 0 R0 T _ (by rw [has_rowW]; exact HO2.out.hasN) hne2 (.inl rfl) (HB3.out.1) HX.out.2.2 HX.out.1 HX.out.2.1).mono ?_; rintro e w9 ⟨rfl, rfl⟩; rw [HNW.out]))
        go_roundw
        case rel => exact ⟨k + 1, c + 1, _, by have := HLT.out; omega, by go_num, by go_num, HC1.out, rfl, HO2.out, HO2.out.hasV (by omega) hVP⟩
        case measure => have := HLT.out; simp [intOf]; omega
      · have z0 : (kd == 0) = false := by simp [h1k]
        have hnew : R0 ++ ([kd, (d.length : Int)] ++ d) = A240 ++ typedB (os.take (k + 1)) := by
          rw [hR0, hsn]
          have h1 : kd % 256 = kd := by omega
          have h2 : (d.length : Int) % 256 = (d.length : Int) := by omega
          simp [typB, h1k, h1, h2]
        rw [if_neg h1k] at hr1
        obtain ⟨c', hc'⟩ : ∃ c' : Nat, c' = c + (2 + d.length) := ⟨_, rfl⟩
        have HC1 := Lib.hid (show c' = 240 + (typedB (os.take (k + 1))).length by omega)
        have e1 : IntKind.i64.wrap (2 + (d.length : Int)) = 2 + (d.length : Int) := w64 (by omega) (by omega)
        have e2 : IntKind.i64.wrap ((c : Int) + (2 + (d.length : Int))) = (c' : Int) := by rw [w64 (by omega) (by omega)]; omega
        have e3 : (c : Int) + (2 + (d.length : Int)) = (c' : Int) := by omega
        have e4 : IntKind.i64.wrap (c' : Int) = (c' : Int) := w64 (by omega) (by omega)
        have HX := Lib.hid (show R0.length + d.length + 2 ≤ K ∧ d.length + 3 ≤ K - c ∧ c = R0.length ∧ K - c ≤ l.length + K - c by omega)
        have HNW := Lib.hid hnew
        have HIR := Lib.hid (fun R => HI3.out.1.keepB (w' := rowW (rowW (y.alloc (.cells #[.int .u8 kd, .int .u8 (d.length : Int), .slice pa d.length pc] 111)) V [.slice none 0 0, .slice none 0 0, .int .u8 op, .int .u8 hw, .int .u8 (l5.length : Int), .int .u8 hp, .int .u32 xd, .int .u16 sc, .int .u16 fl, .slice s1 4 k1, .slice s2 4 k2, .slice s3 4 k3, .slice s4 4 k4, .slice s5 l5.length k5, .slice s6 l6.length k6, .slice s7 l7.length k7, .slice a n m] 108) w3.heap.size R 5) HO2.out.old HI3.out.2)
        rw [← hR0]
        clear hI hA hO2 hpp hky hcy hnb hO hgl hR0 hR0l hr1 hr2 hsn hnew hb3 hmem ho hKM hle hc hd255 hkz hc'
        go_wp2_with (first
          | (go_at_call 74; refine (encode2_calls w3.heap.size y.heap.size c (K - c) (l.length + K - c) K kd d R0 pa pc T _ (by rw [has_rowW]; exact HO2.out.hasN) hne2 ⟨h1k, by omega⟩ (HB3.out.1) (HB3.out.2.1) (HB3.out.2.2) HIR.out HX.out.2.2.1 HX.out.1 HX.out.2.1 HX.out.2.2.2).mono ?_; rintro e w9 ⟨rfl, rfl⟩; rw [HNW.out]))
        go_roundw
        case rel => exact ⟨k + 1, c', _, by have := HLT.out; omega, by go_num, rfl, HC1.out, rfl, HO2.out.rdrew, (HO2.out.rdrew).hasV (by omega) hVP⟩
        case measure => have := HLT.out; simp [intOf]; omega
    · obtain rfl : k = os.length := by omega
      rw [List.take_length] at hc ⊢
      obtain ⟨R0, hR0⟩ : ∃ R0, R0 = A240 ++ typedB os := ⟨_, rfl⟩
      have hR0l : R0.length = c := by rw [hR0, List.length_append, HN.out, hc]
      have hKM := HK.out.1
      have hcM : c = 240 + M := by rw [hc, HMM.out]
      have HX := Lib.hid (show R0.length < K ∧ 1 ≤ K - c ∧ c = R0.length by omega)
      have hfin : serRow [] (R0 ++ [255]) K T = bcells (dhcpB op hw hp xd sc fl l1 l2 l3 l4 l5 l6 l7 os) ++ bcells l := by
        rw [← HA.out.1, hR0, HT.out]
        unfold serRow
        have e0 : K - (A240 ++ typedB os ++ ([255] : List Int)).length = 0 := by rw [List.length_append, ← hR0]; simp; omega
        rw [e0]
        simp [bcells, zs]
      have hfl : (dhcpB op hw hp xd sc fl l1 l2 l3 l4 l5 l6 l7 os).length = K := by
        rw [← HA.out.1, List.length_append, List.length_append, HN.out, ← HMM.out]; simp; omega
      have hfb : AllB (dhcpB op hw hp xd sc fl l1 l2 l3 l4 l5 l6 l7 os) := by
        rw [← HA.out.1]
        refine AllB.append HA.out.2 (AllB.append ?_ (fun x hx => by simp at hx; subst hx; omega))
        exact typed_bytesw os (fun x hx => HAB.out x hx)
      have HFN := Lib.hid (And.intro hfin (And.intro hfl hfb))
      have hne3 : y.heap.size + 1 ≠ V := by omega
      have hne4 : y.heap.size + 1 ≠ w3.heap.size := by omega
      have hne5 : y.heap.size + 1 + 1 ≠ V := by omega
      have hne6 : y.heap.size + 1 + 1 ≠ w3.heap.size := by omega
      have hne7 : y.heap.size + 2 ≠ V := by omega
      have hne8 : y.heap.size + 2 ≠ w3.heap.size := by omega
      rw [← hR0]
      clear hfin hfl hfb hR0 hR0l hKM hcM hc hle hlt
      go_wp2_with (first
        | (go_at_call 75; refine (newEnd_calls _).mono ?_; rintro e w9 ⟨rfl, o1, o2, rfl⟩; have HN2 : Has (rowW ((y.alloc o1).alloc o2) V [.slice none 0 0, .slice none 0 0, .int .u8 op, .int .u8 hw, .int .u8 (l5.length : Int), .int .u8 hp, .int .u32 xd, .int .u16 sc, .int .u16 fl, .slice s1 4 k1, .slice s2 4 k2, .slice s3 4 k3, .slice s4 4 k4, .slice s5 l5.length k5, .slice s6 l6.length k6, .slice s7 l7.length k7, .slice a n m] 108) w3.heap.size := (by rw [has_rowW]; show w3.heap.size < ((y.alloc o1).alloc o2).heap.size; rw [World.size_alloc, World.size_alloc]; omega); have HV2 : Has ((y.alloc o1).alloc o2) V := (show V < ((y.alloc o1).alloc o2).heap.size by rw [World.size_alloc, World.size_alloc]; omega))
        | (go_at_call 74; refine (encode1_calls w3.heap.size (y.heap.size + 1 + 1) c (K - c) (l.length + K - c) K 255 R0 T _ (by rw [has_rowW]; show w3.heap.size < (((y.alloc o1).alloc o2).alloc _).heap.size; rw [World.size_alloc, World.size_alloc, World.size_alloc]; omega) hne6 (.inr rfl) ((rowW_cell_other hne5).trans (box3 (w := (y.alloc o1).alloc o2) (by rw [World.size_alloc, World.size_alloc]) _ _ _ _).1) HX.out.2.2 HX.out.1 HX.out.2.1).mono ?_; rintro e w8 ⟨rfl, rfl⟩))
      go_ret
      refine ⟨rfl, ?_⟩
      have hO9 := hO.gr (gr_rows (cs := [.slice none 0 0, .slice none 0 0, .int .u8 op, .int .u8 hw, .int .u8 0, .int .u8 hp, .int .u32 xd, .int .u16 sc, .int .u16 fl, .slice s1 4 k1, .slice s2 4 k2, .slice s3 4 k3, .slice s4 4 k4, .slice s5 l5.length k5, .slice s6 l6.length k6, .slice s7 l7.length k7, .slice a n m]) (e := 108) hyV ((((Gr.refl y).alloc o1).alloc o2).alloc (.cells #[.int .u8 255, .int .u8 0, .slice none 0 0] 111)))
      exact Opened.finV (cs := [.slice none 0 0, .slice none 0 0, .int .u8 op, .int .u8 hw, .int .u8 0, .int .u8 hp, .int .u32 xd, .int .u16 sc, .int .u16 fl, .slice s1 4 k1, .slice s2 4 k2, .slice s3 4 k3, .slice s4 4 k4, .slice s5 l5.length k5, .slice s6 l6.length k6, .slice s7 l7.length k7, .slice a n m]) (w := w3) (hd := dhcpB op hw hp xd sc fl l1 l2 l3 l4 l5 l6 l7 os) (l := l) (k := K) (N := w3.heap.size) _ (by repeat (first | exact hO9 | refine Opened.rdrew ?_ | refine Opened.rdrewN ?_ _)) hBV hVP (below_to hg3.below hB) HFN.out.2.1 HFN.out.2.2 (by omega) (by omega) HFN.out.1
end Go.Proofs.Ytdpffedmgmllbaa
