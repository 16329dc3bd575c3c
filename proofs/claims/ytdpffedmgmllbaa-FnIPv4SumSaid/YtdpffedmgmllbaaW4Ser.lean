/-
  A header of the fourth version, written.
-/
import Derived.Test.YtdpffedmgmllbaaW4Mid
import Derived.Test.YtdpffedmgmllbaaIP4PlainW
import Derived.Deep.DeepCutAuto
namespace Go.Proofs.Ytdpffedmgmllbaa
open Go.RowKit

set_option linter.unusedVariables false in
set_option linter.unusedSimpArgs false in
set_option maxRecDepth 100000 in
set_option maxHeartbeats 8000000 in
theorem ip4Ser_calls (V P : Nat) (sv idn fl fo tt pr : Int) (sa : Option Addr) (sc : Nat) (da : Option Addr) (dc : Nat) (a : Option Addr) (n m : Nat) (l1 l2 : List Int) (rs : List (Opt × Value)) (os : List Opt) (B : Nat) (l : List Int) (w : World) (hV : w.heap[V]? = some (.cells [.slice none 0 0, .slice none 0 0, .int .u8 4, .int .u8 0, .int .u8 sv, .int .u16 0, .int .u16 idn, .int .u8 fl, .int .u16 fo, .int .u8 tt, .int .u8 pr, .int .u16 0, .slice sa 4 sc, .slice da 4 dc, .slice a n m, .slice none 0 0].toArray 179 (0, 0))) (hC : Carries w B P l) (hVP : V ≠ P) (hBV : B ≤ V) (hB : B ≤ w.heap.size) (hl : l.length ≤ 2000) (h1 : IsB w (.slice sa 4 sc) l1) (h2 : IsB w (.slice da 4 dc) l2) (z1 : l1.length = 4) (z2 : l2.length = 4) (e1 : (Value.slice sa 4 sc).ownBlock ≠ some P) (e2 : (Value.slice da 4 dc).ownBlock ≠ some P) (e3 : (Value.slice sa 4 sc).ownBlock ≠ some V) (e4 : (Value.slice da 4 dc).ownBlock ≠ some V) (u1 : 0 ≤ sv ∧ sv ≤ 255) (u2 : 0 ≤ idn ∧ idn ≤ 65535) (u3 : 0 ≤ fl ∧ fl ≤ 7) (u4 : 0 ≤ fo ∧ fo ≤ 8191) (u5 : 0 ≤ tt ∧ tt ≤ 255) (u6 : 0 ≤ pr ∧ pr ≤ 255) (hR : RdO .u8 .u8 w (.slice a n m) rs (fun k => k = V ∨ k = P)) (hrs : rs.map Prod.fst = os) (hok : ∀ x ∈ os, OkOpt x) (hraw : (optsRaw os).length ≤ 40) (hab : ∀ x ∈ os, AllB x.data) :
    Calls Try.prog 60 #[.pointer (some ⟨V, 0, none⟩), .iface 157 (.pointer (some ⟨P, 0, none⟩)), .agg #[.bool true, .bool true]] w fun e w' => e = .returned .nilIface ∧ Below B w w' ∧ Done w' P (ip4B (wordsOf os) sv (4 * wordsOf os + (l.length : Int)) idn fl fo tt pr (ip4Ck sv (4 * wordsOf os + (l.length : Int)) idn fl fo tt pr l1 l2 os) l1 l2 os ++ l) := by
  have hVl : V < w.heap.size := (Array.getElem?_eq_some_iff.1 hV).1
  have hVO : w.heap.size ≠ V := by omega
  have hPl := hC.lt
  have HV := Lib.hid hV
  clear hV
  have hmt := prepend_method
  have hmb := bytes_method
  obtain ⟨sa, _, _, e⟩ := isB_out h1 (by omega)
  obtain ⟨rfl, -, -⟩ := Value.slice.inj e
  obtain ⟨da, _, _, e⟩ := isB_out h2 (by omega)
  obtain ⟨rfl, -, -⟩ := Value.slice.inj e
  obtain ⟨i0, hi, hz0, hz1, hz2⟩ := info_parts info_u8
  obtain ⟨L, hL⟩ : ∃ L, L = (optsB os).length := ⟨_, rfl⟩
  have hLm : L % 4 = 0 ∧ L ≤ 40 := by rw [hL]; unfold optsB; rw [List.length_append, List.length_replicate]; omega
  obtain ⟨hL4, hL40⟩ := hLm
  obtain ⟨K, hK⟩ : ∃ K, K = 20 + L := ⟨_, rfl⟩
  obtain ⟨WO, hWO⟩ : ∃ WO, WO = wordsOf os := ⟨_, rfl⟩
  have hWL : 5 + (L : Int) / 4 = WO := by rw [hWO, hL]; rfl
  obtain ⟨LN, hLN⟩ : ∃ LN, LN = 4 * WO + (l.length : Int) := ⟨_, rfl⟩
  have hLK : LN = (l.length : Int) + (K : Int) := by omega
  obtain ⟨CK, hCK⟩ : ∃ CK, CK = ip4Ck sv LN idn fl fo tt pr l1 l2 os := ⟨_, rfl⟩
  rw [← hWO, ← hLN, ← hCK]
  obtain ⟨TL, hTL⟩ : ∃ TL, TL = zs L ++ bcells l := ⟨_, rfl⟩
  have hTLl : TL.length = L + l.length := by rw [hTL, List.length_append, zs_length, bcells_length]
  have hZ : (.int .u8 0 :: .int .u8 0 :: .int .u8 0 :: .int .u8 0 :: .int .u8 0 :: .int .u8 0 :: .int .u8 0 :: .int .u8 0 :: .int .u8 0 :: .int .u8 0 :: .int .u8 0 :: .int .u8 0 :: .int .u8 0 :: .int .u8 0 :: .int .u8 0 :: .int .u8 0 :: .int .u8 0 :: .int .u8 0 :: .int .u8 0 :: .int .u8 0 :: TL) = zs K ++ bcells l := by rw [hTL, hK, zs_add]; rfl
  have hZb : (.int .u8 0 :: .int .u8 0 :: .int .u8 0 :: .int .u8 0 :: .int .u8 0 :: .int .u8 0 :: .int .u8 0 :: .int .u8 0 :: .int .u8 0 :: .int .u8 0 :: .int .u8 0 :: .int .u8 0 :: .int .u8 0 :: .int .u8 0 :: .int .u8 0 :: .int .u8 0 :: .int .u8 0 :: .int .u8 0 :: .int .u8 0 :: .int .u8 0 :: TL) = bcells (List.replicate K 0) ++ bcells l := by rw [hZ]; simp [zs, bcells]
  have HZ := Lib.hid (And.intro hZ hZb)
  have f0 : IntKind.i64.wrap (L : Int) = (L : Int) := w64 (by omega) (by omega)
  have f1 : IntKind.i64.wrap (20 + (L : Int)) = (K : Int) := by rw [w64 (by omega) (by omega)]; omega
  have f2 : (L : Int).tdiv 4 = (L : Int) / 4 := Int.tdiv_eq_ediv_of_nonneg (by omega)
  have f3 : IntKind.u8.wrap ((L : Int) / 4) = (L : Int) / 4 := by simp [IntKind.wrap, IntKind.bits, IntKind.signed]; omega
  have f4 : IntKind.u8.wrap (5 + (L : Int) / 4) = WO := by rw [hWL]; simp [IntKind.wrap, IntKind.bits, IntKind.signed]; omega
  have f5 : IntKind.u8.wrap 64 = 64 := by decide
  have f6 : bits .or .u8 64 WO = 64 + WO := bor .u8 6 (by omega) (by omega) (by omega) (by omega) (by rw [max_u8]; omega)
  have f7 : IntKind.u8.wrap sv = sv := by simp [IntKind.wrap, IntKind.bits, IntKind.signed]; omega
  have f8 : IntKind.u8.wrap tt = tt := by simp [IntKind.wrap, IntKind.bits, IntKind.signed]; omega
  have f9 : IntKind.u8.wrap pr = pr := by simp [IntKind.wrap, IntKind.bits, IntKind.signed]; omega
  have H1 := Lib.hid h1
  have H2 := Lib.hid h2
  have HRD := Lib.hid hR
  have HCC := Lib.hid hC
  have HRS := Lib.hid hrs
  have HOK := Lib.hid (And.intro hok hraw)
  have HQ := Lib.hid (And.intro hL (And.intro hWO (And.intro hLN (And.intro hCK hTL))))
  have HW := Lib.hid (And.intro hWL hLK)
  clear h1 h2 hR hC hrs hok hraw hL hWO hLN hCK hTL hZ hZb hWL hLK
  have HI := Lib.hid (And.intro hi hz1)
  clear hi hz0 hz1 hz2
  have hK20 : 20 ≤ K ∧ K ≤ 60 := by omega
  obtain ⟨hK20, hK60⟩ := hK20
  have HK := Lib.hid hK
  have f12 : (20 : Int) + (L : Int) = (K : Int) := by omega
  have HK2 := Lib.hid f12
  clear hK f12
  go_enter Try.func60, Try.ntmps60
  go_wp2_with (first
      | (go_at_call 78; refine (optSize_calls V (.slice a n m) rs os _ _ (cell_of_heap (heap_gr ((Gr.refl w).alloc _) HV.out) 14 _ rfl) (HRD.out.gr ((Gr.refl w).alloc _)) HRS.out HOK.out.1 HOK.out.2).mono ?_; rintro e w3 ⟨rfl, hgo⟩; rw [← HQ.out.1]; have hs3 := hgo.size; rw [World.size_alloc] at hs3; have HV3 := Lib.hid (heap_gr hgo (heap_gr ((Gr.refl w).alloc _) HV.out)); have HO3 := Lib.hid (heap_gr hgo (heap_alloc_new w (.cells #[.bool true, .bool true] 118))); have hg3 : Gr w w3 := ((Gr.refl w).alloc _).trans hgo; have hC3 := HCC.out.gr hg3; have hNE : V ≠ w3.heap.size := (by omega); have hNO : w.heap.size ≠ w3.heap.size := (by omega);
         have s0 := (fun K9 w' => at_l (P := Try.prog) 25 5 i0 Try.underlying25 HI.out.1 HI.out.2 w3.heap.size 0 K (l.length + K) 2 (K - 2) (l.length + K - 2) 2 2 rfl (by omega) (by omega) (by omega) (by omega) (by omega) K9 w'); have s1 := (fun K9 w' => at_l (P := Try.prog) 25 5 i0 Try.underlying25 HI.out.1 HI.out.2 w3.heap.size 0 K (l.length + K) 4 (K - 4) (l.length + K - 4) 4 4 rfl (by omega) (by omega) (by omega) (by omega) (by omega) K9 w'); have s2 := (fun K9 w' => at_l (P := Try.prog) 25 5 i0 Try.underlying25 HI.out.1 HI.out.2 w3.heap.size 0 K (l.length + K) 6 (K - 6) (l.length + K - 6) 6 6 rfl (by omega) (by omega) (by omega) (by omega) (by omega) K9 w'); have s3 := (fun K9 w' => at_l (P := Try.prog) 25 5 i0 Try.underlying25 HI.out.1 HI.out.2 w3.heap.size 0 K (l.length + K) 10 (K - 10) (l.length + K - 10) 10 10 rfl (by omega) (by omega) (by omega) (by omega) (by omega) K9 w'); have t0 := (fun K9 K8 w' => at_lh (P := Try.prog) 25 5 i0 Try.underlying25 HI.out.1 HI.out.2 w3.heap.size 0 K (l.length + K) 12 16 4 (l.length + K - 12) 12 12 16 rfl rfl (by omega) (by omega) rfl (by omega) (by omega) (by omega) K9 K8 w'); have t1 := (fun K9 K8 w' => at_lh (P := Try.prog) 25 5 i0 Try.underlying25 HI.out.1 HI.out.2 w3.heap.size 0 K (l.length + K) 16 20 4 (l.length + K - 16) 16 16 20 rfl rfl (by omega) (by omega) rfl (by omega) (by omega) (by omega) K9 K8 w'); have x0 := (fun K9 w' => at_i (P := Try.prog) 25 5 i0 Try.underlying25 HI.out.1 HI.out.2 w3.heap.size 0 K (l.length + K) 0 0 0 rfl (by omega) (by omega) K9 w'); have x1 := (fun K9 w' => at_i (P := Try.prog) 25 5 i0 Try.underlying25 HI.out.1 HI.out.2 w3.heap.size 0 K (l.length + K) 1 1 1 rfl (by omega) (by omega) K9 w'); have x8 := (fun K9 w' => at_i (P := Try.prog) 25 5 i0 Try.underlying25 HI.out.1 HI.out.2 w3.heap.size 0 K (l.length + K) 8 8 8 rfl (by omega) (by omega) K9 w'); have x9 := (fun K9 w' => at_i (P := Try.prog) 25 5 i0 Try.underlying25 HI.out.1 HI.out.2 w3.heap.size 0 K (l.length + K) 9 9 9 rfl (by omega) (by omega) K9 w');  clear hgo)
      | (go_at_call 119; (try rw [HK2.out]); refine (prepC_calls P K w3.heap.size (.int .u8 0 :: .int .u8 0 :: .int .u8 0 :: .int .u8 0 :: .int .u8 0 :: .int .u8 0 :: .int .u8 0 :: .int .u8 0 :: .int .u8 0 :: .int .u8 0 :: .int .u8 0 :: .int .u8 0 :: .int .u8 0 :: .int .u8 0 :: .int .u8 0 :: .int .u8 0 :: .int .u8 0 :: .int .u8 0 :: .int .u8 0 :: .int .u8 0 :: TL) l B _ hC3 rfl HZ.out.1 (by omega) (by omega) (by omega) (by omega)).mono ?_; rintro e w1 ⟨rfl, z, rfl, hO⟩; have hz := (hO.keep V (by omega) hVP).trans HV3.out; have hzo := (hO.keep w.heap.size (by omega) (by omega)).trans HO3.out; obtain ⟨y, hyV, rfl⟩ : ∃ y, Has y V ∧ z = rowW y V [.slice none 0 0, .slice none 0 0, .int .u8 4, .int .u8 0, .int .u8 sv, .int .u16 0, .int .u16 idn, .int .u8 fl, .int .u16 fo, .int .u8 tt, .int .u8 pr, .int .u16 0, .slice sa 4 sc, .slice da 4 dc, .slice a n m, .slice none 0 0] 179 := ⟨z, (Array.getElem?_eq_some_iff.1 hz).1, (rowW_self hz).symm⟩; rw [rowW_other hVO] at hzo; have ob0 := cell_of_heap (cs := [.bool true, .bool true]) hzo 0 _ rfl; have ob1 := cell_of_heap (cs := [.bool true, .bool true]) hzo 1 _ rfl; have hd := hO.hasN; clear hz hzo)
      | (go_at_call 116; obtain ⟨a1, n1, p1, q1, ly1, hd1, hd2⟩ := (Opened.finV (w0 := w3) [.slice none 0 0, .slice none 0 0, .int .u8 4, .int .u8 WO, .int .u8 sv, .int .u16 0, .int .u16 idn, .int .u8 fl, .int .u16 fo, .int .u8 tt, .int .u8 pr, .int .u16 0, .slice sa 4 sc, .slice da 4 dc, .slice a n m, .slice none 0 0] hO hBV hVP (below_refl _ _) (by rw [List.length_replicate]) (show AllB (List.replicate K 0) from fun x hx => by have := List.eq_of_mem_replicate hx; subst this; omega) (by omega) (by omega) HZ.out.2).2; have hn1 := hd2.count; rw [List.length_append, List.length_replicate] at hn1; refine (bytes_calls P a1 n1 n1 p1 q1 ly1 _ _ hd1 hd2).mono ?_; rintro e w5 ⟨a', rfl, hb5, r5, hw5⟩; subst hw5; have f10 : IntKind.u16.wrap (n1 : Int) = LN := (by have := HW.out.2; simp [IntKind.wrap, IntKind.bits, IntKind.signed]; omega); clear hd1 hd2 hb5 hn1))
  go_region_held3 (fun w' => w'.cell? ⟨V, 2, none⟩ = some (.int .u8 4) ∧ w'.cell? ⟨V, 3, none⟩ = some (.int .u8 WO)) (first | exact ⟨((rowW_cell_other hNE).trans (rowW_cell (show Has _ _ from hyV) 2)).trans rfl, ((rowW_cell_other hNE).trans (rowW_cell (show Has _ _ from hyV) 3)).trans rfl⟩ | go_keep) (first
        | fail)
  go_wp2_with fail
  go_region_held3 (fun w' => w'.cell? ⟨V, 5, none⟩ = some (.int .u16 LN)) (first | exact ((rowW_cell_other hNE).trans (rowW_cell (show Has _ _ from hyV) 5)).trans rfl | go_keep) (first
        | (go_at_call 72; refine (put16_calls w3.heap.size _ _ _ _ _ _ (by rw [has_rowW]; exact hd) (by simp only [List.length_cons]; omega) (by omega)).mono ?_; rintro e w2 ⟨rfl, rfl⟩))
  go_wp2_with fail
  go_region_held3 (fun w' => w'.cell? ⟨V, 6, none⟩ = some (.int .u16 idn)) (first | exact ((rowW_cell_other hNE).trans (rowW_cell (show Has _ _ from hyV) 6)).trans rfl | go_keep) (first
        | (go_at_call 72; refine (put16_calls w3.heap.size _ _ _ _ _ _ (by rw [has_rowW]; exact hd) (by simp only [List.length_cons]; omega) (by omega)).mono ?_; rintro e w2 ⟨rfl, rfl⟩))
  go_wp2_with fail
  go_region_held3 (fun w' => w'.cell? ⟨V, 7, none⟩ = some (.int .u8 fl) ∧ w'.cell? ⟨V, 8, none⟩ = some (.int .u16 fo)) (first | exact ⟨((rowW_cell_other hNE).trans (rowW_cell (show Has _ _ from hyV) 7)).trans rfl, ((rowW_cell_other hNE).trans (rowW_cell (show Has _ _ from hyV) 8)).trans rfl⟩ | go_keep) (first
        | (go_at_call 79; refine (flags_calls V fl fo _ (by first | exact ((rowW_cell_other hNE).trans (rowW_cell (show Has _ _ from hyV) 7)).trans rfl | assumption) (by first | exact ((rowW_cell_other hNE).trans (rowW_cell (show Has _ _ from hyV) 8)).trans rfl | assumption) u3 u4).mono ?_; rintro e w9 ⟨rfl, rfl⟩)
        | (go_at_call 72; refine (put16_calls w3.heap.size _ _ _ _ _ _ (by rw [has_rowW]; exact hd) (by simp only [List.length_cons]; omega) (by omega)).mono ?_; rintro e w2 ⟨rfl, rfl⟩))
  go_wp2_with fail
  go_wp2_with (first
        | (go_at_call 80; refine (addr4_calls V [.slice none 0 0, .slice none 0 0, .int .u8 4, .int .u8 WO, .int .u8 sv, .int .u16 LN, .int .u16 idn, .int .u8 fl, .int .u16 fo, .int .u8 tt, .int .u8 pr, .int .u16 0, .slice sa 4 sc, .slice da 4 dc, .slice a n m, .slice none 0 0] sa da sc dc _ ((rowW_other hNE).trans (rowW_heap (w := y.drewN (r5 + 1 + 1 + 1 + 1)) hyV)) rfl rfl).mono ?_; rintro e w9 ⟨rfl, rfl⟩))
  have hO5 : Opened w3 (rowW (y.drewN (r5 + 1 + 1 + 1 + 1)) V [.slice none 0 0, .slice none 0 0, .int .u8 4, .int .u8 0, .int .u8 sv, .int .u16 0, .int .u16 idn, .int .u8 fl, .int .u16 fo, .int .u8 tt, .int .u8 pr, .int .u16 0, .slice sa 4 sc, .slice da 4 dc, .slice a n m, .slice none 0 0] 179) w3.heap.size B P K l := hO.rdrewN (r5 + 1 + 1 + 1 + 1)
  have hdC := hO5.hasN
  have hyC : Has (y.drewN (r5 + 1 + 1 + 1 + 1)) V := hyV
  have hS5 : IsB ((rowW (rowW (y.drewN (r5 + 1 + 1 + 1 + 1)) V [.slice none 0 0, .slice none 0 0, .int .u8 4, .int .u8 WO, .int .u8 sv, .int .u16 LN, .int .u16 idn, .int .u8 fl, .int .u16 fo, .int .u8 tt, .int .u8 pr, .int .u16 0, .slice sa 4 sc, .slice da 4 dc, .slice a n m, .slice none 0 0] 179) w3.heap.size (.int .u8 (64 + WO) :: .int .u8 sv :: .int .u8 (LN / 256 % 256) :: .int .u8 (LN % 256) :: .int .u8 (idn / 256 % 256) :: .int .u8 (idn % 256) :: .int .u8 ((fl * 8192 + fo) / 256 % 256) :: .int .u8 ((fl * 8192 + fo) % 256) :: .int .u8 tt :: .int .u8 pr :: .int .u8 0 :: .int .u8 0 :: .int .u8 0 :: .int .u8 0 :: .int .u8 0 :: .int .u8 0 :: .int .u8 0 :: .int .u8 0 :: .int .u8 0 :: .int .u8 0 :: TL) 5)).drew (.slice (some sa) 4 sc) l1 := ((((H1.out.gr hg3).keep hO5 e1).unrow e3).rowW e3).rowW (H1.out.new (by omega) (by omega))
  have hsr := hS5.src (by omega)
  go_region_law (refine step_copy_splice rfl (.tmp 97) (.tmp 101) 25 103 rfl 5 Try.underlying25 size_u8 (some ⟨w3.heap.size, 12, none⟩) (some sa) 4 (l.length + K - 12) 4 sc (by simp [Act.eval]) (by simp [Act.eval]) w3.heap.size 12 (.int .u8 (64 + WO) :: .int .u8 sv :: .int .u8 (LN / 256 % 256) :: .int .u8 (LN % 256) :: .int .u8 (idn / 256 % 256) :: .int .u8 (idn % 256) :: .int .u8 ((fl * 8192 + fo) / 256 % 256) :: .int .u8 ((fl * 8192 + fo) % 256) :: .int .u8 tt :: .int .u8 pr :: .int .u8 0 :: .int .u8 0 :: .int .u8 0 :: .int .u8 0 :: .int .u8 0 :: .int .u8 0 :: .int .u8 0 :: .int .u8 0 :: .int .u8 0 :: .int .u8 0 :: TL) 5 (rowW_heap (by rw [has_rowW]; exact hdC)) (bcells l1) (by rw [bcells_length, z1]; rfl) (fun _ => ⟨rfl, hsr⟩) (by simp only [List.length_cons, bcells_length]; omega) (bcells_one l1) w3.heap.size ((rowW (rowW (y.drewN (r5 + 1 + 1 + 1 + 1)) V [.slice none 0 0, .slice none 0 0, .int .u8 4, .int .u8 WO, .int .u8 sv, .int .u16 LN, .int .u16 idn, .int .u8 fl, .int .u16 fo, .int .u8 tt, .int .u8 pr, .int .u16 0, .slice sa 4 sc, .slice da 4 dc, .slice a n m, .slice none 0 0] 179) w3.heap.size (.int .u8 (64 + WO) :: .int .u8 sv :: .int .u8 (LN / 256 % 256) :: .int .u8 (LN % 256) :: .int .u8 (idn / 256 % 256) :: .int .u8 (idn % 256) :: .int .u8 ((fl * 8192 + fo) / 256 % 256) :: .int .u8 ((fl * 8192 + fo) % 256) :: .int .u8 tt :: .int .u8 pr :: .int .u8 0 :: .int .u8 0 :: .int .u8 0 :: .int .u8 0 :: .int .u8 0 :: .int .u8 0 :: .int .u8 0 :: .int .u8 0 :: .int .u8 0 :: .int .u8 0 :: TL) 5)) ⟨rfl, rfl, rfl, Nat.le_refl _, fun _ _ => rfl⟩ (Nat.le_refl _) ?_; intro w4 hg4 hb4)
  have hr4 := hg4.out
  obtain ⟨R2, hR2⟩ : ∃ R2, R2 = splice (.int .u8 (64 + WO) :: .int .u8 sv :: .int .u8 (LN / 256 % 256) :: .int .u8 (LN % 256) :: .int .u8 (idn / 256 % 256) :: .int .u8 (idn % 256) :: .int .u8 ((fl * 8192 + fo) / 256 % 256) :: .int .u8 ((fl * 8192 + fo) % 256) :: .int .u8 tt :: .int .u8 pr :: .int .u8 0 :: .int .u8 0 :: .int .u8 0 :: .int .u8 0 :: .int .u8 0 :: .int .u8 0 :: .int .u8 0 :: .int .u8 0 :: .int .u8 0 :: .int .u8 0 :: TL) 12 (bcells l1) := ⟨_, rfl⟩
  rw [← hR2] at hr4
  have HR2 := Lib.hid hR2
  clear hR2 hg4
  obtain ⟨y4, rfl, hO6, hyV4⟩ := hO5.copy (by omega) hBV hVP (by omega) hb4 hr4
  clear hb4 hr4 hdC hS5 hsr hyC
  have hdC := hO6.hasN
  go_wp2_with fail
  have hS6 : IsB (rowW (rowW y4 V [.slice none 0 0, .slice none 0 0, .int .u8 4, .int .u8 WO, .int .u8 sv, .int .u16 LN, .int .u16 idn, .int .u8 fl, .int .u16 fo, .int .u8 tt, .int .u8 pr, .int .u16 0, .slice sa 4 sc, .slice da 4 dc, .slice a n m, .slice none 0 0] 179) w3.heap.size R2 5).drew (.slice (some da) 4 dc) l2 := ((((H2.out.gr hg3).keep hO6 e2).unrow e4).rowW e4).rowW (H2.out.new (by omega) (by omega))
  have hsr := hS6.src (by omega)
  have hL2 : R2.length = 20 + TL.length := by rw [HR2.out, length_splice _ _ _ (by simp only [List.length_cons, bcells_length]; omega)]; simp only [List.length_cons]; omega
  go_region_law (refine step_copy_splice rfl (.tmp 104) (.tmp 108) 25 103 rfl 5 Try.underlying25 size_u8 (some ⟨w3.heap.size, 16, none⟩) (some da) 4 (l.length + K - 16) 4 dc (by simp [Act.eval]) (by simp [Act.eval]) w3.heap.size 16 R2 5 (rowW_heap (by rw [has_rowW]; exact hdC)) (bcells l2) (by rw [bcells_length, z2]; rfl) (fun _ => ⟨rfl, hsr⟩) (by rw [hL2, bcells_length]; omega) (bcells_one l2) w3.heap.size (rowW (rowW y4 V [.slice none 0 0, .slice none 0 0, .int .u8 4, .int .u8 WO, .int .u8 sv, .int .u16 LN, .int .u16 idn, .int .u8 fl, .int .u16 fo, .int .u8 tt, .int .u8 pr, .int .u16 0, .slice sa 4 sc, .slice da 4 dc, .slice a n m, .slice none 0 0] 179) w3.heap.size R2 5) ⟨rfl, rfl, rfl, Nat.le_refl _, fun _ _ => rfl⟩ (Nat.le_refl _) ?_; intro w4 hg4 hb4)
  have hr4 := hg4.out
  obtain ⟨hdr, hhdr⟩ : ∃ hdr, hdr = [(64 + WO), sv, (LN / 256 % 256), (LN % 256), (idn / 256 % 256), (idn % 256), ((fl * 8192 + fo) / 256 % 256), ((fl * 8192 + fo) % 256), tt, pr, 0, 0] ++ (l1 ++ l2) := ⟨_, rfl⟩
  have e9 : splice R2 16 (bcells l2) = bcells hdr ++ (zs L ++ bcells l) := by
    rw [HR2.out, HQ.out.2.2.2.2, hhdr]
    refine (rows20 [.int .u8 (64 + WO), .int .u8 sv, .int .u8 (LN / 256 % 256), .int .u8 (LN % 256), .int .u8 (idn / 256 % 256), .int .u8 (idn % 256), .int .u8 ((fl * 8192 + fo) / 256 % 256), .int .u8 ((fl * 8192 + fo) % 256), .int .u8 tt, .int .u8 pr, .int .u8 0, .int .u8 0] (zs 8) (zs L ++ bcells l) (bcells l1) (bcells l2) rfl rfl (by rw [bcells_length]; exact z1) (by rw [bcells_length]; exact z2)).trans ?_
    simp [bcells]
  rw [e9] at hr4
  obtain ⟨y5, rfl, hO7, hyV5⟩ := hO6.copy (by omega) hBV hVP (by omega) hb4 hr4
  clear hb4 hr4 hg4 e9 hL2 hsr hS6 hdC hyV4 hO6 hO5
  have HHD := Lib.hid hhdr
  have hh20 : hdr.length = 20 := by rw [hhdr]; simp [z1, z2]
  have HH20 := Lib.hid hh20
  clear hhdr hh20
  have hlen := fun ty => HRD.out.len (P := Try.prog) 177 181 Try.underlying177 ty
  have hll : rs.length = os.length := by rw [← HRS.out, List.length_map]
  rw [hll] at hlen
  have HLL := Lib.hid hll
  clear hll
  go_wp2_with fail
  go_loopw [11, 115] (SerRel w3 w3.heap.size V P B K [.slice none 0 0, .slice none 0 0, .int .u8 4, .int .u8 0, .int .u8 sv, .int .u16 0, .int .u16 idn, .int .u8 fl, .int .u16 fo, .int .u8 tt, .int .u8 pr, .int .u16 0, .slice sa 4 sc, .slice da 4 dc, .slice a n m, .slice none 0 0] [.slice none 0 0, .slice none 0 0, .int .u8 4, .int .u8 WO, .int .u8 sv, .int .u16 LN, .int .u16 idn, .int .u8 fl, .int .u16 fo, .int .u8 tt, .int .u8 pr, .int .u16 0, .slice sa 4 sc, .slice da 4 dc, .slice a n m, .slice none 0 0] hdr os L l) (fun _ i _ => os.length - (intOf i).toNat)
  case atStart => exact ⟨0, 20, y5, Nat.zero_le _, rfl, rfl, by rw [HH20.out]; simp [optsRaw], by simp [optsRaw, serRow], hO7, hyV5⟩
  case round =>
    clear hO7 hyV5 hO hyV hd ob0 ob1
    obtain ⟨k, c, y, hk, rfl, rfl, hc, rfl, hO, hyV⟩ := hrel
    have hdC := hO.hasN
    have hrawL : (optsRaw os).length ≤ L := by rw [HQ.out.1]; unfold optsB; rw [List.length_append]; omega
    have hle := raw_le os k
    rw [HH20.out] at hc
    by_cases hlt : k < os.length
    · obtain ⟨p, hp⟩ : ∃ p, rs[k]? = some p := ⟨_, List.getElem?_eq_getElem (by rw [HLL.out]; exact hlt)⟩
      obtain ⟨g, o, ix, hnb, c0, c1, c2, hI, hA⟩ := (HRD.out.gr hg3).idx (P := Try.prog) 177 181 Try.underlying177 size_o4 .i64 k p hp
      have hgl := cell_lt c0
      have hgV : g ≠ V := fun e => hnb (.inl e)
      have hgN : g ≠ w3.heap.size := Nat.ne_of_lt hgl
      have hky : y.heap[g]? = w3.heap[g]? := by have := hO.keep g hgl (fun e => hnb (.inr e)); rwa [rowW_other hgV] at this
      have hcy : ∀ o, y.cell? ⟨g, o, none⟩ = w3.cell? ⟨g, o, none⟩ := fun o => by simp only [World.cell?, hky]
      obtain ⟨hr1, hr2⟩ := raw_take_le HOK.out.1 hlt
      have hsn := raw_snoc hlt
      have hx : os.getD k Opt.zero = p.1 := by rw [← HRS.out, List.getD_eq_getElem?_getD, List.getElem?_map, hp]; rfl
      have hokx := HOK.out.1 p.1 (by rw [← hx, List.getD_eq_getElem?_getD, List.getElem?_eq_getElem hlt]; exact List.getElem_mem hlt)
      rw [hx] at hr1 hr2 hsn
      obtain ⟨⟨kd, ln, d⟩, pv⟩ := p
      obtain ⟨pa, pn, pc, rfl⟩ : ∃ a n c, pv = .slice a n c := by obtain ⟨a, c, e, -⟩ := hI; exact ⟨_, _, _, e⟩
      simp only at c0 c1 c2 hr1 hr2 hokx hI hA
      obtain rfl := hI.count
      have c0 := (hcy _).trans c0
      have c1 := (hcy _).trans c1
      have c2 := (hcy _).trans c2
      obtain ⟨hoc, hk1, hk2⟩ := hokx
      simp only at hoc hk1 hk2
      have z0 : (kd == 0) = false := by simp; omega
      have hVy : V < y.heap.size := hyV
      have hNy : w3.heap.size < y.heap.size := hdC
      have hne1 : y.heap.size ≠ V := by omega
      have hne2 : y.heap.size ≠ w3.heap.size := by omega
      have hO2 := hO.gr (gr_rows (cs := [.slice none 0 0, .slice none 0 0, .int .u8 4, .int .u8 0, .int .u8 sv, .int .u16 0, .int .u16 idn, .int .u8 fl, .int .u16 fo, .int .u8 tt, .int .u8 pr, .int .u16 0, .slice sa 4 sc, .slice da 4 dc, .slice a n m, .slice none 0 0]) (e := 179) hyV ((Gr.refl y).alloc (.cells #[.int .u8 kd, .int .u8 ln, .slice pa d.length pc] 181)))
      obtain ⟨R0, hR0⟩ : ∃ R0, R0 = optsRaw (os.take k) := ⟨_, rfl⟩
      rw [← hR0] at hle hr1 hr2 hsn hc ⊢
      have HI3 := Lib.hid (And.intro hI hA)
      have HO2 := Lib.hid hO2
      have HLT := Lib.hid hlt
      clear hI hA hO2 hp hky hcy hx hnb hO hgl hR0
      have hr40 := HOK.out.2
      have hol := Nat.le_trans (len_raw os) hr40
      have hl0 : c < (serRow hdr R0 L (bcells l)).length := by rw [ser_len (by omega), HH20.out, bcells_length]; omega
      have ix0 := fun K9 w' => at_i (P := Try.prog) 25 5 i0 Try.underlying25 HI.out.1 HI.out.2 w3.heap.size 0 K (l.length + K) c c c rfl (by have := HK.out; omega) (by omega) K9 w'
      by_cases h1k : kd = 1
      · have hln : ln = 1 := by rcases hoc with ⟨-, h, -⟩ | ⟨h, -⟩; exact h; exact absurd h1k h
        subst h1k
        subst hln
        have z1 : ((1 : Int) == 1) = true := by decide
        have hset : (serRow hdr R0 L (bcells l)).set c (.int .u8 1) = serRow hdr (optsRaw (os.take (k + 1))) L (bcells l) := by
          rw [ser_one (by omega) (by rw [HH20.out]; exact hc), hsn]
          simp [optB]
        obtain ⟨R1, hR1⟩ : ∃ R1, R1 = optsRaw (os.take (k + 1)) := ⟨_, rfl⟩
        rw [← hR1] at hset hr2
        have HR1 := Lib.hid hR1
        have HC1 := Lib.hid (show c + 1 = hdr.length + R1.length by rw [HH20.out]; omega)
        have e1 : IntKind.i64.wrap ((c : Int) + 1) = (c : Int) + 1 := w64 (by omega) (by omega)
        clear hoc hr1 hr2 hc hle hsn hR1 hrawL hr40
        go_wp2_with fail
        go_roundw
        case rel => exact ⟨k + 1, c + 1, _, by have := HLT.out; omega, by go_num, by go_num, by rw [← HR1.out]; exact HC1.out, by rw [← HR1.out], HO2.out, HO2.out.hasV (by omega) hVP⟩
        case measure => have := HLT.out; simp [intOf]; omega
      · have hln : ln = (d.length : Int) + 2 := by rcases hoc with ⟨h, -⟩ | ⟨-, h⟩; exact absurd h h1k; exact h
        have z1 : (kd == 1) = false := by simp [h1k]
        obtain ⟨R1, hR1⟩ : ∃ R1, R1 = R0 ++ [kd] := ⟨_, rfl⟩
        obtain ⟨R2, hR2⟩ : ∃ R2, R2 = R1 ++ [ln] := ⟨_, rfl⟩
        have hR1l : R1.length = R0.length + 1 := by rw [hR1]; simp
        have hR2l : R2.length = R0.length + 2 := by rw [hR2]; simp [hR1l]
        have hset1 : (serRow hdr R0 L (bcells l)).set c (.int .u8 kd) = serRow hdr R1 L (bcells l) := by rw [hR1]; exact ser_one (by omega) (by rw [HH20.out]; exact hc) kd
        have hset2 : (serRow hdr R1 L (bcells l)).set (c + 1) (.int .u8 ln) = serRow hdr R2 L (bcells l) := by rw [hR2]; exact ser_one (by omega) (by rw [HH20.out]; omega) ln
        have hl1 : c + 1 < (serRow hdr R1 L (bcells l)).length := by rw [ser_len (by omega), HH20.out, bcells_length]; omega
        have e9 : splice (serRow hdr R2 L (bcells l)) (c + 2) (bcells d) = serRow hdr (optsRaw (os.take (k + 1))) L (bcells l) := by
          rw [ser_copy (by omega) (by rw [HH20.out]; omega), hR2, hR1, hsn]
          have h1 : kd % 256 = kd := by omega
          have h2 : ln % 256 = ln := by omega
          simp [optB, h1k, h1, h2]
        have hfit : c + 2 + (bcells d).length ≤ (serRow hdr R2 L (bcells l)).length := by rw [ser_len (by omega), HH20.out, bcells_length, bcells_length]; omega
        obtain ⟨c', hc'⟩ : ∃ c' : Nat, c' = c + 2 + d.length := ⟨_, rfl⟩
        have e1 : IntKind.i64.wrap ((c : Int) + 1) = (c : Int) + 1 := w64 (by omega) (by omega)
        have e2 : IntKind.i64.wrap ((c : Int) + 2) = (c : Int) + 2 := w64 (by omega) (by omega)
        have e3 : IntKind.i64.wrap ln = ln := w64 (by omega) (by omega)
        have e4 : IntKind.i64.wrap ((c : Int) + ln) = (c' : Int) := by rw [w64 (by omega) (by omega)]; omega
        have e5 : IntKind.u8.wrap (ln - 2) = (d.length : Int) := by simp [IntKind.wrap, IntKind.bits, IntKind.signed]; omega
        have e6 : IntKind.i64.wrap (d.length : Int) = (d.length : Int) := w64 (by omega) (by omega)
        have e7 : (c : Int) + ln = (c' : Int) := by omega
        have e8 : IntKind.i64.wrap (c' : Int) = (c' : Int) := w64 (by omega) (by omega)
        have ix1 := fun K9 w' => at_i (P := Try.prog) 25 5 i0 Try.underlying25 HI.out.1 HI.out.2 w3.heap.size 0 K (l.length + K) (c + 1) (c + 1) ((c : Int) + 1) (by omega) (by have := HK.out; omega) (by omega) K9 w'
        obtain ⟨dp, hdp, sl⟩ := at_lhg (P := Try.prog) 25 5 i0 Try.underlying25 HI.out.1 HI.out.2 w3.heap.size K (l.length + K) (c + 2) c' d.length ((c : Int) + 2) (c' : Int) (by omega) rfl (by have := HK.out; omega) hc'
        have HC1 := Lib.hid (show c' = hdr.length + (optsRaw (os.take (k + 1))).length by rw [HH20.out]; omega)
        have HE9 := Lib.hid e9
        have HFIT := Lib.hid hfit
        have HDP := Lib.hid hdp
        clear hoc hr1 hr2 hc hle hsn hR1 hR2 hR1l hR2l hrawL hr40 e9 hfit hc' hln hdp
        go_wp2_with fail
        have hdC' := HO2.out.hasN
        have hS : IsB ((rowW (rowW (y.alloc (.cells #[.int .u8 kd, .int .u8 ln, .slice pa d.length pc] 181)) V [.slice none 0 0, .slice none 0 0, .int .u8 4, .int .u8 WO, .int .u8 sv, .int .u16 LN, .int .u16 idn, .int .u8 fl, .int .u16 fo, .int .u8 tt, .int .u8 pr, .int .u16 0, .slice sa 4 sc, .slice da 4 dc, .slice a n m, .slice none 0 0] 179) w3.heap.size (serRow hdr R2 L (bcells l)) 5)).drew (.slice pa d.length pc) d := (HI3.out.1).keepB (w' := ((rowW (rowW (y.alloc (.cells #[.int .u8 kd, .int .u8 ln, .slice pa d.length pc] 181)) V [.slice none 0 0, .slice none 0 0, .int .u8 4, .int .u8 WO, .int .u8 sv, .int .u16 LN, .int .u16 idn, .int .u8 fl, .int .u16 fo, .int .u8 tt, .int .u8 pr, .int .u16 0, .slice sa 4 sc, .slice da 4 dc, .slice a n m, .slice none 0 0] 179) w3.heap.size (serRow hdr R2 L (bcells l)) 5))) HO2.out.old HI3.out.2
        have hsr := hS.src
        go_region_law (refine step_copy_row (z := (rowW (y.alloc (.cells #[.int .u8 kd, .int .u8 ln, .slice pa d.length pc] 181)).drew V [.slice none 0 0, .slice none 0 0, .int .u8 4, .int .u8 WO, .int .u8 sv, .int .u16 LN, .int .u16 idn, .int .u8 fl, .int .u16 fo, .int .u8 tt, .int .u8 pr, .int .u16 0, .slice sa 4 sc, .slice da 4 dc, .slice a n m, .slice none 0 0] 179)) rfl (.tmp 149) (.tmp 151) 25 25 rfl 5 Try.underlying25 size_u8 dp pa d.length (l.length + K - (c + 2)) d.length pc (by simp [Act.eval, Act.put]) (by simp [Act.eval, Act.put]) w3.heap.size (c + 2) (serRow hdr R2 L (bcells l)) 5 (by rw [has_rowW]; exact hdC') (bcells d) (by rw [bcells_length]; exact (Nat.min_self _).symm) (fun hp => ⟨HDP.out (by rw [bcells_length] at hp; exact hp), hsr (by rw [bcells_length] at hp; exact hp)⟩) HFIT.out (bcells_one d) ?_)
        all_goals
          rw [HE9.out]
          clear hS hsr
          go_wp2_with fail
          go_roundw
          · exact ⟨k + 1, c', _, by have := HLT.out; omega, by go_num, rfl, HC1.out, rfl, HO2.out.rdrew, (HO2.out.rdrew).hasV (by omega) hVP⟩
          · have := HLT.out
            simp [intOf]
            omega
    · obtain rfl : k = os.length := by omega
      rw [List.take_length] at hc ⊢
      have hwk : y.heap[w.heap.size]? = w3.heap[w.heap.size]? := by have := hO.keep w.heap.size (by omega) (by omega); rwa [rowW_other hVO] at this
      have ob1 := cell_of_heap (cs := [.bool true, .bool true]) (hwk.trans HO3.out) 1 _ rfl
      obtain ⟨HB, hHB⟩ : ∃ HB, HB = ip4B WO sv LN idn fl fo tt pr 0 l1 l2 os := ⟨_, rfl⟩
      have hHBe : HB = [64 + WO, sv, LN / 256 % 256, LN % 256, idn / 256 % 256, idn % 256, (fl * 8192 + fo) / 256 % 256, (fl * 8192 + fo) % 256, tt, pr] ++ ([0, 0] ++ (l1 ++ (l2 ++ optsB os))) := by rw [hHB, ip4_parts]; rfl
      have hRow : serRow hdr (optsRaw os) L (bcells l) = bcells HB ++ bcells l := by
        rw [hHBe, HHD.out]
        have eL : L - (optsRaw os).length = (4 - (optsRaw os).length % 4) % 4 := by rw [HQ.out.1]; unfold optsB; rw [List.length_append, List.length_replicate]; omega
        unfold serRow
        rw [eL]
        simp [bcells, zs, optsB]
      have hHBl : HB.length = K := by
        have e1 := congrArg List.length hRow
        rw [ser_len hrawL, HH20.out, List.length_append, bcells_length, bcells_length] at e1
        have := HK.out; omega
      have hHBb : AllB HB := by
        rw [hHB]
        exact ip4_bytes WO sv LN idn fl fo tt pr 0 l1 l2 os (by have := HW.out.1; omega) (by omega) (by omega) (by omega) H1.out.bytes H2.out.bytes hab
      obtain ⟨R, hR⟩ : ∃ R, R = bcells HB ++ bcells l := ⟨_, rfl⟩
      rw [hRow, ← hR]
      have hRl : ∀ j, j < HB.length → R[j]? = some (.int .u8 (bt HB j)) := fun j hj => by
        rw [hR, List.getElem?_append_left (by rw [bcells_length]; exact hj)]
        simp [bcells, bt, hj]
      have b10 : bt HB 10 = 0 := by rw [hHBe]; rfl
      have b11 : bt HB 11 = 0 := by rw [hHBe]; rfl
      have hK20 := hK20
      have r10 := hRl 10 (by omega)
      have r11 := hRl 11 (by omega)
      rw [b10] at r10
      rw [b11] at r11
      have hck : cks HB = CK := by rw [hHB, HQ.out.2.2.2.1, HQ.out.2.1]; rfl
      have hfin : ((R.set 10 (.int .u8 (CK / 256 % 256))).set (10 + 1) (.int .u8 (CK % 256))) = bcells (ip4B WO sv LN idn fl fo tt pr CK l1 l2 os) ++ bcells l := by
        rw [hR, hHBe, ip4_parts]
        exact ck_put _ _ _ rfl _ _
      have hRlen : R.length = K + l.length := by rw [hR, List.length_append, bcells_length, bcells_length, hHBl]
      have hK2 : K % 2 = 0 := by have := HK.out; omega
      have HCK := Lib.hid hck
      have HRL := Lib.hid hRl
      have HFN := Lib.hid hfin
      have HBB := Lib.hid hHBb
      have hKHB := Lib.hid hHBl
      have HRR := Lib.hid (And.intro r10 r11)
      clear hck hRl hfin hHBb hHBl hHBe hRow hHB hR b10 b11 r10 r11 hc hwk hle hrawL hlt
      go_wp2_with (first
        | (go_at_call 81; refine (sum4_calls w3.heap.size K (l.length + K) R HB (rowW y V [.slice none 0 0, .slice none 0 0, .int .u8 4, .int .u8 WO, .int .u8 sv, .int .u16 LN, .int .u16 idn, .int .u8 fl, .int .u16 fo, .int .u8 tt, .int .u8 pr, .int .u16 0, .slice sa 4 sc, .slice da 4 dc, .slice a n m, .slice none 0 0] 179) (by rw [has_rowW]; exact hdC) hKHB.out.symm HBB.out HRL.out (by have := hKHB.out; omega) (by have := hKHB.out; omega) (by have := hKHB.out; omega) HRR.out.1 HRR.out.2).mono ?_; rintro e w9 ⟨rfl, rfl⟩; rw [HCK.out]))
      go_region_held3 (fun w' => w'.cell? ⟨V, 11, none⟩ = some (.int .u16 CK)) (first | exact ((rowW_cell_other hNE).trans (rowW_cell (show Has _ _ from hyV) 11)).trans rfl | go_keep) (first
        | (go_at_call 72; refine (put16_calls w3.heap.size _ _ _ _ _ _ (by rw [has_rowW]; exact hdC) (by rw [hRlen]; omega) (by omega)).mono ?_; rintro e w2 ⟨rfl, rfl⟩))
      go_wp2
      go_ret
      refine ⟨rfl, ?_⟩
      refine Opened.finV (cs := [.slice none 0 0, .slice none 0 0, .int .u8 4, .int .u8 0, .int .u8 sv, .int .u16 0, .int .u16 idn, .int .u8 fl, .int .u16 fo, .int .u8 tt, .int .u8 pr, .int .u16 0, .slice sa 4 sc, .slice da 4 dc, .slice a n m, .slice none 0 0]) (w := w3) (hd := ip4B WO sv LN idn fl fo tt pr CK l1 l2 os) (l := l) (k := K) (N := w3.heap.size) _ (by repeat (first | exact hO | refine Opened.rdrew ?_ | refine Opened.rdrewN ?_ _)) hBV hVP (below_to hg3.below hB) ?_ ?_ (by omega) (by omega) HFN.out
      · have e1 := congrArg List.length HFN.out
        rw [List.length_append, bcells_length, bcells_length, List.length_set, List.length_set, hRlen] at e1
        omega
      · exact ip4_bytes WO sv LN idn fl fo tt pr CK l1 l2 os (by have := HW.out.1; omega) (by omega) (by omega) (by omega) H1.out.bytes H2.out.bytes hab
end Go.Proofs.Ytdpffedmgmllbaa
