/-
  The law FnGRERead.
-/
import Derived.Test.YtbdbaapdiklnhaaGRE
import Derived.Test.YtbdbaapdiklnhaaGREIs
import Derived.Test.YtbdbaapdiklnhaaGREEnc0
import Derived.Test.YtbdbaapdiklnhaaGREEnc1
import Derived.Test.YtbdbaapdiklnhaaGREEnc2
import Derived.Test.YtbdbaapdiklnhaaGREEnc3
namespace Go.Proofs.Ytbdbaapdiklnhaa
open Go.RowKit

theorem gre_calls (ve pr : Int) (s k q a : Bool) (su ky sq ak : Int) (w : World) (hv : 0 ≤ ve ∧ ve ≤ 7) :
    Calls Try.prog 47 #[.agg #[.int .i64 ve, .int .i64 pr, .bool s, .bool k, .bool q, .bool a, .int .i64 su, .int .i64 ky, .int .i64 sq, .int .i64 ak]] w (RetB w (gre ve pr s k q a su ky sq ak)) := by
  cases s with
  | false =>
    cases k with
    | false =>
      cases q with
      | false =>
        cases a with
        | false =>
          exact gre0000_calls ve pr su ky sq ak w hv
        | true =>
          exact gre0001_calls ve pr su ky sq ak w hv
      | true =>
        cases a with
        | false =>
          exact gre0010_calls ve pr su ky sq ak w hv
        | true =>
          exact gre0011_calls ve pr su ky sq ak w hv
    | true =>
      cases q with
      | false =>
        cases a with
        | false =>
          exact gre0100_calls ve pr su ky sq ak w hv
        | true =>
          exact gre0101_calls ve pr su ky sq ak w hv
      | true =>
        cases a with
        | false =>
          exact gre0110_calls ve pr su ky sq ak w hv
        | true =>
          exact gre0111_calls ve pr su ky sq ak w hv
  | true =>
    cases k with
    | false =>
      cases q with
      | false =>
        cases a with
        | false =>
          exact gre1000_calls ve pr su ky sq ak w hv
        | true =>
          exact gre1001_calls ve pr su ky sq ak w hv
      | true =>
        cases a with
        | false =>
          exact gre1010_calls ve pr su ky sq ak w hv
        | true =>
          exact gre1011_calls ve pr su ky sq ak w hv
    | true =>
      cases q with
      | false =>
        cases a with
        | false =>
          exact gre1100_calls ve pr su ky sq ak w hv
        | true =>
          exact gre1101_calls ve pr su ky sq ak w hv
      | true =>
        cases a with
        | false =>
          exact gre1110_calls ve pr su ky sq ak w hv
        | true =>
          exact gre1111_calls ve pr su ky sq ak w hv

theorem gre_at (ve pr : Int) (s k q a : Bool) (su ky sq ak : Int) (l : List Int) (hv : 0 ≤ ve ∧ ve ≤ 7) (hp : 0 ≤ pr ∧ pr ≤ 65535) (h1 : 0 ≤ su ∧ su ≤ 65535) (h2 : 0 ≤ ky ∧ ky ≤ 4294967295) (h3 : 0 ≤ sq ∧ sq ≤ 4294967295) (h4 : 0 ≤ ak ∧ ak ≤ 4294967295)
    (hs : s = false → su = 0) (hky : k = false → ky = 0) (hsq : q = false → sq = 0) (hak : a = false → ak = 0) :
    bits .and .u8 (bt (gre ve pr s k q a su ky sq ak ++ l) 0) 128 = fl s 128 ∧ bits .and .u8 (bt (gre ve pr s k q a su ky sq ak ++ l) 0) 64 = 0 ∧ bits .and .u8 (bt (gre ve pr s k q a su ky sq ak ++ l) 0) 32 = fl k 32 ∧ bits .and .u8 (bt (gre ve pr s k q a su ky sq ak ++ l) 0) 16 = fl q 16 ∧ bits .and .u8 (bt (gre ve pr s k q a su ky sq ak ++ l) 0) 8 = 0 ∧ bits .and .u8 (bt (gre ve pr s k q a su ky sq ak ++ l) 1) 128 = fl a 128 ∧
    bt (gre ve pr s k q a su ky sq ak ++ l) 1 % 8 = ve ∧ b2 (gre ve pr s k q a su ky sq ak ++ l) 2 = pr ∧ gv s (b2 (gre ve pr s k q a su ky sq ak ++ l) 4) = su ∧ gv k (b4 (gre ve pr s k q a su ky sq ak ++ l) (nx s 4)) = ky ∧ gv q (b4 (gre ve pr s k q a su ky sq ak ++ l) (nx k (nx s 4))) = sq ∧ gv a (b4 (gre ve pr s k q a su ky sq ak ++ l) (nx q (nx k (nx s 4)))) = ak ∧
    (gre ve pr s k q a su ky sq ak ++ l).drop (ge s k q a) = l ∧ (gre ve pr s k q a su ky sq ak).length = ge s k q a := by
  cases s with
  | false =>
    cases k with
    | false =>
      cases q with
      | false =>
        cases a with
        | false =>
          have e0 : bt (gre ve pr false false false false su ky sq ak ++ l) 0 = 0 := by
            show (bi false * 32768 + bi false * 8192 + bi false * 4096 + bi false * 128 + ve) / 256 % 256 = 0
            simp only [bi]; simp; omega
          have e1 : bt (gre ve pr false false false false su ky sq ak ++ l) 1 = 0 + ve := by
            show (bi false * 32768 + bi false * 8192 + bi false * 4096 + bi false * 128 + ve) % 256 = 0 + ve
            simp only [bi]; simp; omega
          refine ⟨by rw [e0]; decide, by rw [e0]; decide, by rw [e0]; decide, by rw [e0]; decide, by rw [e0]; decide, ?_, by rw [e1]; omega, by show pr / 256 % 256 * 256 + pr % 256 = pr; omega, (hs rfl).symm, (hky rfl).symm, (hsq rfl).symm, (hak rfl).symm, rfl, rfl⟩
          rw [e1, band .u8 1 7 (by omega) (by rw [max_u8]; omega) (by decide) (by decide)]
          show _ = (0 : Int)
          omega
        | true =>
          have e0 : bt (gre ve pr false false false true su ky sq ak ++ l) 0 = 0 := by
            show (bi false * 32768 + bi false * 8192 + bi false * 4096 + bi true * 128 + ve) / 256 % 256 = 0
            simp only [bi]; simp; omega
          have e1 : bt (gre ve pr false false false true su ky sq ak ++ l) 1 = 128 + ve := by
            show (bi false * 32768 + bi false * 8192 + bi false * 4096 + bi true * 128 + ve) % 256 = 128 + ve
            simp only [bi]; simp; omega
          refine ⟨by rw [e0]; decide, by rw [e0]; decide, by rw [e0]; decide, by rw [e0]; decide, by rw [e0]; decide, ?_, by rw [e1]; omega, by show pr / 256 % 256 * 256 + pr % 256 = pr; omega, (hs rfl).symm, (hky rfl).symm, (hsq rfl).symm, (by show ak / 65536 / 256 % 256 * 16777216 + ak / 65536 % 256 * 65536 + ak / 256 % 256 * 256 + ak % 256 = ak; omega), rfl, rfl⟩
          rw [e1, band .u8 1 7 (by omega) (by rw [max_u8]; omega) (by decide) (by decide)]
          show _ = (128 : Int)
          omega
      | true =>
        cases a with
        | false =>
          have e0 : bt (gre ve pr false false true false su ky sq ak ++ l) 0 = 16 := by
            show (bi false * 32768 + bi false * 8192 + bi true * 4096 + bi false * 128 + ve) / 256 % 256 = 16
            simp only [bi]; simp; omega
          have e1 : bt (gre ve pr false false true false su ky sq ak ++ l) 1 = 0 + ve := by
            show (bi false * 32768 + bi false * 8192 + bi true * 4096 + bi false * 128 + ve) % 256 = 0 + ve
            simp only [bi]; simp; omega
          refine ⟨by rw [e0]; decide, by rw [e0]; decide, by rw [e0]; decide, by rw [e0]; decide, by rw [e0]; decide, ?_, by rw [e1]; omega, by show pr / 256 % 256 * 256 + pr % 256 = pr; omega, (hs rfl).symm, (hky rfl).symm, (by show sq / 65536 / 256 % 256 * 16777216 + sq / 65536 % 256 * 65536 + sq / 256 % 256 * 256 + sq % 256 = sq; omega), (hak rfl).symm, rfl, rfl⟩
          rw [e1, band .u8 1 7 (by omega) (by rw [max_u8]; omega) (by decide) (by decide)]
          show _ = (0 : Int)
          omega
        | true =>
          have e0 : bt (gre ve pr false false true true su ky sq ak ++ l) 0 = 16 := by
            show (bi false * 32768 + bi false * 8192 + bi true * 4096 + bi true * 128 + ve) / 256 % 256 = 16
            simp only [bi]; simp; omega
          have e1 : bt (gre ve pr false false true true su ky sq ak ++ l) 1 = 128 + ve := by
            show (bi false * 32768 + bi false * 8192 + bi true * 4096 + bi true * 128 + ve) % 256 = 128 + ve
            simp only [bi]; simp; omega
          refine ⟨by rw [e0]; decide, by rw [e0]; decide, by rw [e0]; decide, by rw [e0]; decide, by rw [e0]; decide, ?_, by rw [e1]; omega, by show pr / 256 % 256 * 256 + pr % 256 = pr; omega, (hs rfl).symm, (hky rfl).symm, (by show sq / 65536 / 256 % 256 * 16777216 + sq / 65536 % 256 * 65536 + sq / 256 % 256 * 256 + sq % 256 = sq; omega), (by show ak / 65536 / 256 % 256 * 16777216 + ak / 65536 % 256 * 65536 + ak / 256 % 256 * 256 + ak % 256 = ak; omega), rfl, rfl⟩
          rw [e1, band .u8 1 7 (by omega) (by rw [max_u8]; omega) (by decide) (by decide)]
          show _ = (128 : Int)
          omega
    | true =>
      cases q with
      | false =>
        cases a with
        | false =>
          have e0 : bt (gre ve pr false true false false su ky sq ak ++ l) 0 = 32 := by
            show (bi false * 32768 + bi true * 8192 + bi false * 4096 + bi false * 128 + ve) / 256 % 256 = 32
            simp only [bi]; simp; omega
          have e1 : bt (gre ve pr false true false false su ky sq ak ++ l) 1 = 0 + ve := by
            show (bi false * 32768 + bi true * 8192 + bi false * 4096 + bi false * 128 + ve) % 256 = 0 + ve
            simp only [bi]; simp; omega
          refine ⟨by rw [e0]; decide, by rw [e0]; decide, by rw [e0]; decide, by rw [e0]; decide, by rw [e0]; decide, ?_, by rw [e1]; omega, by show pr / 256 % 256 * 256 + pr % 256 = pr; omega, (hs rfl).symm, (by show ky / 65536 / 256 % 256 * 16777216 + ky / 65536 % 256 * 65536 + ky / 256 % 256 * 256 + ky % 256 = ky; omega), (hsq rfl).symm, (hak rfl).symm, rfl, rfl⟩
          rw [e1, band .u8 1 7 (by omega) (by rw [max_u8]; omega) (by decide) (by decide)]
          show _ = (0 : Int)
          omega
        | true =>
          have e0 : bt (gre ve pr false true false true su ky sq ak ++ l) 0 = 32 := by
            show (bi false * 32768 + bi true * 8192 + bi false * 4096 + bi true * 128 + ve) / 256 % 256 = 32
            simp only [bi]; simp; omega
          have e1 : bt (gre ve pr false true false true su ky sq ak ++ l) 1 = 128 + ve := by
            show (bi false * 32768 + bi true * 8192 + bi false * 4096 + bi true * 128 + ve) % 256 = 128 + ve
            simp only [bi]; simp; omega
          refine ⟨by rw [e0]; decide, by rw [e0]; decide, by rw [e0]; decide, by rw [e0]; decide, by rw [e0]; decide, ?_, by rw [e1]; omega, by show pr / 256 % 256 * 256 + pr % 256 = pr; omega, (hs rfl).symm, (by show ky / 65536 / 256 % 256 * 16777216 + ky / 65536 % 256 * 65536 + ky / 256 % 256 * 256 + ky % 256 = ky; omega), (hsq rfl).symm, (by show ak / 65536 / 256 % 256 * 16777216 + ak / 65536 % 256 * 65536 + ak / 256 % 256 * 256 + ak % 256 = ak; omega), rfl, rfl⟩
          rw [e1, band .u8 1 7 (by omega) (by rw [max_u8]; omega) (by decide) (by decide)]
          show _ = (128 : Int)
          omega
      | true =>
        cases a with
        | false =>
          have e0 : bt (gre ve pr false true true false su ky sq ak ++ l) 0 = 48 := by
            show (bi false * 32768 + bi true * 8192 + bi true * 4096 + bi false * 128 + ve) / 256 % 256 = 48
            simp only [bi]; simp; omega
          have e1 : bt (gre ve pr false true true false su ky sq ak ++ l) 1 = 0 + ve := by
            show (bi false * 32768 + bi true * 8192 + bi true * 4096 + bi false * 128 + ve) % 256 = 0 + ve
            simp only [bi]; simp; omega
          refine ⟨by rw [e0]; decide, by rw [e0]; decide, by rw [e0]; decide, by rw [e0]; decide, by rw [e0]; decide, ?_, by rw [e1]; omega, by show pr / 256 % 256 * 256 + pr % 256 = pr; omega, (hs rfl).symm, (by show ky / 65536 / 256 % 256 * 16777216 + ky / 65536 % 256 * 65536 + ky / 256 % 256 * 256 + ky % 256 = ky; omega), (by show sq / 65536 / 256 % 256 * 16777216 + sq / 65536 % 256 * 65536 + sq / 256 % 256 * 256 + sq % 256 = sq; omega), (hak rfl).symm, rfl, rfl⟩
          rw [e1, band .u8 1 7 (by omega) (by rw [max_u8]; omega) (by decide) (by decide)]
          show _ = (0 : Int)
          omega
        | true =>
          have e0 : bt (gre ve pr false true true true su ky sq ak ++ l) 0 = 48 := by
            show (bi false * 32768 + bi true * 8192 + bi true * 4096 + bi true * 128 + ve) / 256 % 256 = 48
            simp only [bi]; simp; omega
          have e1 : bt (gre ve pr false true true true su ky sq ak ++ l) 1 = 128 + ve := by
            show (bi false * 32768 + bi true * 8192 + bi true * 4096 + bi true * 128 + ve) % 256 = 128 + ve
            simp only [bi]; simp; omega
          refine ⟨by rw [e0]; decide, by rw [e0]; decide, by rw [e0]; decide, by rw [e0]; decide, by rw [e0]; decide, ?_, by rw [e1]; omega, by show pr / 256 % 256 * 256 + pr % 256 = pr; omega, (hs rfl).symm, (by show ky / 65536 / 256 % 256 * 16777216 + ky / 65536 % 256 * 65536 + ky / 256 % 256 * 256 + ky % 256 = ky; omega), (by show sq / 65536 / 256 % 256 * 16777216 + sq / 65536 % 256 * 65536 + sq / 256 % 256 * 256 + sq % 256 = sq; omega), (by show ak / 65536 / 256 % 256 * 16777216 + ak / 65536 % 256 * 65536 + ak / 256 % 256 * 256 + ak % 256 = ak; omega), rfl, rfl⟩
          rw [e1, band .u8 1 7 (by omega) (by rw [max_u8]; omega) (by decide) (by decide)]
          show _ = (128 : Int)
          omega
  | true =>
    cases k with
    | false =>
      cases q with
      | false =>
        cases a with
        | false =>
          have e0 : bt (gre ve pr true false false false su ky sq ak ++ l) 0 = 128 := by
            show (bi true * 32768 + bi false * 8192 + bi false * 4096 + bi false * 128 + ve) / 256 % 256 = 128
            simp only [bi]; simp; omega
          have e1 : bt (gre ve pr true false false false su ky sq ak ++ l) 1 = 0 + ve := by
            show (bi true * 32768 + bi false * 8192 + bi false * 4096 + bi false * 128 + ve) % 256 = 0 + ve
            simp only [bi]; simp; omega
          refine ⟨by rw [e0]; decide, by rw [e0]; decide, by rw [e0]; decide, by rw [e0]; decide, by rw [e0]; decide, ?_, by rw [e1]; omega, by show pr / 256 % 256 * 256 + pr % 256 = pr; omega, (by show su / 256 % 256 * 256 + su % 256 = su; omega), (hky rfl).symm, (hsq rfl).symm, (hak rfl).symm, rfl, rfl⟩
          rw [e1, band .u8 1 7 (by omega) (by rw [max_u8]; omega) (by decide) (by decide)]
          show _ = (0 : Int)
          omega
        | true =>
          have e0 : bt (gre ve pr true false false true su ky sq ak ++ l) 0 = 128 := by
            show (bi true * 32768 + bi false * 8192 + bi false * 4096 + bi true * 128 + ve) / 256 % 256 = 128
            simp only [bi]; simp; omega
          have e1 : bt (gre ve pr true false false true su ky sq ak ++ l) 1 = 128 + ve := by
            show (bi true * 32768 + bi false * 8192 + bi false * 4096 + bi true * 128 + ve) % 256 = 128 + ve
            simp only [bi]; simp; omega
          refine ⟨by rw [e0]; decide, by rw [e0]; decide, by rw [e0]; decide, by rw [e0]; decide, by rw [e0]; decide, ?_, by rw [e1]; omega, by show pr / 256 % 256 * 256 + pr % 256 = pr; omega, (by show su / 256 % 256 * 256 + su % 256 = su; omega), (hky rfl).symm, (hsq rfl).symm, (by show ak / 65536 / 256 % 256 * 16777216 + ak / 65536 % 256 * 65536 + ak / 256 % 256 * 256 + ak % 256 = ak; omega), rfl, rfl⟩
          rw [e1, band .u8 1 7 (by omega) (by rw [max_u8]; omega) (by decide) (by decide)]
          show _ = (128 : Int)
          omega
      | true =>
        cases a with
        | false =>
          have e0 : bt (gre ve pr true false true false su ky sq ak ++ l) 0 = 144 := by
            show (bi true * 32768 + bi false * 8192 + bi true * 4096 + bi false * 128 + ve) / 256 % 256 = 144
            simp only [bi]; simp; omega
          have e1 : bt (gre ve pr true false true false su ky sq ak ++ l) 1 = 0 + ve := by
            show (bi true * 32768 + bi false * 8192 + bi true * 4096 + bi false * 128 + ve) % 256 = 0 + ve
            simp only [bi]; simp; omega
          refine ⟨by rw [e0]; decide, by rw [e0]; decide, by rw [e0]; decide, by rw [e0]; decide, by rw [e0]; decide, ?_, by rw [e1]; omega, by show pr / 256 % 256 * 256 + pr % 256 = pr; omega, (by show su / 256 % 256 * 256 + su % 256 = su; omega), (hky rfl).symm, (by show sq / 65536 / 256 % 256 * 16777216 + sq / 65536 % 256 * 65536 + sq / 256 % 256 * 256 + sq % 256 = sq; omega), (hak rfl).symm, rfl, rfl⟩
          rw [e1, band .u8 1 7 (by omega) (by rw [max_u8]; omega) (by decide) (by decide)]
          show _ = (0 : Int)
          omega
        | true =>
          have e0 : bt (gre ve pr true false true true su ky sq ak ++ l) 0 = 144 := by
            show (bi true * 32768 + bi false * 8192 + bi true * 4096 + bi true * 128 + ve) / 256 % 256 = 144
            simp only [bi]; simp; omega
          have e1 : bt (gre ve pr true false true true su ky sq ak ++ l) 1 = 128 + ve := by
            show (bi true * 32768 + bi false * 8192 + bi true * 4096 + bi true * 128 + ve) % 256 = 128 + ve
            simp only [bi]; simp; omega
          refine ⟨by rw [e0]; decide, by rw [e0]; decide, by rw [e0]; decide, by rw [e0]; decide, by rw [e0]; decide, ?_, by rw [e1]; omega, by show pr / 256 % 256 * 256 + pr % 256 = pr; omega, (by show su / 256 % 256 * 256 + su % 256 = su; omega), (hky rfl).symm, (by show sq / 65536 / 256 % 256 * 16777216 + sq / 65536 % 256 * 65536 + sq / 256 % 256 * 256 + sq % 256 = sq; omega), (by show ak / 65536 / 256 % 256 * 16777216 + ak / 65536 % 256 * 65536 + ak / 256 % 256 * 256 + ak % 256 = ak; omega), rfl, rfl⟩
          rw [e1, band .u8 1 7 (by omega) (by rw [max_u8]; omega) (by decide) (by decide)]
          show _ = (128 : Int)
          omega
    | true =>
      cases q with
      | false =>
        cases a with
        | false =>
          have e0 : bt (gre ve pr true true false false su ky sq ak ++ l) 0 = 160 := by
            show (bi true * 32768 + bi true * 8192 + bi false * 4096 + bi false * 128 + ve) / 256 % 256 = 160
            simp only [bi]; simp; omega
          have e1 : bt (gre ve pr true true false false su ky sq ak ++ l) 1 = 0 + ve := by
            show (bi true * 32768 + bi true * 8192 + bi false * 4096 + bi false * 128 + ve) % 256 = 0 + ve
            simp only [bi]; simp; omega
          refine ⟨by rw [e0]; decide, by rw [e0]; decide, by rw [e0]; decide, by rw [e0]; decide, by rw [e0]; decide, ?_, by rw [e1]; omega, by show pr / 256 % 256 * 256 + pr % 256 = pr; omega, (by show su / 256 % 256 * 256 + su % 256 = su; omega), (by show ky / 65536 / 256 % 256 * 16777216 + ky / 65536 % 256 * 65536 + ky / 256 % 256 * 256 + ky % 256 = ky; omega), (hsq rfl).symm, (hak rfl).symm, rfl, rfl⟩
          rw [e1, band .u8 1 7 (by omega) (by rw [max_u8]; omega) (by decide) (by decide)]
          show _ = (0 : Int)
          omega
        | true =>
          have e0 : bt (gre ve pr true true false true su ky sq ak ++ l) 0 = 160 := by
            show (bi true * 32768 + bi true * 8192 + bi false * 4096 + bi true * 128 + ve) / 256 % 256 = 160
            simp only [bi]; simp; omega
          have e1 : bt (gre ve pr true true false true su ky sq ak ++ l) 1 = 128 + ve := by
            show (bi true * 32768 + bi true * 8192 + bi false * 4096 + bi true * 128 + ve) % 256 = 128 + ve
            simp only [bi]; simp; omega
          refine ⟨by rw [e0]; decide, by rw [e0]; decide, by rw [e0]; decide, by rw [e0]; decide, by rw [e0]; decide, ?_, by rw [e1]; omega, by show pr / 256 % 256 * 256 + pr % 256 = pr; omega, (by show su / 256 % 256 * 256 + su % 256 = su; omega), (by show ky / 65536 / 256 % 256 * 16777216 + ky / 65536 % 256 * 65536 + ky / 256 % 256 * 256 + ky % 256 = ky; omega), (hsq rfl).symm, (by show ak / 65536 / 256 % 256 * 16777216 + ak / 65536 % 256 * 65536 + ak / 256 % 256 * 256 + ak % 256 = ak; omega), rfl, rfl⟩
          rw [e1, band .u8 1 7 (by omega) (by rw [max_u8]; omega) (by decide) (by decide)]
          show _ = (128 : Int)
          omega
      | true =>
        cases a with
        | false =>
          have e0 : bt (gre ve pr true true true false su ky sq ak ++ l) 0 = 176 := by
            show (bi true * 32768 + bi true * 8192 + bi true * 4096 + bi false * 128 + ve) / 256 % 256 = 176
            simp only [bi]; simp; omega
          have e1 : bt (gre ve pr true true true false su ky sq ak ++ l) 1 = 0 + ve := by
            show (bi true * 32768 + bi true * 8192 + bi true * 4096 + bi false * 128 + ve) % 256 = 0 + ve
            simp only [bi]; simp; omega
          refine ⟨by rw [e0]; decide, by rw [e0]; decide, by rw [e0]; decide, by rw [e0]; decide, by rw [e0]; decide, ?_, by rw [e1]; omega, by show pr / 256 % 256 * 256 + pr % 256 = pr; omega, (by show su / 256 % 256 * 256 + su % 256 = su; omega), (by show ky / 65536 / 256 % 256 * 16777216 + ky / 65536 % 256 * 65536 + ky / 256 % 256 * 256 + ky % 256 = ky; omega), (by show sq / 65536 / 256 % 256 * 16777216 + sq / 65536 % 256 * 65536 + sq / 256 % 256 * 256 + sq % 256 = sq; omega), (hak rfl).symm, rfl, rfl⟩
          rw [e1, band .u8 1 7 (by omega) (by rw [max_u8]; omega) (by decide) (by decide)]
          show _ = (0 : Int)
          omega
        | true =>
          have e0 : bt (gre ve pr true true true true su ky sq ak ++ l) 0 = 176 := by
            show (bi true * 32768 + bi true * 8192 + bi true * 4096 + bi true * 128 + ve) / 256 % 256 = 176
            simp only [bi]; simp; omega
          have e1 : bt (gre ve pr true true true true su ky sq ak ++ l) 1 = 128 + ve := by
            show (bi true * 32768 + bi true * 8192 + bi true * 4096 + bi true * 128 + ve) % 256 = 128 + ve
            simp only [bi]; simp; omega
          refine ⟨by rw [e0]; decide, by rw [e0]; decide, by rw [e0]; decide, by rw [e0]; decide, by rw [e0]; decide, ?_, by rw [e1]; omega, by show pr / 256 % 256 * 256 + pr % 256 = pr; omega, (by show su / 256 % 256 * 256 + su % 256 = su; omega), (by show ky / 65536 / 256 % 256 * 16777216 + ky / 65536 % 256 * 65536 + ky / 256 % 256 * 256 + ky % 256 = ky; omega), (by show sq / 65536 / 256 % 256 * 16777216 + sq / 65536 % 256 * 65536 + sq / 256 % 256 * 256 + sq % 256 = sq; omega), (by show ak / 65536 / 256 % 256 * 16777216 + ak / 65536 % 256 * 65536 + ak / 256 % 256 * 256 + ak % 256 = ak; omega), rfl, rfl⟩
          rw [e1, band .u8 1 7 (by omega) (by rw [max_u8]; omega) (by decide) (by decide)]
          show _ = (128 : Int)
          omega

theorem ge_le (s k q a : Bool) : ge s k q a ≤ 20 := by cases s <;> cases k <;> cases q <;> cases a <;> decide
theorem isGRE_iff (ve pr : Int) (s k q a : Bool) (su ky sq ak : Int) : isGRE ve pr s k q a su ky sq ak = true ↔ (((s = false → su = 0) ∧ (k = false → ky = 0)) ∧ ((q = false → sq = 0) ∧ (a = false → ak = 0))) ∧ (0 ≤ ve ∧ ve ≤ 7) ∧ (0 ≤ pr ∧ pr ≤ 65535) ∧ (0 ≤ su ∧ su ≤ 65535) ∧ (0 ≤ ky ∧ ky ≤ 4294967295) ∧ (0 ≤ sq ∧ sq ≤ 4294967295) ∧ (0 ≤ ak ∧ ak ≤ 4294967295) := by
  simp only [isGRE, Bool.and_eq_true, Bool.or_eq_true, upto_iff, beq_iff_eq]
  have key : ∀ (f : Bool) (x : Int), (f = true ∨ x = 0) ↔ (f = false → x = 0) := by intro f x; cases f <;> simp
  simp only [key, and_assoc]

set_option maxRecDepth 100000 in
set_option maxHeartbeats 2000000 in
theorem lawGRERead_calls (ve pr : Int) (s k q a : Bool) (su ky sq ak : Int) (a2 : Option Addr) (n2 c2 : Nat) (l : List Int) (w : World) (h : IsB w (.slice a2 n2 c2) l) :
    Calls Try.prog 12 #[.agg #[.int .i64 ve, .int .i64 pr, .bool s, .bool k, .bool q, .bool a, .int .i64 su, .int .i64 ky, .int .i64 sq, .int .i64 ak], .slice a2 n2 c2] w fun e w' => e = .returned (.bool true) ∧ Gr w w' := by
  have g0 := fun ty => h.len (P := Try.prog) 24 ty 5 Try.underlying24
  by_cases hc0 : (l.length : Int) ≤ 2147483647
  case neg =>
    have hd0 := decide_eq_false hc0
    go_enter Try.func12, Try.ntmps12
    go_wp2_with (first
      | (go_at_call 45; refine (isGRE_calls _ _ _ _ _ _ _ _ _ _ _).mono ?_; rintro e w9 ⟨rfl, hg9⟩; obtain ⟨hs9, hc9⟩ := Gr.boxed (w := w) (cs := [.int .i64 ve, .int .i64 pr, .bool s, .bool k, .bool q, .bool a, .int .i64 su, .int .i64 ky, .int .i64 sq, .int .i64 ak]) (t := 77) (w' := w9) (by (repeat (with_reducible first | exact Gr.refl _ | assumption | refine Gr.alloc ?_ _ | refine Gr.drew ?_ | refine Gr.drewN ?_ _ | refine Gr.trans ?_ (by assumption))); done))
      | (go_at_call 16; refine (isPayload_calls _ l _ (IsB.gr (by assumption) (by (repeat (with_reducible first | exact Gr.refl _ | assumption | refine Gr.alloc ?_ _ | refine Gr.drew ?_ | refine Gr.drewN ?_ _ | refine Gr.trans ?_ (by assumption))); done))).mono ?_; rintro e w9 ⟨rfl, rfl⟩))
    go_ret
    exact ⟨rfl, (by (repeat (with_reducible first | exact Gr.refl _ | assumption | refine Gr.alloc ?_ _ | refine Gr.drew ?_ | refine Gr.drewN ?_ _ | refine Gr.trans ?_ (by assumption))); done)⟩
  case pos =>
    cases hc1 : (isGRE ve pr s k q a su ky sq ak : Bool) with
    | false =>
      go_enter Try.func12, Try.ntmps12
      go_wp2_with (first
      | (go_at_call 45; refine (isGRE_calls _ _ _ _ _ _ _ _ _ _ _).mono ?_; rintro e w9 ⟨rfl, hg9⟩; obtain ⟨hs9, hc9⟩ := Gr.boxed (w := w) (cs := [.int .i64 ve, .int .i64 pr, .bool s, .bool k, .bool q, .bool a, .int .i64 su, .int .i64 ky, .int .i64 sq, .int .i64 ak]) (t := 77) (w' := w9) (by (repeat (with_reducible first | exact Gr.refl _ | assumption | refine Gr.alloc ?_ _ | refine Gr.drew ?_ | refine Gr.drewN ?_ _ | refine Gr.trans ?_ (by assumption))); done))
      | (go_at_call 16; refine (isPayload_calls _ l _ (IsB.gr (by assumption) (by (repeat (with_reducible first | exact Gr.refl _ | assumption | refine Gr.alloc ?_ _ | refine Gr.drew ?_ | refine Gr.drewN ?_ _ | refine Gr.trans ?_ (by assumption))); done))).mono ?_; rintro e w9 ⟨rfl, rfl⟩))
      go_ret
      exact ⟨rfl, (by (repeat (with_reducible first | exact Gr.refl _ | assumption | refine Gr.alloc ?_ _ | refine Gr.drew ?_ | refine Gr.drewN ?_ _ | refine Gr.trans ?_ (by assumption))); done)⟩
    | true =>
      cases hc2 : (isPay l : Bool) with
      | false =>
        go_enter Try.func12, Try.ntmps12
        go_wp2_with (first
      | (go_at_call 45; refine (isGRE_calls _ _ _ _ _ _ _ _ _ _ _).mono ?_; rintro e w9 ⟨rfl, hg9⟩; obtain ⟨hs9, hc9⟩ := Gr.boxed (w := w) (cs := [.int .i64 ve, .int .i64 pr, .bool s, .bool k, .bool q, .bool a, .int .i64 su, .int .i64 ky, .int .i64 sq, .int .i64 ak]) (t := 77) (w' := w9) (by (repeat (with_reducible first | exact Gr.refl _ | assumption | refine Gr.alloc ?_ _ | refine Gr.drew ?_ | refine Gr.drewN ?_ _ | refine Gr.trans ?_ (by assumption))); done))
      | (go_at_call 16; refine (isPayload_calls _ l _ (IsB.gr (by assumption) (by (repeat (with_reducible first | exact Gr.refl _ | assumption | refine Gr.alloc ?_ _ | refine Gr.drew ?_ | refine Gr.drewN ?_ _ | refine Gr.trans ?_ (by assumption))); done))).mono ?_; rintro e w9 ⟨rfl, rfl⟩))
        go_ret
        exact ⟨rfl, (by (repeat (with_reducible first | exact Gr.refl _ | assumption | refine Gr.alloc ?_ _ | refine Gr.drew ?_ | refine Gr.drewN ?_ _ | refine Gr.trans ?_ (by assumption))); done)⟩
      | true =>
        obtain ⟨⟨⟨c1, c2⟩, c3, c4⟩, u1, u2, u3, u4, u5, u6⟩ := (isGRE_iff ve pr s k q a su ky sq ak).1 hc1
        have hl2 := isPay_iff.1 hc2
        have X0 := Lib.hid u1
        have hfl : [gre ve pr s k q a su ky sq ak, l].flatten = gre ve pr s k q a su ky sq ak ++ l := by simp
        obtain ⟨f0, f1, f2, f3, f4, f5, x1, x2, x3, x4, x5, x6, x7, hln⟩ := gre_at ve pr s k q a su ky sq ak l u1 u2 u3 u4 u5 u6 c1 c2 c3 c4
        rw [← hfl] at f0 f1 f2 f3 f4 f5 x1 x2 x3 x4 x5 x6 x7
        have hge := ge_le s k q a
        have hlen : [gre ve pr s k q a su ky sq ak, l].flatten.length = ge s k q a + l.length := by rw [hfl, List.length_append, hln]
        have XF := Lib.hid (And.intro f0 (And.intro f1 (And.intro f2 (And.intro f3 (And.intro f4 f5)))))
        have XL := Lib.hid (show [gre ve pr s k q a su ky sq ak, l].flatten.length ≤ 70368744177664 ∧ ge s k q a ≤ [gre ve pr s k q a su ky sq ak, l].flatten.length ∧ [gre ve pr s k q a su ky sq ak, l].flatten.length ≤ 1000000 by rw [hlen]; omega)
        have X1 := Lib.hid x1
        have X2 := Lib.hid x2
        have X3 := Lib.hid x3
        have X4 := Lib.hid x4
        have X5 := Lib.hid x5
        have X6 := Lib.hid x6
        have X7 := Lib.hid x7
        clear x1 x2 x3 x4 x5 x6 x7 f0 f1 f2 f3 f4 f5 hfl hln hlen hge hl2 u1 u2 u3 u4 u5 u6 c1 c2 c3 c4
        go_enter Try.func12, Try.ntmps12
        go_wp2_with (first
      | (go_at_call 45; refine (isGRE_calls _ _ _ _ _ _ _ _ _ _ _).mono ?_; rintro e w9 ⟨rfl, hg9⟩; obtain ⟨hs9, hc9⟩ := Gr.boxed (w := w) (cs := [.int .i64 ve, .int .i64 pr, .bool s, .bool k, .bool q, .bool a, .int .i64 su, .int .i64 ky, .int .i64 sq, .int .i64 ak]) (t := 77) (w' := w9) (by (repeat (with_reducible first | exact Gr.refl _ | assumption | refine Gr.alloc ?_ _ | refine Gr.drew ?_ | refine Gr.drewN ?_ _ | refine Gr.trans ?_ (by assumption))); done))
      | (go_at_call 16; refine (isPayload_calls _ l _ (IsB.gr (by assumption) (by (repeat (with_reducible first | exact Gr.refl _ | assumption | refine Gr.alloc ?_ _ | refine Gr.drew ?_ | refine Gr.drewN ?_ _ | refine Gr.trans ?_ (by assumption))); done))).mono ?_; rintro e w9 ⟨rfl, rfl⟩)
      | (go_at_call 47; refine (gre_calls _ _ _ _ _ _ _ _ _ _ _ X0.out).mono ?_; rintro e w9 ⟨_, _, _, rfl, ho9, hg9⟩; have hb9 := ho9.isB; obtain ⟨hs9, hc9⟩ := Gr.boxed (w := w) (cs := [.int .i64 ve, .int .i64 pr, .bool s, .bool k, .bool q, .bool a, .int .i64 su, .int .i64 ky, .int .i64 sq, .int .i64 ak]) (t := 77) (w' := w9) (by (repeat (with_reducible first | exact Gr.refl _ | assumption | refine Gr.alloc ?_ _ | refine Gr.drew ?_ | refine Gr.drewN ?_ _ | refine Gr.trans ?_ (by assumption))); done))
      | (go_at_call 18; refine (joined_calls _ [gre ve pr s k q a su ky sq ak, l] _ (isBs_at _ _ [gre ve pr s k q a su ky sq ak, l] _ (Reads.cons (IsB.gr (by assumption) (by (repeat (with_reducible first | exact Gr.refl _ | assumption | refine Gr.alloc ?_ _ | refine Gr.drew ?_ | refine Gr.drewN ?_ _ | refine Gr.trans ?_ (by assumption))); done)) (Reads.cons (IsB.gr (by assumption) (by (repeat (with_reducible first | exact Gr.refl _ | assumption | refine Gr.alloc ?_ _ | refine Gr.drew ?_ | refine Gr.drewN ?_ _ | refine Gr.trans ?_ (by assumption))); done)) (Reads.nil _))) _ rfl _ (by simp)) XL.out.1 (by simp)).mono ?_; rintro e w9 ⟨_, _, _, rfl, ho9, hg9⟩; have hb9 := ho9.isB; obtain ⟨hs9, hc9⟩ := Gr.boxed (w := w) (cs := [.int .i64 ve, .int .i64 pr, .bool s, .bool k, .bool q, .bool a, .int .i64 su, .int .i64 ky, .int .i64 sq, .int .i64 ak]) (t := 77) (w' := w9) (by (repeat (with_reducible first | exact Gr.refl _ | assumption | refine Gr.alloc ?_ _ | refine Gr.drew ?_ | refine Gr.drewN ?_ _ | refine Gr.trans ?_ (by assumption))); done))
      | (go_at_call 46; refine (greRead_calls _ _ _ (by assumption) s k q a XL.out.2.1 XF.out.1 XF.out.2.1 XF.out.2.2.1 XF.out.2.2.2.1 XF.out.2.2.2.2.1 XF.out.2.2.2.2.2 XL.out.2.2).mono ?_; rintro e w9 ⟨_, _, _, rfl, hbp, hg9⟩; rw [X1.out, X2.out, X3.out, X4.out, X5.out, X6.out]; rw [X7.out] at hbp; obtain ⟨hs9, hc9⟩ := Gr.boxed (w := w) (cs := [.int .i64 ve, .int .i64 pr, .bool s, .bool k, .bool q, .bool a, .int .i64 su, .int .i64 ky, .int .i64 sq, .int .i64 ak]) (t := 77) (w' := w9) (by (repeat (with_reducible first | exact Gr.refl _ | assumption | refine Gr.alloc ?_ _ | refine Gr.drew ?_ | refine Gr.drewN ?_ _ | refine Gr.trans ?_ (by assumption))); done))
      | (go_at_call 20; refine (same_calls _ _ _ _ _ (IsB.gr (by assumption) (by (repeat (with_reducible first | exact Gr.refl _ | assumption | refine Gr.alloc ?_ _ | refine Gr.drew ?_ | refine Gr.drewN ?_ _ | refine Gr.trans ?_ (by assumption))); done)) (IsB.gr (by assumption) (by (repeat (with_reducible first | exact Gr.refl _ | assumption | refine Gr.alloc ?_ _ | refine Gr.drew ?_ | refine Gr.drewN ?_ _ | refine Gr.trans ?_ (by assumption))); done))).mono ?_; rintro e w9 ⟨rfl, rfl⟩))
        go_ret
        exact ⟨by simp, (by (repeat (with_reducible first | exact Gr.refl _ | assumption | refine Gr.alloc ?_ _ | refine Gr.drew ?_ | refine Gr.drewN ?_ _ | refine Gr.trans ?_ (by assumption))); done)⟩

end Go.Proofs.Ytbdbaapdiklnhaa
