/-
  What the listed variables of the package hold when the call begins; how they are read again behind it.
-/
import Derived.Test.YtdhilikbmeffkaaDoorLib
import Derived.Test.YtdhilikbmeffkaaDoorRows
import Derived.WalkKit
import Derived.ProofKit
import Derived.OpenShut
import Derived.LaidMore
import Derived.Stop.Joined
import Derived.Stop.LaidErr
namespace Go.Proofs.YtdhilikbmeffkaaDoor.Door
open Go Go.ChangeShapes Go.WideShapes Go.ChangeAt Go.RowKit

theorem own : ownKnob Tryd.prog.godebug = none := by kernel_rfl
theorem star : "*" ++ "errors.errorString" = "*errors.errorString" := by decide
theorem rowPE (u : TypeId) (h : Tryd.prog.typeName? 3 u = some "*errors.errorString") : u = 119 :=
  typeName_ptr_named (nm := "errors.errorString") (by rw [star]; kernel_rfl) (by kernel_rfl) (by decide) u (by rw [star]; exact h)
theorem cellsES : Tryd.prog.cellsOf 121 = 1 := by kernel_rfl
theorem cellsST : Tryd.prog.cellsOf 9 = 1 := by kernel_rfl
theorem g0 : Tryd.prog.globalNamed "loop.example/pub-g01478/pub/gopacketlayers.errDNSPacketTooShort" = some 0 := by kernel_rfl
theorem t0 : (Tryd.prog.globals[0]?).map (·.type) = some 69 := by kernel_rfl
theorem g1 : Tryd.prog.globalNamed "loop.example/pub-g01478/pub/gopacketlayers.errDecodeQueryBadQDCount" = some 1 := by kernel_rfl
theorem t1 : (Tryd.prog.globals[1]?).map (·.type) = some 69 := by kernel_rfl
theorem g2 : Tryd.prog.globalNamed "loop.example/pub-g01478/pub/gopacketlayers.errDecodeQueryBadANCount" = some 2 := by kernel_rfl
theorem t2 : (Tryd.prog.globals[2]?).map (·.type) = some 69 := by kernel_rfl
theorem g3 : Tryd.prog.globalNamed "loop.example/pub-g01478/pub/gopacketlayers.errDecodeQueryBadNSCount" = some 3 := by kernel_rfl
theorem t3 : (Tryd.prog.globals[3]?).map (·.type) = some 69 := by kernel_rfl
theorem g4 : Tryd.prog.globalNamed "loop.example/pub-g01478/pub/gopacketlayers.errDecodeQueryBadARCount" = some 4 := by kernel_rfl
theorem t4 : (Tryd.prog.globals[4]?).map (·.type) = some 69 := by kernel_rfl
theorem g6 : Tryd.prog.globalNamed "loop.example/pub-g01478/pub/gopacketlayers.errMaxRecursion" = some 6 := by kernel_rfl
theorem t6 : (Tryd.prog.globals[6]?).map (·.type) = some 69 := by kernel_rfl
theorem g7 : Tryd.prog.globalNamed "loop.example/pub-g01478/pub/gopacketlayers.errDNSNameOffsetTooHigh" = some 7 := by kernel_rfl
theorem t7 : (Tryd.prog.globals[7]?).map (·.type) = some 69 := by kernel_rfl
theorem g8 : Tryd.prog.globalNamed "loop.example/pub-g01478/pub/gopacketlayers.errDNSNameOffsetNegative" = some 8 := by kernel_rfl
theorem t8 : (Tryd.prog.globals[8]?).map (·.type) = some 69 := by kernel_rfl
theorem g11 : Tryd.prog.globalNamed "loop.example/pub-g01478/pub/gopacketlayers.errDNSPointerOffsetTooHigh" = some 11 := by kernel_rfl
theorem t11 : (Tryd.prog.globals[11]?).map (·.type) = some 69 := by kernel_rfl
theorem g9 : Tryd.prog.globalNamed "loop.example/pub-g01478/pub/gopacketlayers.errDNSNameTooLong" = some 9 := by kernel_rfl
theorem t9 : (Tryd.prog.globals[9]?).map (·.type) = some 69 := by kernel_rfl
theorem g10 : Tryd.prog.globalNamed "loop.example/pub-g01478/pub/gopacketlayers.errDNSNameInvalidIndex" = some 10 := by kernel_rfl
theorem t10 : (Tryd.prog.globals[10]?).map (·.type) = some 69 := by kernel_rfl
theorem g12 : Tryd.prog.globalNamed "loop.example/pub-g01478/pub/gopacketlayers.errDNSIndexOutOfRange" = some 12 := by kernel_rfl
theorem t12 : (Tryd.prog.globals[12]?).map (·.type) = some 69 := by kernel_rfl
theorem g5 : Tryd.prog.globalNamed "loop.example/pub-g01478/pub/gopacketlayers.errDecodeRecordLength" = some 5 := by kernel_rfl
theorem t5 : (Tryd.prog.globals[5]?).map (·.type) = some 69 := by kernel_rfl
theorem g13 : Tryd.prog.globalNamed "loop.example/pub-g01478/pub/gopacketlayers.errCharStringMissData" = some 13 := by kernel_rfl
theorem t13 : (Tryd.prog.globals[13]?).map (·.type) = some 69 := by kernel_rfl

/-- each listed variable holds an error -/
def Held (W : World) : Prop := ∀ g, g < 14 → ∃ a : Addr, W.cell? ⟨g, 0, none⟩ = some (.iface 119 (.pointer (some a)))
/-- the variables, each with the error that it holds -/
def VarsAre (W : World) (x : Nat → Value) : Prop := (∀ g, g < 14 → IsIface (x g)) ∧ W.var? Tryd.prog "loop.example/pub-g01478/pub/gopacketlayers.errDNSPacketTooShort" = some #[x 0] ∧ W.var? Tryd.prog "loop.example/pub-g01478/pub/gopacketlayers.errDecodeQueryBadQDCount" = some #[x 1] ∧ W.var? Tryd.prog "loop.example/pub-g01478/pub/gopacketlayers.errDecodeQueryBadANCount" = some #[x 2] ∧ W.var? Tryd.prog "loop.example/pub-g01478/pub/gopacketlayers.errDecodeQueryBadNSCount" = some #[x 3] ∧ W.var? Tryd.prog "loop.example/pub-g01478/pub/gopacketlayers.errDecodeQueryBadARCount" = some #[x 4] ∧ W.var? Tryd.prog "loop.example/pub-g01478/pub/gopacketlayers.errMaxRecursion" = some #[x 6] ∧ W.var? Tryd.prog "loop.example/pub-g01478/pub/gopacketlayers.errDNSNameOffsetTooHigh" = some #[x 7] ∧ W.var? Tryd.prog "loop.example/pub-g01478/pub/gopacketlayers.errDNSNameOffsetNegative" = some #[x 8] ∧ W.var? Tryd.prog "loop.example/pub-g01478/pub/gopacketlayers.errDNSPointerOffsetTooHigh" = some #[x 11] ∧ W.var? Tryd.prog "loop.example/pub-g01478/pub/gopacketlayers.errDNSNameTooLong" = some #[x 9] ∧ W.var? Tryd.prog "loop.example/pub-g01478/pub/gopacketlayers.errDNSNameInvalidIndex" = some #[x 10] ∧ W.var? Tryd.prog "loop.example/pub-g01478/pub/gopacketlayers.errDNSIndexOutOfRange" = some #[x 12] ∧ W.var? Tryd.prog "loop.example/pub-g01478/pub/gopacketlayers.errDecodeRecordLength" = some #[x 5] ∧ W.var? Tryd.prog "loop.example/pub-g01478/pub/gopacketlayers.errCharStringMissData" = some #[x 13]
theorem vars_read {H : Type} (enc : TypeId × Value → H) {W : World} {x : Nat → Value} (h : VarsAre W x) (sp : Nat → Bool) :
    DataW.TrodVars enc Tryd.prog W sp ["loop.example/pub-g01478/pub/gopacketlayers.errDNSPacketTooShort", "loop.example/pub-g01478/pub/gopacketlayers.errDecodeQueryBadQDCount", "loop.example/pub-g01478/pub/gopacketlayers.errDecodeQueryBadANCount", "loop.example/pub-g01478/pub/gopacketlayers.errDecodeQueryBadNSCount", "loop.example/pub-g01478/pub/gopacketlayers.errDecodeQueryBadARCount", "loop.example/pub-g01478/pub/gopacketlayers.errMaxRecursion", "loop.example/pub-g01478/pub/gopacketlayers.errDNSNameOffsetTooHigh", "loop.example/pub-g01478/pub/gopacketlayers.errDNSNameOffsetNegative", "loop.example/pub-g01478/pub/gopacketlayers.errDNSPointerOffsetTooHigh", "loop.example/pub-g01478/pub/gopacketlayers.errDNSNameTooLong", "loop.example/pub-g01478/pub/gopacketlayers.errDNSNameInvalidIndex", "loop.example/pub-g01478/pub/gopacketlayers.errDNSIndexOutOfRange", "loop.example/pub-g01478/pub/gopacketlayers.errDecodeRecordLength", "loop.example/pub-g01478/pub/gopacketlayers.errCharStringMissData"] [tok enc (x 0), tok enc (x 1), tok enc (x 2), tok enc (x 3), tok enc (x 4), tok enc (x 6), tok enc (x 7), tok enc (x 8), tok enc (x 11), tok enc (x 9), tok enc (x 10), tok enc (x 12), tok enc (x 5), tok enc (x 13)] [.cell 0 0, .cell 1 0, .cell 2 0, .cell 3 0, .cell 4 0, .cell 6 0, .cell 7 0, .cell 8 0, .cell 11 0, .cell 9 0, .cell 10 0, .cell 12 0, .cell 5 0, .cell 13 0] := by
  obtain ⟨hi, h0, h1, h2, h3, h4, h6, h7, h8, h11, h9, h10, h12, h5, h13⟩ := h
  exact ⟨0, 69, #[x 0], 1, [], [.cell 1 0, .cell 2 0, .cell 3 0, .cell 4 0, .cell 6 0, .cell 7 0, .cell 8 0, .cell 11 0, .cell 9 0, .cell 10 0, .cell 12 0, .cell 5 0, .cell 13 0], g0, t0, h0, trod_held Tryd.underlying69 (hi 0 (by decide)) 0, ⟨1, 69, #[x 1], 1, [], [.cell 2 0, .cell 3 0, .cell 4 0, .cell 6 0, .cell 7 0, .cell 8 0, .cell 11 0, .cell 9 0, .cell 10 0, .cell 12 0, .cell 5 0, .cell 13 0], g1, t1, h1, trod_held Tryd.underlying69 (hi 1 (by decide)) 0, ⟨2, 69, #[x 2], 1, [], [.cell 3 0, .cell 4 0, .cell 6 0, .cell 7 0, .cell 8 0, .cell 11 0, .cell 9 0, .cell 10 0, .cell 12 0, .cell 5 0, .cell 13 0], g2, t2, h2, trod_held Tryd.underlying69 (hi 2 (by decide)) 0, ⟨3, 69, #[x 3], 1, [], [.cell 4 0, .cell 6 0, .cell 7 0, .cell 8 0, .cell 11 0, .cell 9 0, .cell 10 0, .cell 12 0, .cell 5 0, .cell 13 0], g3, t3, h3, trod_held Tryd.underlying69 (hi 3 (by decide)) 0, ⟨4, 69, #[x 4], 1, [], [.cell 6 0, .cell 7 0, .cell 8 0, .cell 11 0, .cell 9 0, .cell 10 0, .cell 12 0, .cell 5 0, .cell 13 0], g4, t4, h4, trod_held Tryd.underlying69 (hi 4 (by decide)) 0, ⟨6, 69, #[x 6], 1, [], [.cell 7 0, .cell 8 0, .cell 11 0, .cell 9 0, .cell 10 0, .cell 12 0, .cell 5 0, .cell 13 0], g6, t6, h6, trod_held Tryd.underlying69 (hi 6 (by decide)) 0, ⟨7, 69, #[x 7], 1, [], [.cell 8 0, .cell 11 0, .cell 9 0, .cell 10 0, .cell 12 0, .cell 5 0, .cell 13 0], g7, t7, h7, trod_held Tryd.underlying69 (hi 7 (by decide)) 0, ⟨8, 69, #[x 8], 1, [], [.cell 11 0, .cell 9 0, .cell 10 0, .cell 12 0, .cell 5 0, .cell 13 0], g8, t8, h8, trod_held Tryd.underlying69 (hi 8 (by decide)) 0, ⟨11, 69, #[x 11], 1, [], [.cell 9 0, .cell 10 0, .cell 12 0, .cell 5 0, .cell 13 0], g11, t11, h11, trod_held Tryd.underlying69 (hi 11 (by decide)) 0, ⟨9, 69, #[x 9], 1, [], [.cell 10 0, .cell 12 0, .cell 5 0, .cell 13 0], g9, t9, h9, trod_held Tryd.underlying69 (hi 9 (by decide)) 0, ⟨10, 69, #[x 10], 1, [], [.cell 12 0, .cell 5 0, .cell 13 0], g10, t10, h10, trod_held Tryd.underlying69 (hi 10 (by decide)) 0, ⟨12, 69, #[x 12], 1, [], [.cell 5 0, .cell 13 0], g12, t12, h12, trod_held Tryd.underlying69 (hi 12 (by decide)) 0, ⟨5, 69, #[x 5], 1, [], [.cell 13 0], g5, t5, h5, trod_held Tryd.underlying69 (hi 5 (by decide)) 0, ⟨13, 69, #[x 13], 1, [], [], g13, t13, h13, trod_held Tryd.underlying69 (hi 13 (by decide)) 0, rfl, rfl⟩, rfl⟩, rfl⟩, rfl⟩, rfl⟩, rfl⟩, rfl⟩, rfl⟩, rfl⟩, rfl⟩, rfl⟩, rfl⟩, rfl⟩, rfl⟩
theorem VarsAre.gr {W W' : World} {x : Nat → Value} (h : VarsAre W x) (hk : ∀ (n : String) (cs : Array Value), W.var? Tryd.prog n = some cs → W'.var? Tryd.prog n = some cs) : VarsAre W' x := by
  obtain ⟨hi, h0, h1, h2, h3, h4, h6, h7, h8, h11, h9, h10, h12, h5, h13⟩ := h
  exact ⟨hi, hk _ _ h0, hk _ _ h1, hk _ _ h2, hk _ _ h3, hk _ _ h4, hk _ _ h6, hk _ _ h7, hk _ _ h8, hk _ _ h11, hk _ _ h9, hk _ _ h10, hk _ _ h12, hk _ _ h5, hk _ _ h13⟩
theorem vars_laid {W : World} {L : List (String × DataW Unit)} (hL : laidMet Tryd.prog L W) (hE : L = [("loop.example/pub-g01478/pub/gopacketlayers.errMaxRecursion", Rows.laid_loop_example_pub_g01478_pub_gopacketlayers_errMaxRecursion), ("loop.example/pub-g01478/pub/gopacketlayers.errDNSNameOffsetTooHigh", Rows.laid_loop_example_pub_g01478_pub_gopacketlayers_errDNSNameOffsetTooHigh), ("loop.example/pub-g01478/pub/gopacketlayers.errDNSNameOffsetNegative", Rows.laid_loop_example_pub_g01478_pub_gopacketlayers_errDNSNameOffsetNegative), ("loop.example/pub-g01478/pub/gopacketlayers.errDNSPacketTooShort", Rows.laid_loop_example_pub_g01478_pub_gopacketlayers_errDNSPacketTooShort), ("loop.example/pub-g01478/pub/gopacketlayers.errDNSNameTooLong", Rows.laid_loop_example_pub_g01478_pub_gopacketlayers_errDNSNameTooLong), ("loop.example/pub-g01478/pub/gopacketlayers.errDNSNameInvalidIndex", Rows.laid_loop_example_pub_g01478_pub_gopacketlayers_errDNSNameInvalidIndex), ("loop.example/pub-g01478/pub/gopacketlayers.errDNSPointerOffsetTooHigh", Rows.laid_loop_example_pub_g01478_pub_gopacketlayers_errDNSPointerOffsetTooHigh), ("loop.example/pub-g01478/pub/gopacketlayers.errDNSIndexOutOfRange", Rows.laid_loop_example_pub_g01478_pub_gopacketlayers_errDNSIndexOutOfRange), ("loop.example/pub-g01478/pub/gopacketlayers.errCharStringMissData", Rows.laid_loop_example_pub_g01478_pub_gopacketlayers_errCharStringMissData), ("loop.example/pub-g01478/pub/gopacketlayers.errDecodeRecordLength", Rows.laid_loop_example_pub_g01478_pub_gopacketlayers_errDecodeRecordLength), ("loop.example/pub-g01478/pub/gopacketlayers.errDecodeQueryBadQDCount", Rows.laid_loop_example_pub_g01478_pub_gopacketlayers_errDecodeQueryBadQDCount), ("loop.example/pub-g01478/pub/gopacketlayers.errDecodeQueryBadANCount", Rows.laid_loop_example_pub_g01478_pub_gopacketlayers_errDecodeQueryBadANCount), ("loop.example/pub-g01478/pub/gopacketlayers.errDecodeQueryBadNSCount", Rows.laid_loop_example_pub_g01478_pub_gopacketlayers_errDecodeQueryBadNSCount), ("loop.example/pub-g01478/pub/gopacketlayers.errDecodeQueryBadARCount", Rows.laid_loop_example_pub_g01478_pub_gopacketlayers_errDecodeQueryBadARCount)]) : ∃ x : Nat → Value, VarsAre W x ∧ Held W := by
  subst hE
  obtain ⟨a6, s6, h6, -⟩ := laid_sentinel (hL) g6 t6 Tryd.underlying69 rowPE Tryd.underlying119 Tryd.underlying121 rfl rfl Tryd.underlying9 cellsES cellsST
  obtain ⟨a7, s7, h7, -⟩ := laid_sentinel (hL.tail) g7 t7 Tryd.underlying69 rowPE Tryd.underlying119 Tryd.underlying121 rfl rfl Tryd.underlying9 cellsES cellsST
  obtain ⟨a8, s8, h8, -⟩ := laid_sentinel (hL.tail.tail) g8 t8 Tryd.underlying69 rowPE Tryd.underlying119 Tryd.underlying121 rfl rfl Tryd.underlying9 cellsES cellsST
  obtain ⟨a0, s0, h0, -⟩ := laid_sentinel (hL.tail.tail.tail) g0 t0 Tryd.underlying69 rowPE Tryd.underlying119 Tryd.underlying121 rfl rfl Tryd.underlying9 cellsES cellsST
  obtain ⟨a9, s9, h9, -⟩ := laid_sentinel (hL.tail.tail.tail.tail) g9 t9 Tryd.underlying69 rowPE Tryd.underlying119 Tryd.underlying121 rfl rfl Tryd.underlying9 cellsES cellsST
  obtain ⟨a10, s10, h10, -⟩ := laid_sentinel (hL.tail.tail.tail.tail.tail) g10 t10 Tryd.underlying69 rowPE Tryd.underlying119 Tryd.underlying121 rfl rfl Tryd.underlying9 cellsES cellsST
  obtain ⟨a11, s11, h11, -⟩ := laid_sentinel (hL.tail.tail.tail.tail.tail.tail) g11 t11 Tryd.underlying69 rowPE Tryd.underlying119 Tryd.underlying121 rfl rfl Tryd.underlying9 cellsES cellsST
  obtain ⟨a12, s12, h12, -⟩ := laid_sentinel (hL.tail.tail.tail.tail.tail.tail.tail) g12 t12 Tryd.underlying69 rowPE Tryd.underlying119 Tryd.underlying121 rfl rfl Tryd.underlying9 cellsES cellsST
  obtain ⟨a13, s13, h13, -⟩ := laid_sentinel (hL.tail.tail.tail.tail.tail.tail.tail.tail) g13 t13 Tryd.underlying69 rowPE Tryd.underlying119 Tryd.underlying121 rfl rfl Tryd.underlying9 cellsES cellsST
  obtain ⟨a5, s5, h5, -⟩ := laid_sentinel (hL.tail.tail.tail.tail.tail.tail.tail.tail.tail) g5 t5 Tryd.underlying69 rowPE Tryd.underlying119 Tryd.underlying121 rfl rfl Tryd.underlying9 cellsES cellsST
  obtain ⟨a1, s1, h1, -⟩ := laid_sentinel (hL.tail.tail.tail.tail.tail.tail.tail.tail.tail.tail) g1 t1 Tryd.underlying69 rowPE Tryd.underlying119 Tryd.underlying121 rfl rfl Tryd.underlying9 cellsES cellsST
  obtain ⟨a2, s2, h2, -⟩ := laid_sentinel (hL.tail.tail.tail.tail.tail.tail.tail.tail.tail.tail.tail) g2 t2 Tryd.underlying69 rowPE Tryd.underlying119 Tryd.underlying121 rfl rfl Tryd.underlying9 cellsES cellsST
  obtain ⟨a3, s3, h3, -⟩ := laid_sentinel (hL.tail.tail.tail.tail.tail.tail.tail.tail.tail.tail.tail.tail) g3 t3 Tryd.underlying69 rowPE Tryd.underlying119 Tryd.underlying121 rfl rfl Tryd.underlying9 cellsES cellsST
  obtain ⟨a4, s4, h4, -⟩ := laid_sentinel (hL.tail.tail.tail.tail.tail.tail.tail.tail.tail.tail.tail.tail.tail) g4 t4 Tryd.underlying69 rowPE Tryd.underlying119 Tryd.underlying121 rfl rfl Tryd.underlying9 cellsES cellsST
  refine ⟨fun g => .iface 119 (.pointer (some ([a0, a1, a2, a3, a4, a5, a6, a7, a8, a9, a10, a11, a12, a13].getD g a0))), ⟨fun g _ => trivial, h0, h1, h2, h3, h4, h6, h7, h8, h11, h9, h10, h12, h5, h13⟩, fun g hg => ?_⟩
  match g, hg with
  | 0, _ => exact ⟨a0, by simpa using World.var?_cell g0 h0 0⟩
  | 1, _ => exact ⟨a1, by simpa using World.var?_cell g1 h1 0⟩
  | 2, _ => exact ⟨a2, by simpa using World.var?_cell g2 h2 0⟩
  | 3, _ => exact ⟨a3, by simpa using World.var?_cell g3 h3 0⟩
  | 4, _ => exact ⟨a4, by simpa using World.var?_cell g4 h4 0⟩
  | 5, _ => exact ⟨a5, by simpa using World.var?_cell g5 h5 0⟩
  | 6, _ => exact ⟨a6, by simpa using World.var?_cell g6 h6 0⟩
  | 7, _ => exact ⟨a7, by simpa using World.var?_cell g7 h7 0⟩
  | 8, _ => exact ⟨a8, by simpa using World.var?_cell g8 h8 0⟩
  | 9, _ => exact ⟨a9, by simpa using World.var?_cell g9 h9 0⟩
  | 10, _ => exact ⟨a10, by simpa using World.var?_cell g10 h10 0⟩
  | 11, _ => exact ⟨a11, by simpa using World.var?_cell g11 h11 0⟩
  | 12, _ => exact ⟨a12, by simpa using World.var?_cell g12 h12 0⟩
  | 13, _ => exact ⟨a13, by simpa using World.var?_cell g13 h13 0⟩
theorem var_gr {W W' : World} (hg : Gr W W') {n : String} {cs : Array Value} (h : W.var? Tryd.prog n = some cs) : W'.var? Tryd.prog n = some cs := by
  unfold World.var? at h ⊢
  cases hn : Tryd.prog.globalNamed n with
  | none => simp [hn] at h
  | some g =>
    simp only [hn, Option.bind_some] at h ⊢
    have hlt : g < W.heap.size := by
      rcases Nat.lt_or_ge g W.heap.size with h' | h'
      · exact h'
      · simp [Array.getElem?_eq_none h'] at h
    rw [hg.block g hlt (by simp)]
    exact h
end Go.Proofs.YtdhilikbmeffkaaDoor.Door
