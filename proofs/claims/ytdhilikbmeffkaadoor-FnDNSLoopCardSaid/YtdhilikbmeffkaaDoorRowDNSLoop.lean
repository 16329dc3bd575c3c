/- The statement FnDNSLoop: for every three numbers: a message with one question, of these numbers where each is from 0 to 65535, whose name is a pointer at itself, is an error, and the same message with the root as the name is none; at all other numbers the law answers true at once. -/
import Derived.Test.YtdhilikbmeffkaaDoorLawDNSLoop
import Derived.Test.YtdhilikbmeffkaaDoorDoorVars
import Derived.Test.YtdhilikbmeffkaaDoorCards
import Derived.Test.YtdhilikbmeffkaaDoorTie
import Derived.SevenTiedAt
namespace Go.Proofs.YtdhilikbmeffkaaDoor.dnsLoop
open Go Go.ChangeShapes Go.WideShapes Go.ChangeAt Go.RowKit
open Go.Proofs.YtdhilikbmeffkaaDoor.Door

set_option maxRecDepth 100000 in
theorem door_met (os : Os) (args : Array Value) : laidMetH Tryd.prog Rows.fnDNSLoopRow.laid ((World.doorLaid Tryd.prog 275 os).forCall (fun _ _ => 0) ⟨#[], args, []⟩).memory :=
  laidMetH_of_parts3 (fuel := 8) (laidMet_of_run' 8 (by kernel_rfl) (by kernel_rfl)) (by kernel_rfl) (by kernel_rfl)

set_option maxRecDepth 100000 in
theorem lifted (os : Os) (started : os.Started) (H : Type) (enc : TypeId × Value → H) :
    ReturnsInHanded {} Tryd.checked os 4 .any (fun w args => (Rows.fnDNSLoopSpec.pre enc Tryd.prog Tryd.f4 [] false w args ∧ laidMetH Tryd.prog Rows.fnDNSLoopRow.laid w) ∧ sizedMet enc Tryd.prog Tryd.f4 (OpenSpec.ofChange Rows.fnDNSLoopSpec) false w args)
      (Rows.fnDNSLoopSpec.post enc Tryd.prog Tryd.f4 false true false false) := by
  refine returnsInHanded_of_change_and (C := Tryd.checked) (X := fun w _ => laidMetH Tryd.prog Rows.fnDNSLoopRow.laid w) (fun _ _ _ hh h => h.of_heap hh) own started (by kernel_rfl) Tryd.func4
    (ChangeSpec.witness_shaped (enc := enc) (C := Tryd.checked) (os := os) (X := fun w _ => laidMetH Tryd.prog Rows.fnDNSLoopRow.laid w) false (World.doorLaid Tryd.prog 275 os) #[.int .i64 0, .int .i64 0, .int .i64 0] 8 rfl (World.shaped_of_RefB (by kernel_rfl) (by kernel_rfl)) (by kernel_rfl) (by kernel_rfl) (by kernel_rfl) (door_met os _)) ?_
  intro W base args ds gs before hval0 hW _ _ hL _
  have hval : ∀ (j : Nat) t v, Tryd.f4.params[j]? = some t → args[j]? = some v → Value.okWide Tryd.prog W .any base t v := hval0
  have hW' := hW
  obtain ⟨p, q, hA0, hV0, rfl, hfz, hnd⟩ := hW
  have hA : DataW.TrodAll enc Tryd.prog W 0 (fun _ => true) true Tryd.f4.params.toList args.toList ds p := hA0
  have hV : DataW.TrodVars enc Tryd.prog W (fun _ => true) ["loop.example/pub-g01478/pub/gopacketlayers.errDNSPacketTooShort", "loop.example/pub-g01478/pub/gopacketlayers.errDecodeQueryBadQDCount", "loop.example/pub-g01478/pub/gopacketlayers.errDecodeQueryBadANCount", "loop.example/pub-g01478/pub/gopacketlayers.errDecodeQueryBadNSCount", "loop.example/pub-g01478/pub/gopacketlayers.errDecodeQueryBadARCount", "loop.example/pub-g01478/pub/gopacketlayers.errMaxRecursion", "loop.example/pub-g01478/pub/gopacketlayers.errDNSNameOffsetTooHigh", "loop.example/pub-g01478/pub/gopacketlayers.errDNSNameOffsetNegative", "loop.example/pub-g01478/pub/gopacketlayers.errDNSPointerOffsetTooHigh", "loop.example/pub-g01478/pub/gopacketlayers.errDNSNameTooLong", "loop.example/pub-g01478/pub/gopacketlayers.errDNSNameInvalidIndex", "loop.example/pub-g01478/pub/gopacketlayers.errDNSIndexOutOfRange", "loop.example/pub-g01478/pub/gopacketlayers.errDecodeRecordLength", "loop.example/pub-g01478/pub/gopacketlayers.errCharStringMissData"] gs q := hV0
  rw [Tryd.params4] at hA hval
  replace hL : laidMetH Tryd.prog Rows.fnDNSLoopRow.laid W := hL
  rw [MakeChecks.laidMetH_plain _ _ _ (by kernel_rfl)] at hL
  obtain ⟨x, hx, hH⟩ := vars_laid hL rfl
  obtain ⟨rfl, rfl⟩ := hV.unique (vars_read enc hx _)
  obtain ⟨v0, vs0, d0, ds0, p0, q0, hargs, rfl, rfl, h0, r0⟩ := trodAll_cons hA
  obtain ⟨v1, vs1, d1, ds1, p1, q1, rfl, rfl, rfl, h1, r1⟩ := trodAll_cons r0
  obtain ⟨v2, vs2, d2, ds2, p2, q2, rfl, rfl, rfl, h2, r2⟩ := trodAll_cons r1
  obtain ⟨rfl, rfl, rfl⟩ := trodAll_nil r2
  obtain rfl : args = #[v0, v1, v2] := by cases args; simp_all
  obtain ⟨a0, rfl, rfl, rfl, w0⟩ := open_int Tryd.underlying3 (hval 0 3 v0 rfl rfl) h0
  obtain ⟨a1, rfl, rfl, rfl, w1⟩ := open_int Tryd.underlying3 (hval 1 3 v1 rfl rfl) h1
  obtain ⟨a2, rfl, rfl, rfl, w2⟩ := open_int Tryd.underlying3 (hval 2 3 v2 rfl rfl) h2
  clear hA0 hV0 hval0
  refine (lawDNSLoop_calls a0 a1 a2 W hH).mono fun e W' ⟨he, hg⟩ => ?_
  subst he
  have hx' : VarsAre W' x := hx.gr (fun n cs h => var_gr hg h)
  exact ⟨_, rfl, _, _, _, [], _, [.cell 0 0, .cell 1 0, .cell 2 0, .cell 3 0, .cell 4 0, .cell 6 0, .cell 7 0, .cell 8 0, .cell 11 0, .cell 9 0, .cell 10 0, .cell 12 0, .cell 5 0, .cell 13 0], hW', trodAll_mk1 (shut_bool Tryd.underlying4 _), (trodAll_cons_mk (shut_int Tryd.underlying3 w0) (trodAll_cons_mk (shut_int Tryd.underlying3 w1) (trodAll_cons_mk (shut_int Tryd.underlying3 w2) trodAll_mk0))), vars_read enc hx' _, hg.below.frame _, fun h => by cases h⟩

theorem over : Rows.fnDNSLoopRow.holds Tryd.pinned (OpenSpec.ofChange Rows.fnDNSLoopSpec) :=
  OpenClaim.holds_of_wide 4 Tryd.f4 rfl rfl rfl rfl rfl rfl rfl ⟨rfl, rfl, rfl, rfl, rfl⟩ rfl rfl rfl rfl rfl (by kernel_rfl) Tryd.func4 (by kernel_rfl)
    (of_decide_eq_true (by kernel_rfl)) (by unfold Func.isWrapper; first | (rw [if_pos (by decide +kernel)]; kernel_rfl) | (rw [if_neg (by decide +kernel)]; exact ⟨rfl, rfl⟩))
    (fun os started H enc _ => lifted os started H enc)

/-- the statement -/
theorem proved : Rows.FnDNSLoopCardSaid :=
  Claim7.holds_tied_plain_at .later [] Rows.fnDNSLoopCard.laidKinds true Rows.fnDNSLoopCard.stood.harness false
    over (fun _ h => by cases h) (by kernel_rfl) (fun _ h => by cases h) fnDNSLoop_row_tie rfl ⟨rfl, rfl⟩ (by kernel_rfl) rfl
    (fun f fn hf hfn => by
      obtain rfl : f = 4 := Option.some.inj ((show Tryd.prog.funcNamed "loop.example/pub-g01478/laws.FnDNSLoop" = some 4 by kernel_rfl).symm.trans hf) |>.symm
      obtain rfl : fn = Tryd.f4 := (Option.some.inj (Tryd.func4.symm.trans hfn)).symm
      exact ⟨by kernel_rfl, fun j t ht => by
        rw [Tryd.params4] at ht
        have hm : t ∈ [3, 3, 3] := by simpa using Array.mem_of_getElem? ht
        have hall : ([3, 3, 3].all fun u => !Tryd.prog.wantsStandIn u) = true := by kernel_rfl
        exact (show Tryd.prog.wantsStandIn t = false by simpa using List.all_eq_true.1 hall t hm)⟩)
    (by kernel_rfl)
#print axioms proved
end Go.Proofs.YtdhilikbmeffkaaDoor.dnsLoop
