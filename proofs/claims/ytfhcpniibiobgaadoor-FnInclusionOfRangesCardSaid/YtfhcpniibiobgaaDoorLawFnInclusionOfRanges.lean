/- The law FnInclusionOfRanges, for every input: true, its tables laid as the program's text lays them; and the tied card. Conditions: none. -/
import Derived.Test.YtfhcpniibiobgaaDoorRows
import Derived.Test.YtfhcpniibiobgaaDoorTie
import Derived.Test.YtfhcpniibiobgaaDoorCards
import Derived.Test.YtfhcpniibiobgaaDoorOp
import Derived.Test.YtfhcpniibiobgaaDoorLaid
import Derived.Test.YtfhcpniibiobgaaDoorPureFnInclusionOfRanges
import Derived.WalkKit
import Derived.ProofKit
import Derived.OpenShut
import Derived.ShutString
import Derived.ChangeOld
import Derived.Below
import Derived.SizedLaws
import Derived.SevenTiedAt
import Derived.LaidMore
import Derived.Lay
import Derived.MakeChecks
import Derived.Stop.Joined
namespace Go.Proofs.YtfhcpniibiobgaaDoor.fnInclusionOfRanges
open Go.ChangeShapes Go.WideShapes Go.ChangeAt Go.RowKit
open Go.ChangeMaps (open_string shut_string)
open Go.Proofs.YtfhcpniibiobgaaDoorW
theorem own : ownKnob Tryd.prog.godebug = none := by kernel_rfl
theorem laidOut : laidOutB Tryd.prog = true := by kernel_rfl
theorem door_met (os : Os) (args : Array Value) : laidMetH Tryd.prog Rows.fnInclusionOfRangesRow.laid ((World.laidAll Tryd.prog os Rows.fnInclusionOfRangesRow.laid).forCall (fun _ _ => 0) ⟨#[], args, []⟩).memory := by
  rw [MakeChecks.laidMetH_plain _ _ _ (by kernel_rfl)]
  exact laidMet_laidAll _ (by kernel_rfl) (by kernel_rfl)
theorem start_shaped (os : Os) : ((World.laidAll Tryd.prog os Rows.fnInclusionOfRangesRow.laid).forCall (fun _ _ => 0) ⟨#[], #[.agg #[.int .i64 0, .int .i64 0, .int .i64 0, .int .u64 0, .int .u64 0, .int .u64 0], .agg #[.int .u64 0, .int .u64 0, .slice none 0 0], .slice none 0 0, .agg #[.int .u64 0, .int .u64 0, .slice none 0 0]], []⟩).Shaped Tryd.prog := World.shaped_of_ZipB (by kernel_rfl) (by kernel_rfl)
set_option maxRecDepth 100000 in
theorem lifted (os : Os) (started : os.Started) (H : Type) (enc : TypeId × Value → H) :
    ReturnsInHanded {} Tryd.checked os 12 .any (fun w args => (Rows.fnInclusionOfRangesSpec.pre enc Tryd.prog Tryd.f12 [] false w args ∧ laidMetH Tryd.prog Rows.fnInclusionOfRangesRow.laid w) ∧ sizedMet enc Tryd.prog Tryd.f12 (OpenSpec.ofChange Rows.fnInclusionOfRangesSpec) false w args)
      (Rows.fnInclusionOfRangesSpec.post enc Tryd.prog Tryd.f12 false true false false) := by
  refine returnsInHanded_of_change_and (C := Tryd.checked) (X := fun w _ => laidMetH Tryd.prog Rows.fnInclusionOfRangesRow.laid w) (fun _ _ _ hh h => h.of_heap hh) own started (by kernel_rfl) Tryd.func12
    (ChangeSpec.witness_shaped (enc := enc) (C := Tryd.checked) (os := os) (X := fun w _ => laidMetH Tryd.prog Rows.fnInclusionOfRangesRow.laid w) false (World.laidAll Tryd.prog os Rows.fnInclusionOfRangesRow.laid) #[.agg #[.int .i64 0, .int .i64 0, .int .i64 0, .int .u64 0, .int .u64 0, .int .u64 0], .agg #[.int .u64 0, .int .u64 0, .slice none 0 0], .slice none 0 0, .agg #[.int .u64 0, .int .u64 0, .slice none 0 0]] 8 (World.laidAll_os _ _ _) (start_shaped os) (by kernel_rfl) (by kernel_rfl) (by kernel_rfl) (door_met os _)) ?_
  intro W base args ds gs before hval0 hW _ hsz0 hL _
  have hval : ∀ (j : Nat) t v, Tryd.f12.params[j]? = some t → args[j]? = some v → Value.okWide Tryd.prog W .any base t v := hval0
  have hW' := hW
  obtain ⟨p, q, hA0, hV, rfl, hfz, hnd⟩ := hW
  have hA : DataW.TrodAll enc Tryd.prog W 0 (fun _ => true) true Tryd.f12.params.toList args.toList ds p := hA0
  rw [Tryd.params12] at hA hval
  obtain ⟨v0, vs0, d0, ds0, p0, q0, hargs, rfl, rfl, h0, r0⟩ := trodAll_cons hA
  obtain ⟨v1, vs1, d1, ds1, p1, q1, rfl, rfl, rfl, h1, r1⟩ := trodAll_cons r0
  obtain ⟨v2, vs2, d2, ds2, p2, q2, rfl, rfl, rfl, h2, r2⟩ := trodAll_cons r1
  obtain ⟨v3, vs3, d3, ds3, p3, q3, rfl, rfl, rfl, h3, r3⟩ := trodAll_cons r2
  obtain ⟨rfl, rfl, rfl⟩ := trodAll_nil r3
  obtain rfl : args = #[v0, v1, v2, v3] := by cases args; simp_all
  obtain ⟨rfl, rfl⟩ := trodVars_none hV
  have lt : ∀ {t v d p}, DataW.Trod enc Tryd.prog W 0 (fun _ => true) true t v d p → ∀ x ∈ p, x.block < W.heap.size := fun h => by obtain ⟨m, hm⟩ := h; exact DataW.trod_lt m _ _ _ hm
  have l0 := lt h0
  have k0 := h0
  obtain ⟨h0_0, h0_1, h0_2, h0_3, h0_4, h0_5, rfl, u0_0, u0_1, u0_2, u0_3, u0_4, u0_5⟩ := Hs.open_hasher (hval 0 24 v0 rfl rfl) h0
  have l1 := lt h1
  have k1 := h1
  obtain ⟨g1_b, g1_e, A1, c1, b1, rfl, x1_b, x1_e, e1, C1, f1⟩ := Hs.open_range (hval 1 35 v1 rfl rfl) h1
  have l2 := lt h2
  have k2 := h2
  obtain ⟨A2, c2, b2, rfl, e2, C2, f2⟩ := Hs.open_bytes (hval 2 28 v2 rfl rfl) h2
  have l3 := lt h3
  have k3 := h3
  obtain ⟨g3_b, g3_e, A3, c3, b3, rfl, x3_b, x3_e, e3, C3, f3⟩ := Hs.open_range (hval 3 35 v3 rfl rfl) h3
  have hL2 : laidMet Tryd.prog Rows.fnInclusionOfRangesRow.laid W := by rw [← MakeChecks.laidMetH_plain _ _ _ (by kernel_rfl)]; exact hL
  have HG : Glob W := glob_of_met hL2
  clear hA0 hval0 hsz0
  refine (Pure.inclusionOfRanges h0_0 h0_1 h0_2 h0_3 h0_4 h0_5 g1_b g1_e A1 c1 b1 A2 c2 b2 g3_b g3_e A3 c3 b3 W x1_b x1_e C1 e1 C2 e2 x3_b x3_e C3 e3 HG).mono fun e W' ⟨he, bel⟩ => ?_
  subst he
  exact ⟨_, rfl, _, _, _, [], _, [], hW', trodAll_mk1 (shut_bool Tryd.underlying4 _), (trodAll_cons_mk (Below.trod laidOut (by kernel_rfl) (of_decide_eq_true (by kernel_rfl)) k0 bel l0) (trodAll_cons_mk (Below.trod laidOut (by kernel_rfl) (of_decide_eq_true (by kernel_rfl)) k1 bel l1) (trodAll_cons_mk (Below.trod laidOut (by kernel_rfl) (of_decide_eq_true (by kernel_rfl)) k2 bel l2) (trodAll_cons_mk (Below.trod laidOut (by kernel_rfl) (of_decide_eq_true (by kernel_rfl)) k3 bel l3) trodAll_mk0)))), rfl, bel.frame _, fun h => by cases h⟩
theorem holds : Rows.FnInclusionOfRangesSaid :=
  OpenClaim.holds_of_wide 12 Tryd.f12 rfl rfl rfl rfl rfl rfl rfl ⟨rfl, rfl, rfl, rfl, rfl⟩ rfl rfl rfl rfl rfl (by kernel_rfl) Tryd.func12 (by kernel_rfl)
    (of_decide_eq_true (by kernel_rfl)) (by unfold Func.isWrapper; rw [if_neg (of_decide_eq_false (by kernel_rfl))]; exact ⟨rfl, rfl⟩)
    (fun os started H enc _ => lifted os started H enc)
theorem card_holds : Rows.FnInclusionOfRangesCardSaid :=
  Claim7.holds_tied_plain_at .later [] [.data] true (true, "8954dceed7a71cb350802f1049568274ac714c5eed0d5bf85977b3a1ea08e332") true
    holds (fun _ h => by cases h) (by kernel_rfl) (fun _ h => by cases h) fnInclusionOfRanges_row_tie rfl ⟨rfl, rfl⟩ (by kernel_rfl) rfl
    (fun f fn hf hfn => by
      obtain rfl : f = 12 := Option.some.inj ((show Tryd.prog.funcNamed "pub-sarsen/laws.FnInclusionOfRanges" = some 12 by kernel_rfl).symm.trans hf) |>.symm
      obtain rfl : fn = Tryd.f12 := (Option.some.inj (Tryd.func12.symm.trans hfn)).symm
      exact ⟨by kernel_rfl, fun j t ht => by
        rw [Tryd.params12] at ht
        have hm : t ∈ [24, 35, 28, 35] := by simpa using Array.mem_of_getElem? ht
        have hall : ([24, 35, 28, 35].all fun u => !Tryd.prog.wantsStandIn u) = true := by kernel_rfl
        exact (show Tryd.prog.wantsStandIn t = false by simpa using List.all_eq_true.1 hall t hm)⟩)
    (by kernel_rfl)
end Go.Proofs.YtfhcpniibiobgaaDoor.fnInclusionOfRanges
namespace Go.Proofs.YtfhcpniibiobgaaDoor
theorem fnInclusionOfRanges_card : Rows.FnInclusionOfRangesCardSaid := fnInclusionOfRanges.card_holds
#print axioms fnInclusionOfRanges_card
end Go.Proofs.YtfhcpniibiobgaaDoor
