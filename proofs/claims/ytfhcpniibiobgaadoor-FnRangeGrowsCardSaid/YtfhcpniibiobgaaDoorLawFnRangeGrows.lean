/- The law FnRangeGrows, for every input: true, its tables laid as the program's text lays them; and the tied card. Conditions: none. -/
import Derived.Test.YtfhcpniibiobgaaDoorRows
import Derived.Test.YtfhcpniibiobgaaDoorTie
import Derived.Test.YtfhcpniibiobgaaDoorCards
import Derived.Test.YtfhcpniibiobgaaDoorOp
import Derived.Test.YtfhcpniibiobgaaDoorLaid
import Derived.Test.YtfhcpniibiobgaaDoorPureFnRangeGrows
import Derived.WalkKit
import Derived.ProofKit
import Derived.OpenShut
import Derived.ShutString
import Derived.ChangeOld
import Derived.Below
import Derived.SizedLaws
import Derived.SevenTiedAt
import Derived.LaidMore
import Derived.Lay
import Derived.MakeChecks
import Derived.Stop.Joined
namespace Go.Proofs.YtfhcpniibiobgaaDoor.fnRangeGrows
open Go.ChangeShapes Go.WideShapes Go.ChangeAt Go.RowKit
open Go.ChangeMaps (open_string shut_string)
open Go.Proofs.YtfhcpniibiobgaaDoorW
theorem own : ownKnob Tryd.prog.godebug = none := by kernel_rfl
theorem laidOut : laidOutB Tryd.prog = true := by kernel_rfl
theorem door_met (os : Os) (args : Array Value) : laidMetH Tryd.prog Rows.fnRangeGrowsRow.laid ((World.laidAll Tryd.prog os Rows.fnRangeGrowsRow.laid).forCall (fun _ _ => 0) ⟨#[], args, []⟩).memory := by
  rw [MakeChecks.laidMetH_plain _ _ _ (by kernel_rfl)]
  exact laidMet_laidAll _ (by kernel_rfl) (by kernel_rfl)
theorem start_shaped (os : Os) : ((World.laidAll Tryd.prog os Rows.fnRangeGrowsRow.laid).forCall (fun _ _ => 0) ⟨#[], #[.agg #[.int .i64 0, .int .i64 0, .int .i64 0, .int .u64 0, .int .u64 0, .int .u64 0], .int .u64 0, .slice none 0 0], []⟩).Shaped Tryd.prog := World.shaped_of_ZipB (by kernel_rfl) (by kernel_rfl)
set_option maxRecDepth 100000 in
theorem lifted (os : Os) (started : os.Started) (H : Type) (enc : TypeId × Value → H) :
    ReturnsInHanded {} Tryd.checked os 6 .any (fun w args => (Rows.fnRangeGrowsSpec.pre enc Tryd.prog Tryd.f6 [] false w args ∧ laidMetH Tryd.prog Rows.fnRangeGrowsRow.laid w) ∧ sizedMet enc Tryd.prog Tryd.f6 (OpenSpec.ofChange Rows.fnRangeGrowsSpec) false w args)
      (Rows.fnRangeGrowsSpec.post enc Tryd.prog Tryd.f6 false true false false) := by
  refine returnsInHanded_of_change_and (C := Tryd.checked) (X := fun w _ => laidMetH Tryd.prog Rows.fnRangeGrowsRow.laid w) (fun _ _ _ hh h => h.of_heap hh) own started (by kernel_rfl) Tryd.func6
    (ChangeSpec.witness_shaped (enc := enc) (C := Tryd.checked) (os := os) (X := fun w _ => laidMetH Tryd.prog Rows.fnRangeGrowsRow.laid w) false (World.laidAll Tryd.prog os Rows.fnRangeGrowsRow.laid) #[.agg #[.int .i64 0, .int .i64 0, .int .i64 0, .int .u64 0, .int .u64 0, .int .u64 0], .int .u64 0, .slice none 0 0] 8 (World.laidAll_os _ _ _) (start_shaped os) (by kernel_rfl) (by kernel_rfl) (by kernel_rfl) (door_met os _)) ?_
  intro W base args ds gs before hval0 hW _ hsz0 hL _
  have hval : ∀ (j : Nat) t v, Tryd.f6.params[j]? = some t → args[j]? = some v → Value.okWide Tryd.prog W .any base t v := hval0
  have hW' := hW
  obtain ⟨p, q, hA0, hV, rfl, hfz, hnd⟩ := hW
  have hA : DataW.TrodAll enc Tryd.prog W 0 (fun _ => true) true Tryd.f6.params.toList args.toList ds p := hA0
  rw [Tryd.params6] at hA hval
  obtain ⟨v0, vs0, d0, ds0, p0, q0, hargs, rfl, rfl, h0, r0⟩ := trodAll_cons hA
  obtain ⟨v1, vs1, d1, ds1, p1, q1, rfl, rfl, rfl, h1, r1⟩ := trodAll_cons r0
  obtain ⟨v2, vs2, d2, ds2, p2, q2, rfl, rfl, rfl, h2, r2⟩ := trodAll_cons r1
  obtain ⟨rfl, rfl, rfl⟩ := trodAll_nil r2
  obtain rfl : args = #[v0, v1, v2] := by cases args; simp_all
  obtain ⟨rfl, rfl⟩ := trodVars_none hV
  have lt : ∀ {t v d p}, DataW.Trod enc Tryd.prog W 0 (fun _ => true) true t v d p → ∀ x ∈ p, x.block < W.heap.size := fun h => by obtain ⟨m, hm⟩ := h; exact DataW.trod_lt m _ _ _ hm
  have l0 := lt h0
  have k0 := h0
  obtain ⟨h0_0, h0_1, h0_2, h0_3, h0_4, h0_5, rfl, u0_0, u0_1, u0_2, u0_3, u0_4, u0_5⟩ := Hs.open_hasher (hval 0 24 v0 rfl rfl) h0
  obtain ⟨a1, rfl, rfl, rfl, w1⟩ := open_int Tryd.underlying22 (hval 1 22 v1 rfl rfl) h1
  have l2 := lt h2
  have k2 := h2
  obtain ⟨A2, c2, b2, rfl, e2, C2, f2⟩ := Hs.open_rows (hval 2 25 v2 rfl rfl) h2
  have hL2 : laidMet Tryd.prog Rows.fnRangeGrowsRow.laid W := by rw [← MakeChecks.laidMetH_plain _ _ _ (by kernel_rfl)]; exact hL
  have HG : Glob W := glob_of_met hL2
  clear hA0 hval0 hsz0
  refine (Pure.rangeGrows h0_0 h0_1 h0_2 h0_3 h0_4 h0_5 a1 A2 c2 b2 W w1 C2 e2 HG).mono fun e W' ⟨he, bel⟩ => ?_
  subst he
  exact ⟨_, rfl, _, _, _, [], _, [], hW', trodAll_mk1 (shut_bool Tryd.underlying4 _), (trodAll_cons_mk (Below.trod laidOut (by kernel_rfl) (of_decide_eq_true (by kernel_rfl)) k0 bel l0) (trodAll_cons_mk (shut_int Tryd.underlying22 w1) (trodAll_cons_mk (Below.trod laidOut (by kernel_rfl) (of_decide_eq_true (by kernel_rfl)) k2 bel l2) trodAll_mk0))), rfl, bel.frame _, fun h => by cases h⟩
theorem holds : Rows.FnRangeGrowsSaid :=
  OpenClaim.holds_of_wide 6 Tryd.f6 rfl rfl rfl rfl rfl rfl rfl ⟨rfl, rfl, rfl, rfl, rfl⟩ rfl rfl rfl rfl rfl (by kernel_rfl) Tryd.func6 (by kernel_rfl)
    (of_decide_eq_true (by kernel_rfl)) (by unfold Func.isWrapper; rw [if_neg (of_decide_eq_false (by kernel_rfl))]; exact ⟨rfl, rfl⟩)
    (fun os started H enc _ => lifted os started H enc)
theorem card_holds : Rows.FnRangeGrowsCardSaid :=
  Claim7.holds_tied_plain_at .later [] [.data] true (true, "8954dceed7a71cb350802f1049568274ac714c5eed0d5bf85977b3a1ea08e332") true
    holds (fun _ h => by cases h) (by kernel_rfl) (fun _ h => by cases h) fnRangeGrows_row_tie rfl ⟨rfl, rfl⟩ (by kernel_rfl) rfl
    (fun f fn hf hfn => by
      obtain rfl : f = 6 := Option.some.inj ((show Tryd.prog.funcNamed "pub-sarsen/laws.FnRangeGrows" = some 6 by kernel_rfl).symm.trans hf) |>.symm
      obtain rfl : fn = Tryd.f6 := (Option.some.inj (Tryd.func6.symm.trans hfn)).symm
      exact ⟨by kernel_rfl, fun j t ht => by
        rw [Tryd.params6] at ht
        have hm : t ∈ [24, 22, 25] := by simpa using Array.mem_of_getElem? ht
        have hall : ([24, 22, 25].all fun u => !Tryd.prog.wantsStandIn u) = true := by kernel_rfl
        exact (show Tryd.prog.wantsStandIn t = false by simpa using List.all_eq_true.1 hall t hm)⟩)
    (by kernel_rfl)
end Go.Proofs.YtfhcpniibiobgaaDoor.fnRangeGrows
namespace Go.Proofs.YtfhcpniibiobgaaDoor
theorem fnRangeGrows_card : Rows.FnRangeGrowsCardSaid := fnRangeGrows.card_holds
#print axioms fnRangeGrows_card
end Go.Proofs.YtfhcpniibiobgaaDoor
