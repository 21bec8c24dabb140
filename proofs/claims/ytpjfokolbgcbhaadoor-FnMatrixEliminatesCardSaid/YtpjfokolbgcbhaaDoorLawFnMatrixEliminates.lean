/- The law FnMatrixEliminates, for every input: true, its tables laid as the program's text lays them; and the tied card. Conditions: none. -/
import Derived.Test.YtpjfokolbgcbhaaDoorRows
import Derived.Test.YtpjfokolbgcbhaaDoorTie
import Derived.Test.YtpjfokolbgcbhaaDoorCards
import Derived.Test.YtpjfokolbgcbhaaDoorRo
import Derived.Test.YtpjfokolbgcbhaaDoorLaid
import Derived.Test.YtpjfokolbgcbhaaDoorEmF
import Derived.WalkKit
import Derived.ProofKit
import Derived.OpenShut
import Derived.ShutString
import Derived.ChangeOld
import Derived.Below
import Derived.SizedLaws
import Derived.SevenTiedAt
import Derived.LaidMore
import Derived.Lay
import Derived.MakeChecks
import Derived.Stop.Joined
namespace Go.Proofs.YtpjfokolbgcbhaaDoor.fnMatrixEliminates
open Go.ChangeShapes Go.WideShapes Go.ChangeAt Go.RowKit
open Go.ChangeMaps (open_string shut_string)
open Go.Proofs.YtpjfokolbgcbhaaDoorW
theorem own : ownKnob Tryd.prog.godebug = none := by kernel_rfl
theorem laidOut : laidOutB Tryd.prog = true := by kernel_rfl
theorem door_met (os : Os) (args : Array Value) : laidMetH Tryd.prog Rows.fnMatrixEliminatesRow.laid ((World.laidAll Tryd.prog os Rows.fnMatrixEliminatesRow.laid).forCall (fun _ _ => 0) ⟨#[], args, []⟩).memory := by
  rw [MakeChecks.laidMetH_plain _ _ _ (by kernel_rfl)]
  exact laidMet_laidAll _ (by kernel_rfl) (by kernel_rfl)
theorem start_shaped (os : Os) : ((World.laidAll Tryd.prog os Rows.fnMatrixEliminatesRow.laid).forCall (fun _ _ => 0) ⟨#[], #[.slice none 0 0], []⟩).Shaped Tryd.prog := World.shaped_of_ZipB (by kernel_rfl) (by kernel_rfl)
set_option maxRecDepth 100000 in
theorem lifted (os : Os) (started : os.Started) (H : Type) (enc : TypeId × Value → H) :
    ReturnsInHanded {} Tryd.checked os 8 .any (fun w args => (Rows.fnMatrixEliminatesSpec.pre enc Tryd.prog Tryd.f8 [] false w args ∧ laidMetH Tryd.prog Rows.fnMatrixEliminatesRow.laid w) ∧ sizedMet enc Tryd.prog Tryd.f8 (OpenSpec.ofChange Rows.fnMatrixEliminatesSpec) false w args)
      (Rows.fnMatrixEliminatesSpec.post enc Tryd.prog Tryd.f8 false true false false) := by
  refine returnsInHanded_of_change_and (C := Tryd.checked) (X := fun w _ => laidMetH Tryd.prog Rows.fnMatrixEliminatesRow.laid w) (fun _ _ _ hh h => h.of_heap hh) own started (by kernel_rfl) Tryd.func8
    (ChangeSpec.witness_shaped (enc := enc) (C := Tryd.checked) (os := os) (X := fun w _ => laidMetH Tryd.prog Rows.fnMatrixEliminatesRow.laid w) false (World.laidAll Tryd.prog os Rows.fnMatrixEliminatesRow.laid) #[.slice none 0 0] 8 (World.laidAll_os _ _ _) (start_shaped os) (by kernel_rfl) (by kernel_rfl) (by kernel_rfl) (door_met os _)) ?_
  intro W base args ds gs before hval0 hW _ hsz0 hL _
  have hval : ∀ (j : Nat) t v, Tryd.f8.params[j]? = some t → args[j]? = some v → Value.okWide Tryd.prog W .any base t v := hval0
  have hW' := hW
  obtain ⟨p, q, hA0, hV, rfl, hfz, hnd⟩ := hW
  have hA : DataW.TrodAll enc Tryd.prog W 0 (fun _ => true) true Tryd.f8.params.toList args.toList ds p := hA0
  rw [Tryd.params8] at hA hval
  obtain ⟨v0, vs0, d0, ds0, p0, q0, hargs, rfl, rfl, h0, r0⟩ := trodAll_cons hA
  obtain ⟨rfl, rfl, rfl⟩ := trodAll_nil r0
  obtain rfl : args = #[v0] := by cases args; simp_all
  obtain ⟨rfl, rfl⟩ := trodVars_none hV
  have lt : ∀ {t v d p}, DataW.Trod enc Tryd.prog W 0 (fun _ => true) true t v d p → ∀ x ∈ p, x.block < W.heap.size := fun h => by obtain ⟨m, hm⟩ := h; exact DataW.trod_lt m _ _ _ hm
  have l0 := lt h0
  have k0 := h0
  obtain ⟨A0, c0, b0, rfl, e0, C0, f0⟩ := Ro.open_rows (hval 0 30 v0 rfl rfl) h0
  have hL2 : laidMet Tryd.prog Rows.fnMatrixEliminatesRow.laid W := by rw [← MakeChecks.laidMetH_plain _ _ _ (by kernel_rfl)]; exact hL
  have HG : Glob W := glob_of_met hL2
  clear hA0 hval0 hsz0
  have HE : Ge.Er W := Ge.er_of_met hL2
  refine (Ge.law_calls W A0 c0 b0 C0 e0 (Pure.bytes_of f0) HE HG).mono fun e W' ⟨he, bel⟩ => ?_
  subst he
  exact ⟨_, rfl, _, _, _, [], _, [], hW', trodAll_mk1 (shut_bool Tryd.underlying4 _), (trodAll_cons_mk (Below.trod laidOut (by kernel_rfl) (of_decide_eq_true (by kernel_rfl)) k0 bel l0) trodAll_mk0), rfl, bel.frame _, fun h => by cases h⟩
theorem holds : Rows.FnMatrixEliminatesSaid :=
  OpenClaim.holds_of_wide 8 Tryd.f8 rfl rfl rfl rfl rfl rfl rfl ⟨rfl, rfl, rfl, rfl, rfl⟩ rfl rfl rfl rfl rfl (by kernel_rfl) Tryd.func8 (by kernel_rfl)
    (of_decide_eq_true (by kernel_rfl)) (by unfold Func.isWrapper; rw [if_neg (of_decide_eq_false (by kernel_rfl))]; exact ⟨rfl, rfl⟩)
    (fun os started H enc _ => lifted os started H enc)
theorem card_holds : Rows.FnMatrixEliminatesCardSaid :=
  Claim7.holds_tied_plain_at .later [] [.data, .data, .sentinel, .sentinel, .sentinel, .sentinel] true (true, "12a18c92321b74de3de3a9f8a32cd0d3ad9861f23102e566ff7fb977b4cc58c1") false
    holds (fun _ h => by cases h) (by kernel_rfl) (fun _ h => by cases h) fnMatrixEliminates_row_tie rfl ⟨rfl, rfl⟩ (by kernel_rfl) rfl
    (fun f fn hf hfn => by
      obtain rfl : f = 8 := Option.some.inj ((show Tryd.prog.funcNamed "pub-sarsen/laws.FnMatrixEliminates" = some 8 by kernel_rfl).symm.trans hf) |>.symm
      obtain rfl : fn = Tryd.f8 := (Option.some.inj (Tryd.func8.symm.trans hfn)).symm
      exact ⟨by kernel_rfl, fun j t ht => by
        rw [Tryd.params8] at ht
        have hm : t ∈ [30] := by simpa using Array.mem_of_getElem? ht
        have hall : ([30].all fun u => !Tryd.prog.wantsStandIn u) = true := by kernel_rfl
        exact (show Tryd.prog.wantsStandIn t = false by simpa using List.all_eq_true.1 hall t hm)⟩)
    (by kernel_rfl)
end Go.Proofs.YtpjfokolbgcbhaaDoor.fnMatrixEliminates
namespace Go.Proofs.YtpjfokolbgcbhaaDoor
theorem fnMatrixEliminates_card : Rows.FnMatrixEliminatesCardSaid := fnMatrixEliminates.card_holds
#print axioms fnMatrixEliminates_card
end Go.Proofs.YtpjfokolbgcbhaaDoor
