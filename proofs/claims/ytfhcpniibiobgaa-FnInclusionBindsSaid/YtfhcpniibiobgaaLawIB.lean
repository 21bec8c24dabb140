/- The law FnInclusionBinds, for every input: true; conditions: none. -/
import Derived.Test.YtfhcpniibiobgaaRows
import Derived.Test.YtfhcpniibiobgaaOp
import Derived.Test.YtfhcpniibiobgaaPureIB
import Derived.Test.YtfhcpniibiobgaaWSized
import Derived.WalkKit
import Derived.ProofKit
import Derived.OpenShut
import Derived.ShutString
import Derived.ChangeOld
import Derived.Below
import Derived.SizedLaws
import Derived.LaidMore
import Derived.Lay
namespace Go.Proofs.Ytfhcpniibiobgaa.fnInclusionBinds
open Go.ChangeShapes Go.WideShapes Go.ChangeAt Go.RowKit
open Go.ChangeMaps (open_string shut_string)
open Go.Proofs.YtfhcpniibiobgaaW
theorem own : ownKnob Try.prog.godebug = none := by kernel_rfl
theorem laidOut : laidOutB Try.prog = true := by kernel_rfl
set_option maxRecDepth 100000 in
theorem lifted (os : Os) (started : os.Started) (H : Type) (enc : TypeId × Value → H) :
    ReturnsInHanded {} Try.checked os 3 .any (Rows.fnInclusionBindsSpec.pre6 enc Try.prog Try.f3 Rows.fnInclusionBindsRow.domain false) (Rows.fnInclusionBindsSpec.post enc Try.prog Try.f3 false true false false) := by
  refine returnsInHanded_of_change_sized (C := Try.checked) own started (by kernel_rfl) Try.func3
    (ChangeSpec.witness6 (enc := enc) (C := Try.checked) false ⟨#[], #[.agg #[.int .i64 0, .int .i64 0, .int .i64 0, .int .u64 0, .int .u64 0, .int .u64 0], .int .u64 0, .int .u64 0, .slice none 0 0, .slice none 0 0, .slice none 0 0, .slice none 0 0, .slice none 0 0], []⟩ 8 (by kernel_rfl) (by kernel_rfl) (by kernel_rfl) (by kernel_rfl)) ?_
  intro W base args ds gs before hval0 hW hcnd hsz0 _
  have hval : ∀ (j : Nat) t v, Try.f3.params[j]? = some t → args[j]? = some v → Value.okWide Try.prog W .any base t v := hval0
  have hW' := hW
  obtain ⟨p, q, hA0, hV, rfl, hfz, hnd⟩ := hW
  have hA : DataW.TrodAll enc Try.prog W 0 (fun _ => true) true Try.f3.params.toList args.toList ds p := hA0
  rw [Try.params3] at hA hval
  obtain ⟨v0, vs0, d0, ds0, p0, q0, hargs, rfl, rfl, h0, r0⟩ := trodAll_cons hA
  obtain ⟨v1, vs1, d1, ds1, p1, q1, rfl, rfl, rfl, h1, r1⟩ := trodAll_cons r0
  obtain ⟨v2, vs2, d2, ds2, p2, q2, rfl, rfl, rfl, h2, r2⟩ := trodAll_cons r1
  obtain ⟨v3, vs3, d3, ds3, p3, q3, rfl, rfl, rfl, h3, r3⟩ := trodAll_cons r2
  obtain ⟨v4, vs4, d4, ds4, p4, q4, rfl, rfl, rfl, h4, r4⟩ := trodAll_cons r3
  obtain ⟨v5, vs5, d5, ds5, p5, q5, rfl, rfl, rfl, h5, r5⟩ := trodAll_cons r4
  obtain ⟨v6, vs6, d6, ds6, p6, q6, rfl, rfl, rfl, h6, r6⟩ := trodAll_cons r5
  obtain ⟨v7, vs7, d7, ds7, p7, q7, rfl, rfl, rfl, h7, r7⟩ := trodAll_cons r6
  obtain ⟨rfl, rfl, rfl⟩ := trodAll_nil r7
  obtain rfl : args = #[v0, v1, v2, v3, v4, v5, v6, v7] := by cases args; simp_all
  obtain ⟨rfl, rfl⟩ := trodVars_none hV
  have lt : ∀ {t v d p}, DataW.Trod enc Try.prog W 0 (fun _ => true) true t v d p → ∀ x ∈ p, x.block < W.heap.size := fun h => by obtain ⟨m, hm⟩ := h; exact DataW.trod_lt m _ _ _ hm
  have l0 := lt h0
  have l3 := lt h3
  have l4 := lt h4
  have l5 := lt h5
  have l6 := lt h6
  have l7 := lt h7
  have k0 := h0
  have k3 := h3
  have k4 := h4
  have k5 := h5
  have k6 := h6
  have k7 := h7
  obtain ⟨a0, a1, a2, a3, a4, a5, rfl, w0, w1, w2, w3, w4, w5⟩ := Hs.open_hasher (hval 0 24 v0 rfl rfl) h0
  obtain ⟨ix, rfl, rfl, rfl, wi⟩ := open_int Try.underlying22 (hval 1 22 v1 rfl rfl) h1
  obtain ⟨sz, rfl, rfl, rfl, ws⟩ := open_int Try.underlying22 (hval 2 22 v2 rfl rfl) h2
  obtain ⟨A3, c3, b3, rfl, e3, C3, f3⟩ := Hs.open_bytes (hval 3 25 v3 rfl rfl) h3
  obtain ⟨A4, c4, b4, rfl, e4, C4, f4⟩ := Hs.open_rows (hval 4 26 v4 rfl rfl) h4
  obtain ⟨A5, c5, b5, rfl, e5, C5, f5⟩ := Hs.open_bytes (hval 5 25 v5 rfl rfl) h5
  obtain ⟨A6, c6, b6, rfl, e6, C6, f6⟩ := Hs.open_rows (hval 6 26 v6 rfl rfl) h6
  obtain ⟨A7, c7, b7, rfl, e7, C7, f7⟩ := Hs.open_bytes (hval 7 25 v7 rfl rfl) h7
  clear hA0 hval0 hsz0
  refine (Pure.binds a0 a1 a2 a3 a4 a5 ix sz A3 c3 b3 A4 c4 b4 A5 c5 b5 A6 c6 b6 A7 c7 b7 W wi ws C3 e3 C4 e4 C5 e5 C6 e6 C7 e7 f3 f4 f5 f6 f7).mono fun e W' ⟨he, bel⟩ => ?_
  subst he
  exact ⟨_, rfl, _, _, _, [], _, [], hW', trodAll_mk1 (shut_bool Try.underlying4 _), (trodAll_cons_mk (Below.trod laidOut (by kernel_rfl) (of_decide_eq_true (by kernel_rfl)) k0 bel l0) (trodAll_cons_mk (shut_int Try.underlying22 wi) (trodAll_cons_mk (shut_int Try.underlying22 ws) (trodAll_cons_mk (Below.trod laidOut (by kernel_rfl) (of_decide_eq_true (by kernel_rfl)) k3 bel l3) (trodAll_cons_mk (Below.trod laidOut (by kernel_rfl) (of_decide_eq_true (by kernel_rfl)) k4 bel l4) (trodAll_cons_mk (Below.trod laidOut (by kernel_rfl) (of_decide_eq_true (by kernel_rfl)) k5 bel l5) (trodAll_cons_mk (Below.trod laidOut (by kernel_rfl) (of_decide_eq_true (by kernel_rfl)) k6 bel l6) (trodAll_cons_mk (Below.trod laidOut (by kernel_rfl) (of_decide_eq_true (by kernel_rfl)) k7 bel l7) trodAll_mk0)))))))), rfl, bel.frame _, fun h => by cases h⟩
theorem over : Rows.fnInclusionBindsRow.holds Try.pinned (OpenSpec.ofChange Rows.fnInclusionBindsSpec) :=
  OpenClaim.holds_of_wide 3 Try.f3 rfl rfl rfl rfl rfl rfl rfl ⟨rfl, rfl, rfl, rfl, rfl⟩ rfl rfl rfl rfl rfl (by kernel_rfl) Try.func3 (by kernel_rfl)
    (of_decide_eq_true (by kernel_rfl)) (by unfold Func.isWrapper; first | (rw [if_pos (by decide +kernel)]; kernel_rfl) | (rw [if_neg (by decide +kernel)]; exact ⟨rfl, rfl⟩))
    (fun os started H enc _ => lifted os started H enc)
end Go.Proofs.Ytfhcpniibiobgaa.fnInclusionBinds
namespace Go.Proofs.Ytfhcpniibiobgaa
/-- The row, under a short name, for the claim. -/
theorem fnInclusionBinds_holds : Rows.FnInclusionBindsSaid := fnInclusionBinds.over
#print axioms fnInclusionBinds_holds
end Go.Proofs.Ytfhcpniibiobgaa
