-- Written by wip/tools/myprint.py for this seat (the kit's print with changes); Lean checks it.
import Derived.Test.YtfhcpniibiobgaaDoorQfx0
import Derived.Test.YtfhcpniibiobgaaDoorQfx9
namespace Go.Proofs.YtfhcpniibiobgaaDoor.Qf
open Go.RowKit Go.Proofs.YtfhcpniibiobgaaDoorW.PrintWords Go.Proofs.YtfhcpniibiobgaaDoorW.PrintLast Go.Proofs.YtfhcpniibiobgaaDoorW.PrintMore
attribute [local go_sem] max2_int min2_int max_two min_two max_three min_three max_four min_four
set_option linter.unusedVariables false
set_option linter.unusedSimpArgs false
def spec_PathParts.f (k : Nat) (a0 : Int) (a1 : Int) : Option ((List (S55))) := (spec_pathIn.f k a0 0 a1).bind fun t394 => (some t394)
set_option maxHeartbeats 8000000 in
set_option maxRecDepth 100000 in
theorem spec_PathParts.calls (k : Nat) (a0 : Int) (a1 : Int) (r : List (S55)) (w : World) (h : spec_PathParts.f k a0 a1 = some r) :
    Calls Tryd.prog 45 #[.int .u64 a0, .int .u64 a1] w fun e w' => ∃ v0_ : Value, e = .returned (v0_) ∧ Kd.R k55 55 w' w.heap.size (fun _ => True) v0_ r ∧ Below w.heap.size w w' := by
  have hu55 := Tryd.underlying55
  have HB := aq (Below.refl w.heap.size w)
  have H : ((spec_pathIn.f k a0 0 a1).bind fun t394 => (some t394)) = some r := h
  clear h
  replace H := Option.bind_eq_some_iff.mp H
  obtain ⟨t394, A30, H⟩ := H
  have A3 := aq A30
  clear A30
  obtain rfl := Option.some.inj H
  go_enter Tryd.func45, Tryd.ntmps45
  go_wp2_with (first | ((with_reducible refine gate_callee (f := 83) rfl ?_); refine gL 8 Tryd.func83 #[.int .u64 a0, .agg #[.int .u64 0, .int .u64 a1]] ?_; (with_reducible refine (spec_pathIn.calls k a0 0 a1 t394 _ A3.out).mono ?_); rintro e w4 ⟨v395, rfl, ho0, hb⟩; refine ⟨_, rfl, ?_⟩; have HO396 := aq (Kd.R_lower ho0 (below_size (bw HB))); replace HB := aq (below_step (bw HB) hb); (try clear hb); (try clear ho0)))
  go_ret
  exact ⟨_, by first | rfl | (simp [errW_none, errW_some] <;> rfl) | (simp [*, errW_none, errW_some] <;> rfl), by (with_reducible repeat (first | apply Kd.R_alloc | apply Kd.R_drewN | apply Kd.R_drew)); exact HO396.out, by repeat (first | (with_reducible first | exact HB.out | apply below_alloc | apply pw_below_drewN | apply below_drew1) | exact HB.out)⟩
def impl_toy_Size.f (a0_0 : Int) (a0_1 : Int) (a0_2 : Int) (a0_3 : Int) (a0_4 : Int) (a0_5 : Int) : Option (Int) := some a0_1
set_option maxHeartbeats 8000000 in
set_option maxRecDepth 100000 in
theorem impl_toy_Size.calls (a0_0 : Int) (a0_1 : Int) (a0_2 : Int) (a0_3 : Int) (a0_4 : Int) (a0_5 : Int) (r : Int) (w : World) (h : impl_toy_Size.f a0_0 a0_1 a0_2 a0_3 a0_4 a0_5 = some r) :
    Calls Tryd.prog 138 #[.agg #[.int .i64 a0_0, .int .i64 a0_1, .int .i64 a0_2, .int .u64 a0_3, .int .u64 a0_4, .int .u64 a0_5]] w fun e w' => e = .returned (.int .i64 r) ∧ Below w.heap.size w w' := by
  have hu90 := Tryd.underlying90
  have HB := aq (Below.refl w.heap.size w)
  have H : (some a0_1) = some r := h
  clear h
  obtain rfl := Option.some.inj H
  go_enter Tryd.func138, Tryd.ntmps138
  go_wp2_with (first | ((with_reducible refine gate_dst (N := 1) rfl ?_); refine be 1 #[.int .i64 a0_0, .int .i64 a0_1, .int .i64 a0_2, .int .u64 a0_3, .int .u64 a0_4, .int .u64 a0_5] 90 ?_; intro gb407 hg w2 hbox hb; have BK407 := aq (hbox); have GW407 := aq ((by rw [hg]; exact (below_size (bw HB)) : w.heap.size ≤ gb407)); have GE407 := aq ((by rw [hg]; exact (below_size (bw HB)) : w.heap.size ≤ gb407)); replace HB := aq (below_step (bw HB) hb); clear hb hbox hg; have hcz3_0 : w2.cell? ⟨gb407, 0, none⟩ = some (.int .i64 a0_0) := bc BK407 0; have hcz3_1 : w2.cell? ⟨gb407, 1, none⟩ = some (.int .i64 a0_1) := bc BK407 1; have hcz3_2 : w2.cell? ⟨gb407, 2, none⟩ = some (.int .i64 a0_2) := bc BK407 2; have hcz3_3 : w2.cell? ⟨gb407, 3, none⟩ = some (.int .u64 a0_3) := bc BK407 3; have hcz3_4 : w2.cell? ⟨gb407, 4, none⟩ = some (.int .u64 a0_4) := bc BK407 4; have hcz3_5 : w2.cell? ⟨gb407, 5, none⟩ = some (.int .u64 a0_5) := bc BK407 5; have hfz3_0 := bz BK407 0; have hfz3_1 := bz BK407 1; have hfz3_2 := bz BK407 2; have hfz3_3 := bz BK407 3; have hfz3_4 := bz BK407 4; have hfz3_5 := bz BK407 5))
  go_ret
  exact ⟨by first | rfl | (simp [errW_none, errW_some] <;> rfl) | (simp [*, errW_none, errW_some] <;> rfl), by repeat (first | (with_reducible first | exact HB.out | apply below_alloc | apply pw_below_drewN | apply below_drew1 | refine below_set ?_ GE407.out) | exact HB.out)⟩
end Go.Proofs.YtfhcpniibiobgaaDoor.Qf
