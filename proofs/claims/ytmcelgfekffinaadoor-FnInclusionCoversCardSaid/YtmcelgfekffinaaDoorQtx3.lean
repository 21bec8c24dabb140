-- Written by wip/tools/myprint.py for this seat (the kit's print with changes); Lean checks it.
import Derived.Test.YtmcelgfekffinaaDoorQtx0
import Derived.Test.YtmcelgfekffinaaDoorQtx2
namespace Go.Proofs.YtmcelgfekffinaaDoor.Qt
open Go.RowKit Go.Proofs.YtmcelgfekffinaaDoorW.PrintWords Go.Proofs.YtmcelgfekffinaaDoorW.PrintLast Go.Proofs.YtmcelgfekffinaaDoorW.PrintMore
attribute [local go_sem] max2_int min2_int max_two min_two max_three min_three max_four min_four   -- for this text's walks alone
set_option linter.unusedVariables false
set_option linter.unusedSimpArgs false

/-! ### compact_RangeSize: function 21 -/
def compact_RangeSize.f (a0 : Int) (a1 : Int) : Option (Int) := (compact_Decompose.f a0 a1).bind fun bt140 => ((bits_OnesCount64.f bt140.1).bind fun t142 => ((bits_OnesCount64.f bt140.2).bind fun t143 => (some (wrap64 (t142 + t143)))))
set_option maxHeartbeats 8000000 in
set_option maxRecDepth 100000 in
theorem compact_RangeSize.calls (a0 : Int) (a1 : Int) (r : Int) (w : World) (h : compact_RangeSize.f a0 a1 = some r) :
    Calls Tryd.prog 21 #[.int .u64 a0, .int .u64 a1] w fun e w' => e = .returned (.int .i64 r) ∧ Drawn0 w w' := by
  have H : ((compact_Decompose.f a0 a1).bind fun bt140 => ((bits_OnesCount64.f bt140.1).bind fun t142 => ((bits_OnesCount64.f bt140.2).bind fun t143 => (some (wrap64 (t142 + t143)))))) = some r := h
  clear h
  replace H := Option.bind_eq_some_iff.mp H
  obtain ⟨⟨t140, t141⟩, A30, H⟩ := H
  replace H : ((bits_OnesCount64.f t140).bind fun t142 => ((bits_OnesCount64.f t141).bind fun t143 => (some (wrap64 (t142 + t143))))) = some r := H
  have A3 := Aside0.mk A30
  clear A30
  replace H := Option.bind_eq_some_iff.mp H
  obtain ⟨t142, A40, H⟩ := H
  replace H : ((bits_OnesCount64.f t141).bind fun t143 => (some (wrap64 (t142 + t143)))) = some r := H
  have A4 := Aside0.mk A40
  clear A40
  replace H := Option.bind_eq_some_iff.mp H
  obtain ⟨t143, A50, H⟩ := H
  replace H : (some (wrap64 (t142 + t143))) = some r := H
  have A5 := Aside0.mk A50
  clear A50
  obtain rfl := Option.some.inj H
  go_enter Tryd.func21, Tryd.ntmps21
  go_wp2_with (first | ((with_reducible refine gate_callee (f := 34) rfl ?_); refine goesL_ (some 10) rfl rfl Tryd.func34 (by kernel_rfl) rfl #[.int .u64 a0, .int .u64 a1] rfl (by (try simp only [List.map_toArray, List.map_cons, List.map_nil]); first | done | rfl | (simp only [List.length_drop, List.length_take]; rfl)) ?_; (with_reducible refine (compact_Decompose.calls a0 a1 t140 t141 _ A3.out).mono ?_); rintro e w' ⟨rfl, ⟨nd, rfl⟩⟩; refine ⟨_, rfl, ?_⟩) | ((with_reducible refine gate_callee (f := 37) rfl ?_); refine goesL_ (some 14) rfl rfl Tryd.func37 (by kernel_rfl) rfl #[.int .u64 t140] rfl (by (try simp only [List.map_toArray, List.map_cons, List.map_nil]); first | done | rfl | (simp only [List.length_drop, List.length_take]; rfl)) ?_; (with_reducible refine (bits_OnesCount64.calls t140 t142 _ A4.out).mono ?_); rintro e w' ⟨rfl, ⟨nd, rfl⟩⟩; refine ⟨_, rfl, ?_⟩) | ((with_reducible refine gate_callee (f := 37) rfl ?_); refine goesL_ (some 16) rfl rfl Tryd.func37 (by kernel_rfl) rfl #[.int .u64 t141] rfl (by (try simp only [List.map_toArray, List.map_cons, List.map_nil]); first | done | rfl | (simp only [List.length_drop, List.length_take]; rfl)) ?_; (with_reducible refine (bits_OnesCount64.calls t141 t143 _ A5.out).mono ?_); rintro e w' ⟨rfl, ⟨nd, rfl⟩⟩; refine ⟨_, rfl, ?_⟩))
  go_ret
  exact ⟨by first | rfl | (simp; done) | (simp [*]; done), by repeat (first | exact Drawn0.refl _ | apply Drawn0.step)⟩

/-! ### compact_NodeID_Coverage: function 44 -/
def compact_NodeID_Coverage.f (a0_0 : Int) (a0_1 : Int) : Option (Int × Int) := if 0 ≤ a0_0 then (some (shl .u64 a0_1 a0_0, shl .u64 (IntKind.u64.wrap (a0_1 + 1)) a0_0)) else (none)
set_option maxHeartbeats 8000000 in
set_option maxRecDepth 100000 in
theorem compact_NodeID_Coverage.calls (a0_0 : Int) (a0_1 : Int) (r1 : Int) (r2 : Int) (w : World) (h : compact_NodeID_Coverage.f a0_0 a0_1 = some (r1, r2)) :
    Calls Tryd.prog 44 #[.agg #[.int .u64 a0_0, .int .u64 a0_1]] w fun e w' => e = .returned (.tuple #[.int .u64 r1, .int .u64 r2]) ∧ Below w.heap.size w w' := by
  have hu46 := Tryd.underlying46
  have HB := Aside0.mk (Below.refl w.heap.size w)
  have H : (if 0 ≤ a0_0 then (some (shl .u64 a0_1 a0_0, shl .u64 (IntKind.u64.wrap (a0_1 + 1)) a0_0)) else (none)) = some (r1, r2) := h
  clear h
  by_cases c2 : 0 ≤ a0_0
  · rw [if_pos c2] at H
    have c2b0 := eq_true c2
    have c2b1 : decide (0 ≤ a0_0) = true := decide_eq_true c2
    clear c2
    obtain ⟨ji3, hji3⟩ : ∃ j_ : Int, (shl .u64 a0_1 a0_0) = j_ := ⟨_, rfl⟩
    replace H : (some (ji3, shl .u64 (IntKind.u64.wrap (a0_1 + 1)) a0_0)) = some (r1, r2) := by first | (rw [hji3] at H; exact H) | (simp only [hji3] at H ⊢; exact H)
    have hji3_ : (IntKind.u64.wrap (a0_1 * 2 ^ min a0_0.toNat 64)) = ji3 := hji3
    have hji3z : a0_0 ≤ 64 → (IntKind.u64.wrap (a0_1 * 2 ^ a0_0.toNat)) = ji3 := shl_small hji3
    have c4b0 := eq_true (of_decide_eq_true (by first | (with_reducible assumption) | assumption) : 0 ≤ a0_0)
    obtain ⟨ji5, hji5⟩ : ∃ j_ : Int, (shl .u64 (IntKind.u64.wrap (a0_1 + 1)) a0_0) = j_ := ⟨_, rfl⟩
    replace H : (some (ji3, ji5)) = some (r1, r2) := by first | (rw [hji5] at H; exact H) | (simp only [hji5] at H ⊢; exact H)
    have hji5_ : (IntKind.u64.wrap ((IntKind.u64.wrap (a0_1 + 1)) * 2 ^ min a0_0.toNat 64)) = ji5 := hji5
    have hji5z : a0_0 ≤ 64 → (IntKind.u64.wrap ((IntKind.u64.wrap (a0_1 + 1)) * 2 ^ a0_0.toNat)) = ji5 := shl_small hji5
    simp only [Option.some.injEq, Prod.mk.injEq] at H
    obtain ⟨rfl, rfl⟩ := H
    go_enter Tryd.func44, Tryd.ntmps44
    go_wp2_with (first | ((with_reducible refine gate_dst (N := 1) rfl ?_); refine box_event ?hg (N := 1) ?hd (cs := #[.int .u64 a0_0, .int .u64 a0_1]) (t := 46) ?hr ?_; (case hd => rfl); (case hg => rfl); (case hr => first | (go_simp; done) | (go_simp; rfl)); intro gb144 hg w6 hbox hb; have n0_ := Aside0.mk (below_step (by repeat (first | (with_reducible first | exact HB.out | apply below_alloc | apply pw_below_drewN | apply below_drew1) | exact HB.out)) hb); have n1_ := Aside0.mk (hbox); have n2_ := Aside0.mk ((by rw [hg]; exact (below_size (by repeat (first | (with_reducible first | exact HB.out | apply below_alloc | apply pw_below_drewN | apply below_drew1) | exact HB.out))) : w.heap.size ≤ gb144)); have n3_ := Aside0.mk ((by rw [hg]; exact (below_size (by repeat (first | (with_reducible first | exact HB.out | apply below_alloc | apply pw_below_drewN | apply below_drew1) | exact HB.out))) : w.heap.size ≤ gb144)); clear HB; have HB := n0_; have BK144 := n1_; have GW144 := n2_; have GE144 := n3_; clear n0_ n1_ n2_ n3_; clear hb hbox hg; have hcz7_0 : w6.cell? ⟨gb144, 0, none⟩ = some (.int .u64 a0_0) := (blk_cell BK144.out 0).trans rfl; have hcz7_1 : w6.cell? ⟨gb144, 1, none⟩ = some (.int .u64 a0_1) := (blk_cell BK144.out 1).trans rfl; have hfz7_0 := blk_frozen BK144.out 0; have hfz7_1 := blk_frozen BK144.out 1))
    repeat (go_quiet (first | ((with_reducible refine gate_dst (N := 1) rfl ?_); refine box_event ?hg (N := 1) ?hd (cs := #[.int .u64 a0_0, .int .u64 a0_1]) (t := 46) ?hr ?_; (case hd => rfl); (case hg => rfl); (case hr => first | (go_simp; done) | (go_simp; rfl)); intro gb144 hg w6 hbox hb; have n0_ := Aside0.mk (below_step (by repeat (first | (with_reducible first | exact HB.out | apply below_alloc | apply pw_below_drewN | apply below_drew1) | exact HB.out)) hb); have n1_ := Aside0.mk (hbox); have n2_ := Aside0.mk ((by rw [hg]; exact (below_size (by repeat (first | (with_reducible first | exact HB.out | apply below_alloc | apply pw_below_drewN | apply below_drew1) | exact HB.out))) : w.heap.size ≤ gb144)); have n3_ := Aside0.mk ((by rw [hg]; exact (below_size (by repeat (first | (with_reducible first | exact HB.out | apply below_alloc | apply pw_below_drewN | apply below_drew1) | exact HB.out))) : w.heap.size ≤ gb144)); clear HB; have HB := n0_; have BK144 := n1_; have GW144 := n2_; have GE144 := n3_; clear n0_ n1_ n2_ n3_; clear hb hbox hg; have hcz7_0 : w6.cell? ⟨gb144, 0, none⟩ = some (.int .u64 a0_0) := (blk_cell BK144.out 0).trans rfl; have hcz7_1 : w6.cell? ⟨gb144, 1, none⟩ = some (.int .u64 a0_1) := (blk_cell BK144.out 1).trans rfl; have hfz7_0 := blk_frozen BK144.out 0; have hfz7_1 := blk_frozen BK144.out 1)); try go_wp2_with (first | ((with_reducible refine gate_dst (N := 1) rfl ?_); refine box_event ?hg (N := 1) ?hd (cs := #[.int .u64 a0_0, .int .u64 a0_1]) (t := 46) ?hr ?_; (case hd => rfl); (case hg => rfl); (case hr => first | (go_simp; done) | (go_simp; rfl)); intro gb144 hg w6 hbox hb; have n0_ := Aside0.mk (below_step (by repeat (first | (with_reducible first | exact HB.out | apply below_alloc | apply pw_below_drewN | apply below_drew1) | exact HB.out)) hb); have n1_ := Aside0.mk (hbox); have n2_ := Aside0.mk ((by rw [hg]; exact (below_size (by repeat (first | (with_reducible first | exact HB.out | apply below_alloc | apply pw_below_drewN | apply below_drew1) | exact HB.out))) : w.heap.size ≤ gb144)); have n3_ := Aside0.mk ((by rw [hg]; exact (below_size (by repeat (first | (with_reducible first | exact HB.out | apply below_alloc | apply pw_below_drewN | apply below_drew1) | exact HB.out))) : w.heap.size ≤ gb144)); clear HB; have HB := n0_; have BK144 := n1_; have GW144 := n2_; have GE144 := n3_; clear n0_ n1_ n2_ n3_; clear hb hbox hg; have hcz7_0 : w6.cell? ⟨gb144, 0, none⟩ = some (.int .u64 a0_0) := (blk_cell BK144.out 0).trans rfl; have hcz7_1 : w6.cell? ⟨gb144, 1, none⟩ = some (.int .u64 a0_1) := (blk_cell BK144.out 1).trans rfl; have hfz7_0 := blk_frozen BK144.out 0; have hfz7_1 := blk_frozen BK144.out 1)))
    go_ret2
    exact ⟨by first | rfl | (simp [errW_none, errW_some] <;> rfl) | (simp only [← hji3, ← hji5]; first | rfl | (simp [errW_none, errW_some] <;> rfl)) | (simp [*, errW_none, errW_some] <;> rfl), by repeat (first | (with_reducible first | exact HB.out | apply below_alloc | apply pw_below_drewN | apply below_drew1 | refine below_set ?_ GE144.out) | exact HB.out)⟩
  · rw [if_neg c2] at H
    exact absurd H (by simp)

/-! ### compact_NodeID_Parent: function 45 -/
def compact_NodeID_Parent.f (a0_0 : Int) (a0_1 : Int) : Option (Int × Int) := (compact_NewNodeID.f (IntKind.u64.wrap (a0_0 + 1)) (a0_1 / 2)).bind fun bt147 => (some (bt147.1, bt147.2))
set_option maxHeartbeats 8000000 in
set_option maxRecDepth 100000 in
theorem compact_NodeID_Parent.calls (a0_0 : Int) (a0_1 : Int) (r1 : Int) (r2 : Int) (w : World) (h : compact_NodeID_Parent.f a0_0 a0_1 = some (r1, r2)) :
    Calls Tryd.prog 45 #[.agg #[.int .u64 a0_0, .int .u64 a0_1]] w fun e w' => e = .returned (.agg #[.int .u64 r1, .int .u64 r2]) ∧ Below w.heap.size w w' := by
  have hu46 := Tryd.underlying46
  have HB := Aside0.mk (Below.refl w.heap.size w)
  have H : ((compact_NewNodeID.f (IntKind.u64.wrap (a0_0 + 1)) (a0_1 / 2)).bind fun bt147 => (some (bt147.1, bt147.2))) = some (r1, r2) := h
  clear h
  replace H := Option.bind_eq_some_iff.mp H
  obtain ⟨⟨t147, t148⟩, A20, H⟩ := H
  replace H : (some (t147, t148)) = some (r1, r2) := H
  have A2 := Aside0.mk A20
  clear A20
  simp only [Option.some.injEq, Prod.mk.injEq] at H
  obtain ⟨rfl, rfl⟩ := H
  go_enter Tryd.func45, Tryd.ntmps45
  go_wp2_with (first | ((with_reducible refine gate_dst (N := 1) rfl ?_); refine box_event ?hg (N := 1) ?hd (cs := #[.int .u64 a0_0, .int .u64 a0_1]) (t := 46) ?hr ?_; (case hd => rfl); (case hg => rfl); (case hr => first | (go_simp; done) | (go_simp; rfl)); intro gb145 hg w3 hbox hb; have n0_ := Aside0.mk (below_step (by repeat (first | (with_reducible first | exact HB.out | apply below_alloc | apply pw_below_drewN | apply below_drew1) | exact HB.out)) hb); have n1_ := Aside0.mk (hbox); have n2_ := Aside0.mk ((by rw [hg]; exact (below_size (by repeat (first | (with_reducible first | exact HB.out | apply below_alloc | apply pw_below_drewN | apply below_drew1) | exact HB.out))) : w.heap.size ≤ gb145)); have n3_ := Aside0.mk ((by rw [hg]; exact (below_size (by repeat (first | (with_reducible first | exact HB.out | apply below_alloc | apply pw_below_drewN | apply below_drew1) | exact HB.out))) : w.heap.size ≤ gb145)); clear HB; have HB := n0_; have BK145 := n1_; have GW145 := n2_; have GE145 := n3_; clear n0_ n1_ n2_ n3_; clear hb hbox hg) | ((with_reducible refine gate_dst (N := 2) rfl ?_); refine box_event ?hg (N := 2) ?hd (cs := #[.int .u64 0, .int .u64 0]) (t := 46) ?hr ?_; (case hd => rfl); (case hg => rfl); (case hr => first | (go_simp; done) | (go_simp; rfl)); intro gb146 hg w4 hbox hb; have n0_ := Aside0.mk (blk_below (g := gb145) (o := .cells #[.int .u64 a0_0, .int .u64 a0_1] 46 (0, 0)) (by (with_reducible repeat (first | refine blk_drewN ?_ _ | refine blk_drew ?_ | refine blk_alloc ?_ _)); exact BK145.out) hb); have n1_ := Aside0.mk (below_step (by repeat (first | (with_reducible first | exact HB.out | apply below_alloc | apply pw_below_drewN | apply below_drew1 | refine below_set ?_ GE145.out) | exact HB.out)) hb); have n2_ := Aside0.mk (hbox); have n3_ := Aside0.mk ((by rw [hg]; exact (below_size (by repeat (first | (with_reducible first | exact HB.out | apply below_alloc | apply pw_below_drewN | apply below_drew1 | refine below_set ?_ GE145.out) | exact HB.out))) : w.heap.size ≤ gb146)); have n4_ := Aside0.mk ((by rw [hg]; exact (below_size (by repeat (first | (with_reducible first | exact HB.out | apply below_alloc | apply pw_below_drewN | apply below_drew1 | refine below_set ?_ GE145.out) | exact HB.out))) : w.heap.size ≤ gb146)); have n5_ := Aside0.mk ((by rw [hg]; exact Nat.ne_of_lt (blk_lt (g := gb145) (o := .cells #[.int .u64 a0_0, .int .u64 a0_1] 46 (0, 0)) (by (with_reducible repeat (first | refine blk_drewN ?_ _ | refine blk_drew ?_ | refine blk_alloc ?_ _)); exact BK145.out)) : gb145 ≠ gb146)); have n6_ := Aside0.mk ((by rw [hg]; exact Nat.ne_of_gt (blk_lt (g := gb145) (o := .cells #[.int .u64 a0_0, .int .u64 a0_1] 46 (0, 0)) (by (with_reducible repeat (first | refine blk_drewN ?_ _ | refine blk_drew ?_ | refine blk_alloc ?_ _)); exact BK145.out)) : gb146 ≠ gb145)); clear BK145; clear HB; have BK145 := n0_; have HB := n1_; have BK146 := n2_; have GW146 := n3_; have GE146 := n4_; have NB145_146 := n5_; have NB146_145 := n6_; clear n0_ n1_ n2_ n3_ n4_ n5_ n6_; clear hb hbox hg; have hnb5 := NB145_146.out; have hnc5 := NB146_145.out; have hcz6_0 : w4.cell? ⟨gb145, 0, none⟩ = some (.int .u64 a0_0) := (blk_cell BK145.out 0).trans rfl; have hcz6_1 : w4.cell? ⟨gb145, 1, none⟩ = some (.int .u64 a0_1) := (blk_cell BK145.out 1).trans rfl; have hfz6_0 := blk_frozen BK145.out 0; have hfz6_1 := blk_frozen BK145.out 1) | ((with_reducible refine gate_callee (f := 32) rfl ?_); refine goesL_ (some 9) rfl rfl Tryd.func32 (by kernel_rfl) rfl #[.int .u64 (IntKind.u64.wrap (a0_0 + 1)), .int .u64 (a0_1 / 2)] rfl (by (try simp only [List.map_toArray, List.map_cons, List.map_nil]); first | done | rfl | (simp only [List.length_drop, List.length_take]; rfl)) ?_; (with_reducible refine (compact_NewNodeID.calls (IntKind.u64.wrap (a0_0 + 1)) (a0_1 / 2) t147 t148 _ A2.out).mono ?_); rintro e w7 ⟨rfl, hb⟩; refine ⟨_, rfl, ?_⟩; have n0_ := Aside0.mk (blk_below (g := gb145) (o := .cells #[.int .u64 a0_0, .int .u64 a0_1] 46 (0, 0)) (by (with_reducible repeat (first | refine blk_drewN ?_ _ | refine blk_drew ?_ | refine blk_alloc ?_ _)); exact BK145.out) hb); have n1_ := Aside0.mk (blk_below (g := gb146) (o := .cells #[.int .u64 0, .int .u64 0] 46 (0, 0)) (by (with_reducible repeat (first | refine blk_drewN ?_ _ | refine blk_drew ?_ | refine blk_alloc ?_ _)); exact BK146.out) hb); have n2_ := Aside0.mk (below_step (by repeat (first | (with_reducible first | exact HB.out | apply below_alloc | apply pw_below_drewN | apply below_drew1 | refine below_set ?_ GE145.out | refine below_set ?_ GE146.out) | exact HB.out)) hb); clear BK145; clear BK146; clear HB; have BK145 := n0_; have BK146 := n1_; have HB := n2_; clear n0_ n1_ n2_; (try clear hb); (try clear hb2); (try clear hk); (try clear hi); have hcz8_0 : w7.cell? ⟨gb146, 0, none⟩ = some (.int .u64 0) := (blk_cell BK146.out 0).trans rfl; have hcz8_1 : w7.cell? ⟨gb146, 1, none⟩ = some (.int .u64 0) := (blk_cell BK146.out 1).trans rfl; have hfz8_0 := blk_frozen BK146.out 0; have hfz8_1 := blk_frozen BK146.out 1))
  refine bodyPost_ret (results_cell_row rfl _ _ gb146 46 #[.int .u64 t147, .int .u64 t148] (0, 0) _ rfl (by (with_reducible repeat (first | refine blk_drewN ?_ _ | refine blk_drew ?_ | refine blk_alloc ?_ _)); refine blk_put (cs := #[.int .u64 t147, .int .u64 0]) ?_ 1 _ rfl; (with_reducible repeat (first | refine blk_drewN ?_ _ | refine blk_drew ?_ | refine blk_alloc ?_ _)); refine blk_put (cs := #[.int .u64 0, .int .u64 0]) ?_ 0 _ rfl; (with_reducible repeat (first | refine blk_drewN ?_ _ | refine blk_drew ?_ | refine blk_alloc ?_ _)); exact BK146.out) Tryd.underlying46 rfl (by kernel_rfl)) rfl ?_
  exact ⟨by first | rfl | (simp [errW_none, errW_some] <;> rfl) | (simp [*, errW_none, errW_some] <;> rfl), by repeat (first | (with_reducible first | exact HB.out | apply below_alloc | apply pw_below_drewN | apply below_drew1 | refine below_set ?_ GE145.out | refine below_set ?_ GE146.out) | exact HB.out)⟩

/-! ### compact_NodeID_Sibling: function 46 -/
def compact_NodeID_Sibling.f (a0_0 : Int) (a0_1 : Int) : Option (Int × Int) := (compact_NewNodeID.f a0_0 (Go.bits .xor .u64 a0_1 1)).bind fun bt151 => (some (bt151.1, bt151.2))
set_option maxHeartbeats 8000000 in
set_option maxRecDepth 100000 in
theorem compact_NodeID_Sibling.calls (a0_0 : Int) (a0_1 : Int) (r1 : Int) (r2 : Int) (w : World) (h : compact_NodeID_Sibling.f a0_0 a0_1 = some (r1, r2)) :
    Calls Tryd.prog 46 #[.agg #[.int .u64 a0_0, .int .u64 a0_1]] w fun e w' => e = .returned (.agg #[.int .u64 r1, .int .u64 r2]) ∧ Below w.heap.size w w' := by
  have hu46 := Tryd.underlying46
  have HB := Aside0.mk (Below.refl w.heap.size w)
  have H : ((compact_NewNodeID.f a0_0 (Go.bits .xor .u64 a0_1 1)).bind fun bt151 => (some (bt151.1, bt151.2))) = some (r1, r2) := h
  clear h
  replace H := Option.bind_eq_some_iff.mp H
  obtain ⟨⟨t151, t152⟩, A20, H⟩ := H
  replace H : (some (t151, t152)) = some (r1, r2) := H
  have A2 := Aside0.mk A20
  clear A20
  simp only [Option.some.injEq, Prod.mk.injEq] at H
  obtain ⟨rfl, rfl⟩ := H
  go_enter Tryd.func46, Tryd.ntmps46
  go_wp2_with (first | ((with_reducible refine gate_dst (N := 1) rfl ?_); refine box_event ?hg (N := 1) ?hd (cs := #[.int .u64 a0_0, .int .u64 a0_1]) (t := 46) ?hr ?_; (case hd => rfl); (case hg => rfl); (case hr => first | (go_simp; done) | (go_simp; rfl)); intro gb149 hg w3 hbox hb; have n0_ := Aside0.mk (below_step (by repeat (first | (with_reducible first | exact HB.out | apply below_alloc | apply pw_below_drewN | apply below_drew1) | exact HB.out)) hb); have n1_ := Aside0.mk (hbox); have n2_ := Aside0.mk ((by rw [hg]; exact (below_size (by repeat (first | (with_reducible first | exact HB.out | apply below_alloc | apply pw_below_drewN | apply below_drew1) | exact HB.out))) : w.heap.size ≤ gb149)); have n3_ := Aside0.mk ((by rw [hg]; exact (below_size (by repeat (first | (with_reducible first | exact HB.out | apply below_alloc | apply pw_below_drewN | apply below_drew1) | exact HB.out))) : w.heap.size ≤ gb149)); clear HB; have HB := n0_; have BK149 := n1_; have GW149 := n2_; have GE149 := n3_; clear n0_ n1_ n2_ n3_; clear hb hbox hg) | ((with_reducible refine gate_dst (N := 2) rfl ?_); refine box_event ?hg (N := 2) ?hd (cs := #[.int .u64 0, .int .u64 0]) (t := 46) ?hr ?_; (case hd => rfl); (case hg => rfl); (case hr => first | (go_simp; done) | (go_simp; rfl)); intro gb150 hg w4 hbox hb; have n0_ := Aside0.mk (blk_below (g := gb149) (o := .cells #[.int .u64 a0_0, .int .u64 a0_1] 46 (0, 0)) (by (with_reducible repeat (first | refine blk_drewN ?_ _ | refine blk_drew ?_ | refine blk_alloc ?_ _)); exact BK149.out) hb); have n1_ := Aside0.mk (below_step (by repeat (first | (with_reducible first | exact HB.out | apply below_alloc | apply pw_below_drewN | apply below_drew1 | refine below_set ?_ GE149.out) | exact HB.out)) hb); have n2_ := Aside0.mk (hbox); have n3_ := Aside0.mk ((by rw [hg]; exact (below_size (by repeat (first | (with_reducible first | exact HB.out | apply below_alloc | apply pw_below_drewN | apply below_drew1 | refine below_set ?_ GE149.out) | exact HB.out))) : w.heap.size ≤ gb150)); have n4_ := Aside0.mk ((by rw [hg]; exact (below_size (by repeat (first | (with_reducible first | exact HB.out | apply below_alloc | apply pw_below_drewN | apply below_drew1 | refine below_set ?_ GE149.out) | exact HB.out))) : w.heap.size ≤ gb150)); have n5_ := Aside0.mk ((by rw [hg]; exact Nat.ne_of_lt (blk_lt (g := gb149) (o := .cells #[.int .u64 a0_0, .int .u64 a0_1] 46 (0, 0)) (by (with_reducible repeat (first | refine blk_drewN ?_ _ | refine blk_drew ?_ | refine blk_alloc ?_ _)); exact BK149.out)) : gb149 ≠ gb150)); have n6_ := Aside0.mk ((by rw [hg]; exact Nat.ne_of_gt (blk_lt (g := gb149) (o := .cells #[.int .u64 a0_0, .int .u64 a0_1] 46 (0, 0)) (by (with_reducible repeat (first | refine blk_drewN ?_ _ | refine blk_drew ?_ | refine blk_alloc ?_ _)); exact BK149.out)) : gb150 ≠ gb149)); clear BK149; clear HB; have BK149 := n0_; have HB := n1_; have BK150 := n2_; have GW150 := n3_; have GE150 := n4_; have NB149_150 := n5_; have NB150_149 := n6_; clear n0_ n1_ n2_ n3_ n4_ n5_ n6_; clear hb hbox hg; have hnb5 := NB149_150.out; have hnc5 := NB150_149.out; have hcz6_0 : w4.cell? ⟨gb149, 0, none⟩ = some (.int .u64 a0_0) := (blk_cell BK149.out 0).trans rfl; have hcz6_1 : w4.cell? ⟨gb149, 1, none⟩ = some (.int .u64 a0_1) := (blk_cell BK149.out 1).trans rfl; have hfz6_0 := blk_frozen BK149.out 0; have hfz6_1 := blk_frozen BK149.out 1) | ((with_reducible refine gate_callee (f := 32) rfl ?_); refine goesL_ (some 8) rfl rfl Tryd.func32 (by kernel_rfl) rfl #[.int .u64 a0_0, .int .u64 (Go.bits .xor .u64 a0_1 1)] rfl (by (try simp only [List.map_toArray, List.map_cons, List.map_nil]); first | done | rfl | (simp only [List.length_drop, List.length_take]; rfl)) ?_; (with_reducible refine (compact_NewNodeID.calls a0_0 (Go.bits .xor .u64 a0_1 1) t151 t152 _ A2.out).mono ?_); rintro e w7 ⟨rfl, hb⟩; refine ⟨_, rfl, ?_⟩; have n0_ := Aside0.mk (blk_below (g := gb149) (o := .cells #[.int .u64 a0_0, .int .u64 a0_1] 46 (0, 0)) (by (with_reducible repeat (first | refine blk_drewN ?_ _ | refine blk_drew ?_ | refine blk_alloc ?_ _)); exact BK149.out) hb); have n1_ := Aside0.mk (blk_below (g := gb150) (o := .cells #[.int .u64 0, .int .u64 0] 46 (0, 0)) (by (with_reducible repeat (first | refine blk_drewN ?_ _ | refine blk_drew ?_ | refine blk_alloc ?_ _)); exact BK150.out) hb); have n2_ := Aside0.mk (below_step (by repeat (first | (with_reducible first | exact HB.out | apply below_alloc | apply pw_below_drewN | apply below_drew1 | refine below_set ?_ GE149.out | refine below_set ?_ GE150.out) | exact HB.out)) hb); clear BK149; clear BK150; clear HB; have BK149 := n0_; have BK150 := n1_; have HB := n2_; clear n0_ n1_ n2_; (try clear hb); (try clear hb2); (try clear hk); (try clear hi); have hcz8_0 : w7.cell? ⟨gb150, 0, none⟩ = some (.int .u64 0) := (blk_cell BK150.out 0).trans rfl; have hcz8_1 : w7.cell? ⟨gb150, 1, none⟩ = some (.int .u64 0) := (blk_cell BK150.out 1).trans rfl; have hfz8_0 := blk_frozen BK150.out 0; have hfz8_1 := blk_frozen BK150.out 1))
  refine bodyPost_ret (results_cell_row rfl _ _ gb150 46 #[.int .u64 t151, .int .u64 t152] (0, 0) _ rfl (by (with_reducible repeat (first | refine blk_drewN ?_ _ | refine blk_drew ?_ | refine blk_alloc ?_ _)); refine blk_put (cs := #[.int .u64 t151, .int .u64 0]) ?_ 1 _ rfl; (with_reducible repeat (first | refine blk_drewN ?_ _ | refine blk_drew ?_ | refine blk_alloc ?_ _)); refine blk_put (cs := #[.int .u64 0, .int .u64 0]) ?_ 0 _ rfl; (with_reducible repeat (first | refine blk_drewN ?_ _ | refine blk_drew ?_ | refine blk_alloc ?_ _)); exact BK150.out) Tryd.underlying46 rfl (by kernel_rfl)) rfl ?_
  exact ⟨by first | rfl | (simp [errW_none, errW_some] <;> rfl) | (simp [*, errW_none, errW_some] <;> rfl), by repeat (first | (with_reducible first | exact HB.out | apply below_alloc | apply pw_below_drewN | apply below_drew1 | refine below_set ?_ GE149.out | refine below_set ?_ GE150.out) | exact HB.out)⟩

/-! ### proof_reverse: function 47 -/
def proof_reverse.l0 : Nat → List (S46) → Int → Int → Option ((List (S46)))
  | 0, _, _, _ => none
  | k + 1, x0, x2, x3 => if x2 < x3 then (if 0 ≤ x3 then (if x3 < (x0.length : Int) then (if 0 ≤ x2 then (if x2 < (x0.length : Int) then (proof_reverse.l0 k ((x0.set (x2 : Int).toNat (⟨(rd_T46 x0 x3).f0, (rd_T46 x0 x3).f1⟩ : S46)).set (x3 : Int).toNat (⟨(rd_T46 x0 x2).f0, (rd_T46 x0 x2).f1⟩ : S46)) (wrap64 (x2 + 1)) (wrap64 (x3 - 1))) else (none)) else (none)) else (none)) else (none)) else (some x0)
def proof_reverse.f (k : Nat) (l0 : List (S46)) : Option ((List (S46))) := proof_reverse.l0 k l0 0 (wrap64 ((l0.length : Int) - 1))
theorem proof_reverse.mono_l : ∀ k, (∀ y0 y1 y2, LeO (proof_reverse.l0 k y0 y1 y2) (proof_reverse.l0 (k + 1) y0 y1 y2))
  | 0 => fun _ _ _ r h => by simp [proof_reverse.l0] at h
  | k + 1 => by
    have ih0 := proof_reverse.mono_l k
    · intro y0 y1 y2
      unfold proof_reverse.l0
      repeat' first
      | (with_reducible exact ih0 _ _ _)
      | (with_reducible exact LeO.refl _)
      | (with_reducible exact LeO.none _)
      | (with_reducible refine LeO.ite ?_ ?_)
      | (with_reducible refine LeO.bind ?_ (fun _ => ?_))
      | exact ih0 _ _ _
      | exact LeO.none _
      | refine LeO.ite ?_ ?_
      | refine LeO.bind ?_ (fun _ => ?_)
theorem proof_reverse.mono : ∀ a0 k, LeO (proof_reverse.f k a0) (proof_reverse.f (k + 1) a0) := by
  intro a0 k
  have ih0 := proof_reverse.mono_l k
  unfold proof_reverse.f
  repeat' first
      | (with_reducible exact ih0 _ _ _)
      | (with_reducible exact LeO.refl _)
      | (with_reducible exact LeO.none _)
      | (with_reducible refine LeO.ite ?_ ?_)
      | (with_reducible refine LeO.bind ?_ (fun _ => ?_))
      | exact ih0 _ _ _
      | exact LeO.none _
      | refine LeO.ite ?_ ?_
      | refine LeO.bind ?_ (fun _ => ?_)
def proof_reverse.T3 : Bool × List (List Nat × List Nat) := (true, [([], []), ([], []), ([], []), ([], []), ([], []), ([], []), ([4, 5], [4, 5]), ([6], [6]), ([], []), ([], []), ([8, 9], [8, 9]), ([10], [10]), ([0, 1, 0, 1, 4, 5, 6, 7, 11], [0, 1]), ([12, 7, 0, 1, 4, 5, 6, 7, 11], [7, 12]), ([2, 3, 0, 1, 2, 3, 4, 5, 6, 7, 8, 9, 10, 11, 12, 13], [2, 3]), ([14, 11, 13, 0, 1, 2, 3, 4, 5, 6, 7, 8, 9, 10, 11, 12, 13], [11, 14])])
def proof_reverse.B3 : List Nat := [0, 0, 0, 0, 0, 0, 48, 112, 0, 0, 768, 1792, 4083, 8179, 16383, 32767]
theorem proof_reverse.tab3 : rtab .any (opsOf Tryd.f47 3) = proof_reverse.T3 := by kernel_rfl
theorem proof_reverse.bits3 : waitsOk proof_reverse.T3.2 proof_reverse.B3 = true := by kernel_rfl
set_option maxHeartbeats 8000000 in
set_option maxRecDepth 100000 in
theorem proof_reverse.calls (k : Nat) (P0_ : Nat → Prop) (u9000_ : Value) (l0 : List (S46)) (r : List (S46)) (w0 w : World) (hB : Below w0.heap.size w0 w) (ho0 : Kd.R k46 46 w w0.heap.size P0_ u9000_ l0) (h : proof_reverse.f k l0 = some r) :
    Calls Tryd.prog 47 #[u9000_] w fun e w' => e = .returned (.tuple #[]) ∧ Kd.R k46 46 w' w0.heap.size (fun k_ => (P0_ k_ ∨ w.heap.size ≤ k_)) u9000_ r ∧ Below w0.heap.size w0 w' ∧ Kept w w' (fun k_ => P0_ k_) := by
  have hu46 := Tryd.underlying46
  have HO0 := Aside0.mk (show Kd.R k46 46 w w0.heap.size (fun k_ => (P0_ k_ ∨ w.heap.size ≤ k_)) u9000_ l0 from Kd.R_mono ho0 (fun k_ hk => (.inl hk)))
  have HK := Aside0.mk (Kept.refl w (fun k_ => P0_ k_))
  have HW0 := Aside0.mk hB.size
  have HB := Aside0.mk hB
  clear hB
  have H : (proof_reverse.l0 k l0 0 (wrap64 ((l0.length : Int) - 1))) = some r := h
  clear h
  have H' := Aside0.mk H
  clear H
  obtain ⟨Ao2, co2, eo2⟩ := Kd.R_slice HO0.out
  subst eo2
  go_enter Tryd.func47, Tryd.ntmps47
  go_wp2
  (try simp only [Act.put, List.setIfInBounds_toArray, List.set_cons_zero, List.set_cons_succ])
  go_loopg [2, 3] k (fun kq v2 v3 w' => ∃ (x0_1 : List (S46)) (x2_1 : Int) (x3_1 : Int), v2 = .int .i64 x2_1 ∧ v3 = .int .i64 x3_1 ∧ Aside0 (proof_reverse.l0 kq x0_1 x2_1 x3_1 = some r) ∧ Aside0 (kq ≤ k) ∧ Aside0 (Kd.R k46 46 w' w0.heap.size (fun k_ => (P0_ k_ ∨ w.heap.size ≤ k_)) (.slice Ao2 l0.length co2) x0_1) ∧ Aside0 (Kept w w' (fun k_ => P0_ k_)) ∧ Aside0 (Below w0.heap.size w0 w'))
  case atStart => exact ⟨(l0), (0), (wrap64 ((l0.length : Int) - 1)), (by first | rfl | (simp; done) | (simp [*]; done)), (by first | rfl | (simp; done) | (simp [*]; done)), H', ⟨Nat.le_refl _⟩, ⟨by (with_reducible repeat (first | apply Kd.R_alloc | apply Kd.R_drewN | apply Kd.R_drew)); exact HO0.out⟩, ⟨by repeat (first | (with_reducible first | exact HK.out | apply Kept.alloc | apply Kept.drewN | apply Kept.drew) | exact HK.out)⟩, ⟨by repeat (first | (with_reducible first | exact HB.out | apply below_alloc | apply pw_below_drewN | apply below_drew1) | exact HB.out)⟩⟩
  case round =>
    clear H'
    try clear p2
    obtain ⟨x0_1, x2_1, x3_1, rfl, rfl, HA, HK1, HO_0, HK, HB⟩ := hrel
    have hl0_1 := (Kd.R_reads' HO_0.out).1
    rw [hl0_1] at HO_0
    (try simp only [hl0_1])
    cases gk with
    | zero => exact absurd HA.out (by simp [proof_reverse.l0])
    | succ k1 =>
      have H := HA.out
      clear HA
      simp only [proof_reverse.l0] at H
      by_cases c3 : x2_1 < x3_1
      · rw [if_pos c3] at H
        have c3b0 : decide (x2_1 < x3_1) = true := decide_eq_true c3
        by_cases c4 : 0 ≤ x3_1
        · rw [if_pos c4] at H
          have c4b0 : decide (0 ≤ x3_1) = true := decide_eq_true c4
          clear c4
          by_cases c5 : x3_1 < (x0_1.length : Int)
          · rw [if_pos c5] at H
            have c5b0 : decide (x3_1 < (x0_1.length : Int)) = true := decide_eq_true c5
            by_cases c6 : 0 ≤ x2_1
            · rw [if_pos c6] at H
              have c6b0 : decide (0 ≤ x2_1) = true := decide_eq_true c6
              by_cases c7 : x2_1 < (x0_1.length : Int)
              · rw [if_pos c7] at H
                have c7b0 : decide (x2_1 < (x0_1.length : Int)) = true := decide_eq_true c7
                clear c7
                obtain ⟨y155, hy155⟩ : ∃ y_ : List (S46), y_ = (x0_1.set (x2_1 : Int).toNat (⟨(rd_T46 x0_1 x3_1).f0, (rd_T46 x0_1 x3_1).f1⟩ : S46)) := ⟨_, rfl⟩
                replace H : (proof_reverse.l0 k1 (y155.set (x3_1 : Int).toNat (⟨(rd_T46 x0_1 x2_1).f0, (rd_T46 x0_1 x2_1).f1⟩ : S46)) (wrap64 (x2_1 + 1)) (wrap64 (x3_1 - 1))) = some r := by first | (rw [hy155]; with_reducible exact H) | (have H2_ := (Option.bind_some _ _).symm.trans H; rw [hy155]; with_reducible exact H2_) | (have H2_ := (Option.bind_some _ _).symm.trans H; with_reducible exact H2_) | with_reducible exact H | (rw [hy155]; exact H) | exact H
                have Ny155 := Aside0.mk hy155
                clear hy155
                obtain ⟨y156, hy156⟩ : ∃ y_ : List (S46), y_ = (y155.set (x3_1 : Int).toNat (⟨(rd_T46 x0_1 x2_1).f0, (rd_T46 x0_1 x2_1).f1⟩ : S46)) := ⟨_, rfl⟩
                replace H : (proof_reverse.l0 k1 y156 (wrap64 (x2_1 + 1)) (wrap64 (x3_1 - 1))) = some r := by first | (rw [hy156]; with_reducible exact H) | (have H2_ := (Option.bind_some _ _).symm.trans H; rw [hy156]; with_reducible exact H2_) | (have H2_ := (Option.bind_some _ _).symm.trans H; with_reducible exact H2_) | with_reducible exact H | (rw [hy156]; exact H) | exact H
                have Ny156 := Aside0.mk hy156
                clear hy156
                have H' := Aside0.mk H
                clear H
                try go_wp2
                have n0_ := Aside0.mk (Kd.R_drew HO_0.out)
                have n1_ := Aside0.mk (Kept.drew HK.out)
                have n2_ := Aside0.mk (below_drew1 HB.out)
                clear HO_0
                clear HK
                clear HB
                have HO_0 := n0_
                have HK := n1_
                have HB := n2_
                clear n0_ n1_ n2_
                have p153 : 0 ≤ (x3_1 : Int) := of_decide_eq_true (by first | (with_reducible assumption) | assumption)
                have q153 : x3_1 < (x0_1.length : Int) := of_decide_eq_true (by first | (with_reducible assumption) | assumption)
                obtain ⟨ad153, e153, hx153_0, hx153_1⟩ := at_T46 (Kd.R_reads' HO_0.out).2.2 x3_1 p153 q153
                cases e153
                replace p153 := eq_true p153
                replace q153 := eq_true q153
                have p154 : 0 ≤ (x2_1 : Int) := of_decide_eq_true (by first | (with_reducible assumption) | assumption)
                have q154 : x2_1 < (x0_1.length : Int) := of_decide_eq_true (by first | (with_reducible assumption) | assumption)
                obtain ⟨ad154, e154, hx154_0, hx154_1⟩ := at_T46 (Kd.R_reads' HO_0.out).2.2 x2_1 p154 q154
                obtain rfl : ad153 = ad154 := (by injection e154)
                replace p154 := eq_true p154
                replace q154 := eq_true q154
                have p8 : 0 ≤ (x2_1 : Int) := of_decide_eq_true (by first | (with_reducible assumption) | assumption)
                have q8 : (x2_1 : Int) < ((x0_1.length : Int) : Int) := of_decide_eq_true (by first | (with_reducible assumption) | assumption)
                obtain ⟨go8, co8, eo8, gb8, gl8, cl8, HG8⟩ := Kd.R_form HO_0.out (by omega)
                (first | cases eo8 | (injection eo8 with ea_ en_ ec_; (first | subst ea_ | (injection ea_ with ea_; subst ea_)); subst ec_; clear en_))
                have GB8 := Aside0.mk gb8
                have GG8 := Aside0.mk HG8
                clear gb8 gl8 HG8
                have HMgo8 := Aside0.mk (show (P0_ go8 ∨ w.heap.size ≤ go8) from (HO_0.out.1 _ rfl))
                (first | simp only [add_plain] at hx153_0 | skip)
                (first | simp only [add_plain] at hx153_1 | skip)
                (first | simp only [add_plain] at hx154_0 | skip)
                (first | simp only [add_plain] at hx154_1 | skip)
                obtain ⟨ce8, hcl8, hM8, hcc8, hfr8⟩ := Kd.R_elem HO_0.out z46 (x2_1 : Int) p8 q8
                obtain rfl := k46_openM hM8
                have hx8_0 : World.cell? _ ⟨go8, (x2_1 : Int).toNat * 2, none⟩ = some (.int .u64 ((rd_T46 x0_1 x2_1).f0)) := hcc8 0 _ rfl
                have hx8_1 : World.cell? _ ⟨go8, (x2_1 : Int).toNat * 2 + 1, none⟩ = some (.int .u64 ((rd_T46 x0_1 x2_1).f1)) := hcc8 1 _ rfl
                have hf8_0 : World.frozen? _ ⟨go8, (x2_1 : Int).toNat * 2, none⟩ = false := hfr8 0
                have hf8_1 : World.frozen? _ ⟨go8, (x2_1 : Int).toNat * 2 + 1, none⟩ = false := hfr8 1
                clear hcl8 hcc8 hfr8 hM8
                replace p8 := eq_true p8
                replace q8 := eq_true q8
                obtain ⟨ce11, hcl11, hM11, hcc11, hfr11⟩ := Kd.R_elem HO_0.out z46 (x2_1 : Int) (of_decide_eq_true (by first | (with_reducible assumption) | assumption)) (by have h_ : (x2_1 : Int) < ((x0_1.length : Int) : Int) := of_decide_eq_true (by first | (with_reducible assumption) | assumption); first | exact h_ | (have e_ := (Kd.R_reads' HO_0.out).1; omega) | simpa using h_)
                obtain rfl := k46_openM hM11
                have HP11 := (Kd.R_seg HO_0.out (x2_1 : Int) (of_decide_eq_true (by first | (with_reducible assumption) | assumption)) (by have h_ : (x2_1 : Int) < ((x0_1.length : Int) : Int) := of_decide_eq_true (by first | (with_reducible assumption) | assumption); first | exact h_ | (have e_ := (Kd.R_reads' HO_0.out).1; omega) | simpa using h_) (seg := [.int .u64 ((rd_T46 x0_1 x3_1).f0), .int .u64 ((rd_T46 x0_1 x3_1).f1)]) (j := 0) hcl11 hcc11 (show 2 ≤ 2 from by decide) (x' := (⟨(rd_T46 x0_1 x3_1).f0, (rd_T46 x0_1 x3_1).f1⟩ : S46)) (k46_mkM _ _ _ (⟨(rd_T46 x0_1 x3_1).f0, (rd_T46 x0_1 x3_1).f1⟩ : S46) ) (fun _ hk => hk)).1
                rw [← Ny155.out] at HP11
                have HQ11 := Aside0.mk HP11
                clear hcl11 hcc11 hfr11 hM11 HP11
                have p9 : 0 ≤ (x3_1 : Int) := of_decide_eq_true (by first | (with_reducible assumption) | assumption)
                have q9 : (x3_1 : Int) < ((x0_1.length : Int) : Int) := of_decide_eq_true (by first | (with_reducible assumption) | assumption)
                obtain ⟨ce9, hcl9, hM9, hcc9, hfr9⟩ := Kd.R_elem HQ11.out z46 (x3_1 : Int) p9 q9
                obtain rfl := k46_openM hM9
                have hx9_0 : World.cell? _ ⟨go8, (x3_1 : Int).toNat * 2, none⟩ = some (.int .u64 ((rd_T46 y155 x3_1).f0)) := hcc9 0 _ rfl
                have hx9_1 : World.cell? _ ⟨go8, (x3_1 : Int).toNat * 2 + 1, none⟩ = some (.int .u64 ((rd_T46 y155 x3_1).f1)) := hcc9 1 _ rfl
                have hf9_0 : World.frozen? _ ⟨go8, (x3_1 : Int).toNat * 2, none⟩ = false := hfr9 0
                have hf9_1 : World.frozen? _ ⟨go8, (x3_1 : Int).toNat * 2 + 1, none⟩ = false := hfr9 1
                obtain ⟨_, _, _, _, hfr9b⟩ := Kd.R_elem HO_0.out z46 (x3_1 : Int) (by omega) (by omega)
                have hf9b_0 : World.frozen? _ ⟨go8, (x3_1 : Int).toNat * 2, none⟩ = false := hfr9b 0
                have hf9b_1 : World.frozen? _ ⟨go8, (x3_1 : Int).toNat * 2 + 1, none⟩ = false := hfr9b 1
                clear hfr9b
                clear hcl9 hcc9 hfr9 hM9
                replace p9 := eq_true p9
                replace q9 := eq_true q9
                obtain ⟨ce12, hcl12, hM12, hcc12, hfr12⟩ := Kd.R_elem HQ11.out z46 (x3_1 : Int) (of_decide_eq_true (by first | (with_reducible assumption) | assumption)) (by have h_ : (x3_1 : Int) < ((x0_1.length : Int) : Int) := of_decide_eq_true (by first | (with_reducible assumption) | assumption); first | exact h_ | (have e_ := (Kd.R_reads' HO_0.out).1; omega) | simpa using h_)
                obtain rfl := k46_openM hM12
                have HP12 := (Kd.R_seg HQ11.out (x3_1 : Int) (of_decide_eq_true (by first | (with_reducible assumption) | assumption)) (by have h_ : (x3_1 : Int) < ((x0_1.length : Int) : Int) := of_decide_eq_true (by first | (with_reducible assumption) | assumption); first | exact h_ | (have e_ := (Kd.R_reads' HO_0.out).1; omega) | simpa using h_) (seg := [.int .u64 ((rd_T46 x0_1 x2_1).f0), .int .u64 ((rd_T46 x0_1 x2_1).f1)]) (j := 0) hcl12 hcc12 (show 2 ≤ 2 from by decide) (x' := (⟨(rd_T46 x0_1 x2_1).f0, (rd_T46 x0_1 x2_1).f1⟩ : S46)) (k46_mkM _ _ _ (⟨(rd_T46 x0_1 x2_1).f0, (rd_T46 x0_1 x2_1).f1⟩ : S46) ) (fun _ hk => hk)).1
                rw [← Ny156.out] at HP12
                have HQ12 := Aside0.mk HP12
                clear hcl12 hcc12 hfr12 hM12 HP12
                refine start_ (n := 16) (S := fun w' => w'.cell? ⟨go8, ((x3_1).toNat * 2), none⟩ = some (.int .u64 ((rd_T46 x0_1 x3_1).f0)) ∧ w'.cell? ⟨go8, ((x3_1).toNat * 2) + 1, none⟩ = some (.int .u64 ((rd_T46 x0_1 x3_1).f1)) ∧ w'.cell? ⟨go8, ((x2_1).toNat * 2), none⟩ = some (.int .u64 ((rd_T46 x0_1 x2_1).f0)) ∧ w'.cell? ⟨go8, ((x2_1).toNat * 2) + 1, none⟩ = some (.int .u64 ((rd_T46 x0_1 x2_1).f1))) (ds := [13, 15]) #[false, false, false, false, false, false, false, false, false, false, false, false, false, false, false, false] (by kernel_rfl) rfl rfl ⟨hx153_0, hx153_1, hx154_0, hx154_1⟩ (fun hHeld => ?_); refine with_tabW proof_reverse.tab3 proof_reverse.bits3 (fun HT_ HW_ => ?_)
                generalize wr.drew = w10 at HO_0 HK HB GG8 HQ11 HQ12 hf8_0 hf8_1 hf9_0 hf9_1 hf9b_0 hf9b_1 hx153_0 hx153_1 hx154_0 hx154_1 hx8_0 hx8_1 hx9_0 hx9_1 hHeld ⊢
                refine pure_ (i := 0) (N := some 14) (v := ?_) (a' := ?_) #[true, false, false, false, false, false, false, false, false, false, false, false, false, false, false, false] rfl rfl (any_of HT_.out (by kernel_rfl)) (fun _ _ _ h => h) (Or.inl ⟨by rfl, ?_⟩) ?_ ?_
                rotate_left
                · intro w'
                  go_simp
                  with_reducible rfl
                rotate_left
                · simp only [Act.put, List.setIfInBounds_toArray, List.set_cons_zero, List.set_cons_succ, i64_w, i32_w]
                  rfl
                refine pure_ (i := 1) (N := some 15) (v := ?_) (a' := ?_) #[true, true, false, false, false, false, false, false, false, false, false, false, false, false, false, false] rfl rfl (any_of HT_.out (by kernel_rfl)) (fun _ _ _ h => h) (Or.inl ⟨by rfl, ?_⟩) ?_ ?_
                rotate_left
                · intro w'
                  go_simp
                  with_reducible rfl
                rotate_left
                · simp only [Act.put, List.setIfInBounds_toArray, List.set_cons_zero, List.set_cons_succ, i64_w, i32_w]
                  rfl
                refine pure_ (i := 2) (N := some 16) (v := ?_) (a' := ?_) #[true, true, true, false, false, false, false, false, false, false, false, false, false, false, false, false] rfl rfl (any_of HT_.out (by kernel_rfl)) (fun _ _ _ h => h) (Or.inl ⟨by rfl, ?_⟩) ?_ ?_
                rotate_left
                · intro w'
                  go_simp
                  with_reducible rfl
                rotate_left
                · simp only [Act.put, List.setIfInBounds_toArray, List.set_cons_zero, List.set_cons_succ, i64_w, i32_w]
                  rfl
                refine pure_ (i := 3) (N := some 17) (v := ?_) (a' := ?_) #[true, true, true, true, false, false, false, false, false, false, false, false, false, false, false, false] rfl rfl (any_of HT_.out (by kernel_rfl)) (fun _ _ _ h => h) (Or.inl ⟨by rfl, ?_⟩) ?_ ?_
                rotate_left
                · intro w'
                  go_simp
                  with_reducible rfl
                rotate_left
                · simp only [Act.put, List.setIfInBounds_toArray, List.set_cons_zero, List.set_cons_succ, i64_w, i32_w]
                  rfl
                refine pure_ (i := 4) (N := some 18) (v := ?_) (a' := ?_) #[true, true, true, true, true, false, false, false, false, false, false, false, false, false, false, false] rfl rfl (any_of HT_.out (by kernel_rfl)) (fun _ _ _ h => h) (Or.inl ⟨by rfl, ?_⟩) ?_ ?_
                rotate_left
                · intro w'
                  go_simp
                  with_reducible rfl
                rotate_left
                · simp only [Act.put, List.setIfInBounds_toArray, List.set_cons_zero, List.set_cons_succ, i64_w, i32_w]
                  rfl
                refine pure_ (i := 5) (N := some 19) (v := ?_) (a' := ?_) #[true, true, true, true, true, true, false, false, false, false, false, false, false, false, false, false] rfl rfl (any_of HT_.out (by kernel_rfl)) (fun _ _ _ h => h) (Or.inl ⟨by rfl, ?_⟩) ?_ ?_
                rotate_left
                · intro w'
                  go_simp
                  with_reducible rfl
                rotate_left
                · simp only [Act.put, List.setIfInBounds_toArray, List.set_cons_zero, List.set_cons_succ, i64_w, i32_w]
                  rfl
                refine pure_ (i := 6) (N := some 20) (v := ?_) (a' := ?_) #[true, true, true, true, true, true, true, false, false, false, false, false, false, false, false, false] rfl rfl (any_of HT_.out (by kernel_rfl)) (fun _ _ _ h => h) (Or.inl ⟨by rfl, ?_⟩) ?_ ?_
                rotate_left
                · intro w'
                  go_simp
                  with_reducible rfl
                rotate_left
                · simp only [Act.put, List.setIfInBounds_toArray, List.set_cons_zero, List.set_cons_succ, i64_w, i32_w]
                  rfl
                refine pure_ (i := 8) (N := some 22) (v := ?_) (a' := ?_) #[true, true, true, true, true, true, true, false, true, false, false, false, false, false, false, false] rfl rfl (any_of HT_.out (by kernel_rfl)) (fun _ _ _ h => h) (Or.inl ⟨by rfl, ?_⟩) ?_ ?_
                rotate_left
                · intro w'
                  go_simp
                  with_reducible rfl
                rotate_left
                · simp only [Act.put, List.setIfInBounds_toArray, List.set_cons_zero, List.set_cons_succ, i64_w, i32_w]
                  rfl
                refine pure_ (i := 9) (N := some 23) (v := ?_) (a' := ?_) #[true, true, true, true, true, true, true, false, true, true, false, false, false, false, false, false] rfl rfl (any_of HT_.out (by kernel_rfl)) (fun _ _ _ h => h) (Or.inl ⟨by rfl, ?_⟩) ?_ ?_
                rotate_left
                · intro w'
                  go_simp
                  with_reducible rfl
                rotate_left
                · simp only [Act.put, List.setIfInBounds_toArray, List.set_cons_zero, List.set_cons_succ, i64_w, i32_w]
                  rfl
                refine pure_ (i := 10) (N := some 24) (v := ?_) (a' := ?_) #[true, true, true, true, true, true, true, false, true, true, true, false, false, false, false, false] rfl rfl (any_of HT_.out (by kernel_rfl)) (fun _ _ _ h => h) (Or.inl ⟨by rfl, ?_⟩) ?_ ?_
                rotate_left
                · intro w'
                  go_simp
                  with_reducible rfl
                rotate_left
                · simp only [Act.put, List.setIfInBounds_toArray, List.set_cons_zero, List.set_cons_succ, i64_w, i32_w]
                  rfl
                refine take_ (i := 7) (N := some 21) (v := ?_) (a' := ?_) #[true, true, true, true, true, true, true, true, true, true, true, false, false, false, false, false] rfl rfl (take_ofW HT_.out HW_.out (by kernel_rfl)) (fun _ _ _ h => h) (Or.inl ⟨by rfl, ?_⟩) hHeld ?_ ?_
                rotate_left
                · rintro w' ⟨s0, s1, s2, s3⟩
                  go_simp
                  with_reducible rfl
                rotate_left
                · simp only [Act.put, List.setIfInBounds_toArray, List.set_cons_zero, List.set_cons_succ, i64_w, i32_w]
                  rfl
                refine take_ (i := 11) (N := some 25) (v := ?_) (a' := ?_) #[true, true, true, true, true, true, true, true, true, true, true, true, false, false, false, false] rfl rfl (take_ofW HT_.out HW_.out (by kernel_rfl)) (fun _ _ _ h => h) (Or.inl ⟨by rfl, ?_⟩) hHeld ?_ ?_
                rotate_left
                · rintro w' ⟨s0, s1, s2, s3⟩
                  go_simp
                  with_reducible rfl
                rotate_left
                · simp only [Act.put, List.setIfInBounds_toArray, List.set_cons_zero, List.set_cons_succ, i64_w, i32_w]
                  rfl
                refine pure_ (i := 12) (N := some 26) (v := ?_) (a' := ?_) #[true, true, true, true, true, true, true, true, true, true, true, true, true, false, false, false] rfl rfl (any_of HT_.out (by kernel_rfl)) (fun _ _ _ h => h) (Or.inl ⟨by rfl, ?_⟩) ?_ ?_
                rotate_left
                · intro w'
                  go_simp
                  with_reducible rfl
                rotate_left
                · simp only [Act.put, List.setIfInBounds_toArray, List.set_cons_zero, List.set_cons_succ, i64_w, i32_w]
                  rfl
                refine last_ (i := 13) (N := none) #[true, true, true, true, true, true, true, true, true, true, true, true, true, true, false, false] rfl rfl (one_of HT_.out (by kernel_rfl)) (by decide) (fun K hK => ?_)
                refine skip_ (w1 := ?_) (by rfl) rfl ?_ ?_
                rotate_left
                · go_simp
                  rfl
                refine hK.out _ _ ?_
                clear hK K
                refine pure_ (i := 14) (N := some 27) (v := ?_) (a' := ?_) #[true, true, true, true, true, true, true, true, true, true, true, true, true, true, true, false] rfl rfl (any_of HT_.out (by kernel_rfl)) (fun _ _ _ h => h) (Or.inl ⟨by rfl, ?_⟩) ?_ ?_
                rotate_left
                · intro w'
                  go_simp
                  with_reducible rfl
                rotate_left
                · simp only [Act.put, List.setIfInBounds_toArray, List.set_cons_zero, List.set_cons_succ, i64_w, i32_w]
                  rfl
                refine last_ (i := 15) (N := none) #[true, true, true, true, true, true, true, true, true, true, true, true, true, true, true, true] rfl rfl (one_of HT_.out (by kernel_rfl)) (by decide) (fun K hK => ?_)
                refine skip_ (w1 := ?_) (by rfl) rfl ?_ ?_
                rotate_left
                · go_simp
                  rfl
                refine hK.out _ _ ?_
                clear hK K
                refine done_ (done_of HT_.out (by kernel_rfl)) ?_
                try go_wp2
                (try simp only [← hl0_1])
                go_roundg k1
                case measure => have := HK1.out; omega
                case rel => exact ⟨(y156), (wrap64 (x2_1 + 1)), (wrap64 (x3_1 - 1)), (by first | rfl | (simp; done) | (simp [*]; done)), (by first | rfl | (simp; done) | (simp [*]; done)), H', ⟨by have := HK1.out; omega⟩, ⟨by (try simp only [hl0_1]); (with_reducible repeat (first | apply Kd.R_alloc | apply Kd.R_drewN | apply Kd.R_drew)); exact HQ12.out⟩, ⟨by repeat (first | (with_reducible first | exact HK.out | apply Kept.alloc | apply Kept.drewN | apply Kept.drew | refine Kept.setCell ?_ HMgo8.out _ | refine Kept.setCell ?_ HMgo8.out _ | refine Kept.setCell ?_ HMgo8.out _ | refine Kept.setCell ?_ HMgo8.out _) | exact HK.out)⟩, ⟨by repeat (first | (with_reducible first | exact HB.out | apply below_alloc | apply pw_below_drewN | apply below_drew1 | refine below_set ?_ GB8.out | refine below_set ?_ GB8.out | refine below_set ?_ GB8.out | refine below_set ?_ GB8.out) | exact HB.out)⟩⟩
              · rw [if_neg c7] at H
                exact absurd H (by simp)
            · rw [if_neg c6] at H
              exact absurd H (by simp)
          · rw [if_neg c5] at H
            exact absurd H (by simp)
        · rw [if_neg c4] at H
          exact absurd H (by simp)
      · rw [if_neg c3] at H
        have c3b0 : decide (x2_1 < x3_1) = false := decide_eq_false c3
        clear c3
        obtain rfl := Option.some.inj H
        go_wp2
        first | go_end0 | ((try simp only [Exit.inBlock, Exit.then]); refine bodyPost_ret (results_none rfl _ _ _) rfl ?_)
        exact ⟨by first | rfl | (simp [errW_none, errW_some] <;> rfl) | (simp [*, errW_none, errW_some] <;> rfl), (by first | exact (by (with_reducible repeat (first | apply Kd.R_alloc | apply Kd.R_drewN | apply Kd.R_drew)); exact HO_0.out) | (simp only [hl0_1]; exact (by (with_reducible repeat (first | apply Kd.R_alloc | apply Kd.R_drewN | apply Kd.R_drew)); exact HO_0.out))), by repeat (first | (with_reducible first | exact HB.out | apply below_alloc | apply pw_below_drewN | apply below_drew1) | exact HB.out), by repeat (first | (with_reducible first | exact HK.out | apply Kept.alloc | apply Kept.drewN | apply Kept.drew) | exact HK.out)⟩

theorem getD_tail (pre xs : List S46) (i : Int) (h0 : 0 ≤ i) : (pre ++ xs).getD ((pre.length : Int) + i).toNat z46 = rd_T46 xs i := by
  unfold rd_T46
  rw [List.getD_eq_getElem?_getD, List.getElem?_append_right (by omega), show ((pre.length : Int) + i).toNat - pre.length = i.toNat by omega, List.getD_eq_getElem?_getD]

theorem tail_elem {W : World} {base g n c : Nat} {ok : Nat → Prop} {pre xs : List S46} (h : Kd.R k46 46 W base ok (.slice (some ⟨g, 0, none⟩) n c) (pre ++ xs)) (i : Int) (h0 : 0 ≤ i) (h1 : i < xs.length) :
    (W.cell? ⟨g, pre.length * 2 + i.toNat * 2, none⟩ = some (.int .u64 (rd_T46 xs i).f0) ∧ W.cell? ⟨g, pre.length * 2 + i.toNat * 2 + 1, none⟩ = some (.int .u64 (rd_T46 xs i).f1)) ∧
      W.frozen? ⟨g, pre.length * 2 + i.toNat * 2, none⟩ = false ∧ W.frozen? ⟨g, pre.length * 2 + i.toNat * 2 + 1, none⟩ = false := by
  have hn := (Kd.R_reads' h).1
  rw [List.length_append] at hn
  obtain ⟨ce, hcl, hM, hcc, hfr⟩ := Kd.R_elem h z46 ((pre.length : Int) + i) (by omega) (by omega)
  rw [getD_tail pre xs i h0] at hM
  obtain rfl := k46_openM hM
  have e : ((pre.length : Int) + i).toNat * 2 = pre.length * 2 + i.toNat * 2 := by omega
  have a0 := hcc 0 _ rfl
  have a1 := hcc 1 _ rfl
  have b0 := hfr 0
  have b1 := hfr 1
  change W.cell? ⟨g, ((pre.length : Int) + i).toNat * 2 + 0, none⟩ = _ at a0
  change W.cell? ⟨g, ((pre.length : Int) + i).toNat * 2 + 1, none⟩ = _ at a1
  change W.frozen? ⟨g, ((pre.length : Int) + i).toNat * 2 + 0, none⟩ = _ at b0
  change W.frozen? ⟨g, ((pre.length : Int) + i).toNat * 2 + 1, none⟩ = _ at b1
  rw [e] at a0 a1 b0 b1
  exact ⟨⟨a0, a1⟩, b0, b1⟩

theorem tail_seg {W : World} {base g n c : Nat} {ok : Nat → Prop} {pre xs : List S46} (h : Kd.R k46 46 W base ok (.slice (some ⟨g, 0, none⟩) n c) (pre ++ xs)) (i : Int) (h0 : 0 ≤ i) (h1 : i < xs.length) (x : S46) :
    Kd.R k46 46 (W.setCells g (pre.length * 2 + i.toNat * 2) [.int .u64 x.f0, .int .u64 x.f1]) base ok (.slice (some ⟨g, 0, none⟩) n c) (pre ++ xs.set i.toNat x) := by
  have hn := (Kd.R_reads' h).1
  rw [List.length_append] at hn
  obtain ⟨ce, hcl, hM, hcc, hfr⟩ := Kd.R_elem h z46 ((pre.length : Int) + i) (by omega) (by omega)
  obtain rfl := k46_openM hM
  have hs := (Kd.R_seg h ((pre.length : Int) + i) (by omega) (by omega) (seg := [.int .u64 x.f0, .int .u64 x.f1]) (j := 0) hcl hcc (show 2 ≤ 2 from by decide) (x' := x) (k46_mkM _ _ _ x) (fun _ hk => hk)).1
  have e : ((pre.length : Int) + i).toNat * 2 = pre.length * 2 + i.toNat * 2 := by omega
  have e2 : (pre ++ xs).set ((pre.length : Int) + i).toNat x = pre ++ xs.set i.toNat x := by
    rw [List.set_append_right _ _ (by omega), show ((pre.length : Int) + i).toNat - pre.length = i.toNat by omega]
  rw [e2] at hs
  change Kd.R k46 46 (W.setCells g (((pre.length : Int) + i).toNat * 2 + 0) _) _ _ _ _ at hs
  rw [e] at hs
  exact hs
set_option maxHeartbeats 8000000 in
set_option maxRecDepth 100000 in
theorem proof_reverse.tail (k : Nat) (P0_ : Nat → Prop) (g n c cc o : Nat) (pre l0 : List (S46)) (r : List (S46)) (w0 w : World) (ho_ : o = pre.length * 2) (hB : Below w0.heap.size w0 w) (ho0 : Kd.R k46 46 w w0.heap.size P0_ (.slice (some ⟨g, 0, none⟩) n c) (pre ++ l0)) (h : proof_reverse.f k l0 = some r) :
    Calls Tryd.prog 47 #[.slice (some ⟨g, o, none⟩) l0.length cc] w fun e w' => e = .returned (.tuple #[]) ∧ Kd.R k46 46 w' w0.heap.size (fun k_ => (P0_ k_ ∨ w.heap.size ≤ k_)) (.slice (some ⟨g, 0, none⟩) n c) (pre ++ r) ∧ Below w0.heap.size w0 w' ∧ Kept w w' (fun k_ => P0_ k_) := by
  have ho := Aside0.mk ho_
  clear ho_
  have hu46 := Tryd.underlying46
  have HO0 := Aside0.mk (show Kd.R k46 46 w w0.heap.size (fun k_ => (P0_ k_ ∨ w.heap.size ≤ k_)) (.slice (some ⟨g, 0, none⟩) n c) (pre ++ l0) from Kd.R_mono ho0 (fun k_ hk => (.inl hk)))
  have HN0 := Aside0.mk (Kd.R_reads' ho0).1
  clear ho0
  have HK := Aside0.mk (Kept.refl w (fun k_ => P0_ k_))
  have HW0 := Aside0.mk hB.size
  have HB := Aside0.mk hB
  clear hB
  have H : (proof_reverse.l0 k l0 0 (wrap64 ((l0.length : Int) - 1))) = some r := h
  clear h
  have H' := Aside0.mk H
  clear H
  go_enter Tryd.func47, Tryd.ntmps47
  go_wp2
  (try simp only [Act.put, List.setIfInBounds_toArray, List.set_cons_zero, List.set_cons_succ])
  go_loopg [2, 3] k (fun kq v2 v3 w' => ∃ (x0_1 : List (S46)) (x2_1 : Int) (x3_1 : Int), v2 = .int .i64 x2_1 ∧ v3 = .int .i64 x3_1 ∧ Aside0 (proof_reverse.l0 kq x0_1 x2_1 x3_1 = some r) ∧ Aside0 (kq ≤ k) ∧ Aside0 (Kd.R k46 46 w' w0.heap.size (fun k_ => (P0_ k_ ∨ w.heap.size ≤ k_)) (.slice (some ⟨g, 0, none⟩) n c) (pre ++ x0_1)) ∧ Aside0 (Kept w w' (fun k_ => P0_ k_)) ∧ Aside0 (Below w0.heap.size w0 w'))
  case atStart => exact ⟨(l0), (0), (wrap64 ((l0.length : Int) - 1)), (by first | rfl | (simp; done) | (simp [*]; done)), (by first | rfl | (simp; done) | (simp [*]; done)), H', ⟨Nat.le_refl _⟩, ⟨by (with_reducible repeat (first | apply Kd.R_alloc | apply Kd.R_drewN | apply Kd.R_drew)); exact HO0.out⟩, ⟨by repeat (first | (with_reducible first | exact HK.out | apply Kept.alloc | apply Kept.drewN | apply Kept.drew) | exact HK.out)⟩, ⟨by repeat (first | (with_reducible first | exact HB.out | apply below_alloc | apply pw_below_drewN | apply below_drew1) | exact HB.out)⟩⟩
  case round =>
    clear H'
    try clear p2
    obtain ⟨x0_1, x2_1, x3_1, rfl, rfl, HA, HK1, HO_0, HK, HB⟩ := hrel
    have hl0_1 : l0.length = x0_1.length := by
      have e_ := (Kd.R_reads' HO_0.out).1
      have n_ := HN0.out
      rw [List.length_append] at e_ n_
      omega
    (try simp only [hl0_1])
    cases gk with
    | zero => exact absurd HA.out (by simp [proof_reverse.l0])
    | succ k1 =>
      have H := HA.out
      clear HA
      simp only [proof_reverse.l0] at H
      by_cases c3 : x2_1 < x3_1
      · rw [if_pos c3] at H
        have c3b0 : decide (x2_1 < x3_1) = true := decide_eq_true c3
        by_cases c4 : 0 ≤ x3_1
        · rw [if_pos c4] at H
          have c4b0 : decide (0 ≤ x3_1) = true := decide_eq_true c4
          clear c4
          by_cases c5 : x3_1 < (x0_1.length : Int)
          · rw [if_pos c5] at H
            have c5b0 : decide (x3_1 < (x0_1.length : Int)) = true := decide_eq_true c5
            by_cases c6 : 0 ≤ x2_1
            · rw [if_pos c6] at H
              have c6b0 : decide (0 ≤ x2_1) = true := decide_eq_true c6
              by_cases c7 : x2_1 < (x0_1.length : Int)
              · rw [if_pos c7] at H
                have c7b0 : decide (x2_1 < (x0_1.length : Int)) = true := decide_eq_true c7
                clear c7
                obtain ⟨y203, hy203⟩ : ∃ y_ : List (S46), y_ = (x0_1.set (x2_1 : Int).toNat (⟨(rd_T46 x0_1 x3_1).f0, (rd_T46 x0_1 x3_1).f1⟩ : S46)) := ⟨_, rfl⟩
                replace H : (proof_reverse.l0 k1 (y203.set (x3_1 : Int).toNat (⟨(rd_T46 x0_1 x2_1).f0, (rd_T46 x0_1 x2_1).f1⟩ : S46)) (wrap64 (x2_1 + 1)) (wrap64 (x3_1 - 1))) = some r := by first | (rw [hy203]; with_reducible exact H) | (have H2_ := (Option.bind_some _ _).symm.trans H; rw [hy203]; with_reducible exact H2_) | (have H2_ := (Option.bind_some _ _).symm.trans H; with_reducible exact H2_) | with_reducible exact H | (rw [hy203]; exact H) | exact H
                have Ny203 := Aside0.mk hy203
                clear hy203
                obtain ⟨y204, hy204⟩ : ∃ y_ : List (S46), y_ = (y203.set (x3_1 : Int).toNat (⟨(rd_T46 x0_1 x2_1).f0, (rd_T46 x0_1 x2_1).f1⟩ : S46)) := ⟨_, rfl⟩
                replace H : (proof_reverse.l0 k1 y204 (wrap64 (x2_1 + 1)) (wrap64 (x3_1 - 1))) = some r := by first | (rw [hy204]; with_reducible exact H) | (have H2_ := (Option.bind_some _ _).symm.trans H; rw [hy204]; with_reducible exact H2_) | (have H2_ := (Option.bind_some _ _).symm.trans H; with_reducible exact H2_) | with_reducible exact H | (rw [hy204]; exact H) | exact H
                have Ny204 := Aside0.mk hy204
                clear hy204
                have H' := Aside0.mk H
                clear H
                try go_wp2
                have n0_ := Aside0.mk (Kd.R_drew HO_0.out)
                have n1_ := Aside0.mk (Kept.drew HK.out)
                have n2_ := Aside0.mk (below_drew1 HB.out)
                clear HO_0
                clear HK
                clear HB
                have HO_0 := n0_
                have HK := n1_
                have HB := n2_
                clear n0_ n1_ n2_
                have p201 : 0 ≤ (x3_1 : Int) := of_decide_eq_true (by first | (with_reducible assumption) | assumption)
                have q201 : x3_1 < (x0_1.length : Int) := of_decide_eq_true (by first | (with_reducible assumption) | assumption)
                replace p201 := eq_true p201
                replace q201 := eq_true q201
                have p202 : 0 ≤ (x2_1 : Int) := of_decide_eq_true (by first | (with_reducible assumption) | assumption)
                have q202 : x2_1 < (x0_1.length : Int) := of_decide_eq_true (by first | (with_reducible assumption) | assumption)
                obtain ⟨go8_, co8, eo8, gb8, gl8, cl8, HG8⟩ := Kd.R_form HO_0.out (by rw [List.length_append]; omega)
                have ego : go8_ = g := by injection eo8 with ea_ en_ ec_; injection ea_ with ea_; injection ea_ with ea_; exact ea_.symm
                rw [ego] at gb8 gl8 HG8
                clear eo8 ego
                have GB8 := Aside0.mk gb8
                have GG8 := Aside0.mk HG8
                clear gb8 gl8 HG8
                have HMgo8 := Aside0.mk (show (P0_ g ∨ w.heap.size ≤ g) from (HO_0.out.1 _ rfl))
                obtain ⟨⟨hx201_0, hx201_1⟩, hf9b_0, hf9b_1⟩ := tail_elem HO_0.out x3_1 (by omega) (by omega)
                obtain ⟨⟨hx202_0, hx202_1⟩, hf8_0, hf8_1⟩ := tail_elem HO_0.out x2_1 (by omega) (by omega)
                have hx8_0 := hx202_0
                have hx8_1 := hx202_1
                have HQ11 := Aside0.mk (tail_seg HO_0.out x2_1 (by omega) (by omega) (⟨(rd_T46 x0_1 x3_1).f0, (rd_T46 x0_1 x3_1).f1⟩ : S46))
                rw [← Ny203.out] at HQ11
                have hy203l : y203.length = x0_1.length := by rw [Ny203.out, List.length_set]
                obtain ⟨⟨hx9_0, hx9_1⟩, hf9_0, hf9_1⟩ := tail_elem HQ11.out x3_1 (by omega) (by omega)
                have HQ12 := Aside0.mk (tail_seg HQ11.out x3_1 (by omega) (by omega) (⟨(rd_T46 x0_1 x2_1).f0, (rd_T46 x0_1 x2_1).f1⟩ : S46))
                rw [← Ny204.out] at HQ12
                rw [← ho.out] at HQ11 HQ12 hf8_0 hf8_1 hf9_0 hf9_1 hf9b_0 hf9b_1 hx201_0 hx201_1 hx202_0 hx202_1 hx8_0 hx8_1 hx9_0 hx9_1
                replace p202 := eq_true p202
                replace q202 := eq_true q202
                refine start_ (n := 16) (S := fun w' => w'.cell? ⟨g, o + (x3_1).toNat * 2, none⟩ = some (.int .u64 ((rd_T46 x0_1 x3_1).f0)) ∧ w'.cell? ⟨g, o + (x3_1).toNat * 2 + 1, none⟩ = some (.int .u64 ((rd_T46 x0_1 x3_1).f1)) ∧ w'.cell? ⟨g, o + (x2_1).toNat * 2, none⟩ = some (.int .u64 ((rd_T46 x0_1 x2_1).f0)) ∧ w'.cell? ⟨g, o + (x2_1).toNat * 2 + 1, none⟩ = some (.int .u64 ((rd_T46 x0_1 x2_1).f1))) (ds := [13, 15]) #[false, false, false, false, false, false, false, false, false, false, false, false, false, false, false, false] (by kernel_rfl) rfl rfl ⟨hx201_0, hx201_1, hx202_0, hx202_1⟩ (fun hHeld => ?_); refine with_tabW proof_reverse.tab3 proof_reverse.bits3 (fun HT_ HW_ => ?_)
                generalize wr.drew = w10 at HO_0 HK HB GG8 HQ11 HQ12 hf8_0 hf8_1 hf9_0 hf9_1 hf9b_0 hf9b_1 hx201_0 hx201_1 hx202_0 hx202_1 hx8_0 hx8_1 hx9_0 hx9_1 hHeld ⊢
                refine pure_ (i := 0) (N := some 14) (v := ?_) (a' := ?_) #[true, false, false, false, false, false, false, false, false, false, false, false, false, false, false, false] rfl rfl (any_of HT_.out (by kernel_rfl)) (fun _ _ _ h => h) (Or.inl ⟨by rfl, ?_⟩) ?_ ?_
                rotate_left
                · intro w'
                  go_simp
                  with_reducible rfl
                rotate_left
                · simp only [Act.put, List.setIfInBounds_toArray, List.set_cons_zero, List.set_cons_succ, i64_w, i32_w]
                  rfl
                refine pure_ (i := 1) (N := some 15) (v := ?_) (a' := ?_) #[true, true, false, false, false, false, false, false, false, false, false, false, false, false, false, false] rfl rfl (any_of HT_.out (by kernel_rfl)) (fun _ _ _ h => h) (Or.inl ⟨by rfl, ?_⟩) ?_ ?_
                rotate_left
                · intro w'
                  go_simp
                  with_reducible rfl
                rotate_left
                · simp only [Act.put, List.setIfInBounds_toArray, List.set_cons_zero, List.set_cons_succ, i64_w, i32_w]
                  rfl
                refine pure_ (i := 2) (N := some 16) (v := ?_) (a' := ?_) #[true, true, true, false, false, false, false, false, false, false, false, false, false, false, false, false] rfl rfl (any_of HT_.out (by kernel_rfl)) (fun _ _ _ h => h) (Or.inl ⟨by rfl, ?_⟩) ?_ ?_
                rotate_left
                · intro w'
                  go_simp
                  with_reducible rfl
                rotate_left
                · simp only [Act.put, List.setIfInBounds_toArray, List.set_cons_zero, List.set_cons_succ, i64_w, i32_w]
                  rfl
                refine pure_ (i := 3) (N := some 17) (v := ?_) (a' := ?_) #[true, true, true, true, false, false, false, false, false, false, false, false, false, false, false, false] rfl rfl (any_of HT_.out (by kernel_rfl)) (fun _ _ _ h => h) (Or.inl ⟨by rfl, ?_⟩) ?_ ?_
                rotate_left
                · intro w'
                  go_simp
                  with_reducible rfl
                rotate_left
                · simp only [Act.put, List.setIfInBounds_toArray, List.set_cons_zero, List.set_cons_succ, i64_w, i32_w]
                  rfl
                refine pure_ (i := 4) (N := some 18) (v := ?_) (a' := ?_) #[true, true, true, true, true, false, false, false, false, false, false, false, false, false, false, false] rfl rfl (any_of HT_.out (by kernel_rfl)) (fun _ _ _ h => h) (Or.inl ⟨by rfl, ?_⟩) ?_ ?_
                rotate_left
                · intro w'
                  go_simp
                  with_reducible rfl
                rotate_left
                · simp only [Act.put, List.setIfInBounds_toArray, List.set_cons_zero, List.set_cons_succ, i64_w, i32_w]
                  rfl
                refine pure_ (i := 5) (N := some 19) (v := ?_) (a' := ?_) #[true, true, true, true, true, true, false, false, false, false, false, false, false, false, false, false] rfl rfl (any_of HT_.out (by kernel_rfl)) (fun _ _ _ h => h) (Or.inl ⟨by rfl, ?_⟩) ?_ ?_
                rotate_left
                · intro w'
                  go_simp
                  with_reducible rfl
                rotate_left
                · simp only [Act.put, List.setIfInBounds_toArray, List.set_cons_zero, List.set_cons_succ, i64_w, i32_w]
                  rfl
                refine pure_ (i := 6) (N := some 20) (v := ?_) (a' := ?_) #[true, true, true, true, true, true, true, false, false, false, false, false, false, false, false, false] rfl rfl (any_of HT_.out (by kernel_rfl)) (fun _ _ _ h => h) (Or.inl ⟨by rfl, ?_⟩) ?_ ?_
                rotate_left
                · intro w'
                  go_simp
                  with_reducible rfl
                rotate_left
                · simp only [Act.put, List.setIfInBounds_toArray, List.set_cons_zero, List.set_cons_succ, i64_w, i32_w]
                  rfl
                refine pure_ (i := 8) (N := some 22) (v := ?_) (a' := ?_) #[true, true, true, true, true, true, true, false, true, false, false, false, false, false, false, false] rfl rfl (any_of HT_.out (by kernel_rfl)) (fun _ _ _ h => h) (Or.inl ⟨by rfl, ?_⟩) ?_ ?_
                rotate_left
                · intro w'
                  go_simp
                  with_reducible rfl
                rotate_left
                · simp only [Act.put, List.setIfInBounds_toArray, List.set_cons_zero, List.set_cons_succ, i64_w, i32_w]
                  rfl
                refine pure_ (i := 9) (N := some 23) (v := ?_) (a' := ?_) #[true, true, true, true, true, true, true, false, true, true, false, false, false, false, false, false] rfl rfl (any_of HT_.out (by kernel_rfl)) (fun _ _ _ h => h) (Or.inl ⟨by rfl, ?_⟩) ?_ ?_
                rotate_left
                · intro w'
                  go_simp
                  with_reducible rfl
                rotate_left
                · simp only [Act.put, List.setIfInBounds_toArray, List.set_cons_zero, List.set_cons_succ, i64_w, i32_w]
                  rfl
                refine pure_ (i := 10) (N := some 24) (v := ?_) (a' := ?_) #[true, true, true, true, true, true, true, false, true, true, true, false, false, false, false, false] rfl rfl (any_of HT_.out (by kernel_rfl)) (fun _ _ _ h => h) (Or.inl ⟨by rfl, ?_⟩) ?_ ?_
                rotate_left
                · intro w'
                  go_simp
                  with_reducible rfl
                rotate_left
                · simp only [Act.put, List.setIfInBounds_toArray, List.set_cons_zero, List.set_cons_succ, i64_w, i32_w]
                  rfl
                refine take_ (i := 7) (N := some 21) (v := ?_) (a' := ?_) #[true, true, true, true, true, true, true, true, true, true, true, false, false, false, false, false] rfl rfl (take_ofW HT_.out HW_.out (by kernel_rfl)) (fun _ _ _ h => h) (Or.inl ⟨by rfl, ?_⟩) hHeld ?_ ?_
                rotate_left
                · rintro w' ⟨s0, s1, s2, s3⟩
                  go_simp
                  with_reducible rfl
                rotate_left
                · simp only [Act.put, List.setIfInBounds_toArray, List.set_cons_zero, List.set_cons_succ, i64_w, i32_w]
                  rfl
                refine take_ (i := 11) (N := some 25) (v := ?_) (a' := ?_) #[true, true, true, true, true, true, true, true, true, true, true, true, false, false, false, false] rfl rfl (take_ofW HT_.out HW_.out (by kernel_rfl)) (fun _ _ _ h => h) (Or.inl ⟨by rfl, ?_⟩) hHeld ?_ ?_
                rotate_left
                · rintro w' ⟨s0, s1, s2, s3⟩
                  go_simp
                  with_reducible rfl
                rotate_left
                · simp only [Act.put, List.setIfInBounds_toArray, List.set_cons_zero, List.set_cons_succ, i64_w, i32_w]
                  rfl
                refine pure_ (i := 12) (N := some 26) (v := ?_) (a' := ?_) #[true, true, true, true, true, true, true, true, true, true, true, true, true, false, false, false] rfl rfl (any_of HT_.out (by kernel_rfl)) (fun _ _ _ h => h) (Or.inl ⟨by rfl, ?_⟩) ?_ ?_
                rotate_left
                · intro w'
                  go_simp
                  with_reducible rfl
                rotate_left
                · simp only [Act.put, List.setIfInBounds_toArray, List.set_cons_zero, List.set_cons_succ, i64_w, i32_w]
                  rfl
                refine last_ (i := 13) (N := none) #[true, true, true, true, true, true, true, true, true, true, true, true, true, true, false, false] rfl rfl (one_of HT_.out (by kernel_rfl)) (by decide) (fun K hK => ?_)
                refine skip_ (w1 := ?_) (by rfl) rfl ?_ ?_
                rotate_left
                · go_simp
                  rfl
                refine hK.out _ _ ?_
                clear hK K
                refine pure_ (i := 14) (N := some 27) (v := ?_) (a' := ?_) #[true, true, true, true, true, true, true, true, true, true, true, true, true, true, true, false] rfl rfl (any_of HT_.out (by kernel_rfl)) (fun _ _ _ h => h) (Or.inl ⟨by rfl, ?_⟩) ?_ ?_
                rotate_left
                · intro w'
                  go_simp
                  with_reducible rfl
                rotate_left
                · simp only [Act.put, List.setIfInBounds_toArray, List.set_cons_zero, List.set_cons_succ, i64_w, i32_w]
                  rfl
                refine last_ (i := 15) (N := none) #[true, true, true, true, true, true, true, true, true, true, true, true, true, true, true, true] rfl rfl (one_of HT_.out (by kernel_rfl)) (by decide) (fun K hK => ?_)
                refine skip_ (w1 := ?_) (by rfl) rfl ?_ ?_
                rotate_left
                · go_simp
                  rfl
                refine hK.out _ _ ?_
                clear hK K
                refine done_ (done_of HT_.out (by kernel_rfl)) ?_
                try go_wp2
                (try simp only [← hl0_1])
                go_roundg k1
                case measure => have := HK1.out; omega
                case rel => exact ⟨(y204), (wrap64 (x2_1 + 1)), (wrap64 (x3_1 - 1)), (by first | rfl | (simp; done) | (simp [*]; done)), (by first | rfl | (simp; done) | (simp [*]; done)), H', ⟨by have := HK1.out; omega⟩, ⟨by (try simp only [hl0_1]); (with_reducible repeat (first | apply Kd.R_alloc | apply Kd.R_drewN | apply Kd.R_drew)); exact HQ12.out⟩, ⟨by repeat (first | (with_reducible first | exact HK.out | apply Kept.alloc | apply Kept.drewN | apply Kept.drew | refine Kept.setCell ?_ HMgo8.out _ | refine Kept.setCell ?_ HMgo8.out _ | refine Kept.setCell ?_ HMgo8.out _ | refine Kept.setCell ?_ HMgo8.out _) | exact HK.out)⟩, ⟨by repeat (first | (with_reducible first | exact HB.out | apply below_alloc | apply pw_below_drewN | apply below_drew1 | refine below_set ?_ GB8.out | refine below_set ?_ GB8.out | refine below_set ?_ GB8.out | refine below_set ?_ GB8.out) | exact HB.out)⟩⟩
              · rw [if_neg c7] at H
                exact absurd H (by simp)
            · rw [if_neg c6] at H
              exact absurd H (by simp)
          · rw [if_neg c5] at H
            exact absurd H (by simp)
        · rw [if_neg c4] at H
          exact absurd H (by simp)
      · rw [if_neg c3] at H
        have c3b0 : decide (x2_1 < x3_1) = false := decide_eq_false c3
        clear c3
        obtain rfl := Option.some.inj H
        go_wp2
        first | go_end0 | ((try simp only [Exit.inBlock, Exit.then]); refine bodyPost_ret (results_none rfl _ _ _) rfl ?_)
        exact ⟨by first | rfl | (simp [errW_none, errW_some] <;> rfl) | (simp [*, errW_none, errW_some] <;> rfl), (by first | exact (by (with_reducible repeat (first | apply Kd.R_alloc | apply Kd.R_drewN | apply Kd.R_drew)); exact HO_0.out) | (skip; exact (by (with_reducible repeat (first | apply Kd.R_alloc | apply Kd.R_drewN | apply Kd.R_drew)); exact HO_0.out))), by repeat (first | (with_reducible first | exact HB.out | apply below_alloc | apply pw_below_drewN | apply below_drew1) | exact HB.out), by repeat (first | (with_reducible first | exact HK.out | apply Kept.alloc | apply Kept.drewN | apply Kept.drew) | exact HK.out)⟩

/-! ### proof_revtail: proof.reverse at a tail, by hand -/
def proof_revtail.f (k : Nat) (l : List (S46)) (i : Int) : Option (List (S46)) := if 0 ≤ i then (if i ≤ (l.length : Int) then (proof_reverse.f k (l.drop i.toNat)).bind fun r => some (l.take i.toNat ++ r) else none) else none
theorem proof_revtail.mono : ∀ a0 a1 k, LeO (proof_revtail.f k a0 a1) (proof_revtail.f (k + 1) a0 a1) := by
  intro a0 a1 k
  unfold proof_revtail.f
  refine LeO.ite (LeO.ite (LeO.bind (proof_reverse.mono _ _) (fun _ => LeO.refl _)) (LeO.refl _)) (LeO.refl _)
theorem proof_revtail.bounds {k : Nat} {l r : List (S46)} {i : Int} (h : proof_revtail.f k l i = some r) : 0 ≤ i ∧ i ≤ (l.length : Int) := by
  unfold proof_revtail.f at h
  split at h
  · split at h
    · exact ⟨by assumption, by assumption⟩
    · cases h
  · cases h
set_option maxHeartbeats 1000000 in
set_option maxRecDepth 100000 in
theorem proof_reverse.none_ (A : Option Addr) (c : Nat) (w : World) : Calls Tryd.prog 47 #[.slice A 0 c] w fun e w' => e = .returned (.tuple #[]) ∧ w = w' := by
  go_enter Tryd.func47, Tryd.ntmps47
  go_wp2
  (try simp only [Act.put, List.setIfInBounds_toArray, List.set_cons_zero, List.set_cons_succ])
  go_loopg [2, 3] (0 : Nat) (fun kq v2 v3 w' => v2 = .int .i64 0 ∧ v3 = .int .i64 (-1) ∧ w = w')
  case atStart => exact ⟨by first | rfl | (simp; done), by first | rfl | (simp; done) | (simp [wrap64]; done), rfl⟩
  case round =>
    obtain ⟨rfl, rfl, rfl⟩ := hrel
    go_wp2
    go_end0
    exact ⟨rfl, rfl⟩
theorem proof_revtail.calls (k : Nat) (P0_ : Nat → Prop) (Ao : Option Addr) (n c : Nat) (l : List (S46)) (i : Int) (r : List (S46)) (w0 w : World) (A : Option Addr) (hA : A = (if c = i.toNat then Ao else (Ao : Option Addr).map (·.add (i.toNat * 2)))) (hB : Below w0.heap.size w0 w) (ho0 : Kd.R k46 46 w w0.heap.size P0_ (.slice Ao n c) l) (h : proof_revtail.f k l i = some r) :
    Calls Tryd.prog 47 #[.slice A (n - i.toNat) (c - i.toNat)] w fun e w' => e = .returned (.tuple #[]) ∧ Kd.R k46 46 w' w0.heap.size (fun k_ => (P0_ k_ ∨ w.heap.size ≤ k_)) (.slice Ao n c) r ∧ Below w0.heap.size w0 w' ∧ Kept w w' (fun k_ => P0_ k_) := by
  have hn := Kd.R_reads' ho0
  have hb := proof_revtail.bounds h
  have hr : (proof_reverse.f k (l.drop i.toNat)).bind (fun r => some (l.take i.toNat ++ r)) = some r := by
    have h2 := h
    unfold proof_revtail.f at h2
    rw [if_pos hb.1, if_pos hb.2] at h2
    exact h2
  obtain ⟨q, hq, hr⟩ := Option.bind_eq_some_iff.mp hr
  obtain rfl := Option.some.inj hr
  by_cases he : i.toNat = l.length
  · have e0 : n - i.toNat = 0 := by rw [hn.1]; omega
    rw [e0]
    refine (proof_reverse.none_ A _ w).mono ?_
    rintro e w' ⟨rfl, rfl⟩
    have hd : l.drop i.toNat = [] := by rw [he]; exact List.drop_length
    have hq2 : q = [] := by
      rw [hd] at hq
      unfold proof_reverse.f at hq
      cases k with
      | zero => simp [proof_reverse.l0] at hq
      | succ k =>
        simp only [proof_reverse.l0] at hq
        rw [if_neg (by simp [wrap64])] at hq
        exact (Option.some.inj hq).symm
    subst hq2
    rw [List.append_nil, he, List.take_length]
    exact ⟨rfl, Kd.R_mono ho0 (fun _ hk => .inl hk), hB, Kept.refl _ _⟩
  · have hlt : i.toNat < l.length := by omega
    obtain ⟨g, cap, hv, _⟩ := Kd.R_form ho0 (by omega)
    injection hv with h1 h2 h3
    subst h1 h2 h3
    rw [if_neg (by have := hn.2.1; omega)] at hA
    have hA' : A = some ⟨g, i.toNat * 2, none⟩ := by rw [hA]; simp [add_plain]
    rw [hA']
    have hl : l.length - i.toNat = (l.drop i.toNat).length := by rw [List.length_drop]
    rw [hl]
    refine (proof_reverse.tail k P0_ g _ _ _ (i.toNat * 2) (l.take i.toNat) (l.drop i.toNat) q w0 w ?_ hB ?_ hq)
    · rw [List.length_take, Nat.min_eq_left (by omega)]
    · rw [List.take_append_drop]
      exact ho0

end Go.Proofs.YtmcelgfekffinaaDoor.Qt
