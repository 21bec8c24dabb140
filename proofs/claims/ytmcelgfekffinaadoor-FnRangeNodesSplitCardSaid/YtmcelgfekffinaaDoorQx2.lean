-- Written by wip/tools/myprint.py for this seat (the kit's print with changes); Lean checks it.
import Derived.Test.YtmcelgfekffinaaDoorQx0
import Derived.Test.YtmcelgfekffinaaDoorQx1
namespace Go.Proofs.YtmcelgfekffinaaDoor.Q
open Go.RowKit Go.Proofs.YtmcelgfekffinaaDoorW.PrintWords Go.Proofs.YtmcelgfekffinaaDoorW.PrintLast Go.Proofs.YtmcelgfekffinaaDoorW.PrintMore
attribute [local go_sem] max2_int min2_int max_two min_two max_three min_three max_four min_four   -- for this text's walks alone
set_option linter.unusedVariables false
set_option linter.unusedSimpArgs false

attribute [local go_sem high] eqA27
/-! ### compact_NewNodeID: function 32 -/
def compact_NewNodeID.f (a0 : Int) (a1 : Int) : Option (Int × Int) := some (a0, a1)
set_option maxHeartbeats 8000000 in
set_option maxRecDepth 100000 in
theorem compact_NewNodeID.calls (a0 : Int) (a1 : Int) (r1 : Int) (r2 : Int) (w : World) (h : compact_NewNodeID.f a0 a1 = some (r1, r2)) :
    Calls Tryd.prog 32 #[.int .u64 a0, .int .u64 a1] w fun e w' => e = .returned (.agg #[.int .u64 r1, .int .u64 r2]) ∧ Below w.heap.size w w' := by
  have hu46 := Tryd.underlying46
  have HB := Aside0.mk (Below.refl w.heap.size w)
  have H : (some (a0, a1)) = some (r1, r2) := h
  clear h
  simp only [Option.some.injEq, Prod.mk.injEq] at H
  obtain ⟨rfl, rfl⟩ := H
  go_enter Tryd.func32, Tryd.ntmps32
  go_wp2_with (first | ((with_reducible refine gate_dst (N := 4) rfl ?_); refine box_event ?hg (N := 4) ?hd (cs := #[.int .u64 0, .int .u64 0]) (t := 46) ?hr ?_; (case hd => rfl); (case hg => rfl); (case hr => first | (go_simp; done) | (go_simp; rfl)); intro gb101 hg w3 hbox hb; have n0_ := Aside0.mk (below_step (by repeat (first | (with_reducible first | exact HB.out | apply below_alloc | apply pw_below_drewN | apply below_drew1) | exact HB.out)) hb); have n1_ := Aside0.mk (hbox); have n2_ := Aside0.mk ((by rw [hg]; exact (below_size (by repeat (first | (with_reducible first | exact HB.out | apply below_alloc | apply pw_below_drewN | apply below_drew1) | exact HB.out))) : w.heap.size ≤ gb101)); have n3_ := Aside0.mk ((by rw [hg]; exact (below_size (by repeat (first | (with_reducible first | exact HB.out | apply below_alloc | apply pw_below_drewN | apply below_drew1) | exact HB.out))) : w.heap.size ≤ gb101)); clear HB; have HB := n0_; have BK101 := n1_; have GW101 := n2_; have GE101 := n3_; clear n0_ n1_ n2_ n3_; clear hb hbox hg; have hcz4_0 : w3.cell? ⟨gb101, 0, none⟩ = some (.int .u64 0) := (blk_cell BK101.out 0).trans rfl; have hcz4_1 : w3.cell? ⟨gb101, 1, none⟩ = some (.int .u64 0) := (blk_cell BK101.out 1).trans rfl; have hfz4_0 := blk_frozen BK101.out 0; have hfz4_1 := blk_frozen BK101.out 1))
  refine bodyPost_ret (results_cell_row rfl _ _ gb101 46 #[.int .u64 a0, .int .u64 a1] (0, 0) _ rfl (by (with_reducible repeat (first | refine blk_drewN ?_ _ | refine blk_drew ?_ | refine blk_alloc ?_ _)); refine blk_put (cs := #[.int .u64 a0, .int .u64 0]) ?_ 1 _ rfl; (with_reducible repeat (first | refine blk_drewN ?_ _ | refine blk_drew ?_ | refine blk_alloc ?_ _)); refine blk_put (cs := #[.int .u64 0, .int .u64 0]) ?_ 0 _ rfl; (with_reducible repeat (first | refine blk_drewN ?_ _ | refine blk_drew ?_ | refine blk_alloc ?_ _)); exact BK101.out) Tryd.underlying46 rfl (by kernel_rfl)) rfl ?_
  exact ⟨by first | rfl | (simp [errW_none, errW_some] <;> rfl) | (simp [*, errW_none, errW_some] <;> rfl), by repeat (first | (with_reducible first | exact HB.out | apply below_alloc | apply pw_below_drewN | apply below_drew1 | refine below_set ?_ GE101.out) | exact HB.out)⟩

/-! ### impl_toNode: function 18 -/
def impl_toNode.f (a0_0 : Int) (a0_1 : Int) : Option (Int × Int) := (compact_NewNodeID.f a0_0 a0_1).bind fun bt104 => (some (bt104.1, bt104.2))
set_option maxHeartbeats 8000000 in
set_option maxRecDepth 100000 in
theorem impl_toNode.calls (a0_0 : Int) (a0_1 : Int) (r1 : Int) (r2 : Int) (w : World) (h : impl_toNode.f a0_0 a0_1 = some (r1, r2)) :
    Calls Tryd.prog 18 #[.agg #[.int .u64 a0_0, .int .u64 a0_1]] w fun e w' => e = .returned (.agg #[.int .u64 r1, .int .u64 r2]) ∧ Below w.heap.size w w' := by
  have hu27 := Tryd.underlying27
  have hu46 := Tryd.underlying46
  have HB := Aside0.mk (Below.refl w.heap.size w)
  have H : ((compact_NewNodeID.f a0_0 a0_1).bind fun bt104 => (some (bt104.1, bt104.2))) = some (r1, r2) := h
  clear h
  replace H := Option.bind_eq_some_iff.mp H
  obtain ⟨⟨t104, t105⟩, A20, H⟩ := H
  replace H : (some (t104, t105)) = some (r1, r2) := H
  have A2 := Aside0.mk A20
  clear A20
  simp only [Option.some.injEq, Prod.mk.injEq] at H
  obtain ⟨rfl, rfl⟩ := H
  go_enter Tryd.func18, Tryd.ntmps18
  go_wp2_with (first | ((with_reducible refine gate_dst (N := 1) rfl ?_); refine box_event ?hg (N := 1) ?hd (cs := #[.int .u64 a0_0, .int .u64 a0_1]) (t := 27) ?hr ?_; (case hd => rfl); (case hg => rfl); (case hr => first | (go_simp; done) | (go_simp; rfl)); intro gb102 hg w3 hbox hb; have n0_ := Aside0.mk (below_step (by repeat (first | (with_reducible first | exact HB.out | apply below_alloc | apply pw_below_drewN | apply below_drew1) | exact HB.out)) hb); have n1_ := Aside0.mk (hbox); have n2_ := Aside0.mk ((by rw [hg]; exact (below_size (by repeat (first | (with_reducible first | exact HB.out | apply below_alloc | apply pw_below_drewN | apply below_drew1) | exact HB.out))) : w.heap.size ≤ gb102)); have n3_ := Aside0.mk ((by rw [hg]; exact (below_size (by repeat (first | (with_reducible first | exact HB.out | apply below_alloc | apply pw_below_drewN | apply below_drew1) | exact HB.out))) : w.heap.size ≤ gb102)); clear HB; have HB := n0_; have BK102 := n1_; have GW102 := n2_; have GE102 := n3_; clear n0_ n1_ n2_ n3_; clear hb hbox hg) | ((with_reducible refine gate_dst (N := 2) rfl ?_); refine box_event ?hg (N := 2) ?hd (cs := #[.int .u64 0, .int .u64 0]) (t := 46) ?hr ?_; (case hd => rfl); (case hg => rfl); (case hr => first | (go_simp; done) | (go_simp; rfl)); intro gb103 hg w4 hbox hb; have n0_ := Aside0.mk (blk_below (g := gb102) (o := .cells #[.int .u64 a0_0, .int .u64 a0_1] 27 (0, 0)) (by (with_reducible repeat (first | refine blk_drewN ?_ _ | refine blk_drew ?_ | refine blk_alloc ?_ _)); exact BK102.out) hb); have n1_ := Aside0.mk (below_step (by repeat (first | (with_reducible first | exact HB.out | apply below_alloc | apply pw_below_drewN | apply below_drew1 | refine below_set ?_ GE102.out) | exact HB.out)) hb); have n2_ := Aside0.mk (hbox); have n3_ := Aside0.mk ((by rw [hg]; exact (below_size (by repeat (first | (with_reducible first | exact HB.out | apply below_alloc | apply pw_below_drewN | apply below_drew1 | refine below_set ?_ GE102.out) | exact HB.out))) : w.heap.size ≤ gb103)); have n4_ := Aside0.mk ((by rw [hg]; exact (below_size (by repeat (first | (with_reducible first | exact HB.out | apply below_alloc | apply pw_below_drewN | apply below_drew1 | refine below_set ?_ GE102.out) | exact HB.out))) : w.heap.size ≤ gb103)); have n5_ := Aside0.mk ((by rw [hg]; exact Nat.ne_of_lt (blk_lt (g := gb102) (o := .cells #[.int .u64 a0_0, .int .u64 a0_1] 27 (0, 0)) (by (with_reducible repeat (first | refine blk_drewN ?_ _ | refine blk_drew ?_ | refine blk_alloc ?_ _)); exact BK102.out)) : gb102 ≠ gb103)); have n6_ := Aside0.mk ((by rw [hg]; exact Nat.ne_of_gt (blk_lt (g := gb102) (o := .cells #[.int .u64 a0_0, .int .u64 a0_1] 27 (0, 0)) (by (with_reducible repeat (first | refine blk_drewN ?_ _ | refine blk_drew ?_ | refine blk_alloc ?_ _)); exact BK102.out)) : gb103 ≠ gb102)); clear BK102; clear HB; have BK102 := n0_; have HB := n1_; have BK103 := n2_; have GW103 := n3_; have GE103 := n4_; have NB102_103 := n5_; have NB103_102 := n6_; clear n0_ n1_ n2_ n3_ n4_ n5_ n6_; clear hb hbox hg; have hnb5 := NB102_103.out; have hnc5 := NB103_102.out; have hcz6_0 : w4.cell? ⟨gb102, 0, none⟩ = some (.int .u64 a0_0) := (blk_cell BK102.out 0).trans rfl; have hcz6_1 : w4.cell? ⟨gb102, 1, none⟩ = some (.int .u64 a0_1) := (blk_cell BK102.out 1).trans rfl; have hfz6_0 := blk_frozen BK102.out 0; have hfz6_1 := blk_frozen BK102.out 1) | ((with_reducible refine gate_callee (f := 32) rfl ?_); refine goesL_ (some 7) rfl rfl Tryd.func32 (by kernel_rfl) rfl #[.int .u64 a0_0, .int .u64 a0_1] rfl (by (try simp only [List.map_toArray, List.map_cons, List.map_nil]); first | done | rfl | (simp only [List.length_drop, List.length_take]; rfl)) ?_; (with_reducible refine (compact_NewNodeID.calls a0_0 a0_1 t104 t105 _ A2.out).mono ?_); rintro e w7 ⟨rfl, hb⟩; refine ⟨_, rfl, ?_⟩; have n0_ := Aside0.mk (blk_below (g := gb102) (o := .cells #[.int .u64 a0_0, .int .u64 a0_1] 27 (0, 0)) (by (with_reducible repeat (first | refine blk_drewN ?_ _ | refine blk_drew ?_ | refine blk_alloc ?_ _)); exact BK102.out) hb); have n1_ := Aside0.mk (blk_below (g := gb103) (o := .cells #[.int .u64 0, .int .u64 0] 46 (0, 0)) (by (with_reducible repeat (first | refine blk_drewN ?_ _ | refine blk_drew ?_ | refine blk_alloc ?_ _)); exact BK103.out) hb); have n2_ := Aside0.mk (below_step (by repeat (first | (with_reducible first | exact HB.out | apply below_alloc | apply pw_below_drewN | apply below_drew1 | refine below_set ?_ GE102.out | refine below_set ?_ GE103.out) | exact HB.out)) hb); clear BK102; clear BK103; clear HB; have BK102 := n0_; have BK103 := n1_; have HB := n2_; clear n0_ n1_ n2_; (try clear hb); (try clear hb2); (try clear hk); (try clear hi); have hcz8_0 : w7.cell? ⟨gb103, 0, none⟩ = some (.int .u64 0) := (blk_cell BK103.out 0).trans rfl; have hcz8_1 : w7.cell? ⟨gb103, 1, none⟩ = some (.int .u64 0) := (blk_cell BK103.out 1).trans rfl; have hfz8_0 := blk_frozen BK103.out 0; have hfz8_1 := blk_frozen BK103.out 1))
  refine bodyPost_ret (results_cell_row rfl _ _ gb103 46 #[.int .u64 t104, .int .u64 t105] (0, 0) _ rfl (by (with_reducible repeat (first | refine blk_drewN ?_ _ | refine blk_drew ?_ | refine blk_alloc ?_ _)); refine blk_put (cs := #[.int .u64 t104, .int .u64 0]) ?_ 1 _ rfl; (with_reducible repeat (first | refine blk_drewN ?_ _ | refine blk_drew ?_ | refine blk_alloc ?_ _)); refine blk_put (cs := #[.int .u64 0, .int .u64 0]) ?_ 0 _ rfl; (with_reducible repeat (first | refine blk_drewN ?_ _ | refine blk_drew ?_ | refine blk_alloc ?_ _)); exact BK103.out) Tryd.underlying46 rfl (by kernel_rfl)) rfl ?_
  exact ⟨by first | rfl | (simp [errW_none, errW_some] <;> rfl) | (simp [*, errW_none, errW_some] <;> rfl), by repeat (first | (with_reducible first | exact HB.out | apply below_alloc | apply pw_below_drewN | apply below_drew1 | refine below_set ?_ GE102.out | refine below_set ?_ GE103.out) | exact HB.out)⟩

/-! ### impl_fromNode: function 33 -/
def impl_fromNode.f (a0_0 : Int) (a0_1 : Int) : Option (Int × Int) := some (a0_0, a0_1)
set_option maxHeartbeats 8000000 in
set_option maxRecDepth 100000 in
theorem impl_fromNode.calls (a0_0 : Int) (a0_1 : Int) (r1 : Int) (r2 : Int) (w : World) (h : impl_fromNode.f a0_0 a0_1 = some (r1, r2)) :
    Calls Tryd.prog 33 #[.agg #[.int .u64 a0_0, .int .u64 a0_1]] w fun e w' => e = .returned (.agg #[.int .u64 r1, .int .u64 r2]) ∧ Below w.heap.size w w' := by
  have hu46 := Tryd.underlying46
  have hu27 := Tryd.underlying27
  have HB := Aside0.mk (Below.refl w.heap.size w)
  have H : (some (a0_0, a0_1)) = some (r1, r2) := h
  clear h
  simp only [Option.some.injEq, Prod.mk.injEq] at H
  obtain ⟨rfl, rfl⟩ := H
  go_enter Tryd.func33, Tryd.ntmps33
  go_wp2_with (first | ((with_reducible refine gate_dst (N := 1) rfl ?_); refine box_event ?hg (N := 1) ?hd (cs := #[.int .u64 a0_0, .int .u64 a0_1]) (t := 46) ?hr ?_; (case hd => rfl); (case hg => rfl); (case hr => first | (go_simp; done) | (go_simp; rfl)); intro gb106 hg w2 hbox hb; have n0_ := Aside0.mk (below_step (by repeat (first | (with_reducible first | exact HB.out | apply below_alloc | apply pw_below_drewN | apply below_drew1) | exact HB.out)) hb); have n1_ := Aside0.mk (hbox); have n2_ := Aside0.mk ((by rw [hg]; exact (below_size (by repeat (first | (with_reducible first | exact HB.out | apply below_alloc | apply pw_below_drewN | apply below_drew1) | exact HB.out))) : w.heap.size ≤ gb106)); have n3_ := Aside0.mk ((by rw [hg]; exact (below_size (by repeat (first | (with_reducible first | exact HB.out | apply below_alloc | apply pw_below_drewN | apply below_drew1) | exact HB.out))) : w.heap.size ≤ gb106)); clear HB; have HB := n0_; have BK106 := n1_; have GW106 := n2_; have GE106 := n3_; clear n0_ n1_ n2_ n3_; clear hb hbox hg) | ((with_reducible refine gate_dst (N := 2) rfl ?_); refine box_event ?hg (N := 2) ?hd (cs := #[.int .u64 0, .int .u64 0]) (t := 27) ?hr ?_; (case hd => rfl); (case hg => rfl); (case hr => first | (go_simp; done) | (go_simp; rfl)); intro gb107 hg w3 hbox hb; have n0_ := Aside0.mk (blk_below (g := gb106) (o := .cells #[.int .u64 a0_0, .int .u64 a0_1] 46 (0, 0)) (by (with_reducible repeat (first | refine blk_drewN ?_ _ | refine blk_drew ?_ | refine blk_alloc ?_ _)); exact BK106.out) hb); have n1_ := Aside0.mk (below_step (by repeat (first | (with_reducible first | exact HB.out | apply below_alloc | apply pw_below_drewN | apply below_drew1 | refine below_set ?_ GE106.out) | exact HB.out)) hb); have n2_ := Aside0.mk (hbox); have n3_ := Aside0.mk ((by rw [hg]; exact (below_size (by repeat (first | (with_reducible first | exact HB.out | apply below_alloc | apply pw_below_drewN | apply below_drew1 | refine below_set ?_ GE106.out) | exact HB.out))) : w.heap.size ≤ gb107)); have n4_ := Aside0.mk ((by rw [hg]; exact (below_size (by repeat (first | (with_reducible first | exact HB.out | apply below_alloc | apply pw_below_drewN | apply below_drew1 | refine below_set ?_ GE106.out) | exact HB.out))) : w.heap.size ≤ gb107)); have n5_ := Aside0.mk ((by rw [hg]; exact Nat.ne_of_lt (blk_lt (g := gb106) (o := .cells #[.int .u64 a0_0, .int .u64 a0_1] 46 (0, 0)) (by (with_reducible repeat (first | refine blk_drewN ?_ _ | refine blk_drew ?_ | refine blk_alloc ?_ _)); exact BK106.out)) : gb106 ≠ gb107)); have n6_ := Aside0.mk ((by rw [hg]; exact Nat.ne_of_gt (blk_lt (g := gb106) (o := .cells #[.int .u64 a0_0, .int .u64 a0_1] 46 (0, 0)) (by (with_reducible repeat (first | refine blk_drewN ?_ _ | refine blk_drew ?_ | refine blk_alloc ?_ _)); exact BK106.out)) : gb107 ≠ gb106)); clear BK106; clear HB; have BK106 := n0_; have HB := n1_; have BK107 := n2_; have GW107 := n3_; have GE107 := n4_; have NB106_107 := n5_; have NB107_106 := n6_; clear n0_ n1_ n2_ n3_ n4_ n5_ n6_; clear hb hbox hg; have hnb4 := NB106_107.out; have hnc4 := NB107_106.out; have hcz5_0 : w3.cell? ⟨gb106, 0, none⟩ = some (.int .u64 a0_0) := (blk_cell BK106.out 0).trans rfl; have hcz5_1 : w3.cell? ⟨gb106, 1, none⟩ = some (.int .u64 a0_1) := (blk_cell BK106.out 1).trans rfl; have hfz5_0 := blk_frozen BK106.out 0; have hfz5_1 := blk_frozen BK106.out 1; have hcz6_0 : w3.cell? ⟨gb107, 0, none⟩ = some (.int .u64 0) := (blk_cell BK107.out 0).trans rfl; have hcz6_1 : w3.cell? ⟨gb107, 1, none⟩ = some (.int .u64 0) := (blk_cell BK107.out 1).trans rfl; have hfz6_0 := blk_frozen BK107.out 0; have hfz6_1 := blk_frozen BK107.out 1))
  refine bodyPost_ret (results_cell_row rfl _ _ gb107 27 #[.int .u64 a0_0, .int .u64 a0_1] (0, 0) _ rfl (by (with_reducible repeat (first | refine blk_drewN ?_ _ | refine blk_drew ?_ | refine blk_alloc ?_ _)); refine blk_put (cs := #[.int .u64 a0_0, .int .u64 0]) ?_ 1 _ rfl; (with_reducible repeat (first | refine blk_drewN ?_ _ | refine blk_drew ?_ | refine blk_alloc ?_ _)); refine blk_put (cs := #[.int .u64 0, .int .u64 0]) ?_ 0 _ rfl; (with_reducible repeat (first | refine blk_drewN ?_ _ | refine blk_drew ?_ | refine blk_alloc ?_ _)); exact BK107.out) Tryd.underlying27 rfl (by kernel_rfl)) rfl ?_
  exact ⟨by first | rfl | (simp [errW_none, errW_some] <;> rfl) | (simp [*, errW_none, errW_some] <;> rfl), by repeat (first | (with_reducible first | exact HB.out | apply below_alloc | apply pw_below_drewN | apply below_drew1 | refine below_set ?_ GE106.out | refine below_set ?_ GE107.out) | exact HB.out)⟩

/-! ### impl_fromNodes: function 19 -/
def impl_fromNodes.l0 : Nat → List (S27) → List (S46) → Int → Int → Option ((List (S27)))
  | 0, _, _, _, _ => none
  | k + 1, x3, x6, x7, x8 => if x8 < x7 then (if 0 ≤ x8 then (if x8 < (x6.length : Int) then ((impl_fromNode.f ((rd_T46 x6 x8).f0) ((rd_T46 x6 x8).f1)).bind fun bt110 => (if x3.length < 8796093022208 then (impl_fromNodes.l0 k (x3 ++ [(⟨bt110.1, bt110.2⟩ : S27)]) x6 x7 (wrap64 (x8 + 1))) else (none))) else (none)) else (none)) else (some x3)
def impl_fromNodes.f (k : Nat) (l0 : List (S46)) : Option ((List (S27))) := impl_fromNodes.l0 k ([] : List (S27)) l0 (l0.length : Int) 0
theorem impl_fromNodes.mono_l : ∀ k, (∀ y0 y1 y2 y3, LeO (impl_fromNodes.l0 k y0 y1 y2 y3) (impl_fromNodes.l0 (k + 1) y0 y1 y2 y3))
  | 0 => fun _ _ _ _ r h => by simp [impl_fromNodes.l0] at h
  | k + 1 => by
    have ih0 := impl_fromNodes.mono_l k
    · intro y0 y1 y2 y3
      unfold impl_fromNodes.l0
      repeat' first
      | (with_reducible exact ih0 _ _ _ _)
      | (with_reducible exact LeO.refl _)
      | (with_reducible exact LeO.none _)
      | (with_reducible refine LeO.ite ?_ ?_)
      | (with_reducible refine LeO.bind ?_ (fun _ => ?_))
      | exact ih0 _ _ _ _
      | exact LeO.none _
      | refine LeO.ite ?_ ?_
      | refine LeO.bind ?_ (fun _ => ?_)
theorem impl_fromNodes.mono : ∀ a0 k, LeO (impl_fromNodes.f k a0) (impl_fromNodes.f (k + 1) a0) := by
  intro a0 k
  have ih0 := impl_fromNodes.mono_l k
  unfold impl_fromNodes.f
  repeat' first
      | (with_reducible exact ih0 _ _ _ _)
      | (with_reducible exact LeO.refl _)
      | (with_reducible exact LeO.none _)
      | (with_reducible refine LeO.ite ?_ ?_)
      | (with_reducible refine LeO.bind ?_ (fun _ => ?_))
      | exact ih0 _ _ _ _
      | exact LeO.none _
      | refine LeO.ite ?_ ?_
      | refine LeO.bind ?_ (fun _ => ?_)
set_option maxHeartbeats 8000000 in
set_option maxRecDepth 100000 in
theorem impl_fromNodes.calls (k : Nat) (A0 : Option Addr) (c0 : Nat) (l0 : List (S46)) (r : List (S27)) (w : World) (hr0 : Kd.C k46 w A0 l0.length l0) (hc0 : l0.length ≤ c0) (h : impl_fromNodes.f k l0 = some r) :
    Calls Tryd.prog 19 #[.slice A0 l0.length c0] w fun e w' => ∃ v0_ : Value, e = .returned (v0_) ∧ Kd.R k27 27 w' w.heap.size (fun _ => True) v0_ r ∧ Below w.heap.size w w' := by
  have hu46 := Tryd.underlying46
  have HR0 := Aside0.mk hr0
  have HC0 := Aside0.mk hc0
  clear hr0 hc0
  have HB := Aside0.mk (Below.refl w.heap.size w)
  have H : (impl_fromNodes.l0 k ([] : List (S27)) l0 (l0.length : Int) 0) = some r := h
  clear h
  have H' := Aside0.mk H
  clear H
  go_enter Tryd.func19, Tryd.ntmps19
  go_wp2
  (try simp only [Act.put, List.setIfInBounds_toArray, List.set_cons_zero, List.set_cons_succ])
  go_loopg [3, 8] k (fun kq v3 v8 w' => ∃ (x3_1 : List (S27)) (x8_1 : Int), v8 = .int .i64 x8_1 ∧ Aside0 (impl_fromNodes.l0 kq x3_1 l0 (l0.length : Int) x8_1 = some r) ∧ Aside0 (kq ≤ k) ∧ Aside0 (Kd.R k27 27 w' w.heap.size (fun _ => True) v3 x3_1) ∧ Aside0 (Below w.heap.size w w'))
  case atStart => exact ⟨(([] : List (S27))), (0), (by first | rfl | (simp; done) | (simp [*]; done)), H', ⟨Nat.le_refl _⟩, ⟨by first | exact Kd.R_nil _ _ _ _ _ | exact Kd.N_nil _ _ _ _ _ | exact Kd.V_nil _ _ _ _ _ | exact Kd.Q_nil _ _ _ _ _ | exact Kd.S_nil _ _ _ _ _⟩, ⟨by repeat (first | (with_reducible first | exact HB.out | apply below_alloc | apply pw_below_drewN | apply below_drew1) | exact HB.out)⟩⟩
  case round =>
    clear H'
    try clear c1
    obtain ⟨x3_1, x8_1, rfl, HA, HK1, HO_3, HB⟩ := hrel
    cases gk with
    | zero => exact absurd HA.out (by simp [impl_fromNodes.l0])
    | succ k1 =>
      have H := HA.out
      clear HA
      simp only [impl_fromNodes.l0] at H
      by_cases c2 : x8_1 < (l0.length : Int)
      · rw [if_pos c2] at H
        have c2b0 : decide (x8_1 < (l0.length : Int)) = true := decide_eq_true c2
        clear c2
        by_cases c3 : 0 ≤ x8_1
        · rw [if_pos c3] at H
          have c3b0 : decide (0 ≤ x8_1) = true := decide_eq_true c3
          clear c3
          by_cases c4 : x8_1 < (l0.length : Int)
          · rw [if_pos c4] at H
            have c4b0 : decide (x8_1 < (l0.length : Int)) = true := decide_eq_true c4
            clear c4
            replace H := Option.bind_eq_some_iff.mp H
            obtain ⟨⟨t110, t111⟩, A50, H⟩ := H
            replace H : (if x3_1.length < 8796093022208 then (impl_fromNodes.l0 k1 (x3_1 ++ [(⟨t110, t111⟩ : S27)]) l0 (l0.length : Int) (wrap64 (x8_1 + 1))) else (none)) = some r := H
            have A5 := Aside0.mk A50
            clear A50
            by_cases c6 : x3_1.length < 8796093022208
            · rw [if_pos c6] at H
              have LMc6 := Aside0.mk c6
              clear c6
              obtain ⟨y112, hy112⟩ : ∃ y_ : List (S27), y_ = (x3_1 ++ [(⟨t110, t111⟩ : S27)]) := ⟨_, rfl⟩
              replace H : (impl_fromNodes.l0 k1 y112 l0 (l0.length : Int) (wrap64 (x8_1 + 1))) = some r := by first | (rw [hy112]; with_reducible exact H) | (have H2_ := (Option.bind_some _ _).symm.trans H; rw [hy112]; with_reducible exact H2_) | (have H2_ := (Option.bind_some _ _).symm.trans H; with_reducible exact H2_) | with_reducible exact H | (rw [hy112]; exact H) | exact H
              have Ny112 := Aside0.mk hy112
              clear hy112
              have H' := Aside0.mk H
              clear H
              have p108 : 0 ≤ (x8_1 : Int) := of_decide_eq_true (by first | (with_reducible assumption) | assumption)
              have q108 : x8_1 < (l0.length : Int) := of_decide_eq_true (by first | (with_reducible assumption) | assumption)
              obtain ⟨ad108, e108, hx108_0, hx108_1⟩ := at_T46 HR0.out x8_1 p108 q108
              cases e108
              replace hx108_0 := (HB.out.cell (World.block_lt_of_cell? w _ hx108_0)).trans hx108_0
              replace hx108_1 := (HB.out.cell (World.block_lt_of_cell? w _ hx108_1)).trans hx108_1
              replace p108 := eq_true p108
              replace q108 := eq_true q108
              go_wp2_with (first | ((with_reducible refine gate_dst (N := 5) rfl ?_); refine box_event ?hg (N := 5) ?hd (cs := #[.int .u64 0, .int .u64 0]) (t := 46) ?hr ?_; (case hd => rfl); (case hg => rfl); (case hr => first | (go_simp; done) | (go_simp; rfl)); intro gb109 hg w7 hbox hb; have n0_ := Aside0.mk (Kd.R_below (by (with_reducible repeat (first | apply Kd.R_alloc | apply Kd.R_drewN | apply Kd.R_drew)); exact HO_3.out) hb); have n1_ := Aside0.mk (below_step (by repeat (first | (with_reducible first | exact HB.out | apply below_alloc | apply pw_below_drewN | apply below_drew1) | exact HB.out)) hb); have n2_ := Aside0.mk (hbox); have n3_ := Aside0.mk ((by rw [hg]; exact (below_size (by repeat (first | (with_reducible first | exact HB.out | apply below_alloc | apply pw_below_drewN | apply below_drew1) | exact HB.out))) : w.heap.size ≤ gb109)); have n4_ := Aside0.mk ((by rw [hg]; exact (below_size (by repeat (first | (with_reducible first | exact HB.out | apply below_alloc | apply pw_below_drewN | apply below_drew1) | exact HB.out))) : w.heap.size ≤ gb109)); clear HO_3; clear HB; have HO_3 := n0_; have HB := n1_; have BK109 := n2_; have GW109 := n3_; have GE109 := n4_; clear n0_ n1_ n2_ n3_ n4_; clear hb hbox hg; have hcz8_0 : w7.cell? ⟨gb109, 0, none⟩ = some (.int .u64 0) := (blk_cell BK109.out 0).trans rfl; have hcz8_1 : w7.cell? ⟨gb109, 1, none⟩ = some (.int .u64 0) := (blk_cell BK109.out 1).trans rfl; have hfz8_0 := blk_frozen BK109.out 0; have hfz8_1 := blk_frozen BK109.out 1) | ((with_reducible refine gate_callee (f := 33) rfl ?_); refine goesL_ (some 14) rfl rfl Tryd.func33 (by kernel_rfl) rfl #[.agg #[.int .u64 ((rd_T46 l0 x8_1).f0), .int .u64 ((rd_T46 l0 x8_1).f1)]] rfl (by (try simp only [List.map_toArray, List.map_cons, List.map_nil]); first | done | rfl | (simp only [List.length_drop, List.length_take]; rfl)) ?_; (with_reducible refine (impl_fromNode.calls ((rd_T46 l0 x8_1).f0) ((rd_T46 l0 x8_1).f1) t110 t111 _ A5.out).mono ?_); rintro e w9 ⟨rfl, hb⟩; refine ⟨_, rfl, ?_⟩; have n0_ := Aside0.mk (Kd.R_below (by (with_reducible repeat (first | apply Kd.R_alloc | apply Kd.R_drewN | apply Kd.R_drew)); exact (Kd.R_mono (Kd.R_far (p := ⟨gb109, 1, none⟩) (Kd.R_far (p := ⟨gb109, 0, none⟩) (Kd.R_types HO_3.out BK109.out (by decide)) (fun _ hk => hk.2) (.int .u64 ((rd_T46 l0 x8_1).f0))) (fun _ hk => hk.2) (.int .u64 ((rd_T46 l0 x8_1).f1))) (fun _ h_ => h_.1))) hb); have n1_ := Aside0.mk (blk_below (g := gb109) (o := .cells #[.int .u64 ((rd_T46 l0 x8_1).f0), .int .u64 ((rd_T46 l0 x8_1).f1)] 46 (0, 0)) (by (with_reducible repeat (first | refine blk_drewN ?_ _ | refine blk_drew ?_ | refine blk_alloc ?_ _)); refine blk_put (cs := #[.int .u64 ((rd_T46 l0 x8_1).f0), .int .u64 0]) ?_ 1 _ rfl; (with_reducible repeat (first | refine blk_drewN ?_ _ | refine blk_drew ?_ | refine blk_alloc ?_ _)); refine blk_put (cs := #[.int .u64 0, .int .u64 0]) ?_ 0 _ rfl; (with_reducible repeat (first | refine blk_drewN ?_ _ | refine blk_drew ?_ | refine blk_alloc ?_ _)); exact BK109.out) hb); have n2_ := Aside0.mk (below_step (by repeat (first | (with_reducible first | exact HB.out | apply below_alloc | apply pw_below_drewN | apply below_drew1 | refine below_set ?_ GE109.out) | exact HB.out)) hb); clear HO_3; clear BK109; clear HB; have HO_3 := n0_; have BK109 := n1_; have HB := n2_; clear n0_ n1_ n2_; (try clear hb); (try clear hb2); (try clear hk); (try clear hi)) | ((with_reducible refine gate_builtin (b := .append) (xs := #[.tmp 12, .tmp 15]) rfl ?_); at_builtin; refine Kd.R_append k27 (w0 := w) w.heap.size rfl (.tmp 12) (.tmp 15) 23 27 (.agg #[(.int .u64 0), (.int .u64 0)]) 16 rfl Tryd.underlying23 info27 rfl (by decide) (by omega) u3 x3_1 (⟨t110, t111⟩ : S27) [.int .u64 t110, .int .u64 t111] (fun _ => True) (fun _ => False) rfl rfl ?aP (fun _ hk => hk.elim) ?aF ?aO ?aB ?aS ?aL ?_; (case aP => exact k27_mkM _ _ _ (⟨t110, t111⟩ : S27)); (case aB => exact (by repeat (first | (with_reducible first | exact HB.out | apply below_alloc | apply pw_below_drewN | apply below_drew1 | refine below_set ?_ GE109.out) | exact HB.out))); (case aF => exact (fun _ _ => trivial)); (case aO => exact (by (with_reducible repeat (first | apply Kd.R_alloc | apply Kd.R_drewN | apply Kd.R_drew)); exact HO_3.out)); (case aS => exact (below_size (by repeat (first | (with_reducible first | exact HB.out | apply below_alloc | apply pw_below_drewN | apply below_drew1 | refine below_set ?_ GE109.out) | exact HB.out)))); (case aL => have := LMc6.out; omega); intro v113 w10 ho hb hg hat; rw [← Ny112.out] at ho; have n0_ := Aside0.mk (blk_grown (g := gb109) (o := .cells #[.int .u64 ((rd_T46 l0 x8_1).f0), .int .u64 ((rd_T46 l0 x8_1).f1)] 46 (0, 0)) (by (with_reducible repeat (first | refine blk_drewN ?_ _ | refine blk_drew ?_ | refine blk_alloc ?_ _)); exact BK109.out) hg (Kd.R_ne HO_3.out BK109.out (by decide))); have n1_ := Aside0.mk (hb); have n2_ := Aside0.mk (ho); clear BK109; clear HB; clear HO_3; have BK109 := n0_; have HB := n1_; have HO114 := n2_; clear n0_ n1_ n2_; clear ho hb hg hat))
              go_roundg k1
              case measure => have := HK1.out; omega
              case rel => exact ⟨(y112), (wrap64 (x8_1 + 1)), (by first | rfl | (simp; done) | (simp [*]; done)), H', ⟨by have := HK1.out; omega⟩, ⟨by (with_reducible repeat (first | apply Kd.R_alloc | apply Kd.R_drewN | apply Kd.R_drew)); exact HO114.out⟩, ⟨by repeat (first | (with_reducible first | exact HB.out | apply below_alloc | apply pw_below_drewN | apply below_drew1 | refine below_set ?_ GE109.out) | exact HB.out)⟩⟩
            · rw [if_neg c6] at H
              exact absurd H (by simp)
          · rw [if_neg c4] at H
            exact absurd H (by simp)
        · rw [if_neg c3] at H
          exact absurd H (by simp)
      · rw [if_neg c2] at H
        have c2b0 : decide (x8_1 < (l0.length : Int)) = false := decide_eq_false c2
        clear c2
        obtain rfl := Option.some.inj H
        go_wp2
        go_ret
        exact ⟨_, by first | rfl | (simp [errW_none, errW_some] <;> rfl) | (simp [*, errW_none, errW_some] <;> rfl), by (with_reducible repeat (first | apply Kd.R_alloc | apply Kd.R_drewN | apply Kd.R_drew)); exact HO_3.out, by repeat (first | (with_reducible first | exact HB.out | apply below_alloc | apply pw_below_drewN | apply below_drew1) | exact HB.out)⟩

/-! ### bits_Len64: function 36, by the shelf's contract -/
def bits_Len64.f (a0 : Int) : Option (Int) := if 0 ≤ a0 then (if a0 ≤ 18446744073709551615 then some ((Lib.bitLen a0.toNat : Nat) : Int) else none) else none
theorem bits_Len64.calls (a0 : Int) (r : Int) (w : World) (h : bits_Len64.f a0 = some r) :
    Calls Tryd.prog 36 #[.int .u64 a0] w fun e w' => e = .returned (.int .i64 r) ∧ Drawn0 w w' := by
  unfold bits_Len64.f at h
  by_cases c0 : 0 ≤ a0
  · rw [if_pos c0] at h
    by_cases c1 : a0 ≤ 18446744073709551615
    · rw [if_pos c1] at h
      obtain rfl := Option.some.inj h
      refine (Tryd.bits_Len64 a0 w c0 c1).mono ?_
      rintro e w' ⟨rfl, rfl⟩
      exact ⟨rfl, Drawn0.refl _⟩
    · rw [if_neg c1] at h; exact absurd h (by simp)
  · rw [if_neg c0] at h; exact absurd h (by simp)

/-! ### compact_Decompose: function 34 -/
def compact_Decompose.f (a0 : Int) (a1 : Int) : Option (Int × Int) := if a0 = 0 then (some (0, a1)) else ((bits_Len64.f (Go.bits .xor .u64 (IntKind.u64.wrap (a0 - 1)) a1)).bind fun t115 => (if 0 ≤ (IntKind.u64.wrap (wrap64 (t115 - 1))) then (some (Go.bits .and .u64 (Go.bits .xor .u64 18446744073709551615 (IntKind.u64.wrap (a0 - 1))) (IntKind.u64.wrap ((shl .u64 1 (IntKind.u64.wrap (wrap64 (t115 - 1)))) - 1)), Go.bits .and .u64 a1 (IntKind.u64.wrap ((shl .u64 1 (IntKind.u64.wrap (wrap64 (t115 - 1)))) - 1)))) else (none)))
set_option maxHeartbeats 8000000 in
set_option maxRecDepth 100000 in
theorem compact_Decompose.calls (a0 : Int) (a1 : Int) (r1 : Int) (r2 : Int) (w : World) (h : compact_Decompose.f a0 a1 = some (r1, r2)) :
    Calls Tryd.prog 34 #[.int .u64 a0, .int .u64 a1] w fun e w' => e = .returned (.tuple #[.int .u64 r1, .int .u64 r2]) ∧ Drawn0 w w' := by
  have H : (if a0 = 0 then (some (0, a1)) else ((bits_Len64.f (Go.bits .xor .u64 (IntKind.u64.wrap (a0 - 1)) a1)).bind fun t115 => (if 0 ≤ (IntKind.u64.wrap (wrap64 (t115 - 1))) then (some (Go.bits .and .u64 (Go.bits .xor .u64 18446744073709551615 (IntKind.u64.wrap (a0 - 1))) (IntKind.u64.wrap ((shl .u64 1 (IntKind.u64.wrap (wrap64 (t115 - 1)))) - 1)), Go.bits .and .u64 a1 (IntKind.u64.wrap ((shl .u64 1 (IntKind.u64.wrap (wrap64 (t115 - 1)))) - 1)))) else (none)))) = some (r1, r2) := h
  clear h
  by_cases c3 : a0 = 0
  · rw [if_pos c3] at H
    have c3b0 : (a0 == 0) = true := beq_iff_eq.mpr c3
    have c3b1 : (a0 != 0) = false := bne_eq_false_iff_eq.mpr c3
    clear c3
    simp only [Option.some.injEq, Prod.mk.injEq] at H
    obtain ⟨rfl, rfl⟩ := H
    go_enter Tryd.func34, Tryd.ntmps34
    go_wp2
    go_ret2
    exact ⟨by first | rfl | (simp; done) | (simp [*]; done), by repeat (first | exact Drawn0.refl _ | apply Drawn0.step)⟩
  · rw [if_neg c3] at H
    have c3b0 : (a0 == 0) = false := beq_eq_false_iff_ne.mpr c3
    have c3b1 : (a0 != 0) = true := bne_iff_ne.mpr c3
    replace H := Option.bind_eq_some_iff.mp H
    obtain ⟨t115, A40, H⟩ := H
    replace H : (if 0 ≤ (IntKind.u64.wrap (wrap64 (t115 - 1))) then (some (Go.bits .and .u64 (Go.bits .xor .u64 18446744073709551615 (IntKind.u64.wrap (a0 - 1))) (IntKind.u64.wrap ((shl .u64 1 (IntKind.u64.wrap (wrap64 (t115 - 1)))) - 1)), Go.bits .and .u64 a1 (IntKind.u64.wrap ((shl .u64 1 (IntKind.u64.wrap (wrap64 (t115 - 1)))) - 1)))) else (none)) = some (r1, r2) := H
    have A4 := Aside0.mk A40
    clear A40
    obtain ⟨ji5, hji5⟩ : ∃ j_ : Int, (IntKind.u64.wrap (wrap64 (t115 - 1))) = j_ := ⟨_, rfl⟩
    replace H : (if 0 ≤ (ji5) then (some (Go.bits .and .u64 (Go.bits .xor .u64 18446744073709551615 (IntKind.u64.wrap (a0 - 1))) (IntKind.u64.wrap ((shl .u64 1 (ji5)) - 1)), Go.bits .and .u64 a1 (IntKind.u64.wrap ((shl .u64 1 (ji5)) - 1)))) else (none)) = some (r1, r2) := by first | (rw [hji5] at H; exact H) | (simp only [hji5] at H ⊢; exact H)
    (try rw [hji5] at A4)
    by_cases c6 : 0 ≤ (ji5)
    · rw [if_pos c6] at H
      have c6b0 := eq_true c6
      have c6b1 : decide (0 ≤ (ji5)) = true := decide_eq_true c6
      clear c6
      obtain ⟨ji7, hji7⟩ : ∃ j_ : Int, (shl .u64 1 (ji5)) = j_ := ⟨_, rfl⟩
      replace H : (some (Go.bits .and .u64 (Go.bits .xor .u64 18446744073709551615 (IntKind.u64.wrap (a0 - 1))) (IntKind.u64.wrap ((ji7) - 1)), Go.bits .and .u64 a1 (IntKind.u64.wrap ((ji7) - 1)))) = some (r1, r2) := by first | (rw [hji7] at H; exact H) | (simp only [hji7] at H ⊢; exact H)
      (try rw [hji7] at A4)
      have hji7_ : (IntKind.u64.wrap (1 * 2 ^ min (ji5).toNat 64)) = ji7 := hji7
      have hji7z : (ji5) ≤ 64 → (IntKind.u64.wrap (1 * 2 ^ (ji5).toNat)) = ji7 := shl_small hji7
      have hji7u : (IntKind.u64.wrap (2 ^ min (ji5).toNat 64)) = ji7 := by have h_ := hji7_; rw [Int.one_mul] at h_; exact h_
      have hji7v : (ji5) ≤ 64 → (IntKind.u64.wrap (2 ^ (ji5).toNat)) = ji7 := fun hle_ => by have h_ := hji7z hle_; rw [Int.one_mul] at h_; exact h_
      simp only [Option.some.injEq, Prod.mk.injEq] at H
      obtain ⟨rfl, rfl⟩ := H
      go_enter Tryd.func34, Tryd.ntmps34
      go_wp2_with (first | ((with_reducible refine gate_callee (f := 36) rfl ?_); refine goesL_ (some 17) rfl rfl Tryd.func36 (by kernel_rfl) rfl #[.int .u64 (Go.bits .xor .u64 (IntKind.u64.wrap (a0 - 1)) a1)] rfl (by (try simp only [List.map_toArray, List.map_cons, List.map_nil]); first | done | rfl | (simp only [List.length_drop, List.length_take]; rfl)) ?_; (with_reducible refine (bits_Len64.calls (Go.bits .xor .u64 (IntKind.u64.wrap (a0 - 1)) a1) t115 _ A4.out).mono ?_); rintro e w' ⟨rfl, ⟨nd, rfl⟩⟩; refine ⟨_, rfl, ?_⟩))
      go_ret2
      exact ⟨by first | rfl | (simp; done) | (simp only [← hji5, ← hji7] <;> (first | rfl | simp)) | (simp [*]; done), by repeat (first | exact Drawn0.refl _ | apply Drawn0.step)⟩
    · rw [if_neg c6] at H
      exact absurd H (by simp)

/-! ### bits_TrailingZeros64: function 35, by the shelf's contract -/
def bits_TrailingZeros64.f (a0 : Int) : Option (Int) := if 0 ≤ a0 then (if a0 ≤ 18446744073709551615 then some ((Lib.ctz 64 a0.toNat : Nat) : Int) else none) else none
theorem bits_TrailingZeros64.calls (a0 : Int) (r : Int) (w : World) (HG_ : Glob w) (h : bits_TrailingZeros64.f a0 = some r) :
    Calls Tryd.prog 35 #[.int .u64 a0] w fun e w' => e = .returned (.int .i64 r) ∧ Drawn0 w w' := by
  unfold bits_TrailingZeros64.f at h
  by_cases c0 : 0 ≤ a0
  · rw [if_pos c0] at h
    by_cases c1 : a0 ≤ 18446744073709551615
    · rw [if_pos c1] at h
      obtain rfl := Option.some.inj h
      obtain ⟨n, rfl⟩ := Int.eq_ofNat_of_zero_le c0
      rw [Int.toNat_natCast]
      refine (Tryd.bits_TrailingZeros64 n (by omega) w (fun _ => HG_)).mono ?_
      rintro e w' ⟨rfl, rfl⟩
      exact ⟨rfl, Drawn0.refl _⟩
    · rw [if_neg c1] at h; exact absurd h (by simp)
  · rw [if_neg c0] at h; exact absurd h (by simp)

/-! ### compact_RangeNodes: function 20 -/
mutual
def compact_RangeNodes.l0 : Nat → List (S46) → Int → Int → Int → Option ((List (S46)))
  | 0, _, _, _, _ => none
  | k + 1, x2, x7, x8, x9 => if x7 = 0 then (compact_RangeNodes.l1 k x2 x8 x9) else ((bits_TrailingZeros64.f x7).bind fun t118 => (if 0 ≤ (IntKind.u64.wrap (t118)) then ((compact_NewNodeID.f (IntKind.u64.wrap (t118)) (shr .u64 x9 (IntKind.u64.wrap (t118)))).bind fun bt119 => (if x2.length < 8796093022208 then (compact_RangeNodes.l0 k (x2 ++ [(⟨bt119.1, bt119.2⟩ : S46)]) (Go.bits .xor .u64 x7 (shl .u64 1 (IntKind.u64.wrap (t118)))) x8 (IntKind.u64.wrap (x9 + (shl .u64 1 (IntKind.u64.wrap (t118)))))) else (none))) else (none)))
def compact_RangeNodes.l1 : Nat → List (S46) → Int → Int → Option ((List (S46)))
  | 0, _, _, _ => none
  | k + 1, x2, x8, x9 => if x8 = 0 then (some x2) else ((bits_Len64.f x8).bind fun t124 => (if 0 ≤ (IntKind.u64.wrap ((IntKind.u64.wrap (t124)) - 1)) then ((compact_NewNodeID.f (IntKind.u64.wrap ((IntKind.u64.wrap (t124)) - 1)) (shr .u64 x9 (IntKind.u64.wrap ((IntKind.u64.wrap (t124)) - 1)))).bind fun bt125 => (if x2.length < 8796093022208 then (compact_RangeNodes.l1 k (x2 ++ [(⟨bt125.1, bt125.2⟩ : S46)]) (Go.bits .xor .u64 x8 (shl .u64 1 (IntKind.u64.wrap ((IntKind.u64.wrap (t124)) - 1)))) (IntKind.u64.wrap (x9 + (shl .u64 1 (IntKind.u64.wrap ((IntKind.u64.wrap (t124)) - 1)))))) else (none))) else (none)))
end
def compact_RangeNodes.f (k : Nat) (a0 : Int) (a1 : Int) (l2 : List (S46)) : Option ((List (S46))) := (compact_Decompose.f a0 a1).bind fun bt116 => (compact_RangeNodes.l0 k l2 bt116.1 bt116.2 a0)
theorem compact_RangeNodes.mono_l : ∀ k, (∀ y0 y1 y2 y3, LeO (compact_RangeNodes.l0 k y0 y1 y2 y3) (compact_RangeNodes.l0 (k + 1) y0 y1 y2 y3)) ∧ (∀ y0 y1 y2, LeO (compact_RangeNodes.l1 k y0 y1 y2) (compact_RangeNodes.l1 (k + 1) y0 y1 y2))
  | 0 => ⟨fun _ _ _ _ r h => by simp [compact_RangeNodes.l0] at h, fun _ _ _ r h => by simp [compact_RangeNodes.l1] at h⟩
  | k + 1 => by
    obtain ⟨ih0, ih1⟩ := compact_RangeNodes.mono_l k
    refine ⟨?_, ?_⟩
    · intro y0 y1 y2 y3
      unfold compact_RangeNodes.l0
      repeat' first
      | (with_reducible exact ih0 _ _ _ _)
      | (with_reducible exact ih1 _ _ _)
      | (with_reducible exact LeO.refl _)
      | (with_reducible exact LeO.none _)
      | (with_reducible refine LeO.ite ?_ ?_)
      | (with_reducible refine LeO.bind ?_ (fun _ => ?_))
      | exact ih0 _ _ _ _
      | exact ih1 _ _ _
      | exact LeO.none _
      | refine LeO.ite ?_ ?_
      | refine LeO.bind ?_ (fun _ => ?_)
    · intro y0 y1 y2
      unfold compact_RangeNodes.l1
      repeat' first
      | (with_reducible exact ih0 _ _ _ _)
      | (with_reducible exact ih1 _ _ _)
      | (with_reducible exact LeO.refl _)
      | (with_reducible exact LeO.none _)
      | (with_reducible refine LeO.ite ?_ ?_)
      | (with_reducible refine LeO.bind ?_ (fun _ => ?_))
      | exact ih0 _ _ _ _
      | exact ih1 _ _ _
      | exact LeO.none _
      | refine LeO.ite ?_ ?_
      | refine LeO.bind ?_ (fun _ => ?_)
theorem compact_RangeNodes.mono : ∀ a0 a1 a2 k, LeO (compact_RangeNodes.f k a0 a1 a2) (compact_RangeNodes.f (k + 1) a0 a1 a2) := by
  intro a0 a1 a2 k
  obtain ⟨ih0, ih1⟩ := compact_RangeNodes.mono_l k
  unfold compact_RangeNodes.f
  repeat' first
      | (with_reducible exact ih0 _ _ _ _)
      | (with_reducible exact ih1 _ _ _)
      | (with_reducible exact LeO.refl _)
      | (with_reducible exact LeO.none _)
      | (with_reducible refine LeO.ite ?_ ?_)
      | (with_reducible refine LeO.bind ?_ (fun _ => ?_))
      | exact ih0 _ _ _ _
      | exact ih1 _ _ _
      | exact LeO.none _
      | refine LeO.ite ?_ ?_
      | refine LeO.bind ?_ (fun _ => ?_)
set_option maxHeartbeats 8000000 in
set_option maxRecDepth 100000 in
theorem compact_RangeNodes.calls (k : Nat) (a0 : Int) (a1 : Int) (P2_ : Nat → Prop) (u9000_ : Value) (l2 : List (S46)) (r : List (S46)) (w0 w : World) (hB : Below w0.heap.size w0 w) (ho2 : Kd.R k46 46 w w0.heap.size P2_ u9000_ l2) (HG_ : Glob w0) (h : compact_RangeNodes.f k a0 a1 l2 = some r) :
    Calls Tryd.prog 20 #[.int .u64 a0, .int .u64 a1, u9000_] w fun e w' => ∃ v0_ : Value, e = .returned (v0_) ∧ Kd.R k46 46 w' w0.heap.size (fun k_ => (P2_ k_ ∨ w.heap.size ≤ k_)) v0_ r ∧ Below w0.heap.size w0 w' ∧ Kept w w' (fun k_ => P2_ k_) := by
  have HG := Aside0.mk HG_
  clear HG_
  have HO2 := Aside0.mk (show Kd.R k46 46 w w0.heap.size (fun k_ => (P2_ k_ ∨ w.heap.size ≤ k_)) u9000_ l2 from Kd.R_mono ho2 (fun k_ hk => (.inl hk)))
  have HK := Aside0.mk (Kept.refl w (fun k_ => P2_ k_))
  have HW0 := Aside0.mk hB.size
  have HB := Aside0.mk hB
  clear hB
  have H : ((compact_Decompose.f a0 a1).bind fun bt116 => (compact_RangeNodes.l0 k l2 bt116.1 bt116.2 a0)) = some r := h
  clear h
  replace H := Option.bind_eq_some_iff.mp H
  obtain ⟨⟨t116, t117⟩, A40, H⟩ := H
  replace H : (compact_RangeNodes.l0 k l2 t116 t117 a0) = some r := H
  have A4 := Aside0.mk A40
  clear A40
  have H' := Aside0.mk H
  clear H
  go_enter Tryd.func20, Tryd.ntmps20
  go_wp2_with (first | ((with_reducible refine gate_callee (f := 34) rfl ?_); refine goesL_ (some 17) rfl rfl Tryd.func34 (by kernel_rfl) rfl #[.int .u64 a0, .int .u64 a1] rfl (by (try simp only [List.map_toArray, List.map_cons, List.map_nil]); first | done | rfl | (simp only [List.length_drop, List.length_take]; rfl)) ?_; (with_reducible refine (compact_Decompose.calls a0 a1 t116 t117 _ A4.out).mono ?_); rintro e w' ⟨rfl, ⟨nd, rfl⟩⟩; refine ⟨_, rfl, ?_⟩))
  (try simp only [Act.put, List.setIfInBounds_toArray, List.set_cons_zero, List.set_cons_succ])
  go_loopg [2, 7, 9] k (fun kq v2 v7 v9 w' => ∃ (x2_1 : List (S46)) (x7_1 : Int) (x9_1 : Int), v7 = .int .u64 x7_1 ∧ v9 = .int .u64 x9_1 ∧ Aside0 (compact_RangeNodes.l0 kq x2_1 x7_1 t117 x9_1 = some r) ∧ Aside0 (kq ≤ k) ∧ Aside0 (Kd.R k46 46 w' w0.heap.size (fun k_ => (P2_ k_ ∨ w.heap.size ≤ k_)) v2 x2_1) ∧ Aside0 (Kept w w' (fun k_ => P2_ k_)) ∧ Aside0 (Below w0.heap.size w0 w'))
  case atStart => exact ⟨(l2), (t116), (a0), (by first | rfl | (simp; done) | (simp [*]; done)), (by first | rfl | (simp; done) | (simp [*]; done)), H', ⟨Nat.le_refl _⟩, ⟨by (with_reducible repeat (first | apply Kd.R_alloc | apply Kd.R_drewN | apply Kd.R_drew)); exact HO2.out⟩, ⟨by repeat (first | (with_reducible first | exact HK.out | apply Kept.alloc | apply Kept.drewN | apply Kept.drew) | exact HK.out)⟩, ⟨by repeat (first | (with_reducible first | exact HB.out | apply below_alloc | apply pw_below_drewN | apply below_drew1) | exact HB.out)⟩⟩
  case round =>
    clear H'
    try clear c2
    try clear p2
    try clear c3
    obtain ⟨x2_1, x7_1, x9_1, rfl, rfl, HA, HK1, HO_2, HK, HB⟩ := hrel
    cases gk with
    | zero => exact absurd HA.out (by simp [compact_RangeNodes.l0])
    | succ k1 =>
      have H := HA.out
      clear HA
      simp only [compact_RangeNodes.l0] at H
      by_cases c5 : x7_1 = 0
      · rw [if_pos c5] at H
        have c5b0 : (x7_1 == 0) = true := beq_iff_eq.mpr c5
        have c5b1 : (x7_1 != 0) = false := bne_eq_false_iff_eq.mpr c5
        clear c5
        have H' := Aside0.mk H
        clear H
        go_wp2
        (try simp only [Act.put, List.setIfInBounds_toArray, List.set_cons_zero, List.set_cons_succ])
        go_loopg [2, 8, 9] k1 (fun kq v2 v8 v9 w' => ∃ (x2_2 : List (S46)) (x8_2 : Int) (x9_2 : Int), v8 = .int .u64 x8_2 ∧ v9 = .int .u64 x9_2 ∧ Aside0 (compact_RangeNodes.l1 kq x2_2 x8_2 x9_2 = some r) ∧ Aside0 (kq ≤ k1) ∧ Aside0 (Kd.R k46 46 w' w0.heap.size (fun k_ => (P2_ k_ ∨ w.heap.size ≤ k_)) v2 x2_2) ∧ Aside0 (Kept w w' (fun k_ => P2_ k_)) ∧ Aside0 (Below w0.heap.size w0 w'))
        case atStart => exact ⟨(x2_1), (t117), (x9_1), (by first | rfl | (simp; done) | (simp [*]; done)), (by first | rfl | (simp; done) | (simp [*]; done)), H', ⟨Nat.le_refl _⟩, ⟨by (with_reducible repeat (first | apply Kd.R_alloc | apply Kd.R_drewN | apply Kd.R_drew)); exact HO_2.out⟩, ⟨by repeat (first | (with_reducible first | exact HK.out | apply Kept.alloc | apply Kept.drewN | apply Kept.drew) | exact HK.out)⟩, ⟨by repeat (first | (with_reducible first | exact HB.out | apply below_alloc | apply pw_below_drewN | apply below_drew1) | exact HB.out)⟩⟩
        case round =>
          clear H'
          try clear c2
          try clear p2
          try clear c3
          try clear c5
          try clear c5b0
          try clear c5b1
          try clear p2
          obtain ⟨x2_2, x8_2, x9_2, rfl, rfl, HA, HK2, HO_2, HK, HB⟩ := hrel
          cases gk with
          | zero => exact absurd HA.out (by simp [compact_RangeNodes.l1])
          | succ k2 =>
            have H := HA.out
            clear HA
            simp only [compact_RangeNodes.l1] at H
            by_cases c6 : x8_2 = 0
            · rw [if_pos c6] at H
              have c6b0 : (x8_2 == 0) = true := beq_iff_eq.mpr c6
              have c6b1 : (x8_2 != 0) = false := bne_eq_false_iff_eq.mpr c6
              clear c6
              obtain rfl := Option.some.inj H
              go_wp2
              go_ret
              exact ⟨_, by first | rfl | (simp [errW_none, errW_some] <;> rfl) | (simp [*, errW_none, errW_some] <;> rfl), by (with_reducible repeat (first | apply Kd.R_alloc | apply Kd.R_drewN | apply Kd.R_drew)); exact HO_2.out, by repeat (first | (with_reducible first | exact HB.out | apply below_alloc | apply pw_below_drewN | apply below_drew1) | exact HB.out), by repeat (first | (with_reducible first | exact HK.out | apply Kept.alloc | apply Kept.drewN | apply Kept.drew) | exact HK.out)⟩
            · rw [if_neg c6] at H
              have c6b0 : (x8_2 == 0) = false := beq_eq_false_iff_ne.mpr c6
              have c6b1 : (x8_2 != 0) = true := bne_iff_ne.mpr c6
              replace H := Option.bind_eq_some_iff.mp H
              obtain ⟨t124, A70, H⟩ := H
              replace H : (if 0 ≤ (IntKind.u64.wrap ((IntKind.u64.wrap (t124)) - 1)) then ((compact_NewNodeID.f (IntKind.u64.wrap ((IntKind.u64.wrap (t124)) - 1)) (shr .u64 x9_2 (IntKind.u64.wrap ((IntKind.u64.wrap (t124)) - 1)))).bind fun bt125 => (if x2_2.length < 8796093022208 then (compact_RangeNodes.l1 k2 (x2_2 ++ [(⟨bt125.1, bt125.2⟩ : S46)]) (Go.bits .xor .u64 x8_2 (shl .u64 1 (IntKind.u64.wrap ((IntKind.u64.wrap (t124)) - 1)))) (IntKind.u64.wrap (x9_2 + (shl .u64 1 (IntKind.u64.wrap ((IntKind.u64.wrap (t124)) - 1)))))) else (none))) else (none)) = some r := H
              have A7 := Aside0.mk A70
              clear A70
              obtain ⟨ji8, hji8⟩ : ∃ j_ : Int, (IntKind.u64.wrap ((IntKind.u64.wrap (t124)) - 1)) = j_ := ⟨_, rfl⟩
              replace H : (if 0 ≤ (ji8) then ((compact_NewNodeID.f (ji8) (shr .u64 x9_2 (ji8))).bind fun bt125 => (if x2_2.length < 8796093022208 then (compact_RangeNodes.l1 k2 (x2_2 ++ [(⟨bt125.1, bt125.2⟩ : S46)]) (Go.bits .xor .u64 x8_2 (shl .u64 1 (ji8))) (IntKind.u64.wrap (x9_2 + (shl .u64 1 (ji8))))) else (none))) else (none)) = some r := by first | (rw [hji8] at H; exact H) | (simp only [hji8] at H ⊢; exact H)
              (try rw [hji8] at A7)
              by_cases c9 : 0 ≤ (ji8)
              · rw [if_pos c9] at H
                have c9b0 := eq_true c9
                have c9b1 : decide (0 ≤ (ji8)) = true := decide_eq_true c9
                clear c9
                obtain ⟨ji10, hji10⟩ : ∃ j_ : Int, (shl .u64 1 (ji8)) = j_ := ⟨_, rfl⟩
                replace H : ((compact_NewNodeID.f (ji8) (shr .u64 x9_2 (ji8))).bind fun bt125 => (if x2_2.length < 8796093022208 then (compact_RangeNodes.l1 k2 (x2_2 ++ [(⟨bt125.1, bt125.2⟩ : S46)]) (Go.bits .xor .u64 x8_2 (ji10)) (IntKind.u64.wrap (x9_2 + (ji10)))) else (none))) = some r := by first | (rw [hji10] at H; exact H) | (simp only [hji10] at H ⊢; exact H)
                (try rw [hji10] at A7)
                have hji10_ : (IntKind.u64.wrap (1 * 2 ^ min (ji8).toNat 64)) = ji10 := hji10
                have hji10z : (ji8) ≤ 64 → (IntKind.u64.wrap (1 * 2 ^ (ji8).toNat)) = ji10 := shl_small hji10
                have hji10u : (IntKind.u64.wrap (2 ^ min (ji8).toNat 64)) = ji10 := by have h_ := hji10_; rw [Int.one_mul] at h_; exact h_
                have hji10v : (ji8) ≤ 64 → (IntKind.u64.wrap (2 ^ (ji8).toNat)) = ji10 := fun hle_ => by have h_ := hji10z hle_; rw [Int.one_mul] at h_; exact h_
                have c11b0 := eq_true (of_decide_eq_true (by first | (with_reducible assumption) | assumption) : 0 ≤ (ji8))
                obtain ⟨ji12, hji12⟩ : ∃ j_ : Int, (shr .u64 x9_2 (ji8)) = j_ := ⟨_, rfl⟩
                replace H : ((compact_NewNodeID.f (ji8) (ji12)).bind fun bt125 => (if x2_2.length < 8796093022208 then (compact_RangeNodes.l1 k2 (x2_2 ++ [(⟨bt125.1, bt125.2⟩ : S46)]) (Go.bits .xor .u64 x8_2 (ji10)) (IntKind.u64.wrap (x9_2 + (ji10)))) else (none))) = some r := by first | (rw [hji12] at H; exact H) | (simp only [hji12] at H ⊢; exact H)
                (try rw [hji12] at A7)
                have hji12_ : (x9_2 / 2 ^ min (ji8).toNat 64) = ji12 := hji12
                have hji12z : (ji8) ≤ 64 → (x9_2 / 2 ^ (ji8).toNat) = ji12 := shr_small hji12
                replace H := Option.bind_eq_some_iff.mp H
                obtain ⟨⟨t125, t126⟩, A130, H⟩ := H
                replace H : (if x2_2.length < 8796093022208 then (compact_RangeNodes.l1 k2 (x2_2 ++ [(⟨t125, t126⟩ : S46)]) (Go.bits .xor .u64 x8_2 (ji10)) (IntKind.u64.wrap (x9_2 + (ji10)))) else (none)) = some r := H
                have A13 := Aside0.mk A130
                clear A130
                by_cases c14 : x2_2.length < 8796093022208
                · rw [if_pos c14] at H
                  have LMc14 := Aside0.mk c14
                  clear c14
                  obtain ⟨y127, hy127⟩ : ∃ y_ : List (S46), y_ = (x2_2 ++ [(⟨t125, t126⟩ : S46)]) := ⟨_, rfl⟩
                  replace H : (compact_RangeNodes.l1 k2 y127 (Go.bits .xor .u64 x8_2 (ji10)) (IntKind.u64.wrap (x9_2 + (ji10)))) = some r := by first | (rw [hy127]; with_reducible exact H) | (have H2_ := (Option.bind_some _ _).symm.trans H; rw [hy127]; with_reducible exact H2_) | (have H2_ := (Option.bind_some _ _).symm.trans H; with_reducible exact H2_) | with_reducible exact H | (rw [hy127]; exact H) | exact H
                  have Ny127 := Aside0.mk hy127
                  clear hy127
                  have H' := Aside0.mk H
                  clear H
                  go_wp2_with (first | ((with_reducible refine gate_callee (f := 36) rfl ?_); refine goesL_ (some 51) rfl rfl Tryd.func36 (by kernel_rfl) rfl #[.int .u64 x8_2] rfl (by (try simp only [List.map_toArray, List.map_cons, List.map_nil]); first | done | rfl | (simp only [List.length_drop, List.length_take]; rfl)) ?_; (with_reducible refine (bits_Len64.calls x8_2 t124 _ A7.out).mono ?_); rintro e w' ⟨rfl, ⟨nd, rfl⟩⟩; refine ⟨_, rfl, ?_⟩) | ((with_reducible refine gate_callee (f := 32) rfl ?_); refine goesL_ (some 61) rfl rfl Tryd.func32 (by kernel_rfl) rfl #[.int .u64 ji8, .int .u64 ji12] rfl (by (try simp only [List.map_toArray, List.map_cons, List.map_nil]); first | done | (simp only [hji12, hji8]; rfl) | rfl | (simp only [List.length_drop, List.length_take]; rfl)) ?_; (with_reducible refine (compact_NewNodeID.calls ji8 ji12 t125 t126 _ A13.out).mono ?_); rintro e w15 ⟨rfl, hb⟩; refine ⟨_, rfl, ?_⟩; have n0_ := Aside0.mk (Kd.R_below (by (with_reducible repeat (first | apply Kd.R_alloc | apply Kd.R_drewN | apply Kd.R_drew)); exact HO_2.out) hb); have n1_ := Aside0.mk (Kept.below (S := (fun k_ => P2_ k_)) (by repeat (first | (with_reducible first | exact HK.out | apply Kept.alloc | apply Kept.drewN | apply Kept.drew) | exact HK.out)) hb); have n2_ := Aside0.mk (below_step (by repeat (first | (with_reducible first | exact HB.out | apply below_alloc | apply pw_below_drewN | apply below_drew1) | exact HB.out)) hb); clear HO_2; clear HK; clear HB; have HO_2 := n0_; have HK := n1_; have HB := n2_; clear n0_ n1_ n2_; (try clear hb); (try clear hb2); (try clear hk); (try clear hi)) | ((with_reducible refine gate_builtin (b := .append) (xs := #[.tmp 56, .tmp 62]) rfl ?_); at_builtin; refine Kd.R_append k46 (w0 := w0) w0.heap.size rfl (.tmp 56) (.tmp 62) 45 46 (.agg #[(.int .u64 0), (.int .u64 0)]) 16 rfl Tryd.underlying45 info46 rfl (by decide) (by omega) u2 x2_2 (⟨t125, t126⟩ : S46) [.int .u64 t125, .int .u64 t126] (fun k_ => (P2_ k_ ∨ w.heap.size ≤ k_)) (fun _ => False) rfl rfl ?aP (fun _ hk => hk.elim) ?aF ?aO ?aB ?aS ?aL ?_; (case aP => exact k46_mkM _ _ _ (⟨t125, t126⟩ : S46)); (case aB => exact (by repeat (first | (with_reducible first | exact HB.out | apply below_alloc | apply pw_below_drewN | apply below_drew1) | exact HB.out))); (case aF => exact (fun k_ hk => (.inr (Nat.le_trans (by first | exact HK.out.1 | exact (show Kept w _ (fun k_ => P2_ k_) from by repeat (first | (with_reducible first | exact HK.out | apply Kept.alloc | apply Kept.drewN | apply Kept.drew) | exact HK.out)).1) hk)))); (case aO => exact (by (with_reducible repeat (first | apply Kd.R_alloc | apply Kd.R_drewN | apply Kd.R_drew)); exact HO_2.out)); (case aS => exact (below_size (by repeat (first | (with_reducible first | exact HB.out | apply below_alloc | apply pw_below_drewN | apply below_drew1) | exact HB.out)))); (case aL => have := LMc14.out; omega); intro v128 w16 ho hb hg hat; rw [← Ny127.out] at ho; have n0_ := Aside0.mk (hb); have n1_ := Aside0.mk (Kept.of_grown (S := (fun k_ => P2_ k_)) hg (by repeat (first | (with_reducible first | exact HK.out | apply Kept.alloc | apply Kept.drewN | apply Kept.drew) | exact HK.out)) (fun k_ e_ => (HO_2.out.1 k_ e_))); have n2_ := Aside0.mk (ho); clear HB; clear HK; clear HO_2; have HB := n0_; have HK := n1_; have HO129 := n2_; clear n0_ n1_ n2_; clear ho hb hg hat))
                  go_roundg k2
                  case measure => have := HK1.out; have := HK2.out; omega
                  case rel => exact ⟨(y127), (Go.bits .xor .u64 x8_2 (ji10)), (IntKind.u64.wrap (x9_2 + (ji10))), (by first | rfl | (simp; done) | (simp only [← hji10] <;> (first | rfl | simp)) | (simp [*]; done)), (by first | rfl | (simp; done) | (simp only [← hji10] <;> (first | rfl | simp)) | (simp [*]; done)), H', ⟨by have := HK1.out; have := HK2.out; omega⟩, ⟨by (with_reducible repeat (first | apply Kd.R_alloc | apply Kd.R_drewN | apply Kd.R_drew)); exact HO129.out⟩, ⟨by repeat (first | (with_reducible first | exact HK.out | apply Kept.alloc | apply Kept.drewN | apply Kept.drew) | exact HK.out)⟩, ⟨by repeat (first | (with_reducible first | exact HB.out | apply below_alloc | apply pw_below_drewN | apply below_drew1) | exact HB.out)⟩⟩
                · rw [if_neg c14] at H
                  exact absurd H (by simp)
              · rw [if_neg c9] at H
                exact absurd H (by simp)
      · rw [if_neg c5] at H
        have c5b0 : (x7_1 == 0) = false := beq_eq_false_iff_ne.mpr c5
        have c5b1 : (x7_1 != 0) = true := bne_iff_ne.mpr c5
        replace H := Option.bind_eq_some_iff.mp H
        obtain ⟨t118, A170, H⟩ := H
        replace H : (if 0 ≤ (IntKind.u64.wrap (t118)) then ((compact_NewNodeID.f (IntKind.u64.wrap (t118)) (shr .u64 x9_1 (IntKind.u64.wrap (t118)))).bind fun bt119 => (if x2_1.length < 8796093022208 then (compact_RangeNodes.l0 k1 (x2_1 ++ [(⟨bt119.1, bt119.2⟩ : S46)]) (Go.bits .xor .u64 x7_1 (shl .u64 1 (IntKind.u64.wrap (t118)))) t117 (IntKind.u64.wrap (x9_1 + (shl .u64 1 (IntKind.u64.wrap (t118)))))) else (none))) else (none)) = some r := H
        have A17 := Aside0.mk A170
        clear A170
        obtain ⟨ji18, hji18⟩ : ∃ j_ : Int, (IntKind.u64.wrap (t118)) = j_ := ⟨_, rfl⟩
        replace H : (if 0 ≤ (ji18) then ((compact_NewNodeID.f (ji18) (shr .u64 x9_1 (ji18))).bind fun bt119 => (if x2_1.length < 8796093022208 then (compact_RangeNodes.l0 k1 (x2_1 ++ [(⟨bt119.1, bt119.2⟩ : S46)]) (Go.bits .xor .u64 x7_1 (shl .u64 1 (ji18))) t117 (IntKind.u64.wrap (x9_1 + (shl .u64 1 (ji18))))) else (none))) else (none)) = some r := by first | (rw [hji18] at H; exact H) | (simp only [hji18] at H ⊢; exact H)
        (try rw [hji18] at A17)
        by_cases c19 : 0 ≤ (ji18)
        · rw [if_pos c19] at H
          have c19b0 := eq_true c19
          have c19b1 : decide (0 ≤ (ji18)) = true := decide_eq_true c19
          clear c19
          obtain ⟨ji20, hji20⟩ : ∃ j_ : Int, (shl .u64 1 (ji18)) = j_ := ⟨_, rfl⟩
          replace H : ((compact_NewNodeID.f (ji18) (shr .u64 x9_1 (ji18))).bind fun bt119 => (if x2_1.length < 8796093022208 then (compact_RangeNodes.l0 k1 (x2_1 ++ [(⟨bt119.1, bt119.2⟩ : S46)]) (Go.bits .xor .u64 x7_1 (ji20)) t117 (IntKind.u64.wrap (x9_1 + (ji20)))) else (none))) = some r := by first | (rw [hji20] at H; exact H) | (simp only [hji20] at H ⊢; exact H)
          (try rw [hji20] at A17)
          have hji20_ : (IntKind.u64.wrap (1 * 2 ^ min (ji18).toNat 64)) = ji20 := hji20
          have hji20z : (ji18) ≤ 64 → (IntKind.u64.wrap (1 * 2 ^ (ji18).toNat)) = ji20 := shl_small hji20
          have hji20u : (IntKind.u64.wrap (2 ^ min (ji18).toNat 64)) = ji20 := by have h_ := hji20_; rw [Int.one_mul] at h_; exact h_
          have hji20v : (ji18) ≤ 64 → (IntKind.u64.wrap (2 ^ (ji18).toNat)) = ji20 := fun hle_ => by have h_ := hji20z hle_; rw [Int.one_mul] at h_; exact h_
          have c21b0 := eq_true (of_decide_eq_true (by first | (with_reducible assumption) | assumption) : 0 ≤ (ji18))
          obtain ⟨ji22, hji22⟩ : ∃ j_ : Int, (shr .u64 x9_1 (ji18)) = j_ := ⟨_, rfl⟩
          replace H : ((compact_NewNodeID.f (ji18) (ji22)).bind fun bt119 => (if x2_1.length < 8796093022208 then (compact_RangeNodes.l0 k1 (x2_1 ++ [(⟨bt119.1, bt119.2⟩ : S46)]) (Go.bits .xor .u64 x7_1 (ji20)) t117 (IntKind.u64.wrap (x9_1 + (ji20)))) else (none))) = some r := by first | (rw [hji22] at H; exact H) | (simp only [hji22] at H ⊢; exact H)
          (try rw [hji22] at A17)
          have hji22_ : (x9_1 / 2 ^ min (ji18).toNat 64) = ji22 := hji22
          have hji22z : (ji18) ≤ 64 → (x9_1 / 2 ^ (ji18).toNat) = ji22 := shr_small hji22
          replace H := Option.bind_eq_some_iff.mp H
          obtain ⟨⟨t119, t120⟩, A230, H⟩ := H
          replace H : (if x2_1.length < 8796093022208 then (compact_RangeNodes.l0 k1 (x2_1 ++ [(⟨t119, t120⟩ : S46)]) (Go.bits .xor .u64 x7_1 (ji20)) t117 (IntKind.u64.wrap (x9_1 + (ji20)))) else (none)) = some r := H
          have A23 := Aside0.mk A230
          clear A230
          by_cases c24 : x2_1.length < 8796093022208
          · rw [if_pos c24] at H
            have LMc24 := Aside0.mk c24
            clear c24
            obtain ⟨y121, hy121⟩ : ∃ y_ : List (S46), y_ = (x2_1 ++ [(⟨t119, t120⟩ : S46)]) := ⟨_, rfl⟩
            replace H : (compact_RangeNodes.l0 k1 y121 (Go.bits .xor .u64 x7_1 (ji20)) t117 (IntKind.u64.wrap (x9_1 + (ji20)))) = some r := by first | (rw [hy121]; with_reducible exact H) | (have H2_ := (Option.bind_some _ _).symm.trans H; rw [hy121]; with_reducible exact H2_) | (have H2_ := (Option.bind_some _ _).symm.trans H; with_reducible exact H2_) | with_reducible exact H | (rw [hy121]; exact H) | exact H
            have Ny121 := Aside0.mk hy121
            clear hy121
            have H' := Aside0.mk H
            clear H
            go_wp2_with (first | ((with_reducible refine gate_callee (f := 35) rfl ?_); refine goesL_ (some 30) rfl rfl Tryd.func35 (by kernel_rfl) rfl #[.int .u64 x7_1] rfl (by (try simp only [List.map_toArray, List.map_cons, List.map_nil]); first | done | rfl | (simp only [List.length_drop, List.length_take]; rfl)) ?_; (with_reducible refine (bits_TrailingZeros64.calls x7_1 t118 _ ?side1 A17.out).mono ?_); (case side1 => first | exact HG.out | exact Glob.drewN HG.out _ | exact Glob.below HG.out (by repeat (first | (with_reducible first | exact HB.out | apply below_alloc | apply pw_below_drewN | apply below_drew1) | exact HB.out))); rintro e w' ⟨rfl, ⟨nd, rfl⟩⟩; refine ⟨_, rfl, ?_⟩) | ((with_reducible refine gate_callee (f := 32) rfl ?_); refine goesL_ (some 39) rfl rfl Tryd.func32 (by kernel_rfl) rfl #[.int .u64 ji18, .int .u64 ji22] rfl (by (try simp only [List.map_toArray, List.map_cons, List.map_nil]); first | done | (simp only [hji18, hji22]; rfl) | rfl | (simp only [List.length_drop, List.length_take]; rfl)) ?_; (with_reducible refine (compact_NewNodeID.calls ji18 ji22 t119 t120 _ A23.out).mono ?_); rintro e w25 ⟨rfl, hb⟩; refine ⟨_, rfl, ?_⟩; have n0_ := Aside0.mk (Kd.R_below (by (with_reducible repeat (first | apply Kd.R_alloc | apply Kd.R_drewN | apply Kd.R_drew)); exact HO_2.out) hb); have n1_ := Aside0.mk (Kept.below (S := (fun k_ => P2_ k_)) (by repeat (first | (with_reducible first | exact HK.out | apply Kept.alloc | apply Kept.drewN | apply Kept.drew) | exact HK.out)) hb); have n2_ := Aside0.mk (below_step (by repeat (first | (with_reducible first | exact HB.out | apply below_alloc | apply pw_below_drewN | apply below_drew1) | exact HB.out)) hb); clear HO_2; clear HK; clear HB; have HO_2 := n0_; have HK := n1_; have HB := n2_; clear n0_ n1_ n2_; (try clear hb); (try clear hb2); (try clear hk); (try clear hi)) | ((with_reducible refine gate_builtin (b := .append) (xs := #[.tmp 34, .tmp 40]) rfl ?_); at_builtin; refine Kd.R_append k46 (w0 := w0) w0.heap.size rfl (.tmp 34) (.tmp 40) 45 46 (.agg #[(.int .u64 0), (.int .u64 0)]) 16 rfl Tryd.underlying45 info46 rfl (by decide) (by omega) u2 x2_1 (⟨t119, t120⟩ : S46) [.int .u64 t119, .int .u64 t120] (fun k_ => (P2_ k_ ∨ w.heap.size ≤ k_)) (fun _ => False) rfl rfl ?aP (fun _ hk => hk.elim) ?aF ?aO ?aB ?aS ?aL ?_; (case aP => exact k46_mkM _ _ _ (⟨t119, t120⟩ : S46)); (case aB => exact (by repeat (first | (with_reducible first | exact HB.out | apply below_alloc | apply pw_below_drewN | apply below_drew1) | exact HB.out))); (case aF => exact (fun k_ hk => (.inr (Nat.le_trans (by first | exact HK.out.1 | exact (show Kept w _ (fun k_ => P2_ k_) from by repeat (first | (with_reducible first | exact HK.out | apply Kept.alloc | apply Kept.drewN | apply Kept.drew) | exact HK.out)).1) hk)))); (case aO => exact (by (with_reducible repeat (first | apply Kd.R_alloc | apply Kd.R_drewN | apply Kd.R_drew)); exact HO_2.out)); (case aS => exact (below_size (by repeat (first | (with_reducible first | exact HB.out | apply below_alloc | apply pw_below_drewN | apply below_drew1) | exact HB.out)))); (case aL => have := LMc24.out; omega); intro v122 w26 ho hb hg hat; rw [← Ny121.out] at ho; have n0_ := Aside0.mk (hb); have n1_ := Aside0.mk (Kept.of_grown (S := (fun k_ => P2_ k_)) hg (by repeat (first | (with_reducible first | exact HK.out | apply Kept.alloc | apply Kept.drewN | apply Kept.drew) | exact HK.out)) (fun k_ e_ => (HO_2.out.1 k_ e_))); have n2_ := Aside0.mk (ho); clear HB; clear HK; clear HO_2; have HB := n0_; have HK := n1_; have HO123 := n2_; clear n0_ n1_ n2_; clear ho hb hg hat))
            go_roundg k1
            case measure => have := HK1.out; omega
            case rel => exact ⟨(y121), (Go.bits .xor .u64 x7_1 (ji20)), (IntKind.u64.wrap (x9_1 + (ji20))), (by first | rfl | (simp; done) | (simp only [← hji20] <;> (first | rfl | simp)) | (simp [*]; done)), (by first | rfl | (simp; done) | (simp only [← hji20] <;> (first | rfl | simp)) | (simp [*]; done)), H', ⟨by have := HK1.out; omega⟩, ⟨by (with_reducible repeat (first | apply Kd.R_alloc | apply Kd.R_drewN | apply Kd.R_drew)); exact HO123.out⟩, ⟨by repeat (first | (with_reducible first | exact HK.out | apply Kept.alloc | apply Kept.drewN | apply Kept.drew) | exact HK.out)⟩, ⟨by repeat (first | (with_reducible first | exact HB.out | apply below_alloc | apply pw_below_drewN | apply below_drew1) | exact HB.out)⟩⟩
          · rw [if_neg c24] at H
            exact absurd H (by simp)
        · rw [if_neg c19] at H
          exact absurd H (by simp)

/-! ### impl_RangeNodes: function 7 -/
def impl_RangeNodes.l0 : Nat → Int → Int → List (S46) → List (S27) → Int → Int → Option ((List (S27)))
  | 0, _, _, _, _, _, _ => none
  | k + 1, x0, x1, x7, x10, x11, x12 => if x12 < x11 then (if 0 ≤ x12 then (if x12 < (x10.length : Int) then ((impl_toNode.f ((rd_T27 x10 x12).f0) ((rd_T27 x10 x12).f1)).bind fun bt132 => (if x7.length < 8796093022208 then (impl_RangeNodes.l0 k x0 x1 (x7 ++ [(⟨bt132.1, bt132.2⟩ : S46)]) x10 x11 (wrap64 (x12 + 1))) else (none))) else (none)) else (none)) else ((compact_RangeNodes.f k x0 x1 x7).bind fun t137 => ((impl_fromNodes.f k t137).bind fun t140 => (some t140)))
def impl_RangeNodes.f (k : Nat) (a0 : Int) (a1 : Int) (l2 : List (S27)) : Option ((List (S27))) := impl_RangeNodes.l0 k a0 a1 ([] : List (S46)) l2 (l2.length : Int) 0
theorem impl_RangeNodes.mono_l : ∀ k, (∀ y0 y1 y2 y3 y4 y5, LeO (impl_RangeNodes.l0 k y0 y1 y2 y3 y4 y5) (impl_RangeNodes.l0 (k + 1) y0 y1 y2 y3 y4 y5))
  | 0 => fun _ _ _ _ _ _ r h => by simp [impl_RangeNodes.l0] at h
  | k + 1 => by
    have ih0 := impl_RangeNodes.mono_l k
    · intro y0 y1 y2 y3 y4 y5
      unfold impl_RangeNodes.l0
      repeat' first
      | (with_reducible exact ih0 _ _ _ _ _ _)
      | (with_reducible exact compact_RangeNodes.mono _ _ _ _)
      | (with_reducible exact impl_fromNodes.mono _ _)
      | (with_reducible exact LeO.refl _)
      | (with_reducible exact LeO.none _)
      | (with_reducible refine LeO.ite ?_ ?_)
      | (with_reducible refine LeO.bind ?_ (fun _ => ?_))
      | exact ih0 _ _ _ _ _ _
      | exact compact_RangeNodes.mono _ _ _ _
      | exact impl_fromNodes.mono _ _
      | exact LeO.none _
      | refine LeO.ite ?_ ?_
      | refine LeO.bind ?_ (fun _ => ?_)
theorem impl_RangeNodes.mono : ∀ a0 a1 a2 k, LeO (impl_RangeNodes.f k a0 a1 a2) (impl_RangeNodes.f (k + 1) a0 a1 a2) := by
  intro a0 a1 a2 k
  have ih0 := impl_RangeNodes.mono_l k
  unfold impl_RangeNodes.f
  repeat' first
      | (with_reducible exact ih0 _ _ _ _ _ _)
      | (with_reducible exact compact_RangeNodes.mono _ _ _ _)
      | (with_reducible exact impl_fromNodes.mono _ _)
      | (with_reducible exact LeO.refl _)
      | (with_reducible exact LeO.none _)
      | (with_reducible refine LeO.ite ?_ ?_)
      | (with_reducible refine LeO.bind ?_ (fun _ => ?_))
      | exact ih0 _ _ _ _ _ _
      | exact compact_RangeNodes.mono _ _ _ _
      | exact impl_fromNodes.mono _ _
      | exact LeO.none _
      | refine LeO.ite ?_ ?_
      | refine LeO.bind ?_ (fun _ => ?_)
set_option maxHeartbeats 8000000 in
set_option maxRecDepth 100000 in
theorem impl_RangeNodes.calls (k : Nat) (a0 : Int) (a1 : Int) (A2 : Option Addr) (c2 : Nat) (l2 : List (S27)) (r : List (S27)) (w : World) (hr2 : Kd.C k27 w A2 l2.length l2) (hc2 : l2.length ≤ c2) (HG_ : Glob w) (h : impl_RangeNodes.f k a0 a1 l2 = some r) :
    Calls Tryd.prog 7 #[.int .u64 a0, .int .u64 a1, .slice A2 l2.length c2] w fun e w' => ∃ v0_ : Value, e = .returned (v0_) ∧ Kd.R k27 27 w' w.heap.size (fun _ => True) v0_ r ∧ Below w.heap.size w w' := by
  have hu27 := Tryd.underlying27
  have HG := Aside0.mk HG_
  clear HG_
  have HR2 := Aside0.mk hr2
  have HC2 := Aside0.mk hc2
  clear hr2 hc2
  have HB := Aside0.mk (Below.refl w.heap.size w)
  have H : (impl_RangeNodes.l0 k a0 a1 ([] : List (S46)) l2 (l2.length : Int) 0) = some r := h
  clear h
  have H' := Aside0.mk H
  clear H
  go_enter Tryd.func7, Tryd.ntmps7
  go_wp2
  (try simp only [Act.put, List.setIfInBounds_toArray, List.set_cons_zero, List.set_cons_succ])
  go_loopg [7, 12] k (fun kq v7 v12 w' => ∃ (x7_1 : List (S46)) (x12_1 : Int), v12 = .int .i64 x12_1 ∧ Aside0 (impl_RangeNodes.l0 kq a0 a1 x7_1 l2 (l2.length : Int) x12_1 = some r) ∧ Aside0 (kq ≤ k) ∧ Aside0 (Kd.R k46 46 w' w.heap.size (fun _ => True) v7 x7_1) ∧ Aside0 (Below w.heap.size w w'))
  case atStart => exact ⟨(([] : List (S46))), (0), (by first | rfl | (simp; done) | (simp [*]; done)), H', ⟨Nat.le_refl _⟩, ⟨by first | exact Kd.R_nil _ _ _ _ _ | exact Kd.N_nil _ _ _ _ _ | exact Kd.V_nil _ _ _ _ _ | exact Kd.Q_nil _ _ _ _ _ | exact Kd.S_nil _ _ _ _ _⟩, ⟨by repeat (first | (with_reducible first | exact HB.out | apply below_alloc | apply pw_below_drewN | apply below_drew1) | exact HB.out)⟩⟩
  case round =>
    clear H'
    try clear c2
    try clear p2
    obtain ⟨x7_1, x12_1, rfl, HA, HK1, HO_7, HB⟩ := hrel
    cases gk with
    | zero => exact absurd HA.out (by simp [impl_RangeNodes.l0])
    | succ k1 =>
      have H := HA.out
      clear HA
      simp only [impl_RangeNodes.l0] at H
      by_cases c4 : x12_1 < (l2.length : Int)
      · rw [if_pos c4] at H
        have c4b0 : decide (x12_1 < (l2.length : Int)) = true := decide_eq_true c4
        clear c4
        by_cases c5 : 0 ≤ x12_1
        · rw [if_pos c5] at H
          have c5b0 : decide (0 ≤ x12_1) = true := decide_eq_true c5
          clear c5
          by_cases c6 : x12_1 < (l2.length : Int)
          · rw [if_pos c6] at H
            have c6b0 : decide (x12_1 < (l2.length : Int)) = true := decide_eq_true c6
            clear c6
            replace H := Option.bind_eq_some_iff.mp H
            obtain ⟨⟨t132, t133⟩, A70, H⟩ := H
            replace H : (if x7_1.length < 8796093022208 then (impl_RangeNodes.l0 k1 a0 a1 (x7_1 ++ [(⟨t132, t133⟩ : S46)]) l2 (l2.length : Int) (wrap64 (x12_1 + 1))) else (none)) = some r := H
            have A7 := Aside0.mk A70
            clear A70
            by_cases c8 : x7_1.length < 8796093022208
            · rw [if_pos c8] at H
              have LMc8 := Aside0.mk c8
              clear c8
              obtain ⟨y134, hy134⟩ : ∃ y_ : List (S46), y_ = (x7_1 ++ [(⟨t132, t133⟩ : S46)]) := ⟨_, rfl⟩
              replace H : (impl_RangeNodes.l0 k1 a0 a1 y134 l2 (l2.length : Int) (wrap64 (x12_1 + 1))) = some r := by first | (rw [hy134]; with_reducible exact H) | (have H2_ := (Option.bind_some _ _).symm.trans H; rw [hy134]; with_reducible exact H2_) | (have H2_ := (Option.bind_some _ _).symm.trans H; with_reducible exact H2_) | with_reducible exact H | (rw [hy134]; exact H) | exact H
              have Ny134 := Aside0.mk hy134
              clear hy134
              have H' := Aside0.mk H
              clear H
              have p130 : 0 ≤ (x12_1 : Int) := of_decide_eq_true (by first | (with_reducible assumption) | assumption)
              have q130 : x12_1 < (l2.length : Int) := of_decide_eq_true (by first | (with_reducible assumption) | assumption)
              obtain ⟨ad130, e130, hx130_0, hx130_1⟩ := at_T27 HR2.out x12_1 p130 q130
              cases e130
              replace hx130_0 := (HB.out.cell (World.block_lt_of_cell? w _ hx130_0)).trans hx130_0
              replace hx130_1 := (HB.out.cell (World.block_lt_of_cell? w _ hx130_1)).trans hx130_1
              replace p130 := eq_true p130
              replace q130 := eq_true q130
              go_wp2_with (first | ((with_reducible refine gate_dst (N := 9) rfl ?_); refine box_event ?hg (N := 9) ?hd (cs := #[.int .u64 0, .int .u64 0]) (t := 27) ?hr ?_; (case hd => rfl); (case hg => rfl); (case hr => first | (go_simp; done) | (go_simp; rfl)); intro gb131 hg w9 hbox hb; have n0_ := Aside0.mk (Kd.R_below (by (with_reducible repeat (first | apply Kd.R_alloc | apply Kd.R_drewN | apply Kd.R_drew)); exact HO_7.out) hb); have n1_ := Aside0.mk (below_step (by repeat (first | (with_reducible first | exact HB.out | apply below_alloc | apply pw_below_drewN | apply below_drew1) | exact HB.out)) hb); have n2_ := Aside0.mk (hbox); have n3_ := Aside0.mk ((by rw [hg]; exact (below_size (by repeat (first | (with_reducible first | exact HB.out | apply below_alloc | apply pw_below_drewN | apply below_drew1) | exact HB.out))) : w.heap.size ≤ gb131)); have n4_ := Aside0.mk ((by rw [hg]; exact (below_size (by repeat (first | (with_reducible first | exact HB.out | apply below_alloc | apply pw_below_drewN | apply below_drew1) | exact HB.out))) : w.heap.size ≤ gb131)); clear HO_7; clear HB; have HO_7 := n0_; have HB := n1_; have BK131 := n2_; have GW131 := n3_; have GE131 := n4_; clear n0_ n1_ n2_ n3_ n4_; clear hb hbox hg; have hcz10_0 : w9.cell? ⟨gb131, 0, none⟩ = some (.int .u64 0) := (blk_cell BK131.out 0).trans rfl; have hcz10_1 : w9.cell? ⟨gb131, 1, none⟩ = some (.int .u64 0) := (blk_cell BK131.out 1).trans rfl; have hfz10_0 := blk_frozen BK131.out 0; have hfz10_1 := blk_frozen BK131.out 1) | ((with_reducible refine gate_callee (f := 18) rfl ?_); refine goesL_ (some 18) rfl rfl Tryd.func18 (by kernel_rfl) rfl #[.agg #[.int .u64 ((rd_T27 l2 x12_1).f0), .int .u64 ((rd_T27 l2 x12_1).f1)]] rfl (by (try simp only [List.map_toArray, List.map_cons, List.map_nil]); first | done | rfl | (simp only [List.length_drop, List.length_take]; rfl)) ?_; (with_reducible refine (impl_toNode.calls ((rd_T27 l2 x12_1).f0) ((rd_T27 l2 x12_1).f1) t132 t133 _ A7.out).mono ?_); rintro e w11 ⟨rfl, hb⟩; refine ⟨_, rfl, ?_⟩; have n0_ := Aside0.mk (Kd.R_below (by (with_reducible repeat (first | apply Kd.R_alloc | apply Kd.R_drewN | apply Kd.R_drew)); exact (Kd.R_mono (Kd.R_far (p := ⟨gb131, 1, none⟩) (Kd.R_far (p := ⟨gb131, 0, none⟩) (Kd.R_types HO_7.out BK131.out (by decide)) (fun _ hk => hk.2) (.int .u64 ((rd_T27 l2 x12_1).f0))) (fun _ hk => hk.2) (.int .u64 ((rd_T27 l2 x12_1).f1))) (fun _ h_ => h_.1))) hb); have n1_ := Aside0.mk (blk_below (g := gb131) (o := .cells #[.int .u64 ((rd_T27 l2 x12_1).f0), .int .u64 ((rd_T27 l2 x12_1).f1)] 27 (0, 0)) (by (with_reducible repeat (first | refine blk_drewN ?_ _ | refine blk_drew ?_ | refine blk_alloc ?_ _)); refine blk_put (cs := #[.int .u64 ((rd_T27 l2 x12_1).f0), .int .u64 0]) ?_ 1 _ rfl; (with_reducible repeat (first | refine blk_drewN ?_ _ | refine blk_drew ?_ | refine blk_alloc ?_ _)); refine blk_put (cs := #[.int .u64 0, .int .u64 0]) ?_ 0 _ rfl; (with_reducible repeat (first | refine blk_drewN ?_ _ | refine blk_drew ?_ | refine blk_alloc ?_ _)); exact BK131.out) hb); have n2_ := Aside0.mk (below_step (by repeat (first | (with_reducible first | exact HB.out | apply below_alloc | apply pw_below_drewN | apply below_drew1 | refine below_set ?_ GE131.out) | exact HB.out)) hb); clear HO_7; clear BK131; clear HB; have HO_7 := n0_; have BK131 := n1_; have HB := n2_; clear n0_ n1_ n2_; (try clear hb); (try clear hb2); (try clear hk); (try clear hi)) | ((with_reducible refine gate_builtin (b := .append) (xs := #[.tmp 16, .tmp 19]) rfl ?_); at_builtin; refine Kd.R_append k46 (w0 := w) w.heap.size rfl (.tmp 16) (.tmp 19) 45 46 (.agg #[(.int .u64 0), (.int .u64 0)]) 16 rfl Tryd.underlying45 info46 rfl (by decide) (by omega) u7 x7_1 (⟨t132, t133⟩ : S46) [.int .u64 t132, .int .u64 t133] (fun _ => True) (fun _ => False) rfl rfl ?aP (fun _ hk => hk.elim) ?aF ?aO ?aB ?aS ?aL ?_; (case aP => exact k46_mkM _ _ _ (⟨t132, t133⟩ : S46)); (case aB => exact (by repeat (first | (with_reducible first | exact HB.out | apply below_alloc | apply pw_below_drewN | apply below_drew1 | refine below_set ?_ GE131.out) | exact HB.out))); (case aF => exact (fun _ _ => trivial)); (case aO => exact (by (with_reducible repeat (first | apply Kd.R_alloc | apply Kd.R_drewN | apply Kd.R_drew)); exact HO_7.out)); (case aS => exact (below_size (by repeat (first | (with_reducible first | exact HB.out | apply below_alloc | apply pw_below_drewN | apply below_drew1 | refine below_set ?_ GE131.out) | exact HB.out)))); (case aL => have := LMc8.out; omega); intro v135 w12 ho hb hg hat; rw [← Ny134.out] at ho; have n0_ := Aside0.mk (blk_grown (g := gb131) (o := .cells #[.int .u64 ((rd_T27 l2 x12_1).f0), .int .u64 ((rd_T27 l2 x12_1).f1)] 27 (0, 0)) (by (with_reducible repeat (first | refine blk_drewN ?_ _ | refine blk_drew ?_ | refine blk_alloc ?_ _)); exact BK131.out) hg (Kd.R_ne HO_7.out BK131.out (by decide))); have n1_ := Aside0.mk (hb); have n2_ := Aside0.mk (ho); clear BK131; clear HB; clear HO_7; have BK131 := n0_; have HB := n1_; have HO136 := n2_; clear n0_ n1_ n2_; clear ho hb hg hat))
              go_roundg k1
              case measure => have := HK1.out; omega
              case rel => exact ⟨(y134), (wrap64 (x12_1 + 1)), (by first | rfl | (simp; done) | (simp [*]; done)), H', ⟨by have := HK1.out; omega⟩, ⟨by (with_reducible repeat (first | apply Kd.R_alloc | apply Kd.R_drewN | apply Kd.R_drew)); exact HO136.out⟩, ⟨by repeat (first | (with_reducible first | exact HB.out | apply below_alloc | apply pw_below_drewN | apply below_drew1 | refine below_set ?_ GE131.out) | exact HB.out)⟩⟩
            · rw [if_neg c8] at H
              exact absurd H (by simp)
          · rw [if_neg c6] at H
            exact absurd H (by simp)
        · rw [if_neg c5] at H
          exact absurd H (by simp)
      · rw [if_neg c4] at H
        have c4b0 : decide (x12_1 < (l2.length : Int)) = false := decide_eq_false c4
        clear c4
        replace H := Option.bind_eq_some_iff.mp H
        obtain ⟨t137, A130, H⟩ := H
        replace H : ((impl_fromNodes.f k1 t137).bind fun t140 => (some t140)) = some r := H
        have A13 := Aside0.mk A130
        clear A130
        replace H := Option.bind_eq_some_iff.mp H
        obtain ⟨t140, A140, H⟩ := H
        replace H : (some t140) = some r := H
        have A14 := Aside0.mk A140
        clear A140
        obtain rfl := Option.some.inj H
        obtain ⟨Ao15, co15, eo15⟩ := Kd.R_slice HO_7.out
        subst eo15
        go_wp2_with (first | ((with_reducible refine gate_callee (f := 20) rfl ?_); refine goesL_ (some 25) rfl rfl Tryd.func20 (by kernel_rfl) rfl #[.int .u64 a0, .int .u64 a1, .slice Ao15 x7_1.length co15] rfl (by (try simp only [List.map_toArray, List.map_cons, List.map_nil]); first | done | rfl | (simp only [List.length_drop, List.length_take]; rfl)) ?_; (with_reducible refine (compact_RangeNodes.calls k1 a0 a1 (fun k_ => some k_ = (.slice Ao15 x7_1.length co15 : Value).ownBlock) (.slice Ao15 x7_1.length co15) x7_1 t137 w _ ?side1 ?side2 ?side3 A13.out).mono ?_); (case side1 => repeat (first | (with_reducible first | exact HB.out | apply below_alloc | apply pw_below_drewN | apply below_drew1) | exact HB.out)); (case side2 => exact Kd.R_tight rfl HO_7.out); (case side3 => exact HG.out); rintro e w16 ⟨v138, rfl, ho0, hb, hkp⟩; refine ⟨_, rfl, ?_⟩; have n0_ := Aside0.mk (Kd.R_mono (ok' := fun k_ => True) ho0 (fun k_ hk_ => trivial)); have n1_ := Aside0.mk (hb); clear HB; clear HO_7; have HO139 := n0_; have HB := n1_; clear n0_ n1_; (try clear hb); (try clear hkp); (try clear ho0); obtain ⟨Ao17, co17, eo17⟩ := Kd.R_slice HO139.out; subst eo17) | ((with_reducible refine gate_callee (f := 19) rfl ?_); refine goesL_ (some 26) rfl rfl Tryd.func19 (by kernel_rfl) rfl #[.slice Ao17 t137.length co17] rfl (by (try simp only [List.map_toArray, List.map_cons, List.map_nil]); first | done | rfl | (simp only [List.length_drop, List.length_take]; rfl)) ?_; (with_reducible refine (impl_fromNodes.calls k1 _ _ t137 t140 _ ?side1 ?side2 A14.out).mono ?_); (case side1 => repeat (first | exact (Kd.R_reads' HO139.out).2.2 | (with_reducible refine Kd.C_alloc ?_ _) | (with_reducible refine Kd.C_drewN ?_ _) | (with_reducible refine Kd.C_drew ?_))); (case side2 => exact (Kd.R_reads' HO139.out).2.1); rintro e w18 ⟨v141, rfl, ho0, hb⟩; refine ⟨_, rfl, ?_⟩; have n0_ := Aside0.mk (Kd.R_below (by (with_reducible repeat (first | apply Kd.R_alloc | apply Kd.R_drewN | apply Kd.R_drew)); exact HO139.out) hb); have n1_ := Aside0.mk (Kd.R_lower ho0 (below_size (by repeat (first | (with_reducible first | exact HB.out | apply below_alloc | apply pw_below_drewN | apply below_drew1) | exact HB.out)))); have n2_ := Aside0.mk (below_step (by repeat (first | (with_reducible first | exact HB.out | apply below_alloc | apply pw_below_drewN | apply below_drew1) | exact HB.out)) hb); clear HO139; clear HB; have HO139 := n0_; have HO142 := n1_; have HB := n2_; clear n0_ n1_ n2_; (try clear hb); (try clear hb2); (try clear hk); (try clear hi); (try clear ho0)))
        go_ret
        exact ⟨_, by first | rfl | (simp [errW_none, errW_some] <;> rfl) | (simp [*, errW_none, errW_some] <;> rfl), by (with_reducible repeat (first | apply Kd.R_alloc | apply Kd.R_drewN | apply Kd.R_drew)); exact HO142.out, by repeat (first | (with_reducible first | exact HB.out | apply below_alloc | apply pw_below_drewN | apply below_drew1) | exact HB.out)⟩

/-! ### spec_Leaves: function 8 -/
def spec_Leaves.f (a0_0 : Int) (a0_1 : Int) : Option (Int × Int) := if 0 ≤ a0_0 then (some (shl .u64 a0_1 a0_0, shl .u64 (IntKind.u64.wrap (a0_1 + 1)) a0_0)) else (none)
set_option maxHeartbeats 8000000 in
set_option maxRecDepth 100000 in
theorem spec_Leaves.calls (a0_0 : Int) (a0_1 : Int) (r1 : Int) (r2 : Int) (w : World) (h : spec_Leaves.f a0_0 a0_1 = some (r1, r2)) :
    Calls Tryd.prog 8 #[.agg #[.int .u64 a0_0, .int .u64 a0_1]] w fun e w' => e = .returned (.agg #[.int .u64 r1, .int .u64 r2]) ∧ Below w.heap.size w w' := by
  have hu27 := Tryd.underlying27
  have hu29 := Tryd.underlying29
  have HB := Aside0.mk (Below.refl w.heap.size w)
  have H : (if 0 ≤ a0_0 then (some (shl .u64 a0_1 a0_0, shl .u64 (IntKind.u64.wrap (a0_1 + 1)) a0_0)) else (none)) = some (r1, r2) := h
  clear h
  by_cases c2 : 0 ≤ a0_0
  · rw [if_pos c2] at H
    have c2b0 := eq_true c2
    have c2b1 : decide (0 ≤ a0_0) = true := decide_eq_true c2
    clear c2
    obtain ⟨ji3, hji3⟩ : ∃ j_ : Int, (shl .u64 a0_1 a0_0) = j_ := ⟨_, rfl⟩
    replace H : (some (ji3, shl .u64 (IntKind.u64.wrap (a0_1 + 1)) a0_0)) = some (r1, r2) := by first | (rw [hji3] at H; exact H) | (simp only [hji3] at H ⊢; exact H)
    have hji3_ : (IntKind.u64.wrap (a0_1 * 2 ^ min a0_0.toNat 64)) = ji3 := hji3
    have hji3z : a0_0 ≤ 64 → (IntKind.u64.wrap (a0_1 * 2 ^ a0_0.toNat)) = ji3 := shl_small hji3
    have c4b0 := eq_true (of_decide_eq_true (by first | (with_reducible assumption) | assumption) : 0 ≤ a0_0)
    obtain ⟨ji5, hji5⟩ : ∃ j_ : Int, (shl .u64 (IntKind.u64.wrap (a0_1 + 1)) a0_0) = j_ := ⟨_, rfl⟩
    replace H : (some (ji3, ji5)) = some (r1, r2) := by first | (rw [hji5] at H; exact H) | (simp only [hji5] at H ⊢; exact H)
    have hji5_ : (IntKind.u64.wrap ((IntKind.u64.wrap (a0_1 + 1)) * 2 ^ min a0_0.toNat 64)) = ji5 := hji5
    have hji5z : a0_0 ≤ 64 → (IntKind.u64.wrap ((IntKind.u64.wrap (a0_1 + 1)) * 2 ^ a0_0.toNat)) = ji5 := shl_small hji5
    simp only [Option.some.injEq, Prod.mk.injEq] at H
    obtain ⟨rfl, rfl⟩ := H
    go_enter Tryd.func8, Tryd.ntmps8
    go_wp2_with (first | ((with_reducible refine gate_dst (N := 1) rfl ?_); refine box_event ?hg (N := 1) ?hd (cs := #[.int .u64 a0_0, .int .u64 a0_1]) (t := 27) ?hr ?_; (case hd => rfl); (case hg => rfl); (case hr => first | (go_simp; done) | (go_simp; rfl)); intro gb143 hg w6 hbox hb; have n0_ := Aside0.mk (below_step (by repeat (first | (with_reducible first | exact HB.out | apply below_alloc | apply pw_below_drewN | apply below_drew1) | exact HB.out)) hb); have n1_ := Aside0.mk (hbox); have n2_ := Aside0.mk ((by rw [hg]; exact (below_size (by repeat (first | (with_reducible first | exact HB.out | apply below_alloc | apply pw_below_drewN | apply below_drew1) | exact HB.out))) : w.heap.size ≤ gb143)); have n3_ := Aside0.mk ((by rw [hg]; exact (below_size (by repeat (first | (with_reducible first | exact HB.out | apply below_alloc | apply pw_below_drewN | apply below_drew1) | exact HB.out))) : w.heap.size ≤ gb143)); clear HB; have HB := n0_; have BK143 := n1_; have GW143 := n2_; have GE143 := n3_; clear n0_ n1_ n2_ n3_; clear hb hbox hg) | ((with_reducible refine gate_dst (N := 2) rfl ?_); refine box_event ?hg (N := 2) ?hd (cs := #[.int .u64 0, .int .u64 0]) (t := 29) ?hr ?_; (case hd => rfl); (case hg => rfl); (case hr => first | (go_simp; done) | (go_simp; rfl)); intro gb144 hg w7 hbox hb; have n0_ := Aside0.mk (blk_below (g := gb143) (o := .cells #[.int .u64 a0_0, .int .u64 a0_1] 27 (0, 0)) (by (with_reducible repeat (first | refine blk_drewN ?_ _ | refine blk_drew ?_ | refine blk_alloc ?_ _)); exact BK143.out) hb); have n1_ := Aside0.mk (below_step (by repeat (first | (with_reducible first | exact HB.out | apply below_alloc | apply pw_below_drewN | apply below_drew1 | refine below_set ?_ GE143.out) | exact HB.out)) hb); have n2_ := Aside0.mk (hbox); have n3_ := Aside0.mk ((by rw [hg]; exact (below_size (by repeat (first | (with_reducible first | exact HB.out | apply below_alloc | apply pw_below_drewN | apply below_drew1 | refine below_set ?_ GE143.out) | exact HB.out))) : w.heap.size ≤ gb144)); have n4_ := Aside0.mk ((by rw [hg]; exact (below_size (by repeat (first | (with_reducible first | exact HB.out | apply below_alloc | apply pw_below_drewN | apply below_drew1 | refine below_set ?_ GE143.out) | exact HB.out))) : w.heap.size ≤ gb144)); have n5_ := Aside0.mk ((by rw [hg]; exact Nat.ne_of_lt (blk_lt (g := gb143) (o := .cells #[.int .u64 a0_0, .int .u64 a0_1] 27 (0, 0)) (by (with_reducible repeat (first | refine blk_drewN ?_ _ | refine blk_drew ?_ | refine blk_alloc ?_ _)); exact BK143.out)) : gb143 ≠ gb144)); have n6_ := Aside0.mk ((by rw [hg]; exact Nat.ne_of_gt (blk_lt (g := gb143) (o := .cells #[.int .u64 a0_0, .int .u64 a0_1] 27 (0, 0)) (by (with_reducible repeat (first | refine blk_drewN ?_ _ | refine blk_drew ?_ | refine blk_alloc ?_ _)); exact BK143.out)) : gb144 ≠ gb143)); clear BK143; clear HB; have BK143 := n0_; have HB := n1_; have BK144 := n2_; have GW144 := n3_; have GE144 := n4_; have NB143_144 := n5_; have NB144_143 := n6_; clear n0_ n1_ n2_ n3_ n4_ n5_ n6_; clear hb hbox hg; have hnb8 := NB143_144.out; have hnc8 := NB144_143.out; have hcz9_0 : w7.cell? ⟨gb143, 0, none⟩ = some (.int .u64 a0_0) := (blk_cell BK143.out 0).trans rfl; have hcz9_1 : w7.cell? ⟨gb143, 1, none⟩ = some (.int .u64 a0_1) := (blk_cell BK143.out 1).trans rfl; have hfz9_0 := blk_frozen BK143.out 0; have hfz9_1 := blk_frozen BK143.out 1; have hcz10_0 : w7.cell? ⟨gb144, 0, none⟩ = some (.int .u64 0) := (blk_cell BK144.out 0).trans rfl; have hcz10_1 : w7.cell? ⟨gb144, 1, none⟩ = some (.int .u64 0) := (blk_cell BK144.out 1).trans rfl; have hfz10_0 := blk_frozen BK144.out 0; have hfz10_1 := blk_frozen BK144.out 1))
    refine bodyPost_ret (results_cell_row rfl _ _ gb144 29 #[.int .u64 ji3, .int .u64 ji5] (0, 0) _ rfl (by (with_reducible repeat (first | refine blk_drewN ?_ _ | refine blk_drew ?_ | refine blk_alloc ?_ _)); refine blk_put (cs := #[.int .u64 ji3, .int .u64 0]) ?_ 1 _ rfl; (with_reducible repeat (first | refine blk_drewN ?_ _ | refine blk_drew ?_ | refine blk_alloc ?_ _)); refine blk_put (cs := #[.int .u64 0, .int .u64 0]) ?_ 0 _ rfl; (with_reducible repeat (first | refine blk_drewN ?_ _ | refine blk_drew ?_ | refine blk_alloc ?_ _)); exact BK144.out) Tryd.underlying29 rfl (by kernel_rfl)) rfl ?_
    exact ⟨by first | rfl | (simp [errW_none, errW_some] <;> rfl) | (simp only [← hji3, ← hji5]; first | rfl | (simp [errW_none, errW_some] <;> rfl)) | (simp [*, errW_none, errW_some] <;> rfl), by repeat (first | (with_reducible first | exact HB.out | apply below_alloc | apply pw_below_drewN | apply below_drew1 | refine below_set ?_ GE143.out | refine below_set ?_ GE144.out) | exact HB.out)⟩
  · rw [if_neg c2] at H
    exact absurd H (by simp)

/-! ### spec_HasNode: function 9 -/
def spec_HasNode.l0 : Nat → List (S27) → Int → Int → Int → Int → Option (Bool)
  | 0, _, _, _, _, _ => none
  | k + 1, x7, x8, x9, x146000, x146001 => if x9 < x8 then (if 0 ≤ x9 then (if x9 < (x7.length : Int) then (if (((rd_T27 x7 x9).f0) == x146000 && (((rd_T27 x7 x9).f1) == x146001)) = true then (some true) else (spec_HasNode.l0 k x7 x8 (wrap64 (x9 + 1)) x146000 x146001)) else (none)) else (none)) else (some false)
def spec_HasNode.f (k : Nat) (l0 : List (S27)) (a1_0 : Int) (a1_1 : Int) : Option (Bool) := spec_HasNode.l0 k l0 (l0.length : Int) 0 a1_0 a1_1
theorem spec_HasNode.mono_l : ∀ k, (∀ y0 y1 y2 y3 y4, LeO (spec_HasNode.l0 k y0 y1 y2 y3 y4) (spec_HasNode.l0 (k + 1) y0 y1 y2 y3 y4))
  | 0 => fun _ _ _ _ _ r h => by simp [spec_HasNode.l0] at h
  | k + 1 => by
    have ih0 := spec_HasNode.mono_l k
    · intro y0 y1 y2 y3 y4
      unfold spec_HasNode.l0
      repeat' first
      | (with_reducible exact ih0 _ _ _ _ _)
      | (with_reducible exact LeO.refl _)
      | (with_reducible exact LeO.none _)
      | (with_reducible refine LeO.ite ?_ ?_)
      | (with_reducible refine LeO.bind ?_ (fun _ => ?_))
      | exact ih0 _ _ _ _ _
      | exact LeO.none _
      | refine LeO.ite ?_ ?_
      | refine LeO.bind ?_ (fun _ => ?_)
theorem spec_HasNode.mono : ∀ a0 a1 a2 k, LeO (spec_HasNode.f k a0 a1 a2) (spec_HasNode.f (k + 1) a0 a1 a2) := by
  intro a0 a1 a2 k
  have ih0 := spec_HasNode.mono_l k
  unfold spec_HasNode.f
  repeat' first
      | (with_reducible exact ih0 _ _ _ _ _)
      | (with_reducible exact LeO.refl _)
      | (with_reducible exact LeO.none _)
      | (with_reducible refine LeO.ite ?_ ?_)
      | (with_reducible refine LeO.bind ?_ (fun _ => ?_))
      | exact ih0 _ _ _ _ _
      | exact LeO.none _
      | refine LeO.ite ?_ ?_
      | refine LeO.bind ?_ (fun _ => ?_)
set_option maxHeartbeats 8000000 in
set_option maxRecDepth 100000 in
theorem spec_HasNode.calls (k : Nat) (A0 : Option Addr) (c0 : Nat) (l0 : List (S27)) (a1_0 : Int) (a1_1 : Int) (r : Bool) (w : World) (hr0 : Kd.C k27 w A0 l0.length l0) (hc0 : l0.length ≤ c0) (h : spec_HasNode.f k l0 a1_0 a1_1 = some r) :
    Calls Tryd.prog 9 #[.slice A0 l0.length c0, .agg #[.int .u64 a1_0, .int .u64 a1_1]] w fun e w' => e = .returned (.bool r) ∧ Below w.heap.size w w' := by
  have hu27 := Tryd.underlying27
  have HR0 := Aside0.mk hr0
  have HC0 := Aside0.mk hc0
  clear hr0 hc0
  have HB := Aside0.mk (Below.refl w.heap.size w)
  have H : (spec_HasNode.l0 k l0 (l0.length : Int) 0 a1_0 a1_1) = some r := h
  clear h
  have H' := Aside0.mk H
  clear H
  go_enter Tryd.func9, Tryd.ntmps9
  go_wp2_with (first | ((with_reducible refine gate_dst (N := 3) rfl ?_); refine box_event ?hg (N := 3) ?hd (cs := #[.int .u64 a1_0, .int .u64 a1_1]) (t := 27) ?hr ?_; (case hd => rfl); (case hg => rfl); (case hr => first | (go_simp; done) | (go_simp; rfl)); intro gb145 hg w3 hbox hb; have n0_ := Aside0.mk (below_step (by repeat (first | (with_reducible first | exact HB.out | apply below_alloc | apply pw_below_drewN | apply below_drew1) | exact HB.out)) hb); have n1_ := Aside0.mk (hbox); have n2_ := Aside0.mk ((by rw [hg]; exact (below_size (by repeat (first | (with_reducible first | exact HB.out | apply below_alloc | apply pw_below_drewN | apply below_drew1) | exact HB.out))) : w.heap.size ≤ gb145)); have n3_ := Aside0.mk ((by rw [hg]; exact (below_size (by repeat (first | (with_reducible first | exact HB.out | apply below_alloc | apply pw_below_drewN | apply below_drew1) | exact HB.out))) : w.heap.size ≤ gb145)); clear HB; have HB := n0_; have BK145 := n1_; have GW145 := n2_; have GE145 := n3_; clear n0_ n1_ n2_ n3_; clear hb hbox hg))
  (try simp only [Act.put, List.setIfInBounds_toArray, List.set_cons_zero, List.set_cons_succ])
  go_loopg [9] k (fun kq v9 w' => ∃ (x9_1 : Int), v9 = .int .i64 x9_1 ∧ Aside0 (spec_HasNode.l0 kq l0 (l0.length : Int) x9_1 a1_0 a1_1 = some r) ∧ Aside0 (kq ≤ k) ∧ Aside0 (w'.heap[gb145]? = some (.cells #[.int .u64 a1_0, .int .u64 a1_1] 27 (0, 0))) ∧ Aside0 (Below w.heap.size w w'))
  case atStart => exact ⟨(0), (by first | rfl | (simp; done) | (simp [*]; done)), H', ⟨Nat.le_refl _⟩, ⟨by (with_reducible repeat (first | refine blk_drewN ?_ _ | refine blk_drew ?_ | refine blk_alloc ?_ _)); exact BK145.out⟩, ⟨by repeat (first | (with_reducible first | exact HB.out | apply below_alloc | apply pw_below_drewN | apply below_drew1 | refine below_set ?_ GE145.out) | exact HB.out)⟩⟩
  case round =>
    clear H'
    try clear p2
    obtain ⟨x9_1, rfl, HA, HK1, BK145, HB⟩ := hrel
    cases gk with
    | zero => exact absurd HA.out (by simp [spec_HasNode.l0])
    | succ k1 =>
      have H := HA.out
      clear HA
      simp only [spec_HasNode.l0] at H
      by_cases c4 : x9_1 < (l0.length : Int)
      · rw [if_pos c4] at H
        have c4b0 : decide (x9_1 < (l0.length : Int)) = true := decide_eq_true c4
        clear c4
        by_cases c5 : 0 ≤ x9_1
        · rw [if_pos c5] at H
          have c5b0 : decide (0 ≤ x9_1) = true := decide_eq_true c5
          clear c5
          by_cases c6 : x9_1 < (l0.length : Int)
          · rw [if_pos c6] at H
            have c6b0 : decide (x9_1 < (l0.length : Int)) = true := decide_eq_true c6
            clear c6
            by_cases c7 : (((rd_T27 l0 x9_1).f0) == a1_0 && (((rd_T27 l0 x9_1).f1) == a1_1)) = true
            · rw [if_pos c7] at H
              have c7b0 : (((rd_T27 l0 x9_1).f0) == a1_0 && (((rd_T27 l0 x9_1).f1) == a1_1)) = true := c7
              (try (have c7b1 : decide (((rd_T27 l0 x9_1).f0) = a1_0 && (((rd_T27 l0 x9_1).f1) == a1_1)) = true := by simpa using c7))
              (try (have c7b2 : (((rd_T27 l0 x9_1).f0) == a1_0 && (((rd_T27 l0 x9_1).f1) == a1_1)) = true := by simpa using c7))
              clear c7
              obtain rfl := Option.some.inj H
              have p146 : 0 ≤ (x9_1 : Int) := of_decide_eq_true (by first | (with_reducible assumption) | assumption)
              have q146 : x9_1 < (l0.length : Int) := of_decide_eq_true (by first | (with_reducible assumption) | assumption)
              obtain ⟨ad146, e146, hx146_0, hx146_1⟩ := at_T27 HR0.out x9_1 p146 q146
              cases e146
              replace hx146_0 := (HB.out.cell (World.block_lt_of_cell? w _ hx146_0)).trans hx146_0
              replace hx146_1 := (HB.out.cell (World.block_lt_of_cell? w _ hx146_1)).trans hx146_1
              replace p146 := eq_true p146
              replace q146 := eq_true q146
              go_wp2_with (first | ((with_reducible refine gate_dst (N := 6) rfl ?_); refine box_event ?hg (N := 6) ?hd (cs := #[.int .u64 0, .int .u64 0]) (t := 27) ?hr ?_; (case hd => rfl); (case hg => rfl); (case hr => first | (go_simp; done) | (go_simp; rfl)); intro gb147 hg w8 hbox hb; have n0_ := Aside0.mk (blk_below (g := gb145) (o := .cells #[.int .u64 a1_0, .int .u64 a1_1] 27 (0, 0)) (by (with_reducible repeat (first | refine blk_drewN ?_ _ | refine blk_drew ?_ | refine blk_alloc ?_ _)); exact BK145.out) hb); have n1_ := Aside0.mk (below_step (by repeat (first | (with_reducible first | exact HB.out | apply below_alloc | apply pw_below_drewN | apply below_drew1 | refine below_set ?_ GE145.out) | exact HB.out)) hb); have n2_ := Aside0.mk (hbox); have n3_ := Aside0.mk ((by rw [hg]; exact (below_size (by repeat (first | (with_reducible first | exact HB.out | apply below_alloc | apply pw_below_drewN | apply below_drew1 | refine below_set ?_ GE145.out) | exact HB.out))) : w.heap.size ≤ gb147)); have n4_ := Aside0.mk ((by rw [hg]; exact (below_size (by repeat (first | (with_reducible first | exact HB.out | apply below_alloc | apply pw_below_drewN | apply below_drew1 | refine below_set ?_ GE145.out) | exact HB.out))) : w.heap.size ≤ gb147)); have n5_ := Aside0.mk ((by rw [hg]; exact Nat.ne_of_lt (blk_lt (g := gb145) (o := .cells #[.int .u64 a1_0, .int .u64 a1_1] 27 (0, 0)) (by (with_reducible repeat (first | refine blk_drewN ?_ _ | refine blk_drew ?_ | refine blk_alloc ?_ _)); exact BK145.out)) : gb145 ≠ gb147)); have n6_ := Aside0.mk ((by rw [hg]; exact Nat.ne_of_gt (blk_lt (g := gb145) (o := .cells #[.int .u64 a1_0, .int .u64 a1_1] 27 (0, 0)) (by (with_reducible repeat (first | refine blk_drewN ?_ _ | refine blk_drew ?_ | refine blk_alloc ?_ _)); exact BK145.out)) : gb147 ≠ gb145)); clear BK145; clear HB; have BK145 := n0_; have HB := n1_; have BK147 := n2_; have GW147 := n3_; have GE147 := n4_; have NB145_147 := n5_; have NB147_145 := n6_; clear n0_ n1_ n2_ n3_ n4_ n5_ n6_; clear hb hbox hg; have hnb9 := NB147_145.out; have hnc9 := NB145_147.out; have hcz10_0 : w8.cell? ⟨gb147, 0, none⟩ = some (.int .u64 0) := (blk_cell BK147.out 0).trans rfl; have hcz10_1 : w8.cell? ⟨gb147, 1, none⟩ = some (.int .u64 0) := (blk_cell BK147.out 1).trans rfl; have hfz10_0 := blk_frozen BK147.out 0; have hfz10_1 := blk_frozen BK147.out 1; have hcz11_0 : w8.cell? ⟨gb145, 0, none⟩ = some (.int .u64 a1_0) := (blk_cell BK145.out 0).trans rfl; have hcz11_1 : w8.cell? ⟨gb145, 1, none⟩ = some (.int .u64 a1_1) := (blk_cell BK145.out 1).trans rfl; have hfz11_0 := blk_frozen BK145.out 0; have hfz11_1 := blk_frozen BK145.out 1))
              go_ret
              exact ⟨by first | rfl | (simp [errW_none, errW_some] <;> rfl) | (simp [*, errW_none, errW_some] <;> rfl), by repeat (first | (with_reducible first | exact HB.out | apply below_alloc | apply pw_below_drewN | apply below_drew1 | refine below_set ?_ GE145.out | refine below_set ?_ GE147.out) | exact HB.out)⟩
            · rw [if_neg c7] at H
              have c7b0 : (((rd_T27 l0 x9_1).f0) == a1_0 && (((rd_T27 l0 x9_1).f1) == a1_1)) = false := by simpa using c7
              (try (have c7b1 : decide (((rd_T27 l0 x9_1).f0) = a1_0 && (((rd_T27 l0 x9_1).f1) == a1_1)) = false := by simpa using c7))
              (try (have c7b2 : (((rd_T27 l0 x9_1).f0) == a1_0 && (((rd_T27 l0 x9_1).f1) == a1_1)) = false := by simpa using c7))
              (try (have c7b3 : ¬ (((rd_T27 l0 x9_1).f0) = a1_0 && (((rd_T27 l0 x9_1).f1) == a1_1)) := by simpa using c7))
              clear c7
              have H' := Aside0.mk H
              clear H
              have p146 : 0 ≤ (x9_1 : Int) := of_decide_eq_true (by first | (with_reducible assumption) | assumption)
              have q146 : x9_1 < (l0.length : Int) := of_decide_eq_true (by first | (with_reducible assumption) | assumption)
              obtain ⟨ad146, e146, hx146_0, hx146_1⟩ := at_T27 HR0.out x9_1 p146 q146
              cases e146
              replace hx146_0 := (HB.out.cell (World.block_lt_of_cell? w _ hx146_0)).trans hx146_0
              replace hx146_1 := (HB.out.cell (World.block_lt_of_cell? w _ hx146_1)).trans hx146_1
              replace p146 := eq_true p146
              replace q146 := eq_true q146
              go_wp2_with (first | ((with_reducible refine gate_dst (N := 6) rfl ?_); refine box_event ?hg (N := 6) ?hd (cs := #[.int .u64 0, .int .u64 0]) (t := 27) ?hr ?_; (case hd => rfl); (case hg => rfl); (case hr => first | (go_simp; done) | (go_simp; rfl)); intro gb147 hg w12 hbox hb; have n0_ := Aside0.mk (blk_below (g := gb145) (o := .cells #[.int .u64 a1_0, .int .u64 a1_1] 27 (0, 0)) (by (with_reducible repeat (first | refine blk_drewN ?_ _ | refine blk_drew ?_ | refine blk_alloc ?_ _)); exact BK145.out) hb); have n1_ := Aside0.mk (below_step (by repeat (first | (with_reducible first | exact HB.out | apply below_alloc | apply pw_below_drewN | apply below_drew1 | refine below_set ?_ GE145.out) | exact HB.out)) hb); have n2_ := Aside0.mk (hbox); have n3_ := Aside0.mk ((by rw [hg]; exact (below_size (by repeat (first | (with_reducible first | exact HB.out | apply below_alloc | apply pw_below_drewN | apply below_drew1 | refine below_set ?_ GE145.out) | exact HB.out))) : w.heap.size ≤ gb147)); have n4_ := Aside0.mk ((by rw [hg]; exact (below_size (by repeat (first | (with_reducible first | exact HB.out | apply below_alloc | apply pw_below_drewN | apply below_drew1 | refine below_set ?_ GE145.out) | exact HB.out))) : w.heap.size ≤ gb147)); have n5_ := Aside0.mk ((by rw [hg]; exact Nat.ne_of_lt (blk_lt (g := gb145) (o := .cells #[.int .u64 a1_0, .int .u64 a1_1] 27 (0, 0)) (by (with_reducible repeat (first | refine blk_drewN ?_ _ | refine blk_drew ?_ | refine blk_alloc ?_ _)); exact BK145.out)) : gb145 ≠ gb147)); have n6_ := Aside0.mk ((by rw [hg]; exact Nat.ne_of_gt (blk_lt (g := gb145) (o := .cells #[.int .u64 a1_0, .int .u64 a1_1] 27 (0, 0)) (by (with_reducible repeat (first | refine blk_drewN ?_ _ | refine blk_drew ?_ | refine blk_alloc ?_ _)); exact BK145.out)) : gb147 ≠ gb145)); clear BK145; clear HB; have BK145 := n0_; have HB := n1_; have BK147 := n2_; have GW147 := n3_; have GE147 := n4_; have NB145_147 := n5_; have NB147_145 := n6_; clear n0_ n1_ n2_ n3_ n4_ n5_ n6_; clear hb hbox hg; have hnb13 := NB147_145.out; have hnc13 := NB145_147.out; have hcz14_0 : w12.cell? ⟨gb147, 0, none⟩ = some (.int .u64 0) := (blk_cell BK147.out 0).trans rfl; have hcz14_1 : w12.cell? ⟨gb147, 1, none⟩ = some (.int .u64 0) := (blk_cell BK147.out 1).trans rfl; have hfz14_0 := blk_frozen BK147.out 0; have hfz14_1 := blk_frozen BK147.out 1; have hcz15_0 : w12.cell? ⟨gb145, 0, none⟩ = some (.int .u64 a1_0) := (blk_cell BK145.out 0).trans rfl; have hcz15_1 : w12.cell? ⟨gb145, 1, none⟩ = some (.int .u64 a1_1) := (blk_cell BK145.out 1).trans rfl; have hfz15_0 := blk_frozen BK145.out 0; have hfz15_1 := blk_frozen BK145.out 1))
              go_roundg k1
              case measure => have := HK1.out; omega
              case rel => exact ⟨(wrap64 (x9_1 + 1)), (by first | rfl | (simp; done) | (simp [*]; done)), H', ⟨by have := HK1.out; omega⟩, ⟨by (with_reducible repeat (first | refine blk_drewN ?_ _ | refine blk_drew ?_ | refine blk_alloc ?_ _)); refine blk_far ?_ NB145_147.out _; (with_reducible repeat (first | refine blk_drewN ?_ _ | refine blk_drew ?_ | refine blk_alloc ?_ _)); refine blk_far ?_ NB145_147.out _; (with_reducible repeat (first | refine blk_drewN ?_ _ | refine blk_drew ?_ | refine blk_alloc ?_ _)); exact BK145.out⟩, ⟨by repeat (first | (with_reducible first | exact HB.out | apply below_alloc | apply pw_below_drewN | apply below_drew1 | refine below_set ?_ GE145.out | refine below_set ?_ GE147.out) | exact HB.out)⟩⟩
          · rw [if_neg c6] at H
            exact absurd H (by simp)
        · rw [if_neg c5] at H
          exact absurd H (by simp)
      · rw [if_neg c4] at H
        have c4b0 : decide (x9_1 < (l0.length : Int)) = false := decide_eq_false c4
        clear c4
        obtain rfl := Option.some.inj H
        go_wp2
        go_ret
        exact ⟨by first | rfl | (simp [errW_none, errW_some] <;> rfl) | (simp [*, errW_none, errW_some] <;> rfl), by repeat (first | (with_reducible first | exact HB.out | apply below_alloc | apply pw_below_drewN | apply below_drew1 | refine below_set ?_ GE145.out) | exact HB.out)⟩

/-! ### bits_OnesCount64: function 37 -/
def bits_OnesCount64.f (a0 : Int) : Option (Int) := some (Go.bits .and .i64 (wrap64 (IntKind.u64.wrap ((IntKind.u64.wrap ((IntKind.u64.wrap ((Go.bits .and .u64 (IntKind.u64.wrap (((IntKind.u64.wrap ((Go.bits .and .u64 ((IntKind.u64.wrap ((Go.bits .and .u64 (a0 / 2) 6148914691236517205) + (Go.bits .and .u64 a0 6148914691236517205))) / 4) 3689348814741910323) + (Go.bits .and .u64 (IntKind.u64.wrap ((Go.bits .and .u64 (a0 / 2) 6148914691236517205) + (Go.bits .and .u64 a0 6148914691236517205))) 3689348814741910323))) / 16) + (IntKind.u64.wrap ((Go.bits .and .u64 ((IntKind.u64.wrap ((Go.bits .and .u64 (a0 / 2) 6148914691236517205) + (Go.bits .and .u64 a0 6148914691236517205))) / 4) 3689348814741910323) + (Go.bits .and .u64 (IntKind.u64.wrap ((Go.bits .and .u64 (a0 / 2) 6148914691236517205) + (Go.bits .and .u64 a0 6148914691236517205))) 3689348814741910323))))) 1085102592571150095) + ((Go.bits .and .u64 (IntKind.u64.wrap (((IntKind.u64.wrap ((Go.bits .and .u64 ((IntKind.u64.wrap ((Go.bits .and .u64 (a0 / 2) 6148914691236517205) + (Go.bits .and .u64 a0 6148914691236517205))) / 4) 3689348814741910323) + (Go.bits .and .u64 (IntKind.u64.wrap ((Go.bits .and .u64 (a0 / 2) 6148914691236517205) + (Go.bits .and .u64 a0 6148914691236517205))) 3689348814741910323))) / 16) + (IntKind.u64.wrap ((Go.bits .and .u64 ((IntKind.u64.wrap ((Go.bits .and .u64 (a0 / 2) 6148914691236517205) + (Go.bits .and .u64 a0 6148914691236517205))) / 4) 3689348814741910323) + (Go.bits .and .u64 (IntKind.u64.wrap ((Go.bits .and .u64 (a0 / 2) 6148914691236517205) + (Go.bits .and .u64 a0 6148914691236517205))) 3689348814741910323))))) 1085102592571150095) / 256))) + ((IntKind.u64.wrap ((Go.bits .and .u64 (IntKind.u64.wrap (((IntKind.u64.wrap ((Go.bits .and .u64 ((IntKind.u64.wrap ((Go.bits .and .u64 (a0 / 2) 6148914691236517205) + (Go.bits .and .u64 a0 6148914691236517205))) / 4) 3689348814741910323) + (Go.bits .and .u64 (IntKind.u64.wrap ((Go.bits .and .u64 (a0 / 2) 6148914691236517205) + (Go.bits .and .u64 a0 6148914691236517205))) 3689348814741910323))) / 16) + (IntKind.u64.wrap ((Go.bits .and .u64 ((IntKind.u64.wrap ((Go.bits .and .u64 (a0 / 2) 6148914691236517205) + (Go.bits .and .u64 a0 6148914691236517205))) / 4) 3689348814741910323) + (Go.bits .and .u64 (IntKind.u64.wrap ((Go.bits .and .u64 (a0 / 2) 6148914691236517205) + (Go.bits .and .u64 a0 6148914691236517205))) 3689348814741910323))))) 1085102592571150095) + ((Go.bits .and .u64 (IntKind.u64.wrap (((IntKind.u64.wrap ((Go.bits .and .u64 ((IntKind.u64.wrap ((Go.bits .and .u64 (a0 / 2) 6148914691236517205) + (Go.bits .and .u64 a0 6148914691236517205))) / 4) 3689348814741910323) + (Go.bits .and .u64 (IntKind.u64.wrap ((Go.bits .and .u64 (a0 / 2) 6148914691236517205) + (Go.bits .and .u64 a0 6148914691236517205))) 3689348814741910323))) / 16) + (IntKind.u64.wrap ((Go.bits .and .u64 ((IntKind.u64.wrap ((Go.bits .and .u64 (a0 / 2) 6148914691236517205) + (Go.bits .and .u64 a0 6148914691236517205))) / 4) 3689348814741910323) + (Go.bits .and .u64 (IntKind.u64.wrap ((Go.bits .and .u64 (a0 / 2) 6148914691236517205) + (Go.bits .and .u64 a0 6148914691236517205))) 3689348814741910323))))) 1085102592571150095) / 256))) / 65536))) + ((IntKind.u64.wrap ((IntKind.u64.wrap ((Go.bits .and .u64 (IntKind.u64.wrap (((IntKind.u64.wrap ((Go.bits .and .u64 ((IntKind.u64.wrap ((Go.bits .and .u64 (a0 / 2) 6148914691236517205) + (Go.bits .and .u64 a0 6148914691236517205))) / 4) 3689348814741910323) + (Go.bits .and .u64 (IntKind.u64.wrap ((Go.bits .and .u64 (a0 / 2) 6148914691236517205) + (Go.bits .and .u64 a0 6148914691236517205))) 3689348814741910323))) / 16) + (IntKind.u64.wrap ((Go.bits .and .u64 ((IntKind.u64.wrap ((Go.bits .and .u64 (a0 / 2) 6148914691236517205) + (Go.bits .and .u64 a0 6148914691236517205))) / 4) 3689348814741910323) + (Go.bits .and .u64 (IntKind.u64.wrap ((Go.bits .and .u64 (a0 / 2) 6148914691236517205) + (Go.bits .and .u64 a0 6148914691236517205))) 3689348814741910323))))) 1085102592571150095) + ((Go.bits .and .u64 (IntKind.u64.wrap (((IntKind.u64.wrap ((Go.bits .and .u64 ((IntKind.u64.wrap ((Go.bits .and .u64 (a0 / 2) 6148914691236517205) + (Go.bits .and .u64 a0 6148914691236517205))) / 4) 3689348814741910323) + (Go.bits .and .u64 (IntKind.u64.wrap ((Go.bits .and .u64 (a0 / 2) 6148914691236517205) + (Go.bits .and .u64 a0 6148914691236517205))) 3689348814741910323))) / 16) + (IntKind.u64.wrap ((Go.bits .and .u64 ((IntKind.u64.wrap ((Go.bits .and .u64 (a0 / 2) 6148914691236517205) + (Go.bits .and .u64 a0 6148914691236517205))) / 4) 3689348814741910323) + (Go.bits .and .u64 (IntKind.u64.wrap ((Go.bits .and .u64 (a0 / 2) 6148914691236517205) + (Go.bits .and .u64 a0 6148914691236517205))) 3689348814741910323))))) 1085102592571150095) / 256))) + ((IntKind.u64.wrap ((Go.bits .and .u64 (IntKind.u64.wrap (((IntKind.u64.wrap ((Go.bits .and .u64 ((IntKind.u64.wrap ((Go.bits .and .u64 (a0 / 2) 6148914691236517205) + (Go.bits .and .u64 a0 6148914691236517205))) / 4) 3689348814741910323) + (Go.bits .and .u64 (IntKind.u64.wrap ((Go.bits .and .u64 (a0 / 2) 6148914691236517205) + (Go.bits .and .u64 a0 6148914691236517205))) 3689348814741910323))) / 16) + (IntKind.u64.wrap ((Go.bits .and .u64 ((IntKind.u64.wrap ((Go.bits .and .u64 (a0 / 2) 6148914691236517205) + (Go.bits .and .u64 a0 6148914691236517205))) / 4) 3689348814741910323) + (Go.bits .and .u64 (IntKind.u64.wrap ((Go.bits .and .u64 (a0 / 2) 6148914691236517205) + (Go.bits .and .u64 a0 6148914691236517205))) 3689348814741910323))))) 1085102592571150095) + ((Go.bits .and .u64 (IntKind.u64.wrap (((IntKind.u64.wrap ((Go.bits .and .u64 ((IntKind.u64.wrap ((Go.bits .and .u64 (a0 / 2) 6148914691236517205) + (Go.bits .and .u64 a0 6148914691236517205))) / 4) 3689348814741910323) + (Go.bits .and .u64 (IntKind.u64.wrap ((Go.bits .and .u64 (a0 / 2) 6148914691236517205) + (Go.bits .and .u64 a0 6148914691236517205))) 3689348814741910323))) / 16) + (IntKind.u64.wrap ((Go.bits .and .u64 ((IntKind.u64.wrap ((Go.bits .and .u64 (a0 / 2) 6148914691236517205) + (Go.bits .and .u64 a0 6148914691236517205))) / 4) 3689348814741910323) + (Go.bits .and .u64 (IntKind.u64.wrap ((Go.bits .and .u64 (a0 / 2) 6148914691236517205) + (Go.bits .and .u64 a0 6148914691236517205))) 3689348814741910323))))) 1085102592571150095) / 256))) / 65536))) / 4294967296)))) 127)
set_option maxHeartbeats 8000000 in
set_option maxRecDepth 100000 in
theorem bits_OnesCount64.calls (a0 : Int) (r : Int) (w : World) (h : bits_OnesCount64.f a0 = some r) :
    Calls Tryd.prog 37 #[.int .u64 a0] w fun e w' => e = .returned (.int .i64 r) ∧ Drawn0 w w' := by
  have H : (some (Go.bits .and .i64 (wrap64 (IntKind.u64.wrap ((IntKind.u64.wrap ((IntKind.u64.wrap ((Go.bits .and .u64 (IntKind.u64.wrap (((IntKind.u64.wrap ((Go.bits .and .u64 ((IntKind.u64.wrap ((Go.bits .and .u64 (a0 / 2) 6148914691236517205) + (Go.bits .and .u64 a0 6148914691236517205))) / 4) 3689348814741910323) + (Go.bits .and .u64 (IntKind.u64.wrap ((Go.bits .and .u64 (a0 / 2) 6148914691236517205) + (Go.bits .and .u64 a0 6148914691236517205))) 3689348814741910323))) / 16) + (IntKind.u64.wrap ((Go.bits .and .u64 ((IntKind.u64.wrap ((Go.bits .and .u64 (a0 / 2) 6148914691236517205) + (Go.bits .and .u64 a0 6148914691236517205))) / 4) 3689348814741910323) + (Go.bits .and .u64 (IntKind.u64.wrap ((Go.bits .and .u64 (a0 / 2) 6148914691236517205) + (Go.bits .and .u64 a0 6148914691236517205))) 3689348814741910323))))) 1085102592571150095) + ((Go.bits .and .u64 (IntKind.u64.wrap (((IntKind.u64.wrap ((Go.bits .and .u64 ((IntKind.u64.wrap ((Go.bits .and .u64 (a0 / 2) 6148914691236517205) + (Go.bits .and .u64 a0 6148914691236517205))) / 4) 3689348814741910323) + (Go.bits .and .u64 (IntKind.u64.wrap ((Go.bits .and .u64 (a0 / 2) 6148914691236517205) + (Go.bits .and .u64 a0 6148914691236517205))) 3689348814741910323))) / 16) + (IntKind.u64.wrap ((Go.bits .and .u64 ((IntKind.u64.wrap ((Go.bits .and .u64 (a0 / 2) 6148914691236517205) + (Go.bits .and .u64 a0 6148914691236517205))) / 4) 3689348814741910323) + (Go.bits .and .u64 (IntKind.u64.wrap ((Go.bits .and .u64 (a0 / 2) 6148914691236517205) + (Go.bits .and .u64 a0 6148914691236517205))) 3689348814741910323))))) 1085102592571150095) / 256))) + ((IntKind.u64.wrap ((Go.bits .and .u64 (IntKind.u64.wrap (((IntKind.u64.wrap ((Go.bits .and .u64 ((IntKind.u64.wrap ((Go.bits .and .u64 (a0 / 2) 6148914691236517205) + (Go.bits .and .u64 a0 6148914691236517205))) / 4) 3689348814741910323) + (Go.bits .and .u64 (IntKind.u64.wrap ((Go.bits .and .u64 (a0 / 2) 6148914691236517205) + (Go.bits .and .u64 a0 6148914691236517205))) 3689348814741910323))) / 16) + (IntKind.u64.wrap ((Go.bits .and .u64 ((IntKind.u64.wrap ((Go.bits .and .u64 (a0 / 2) 6148914691236517205) + (Go.bits .and .u64 a0 6148914691236517205))) / 4) 3689348814741910323) + (Go.bits .and .u64 (IntKind.u64.wrap ((Go.bits .and .u64 (a0 / 2) 6148914691236517205) + (Go.bits .and .u64 a0 6148914691236517205))) 3689348814741910323))))) 1085102592571150095) + ((Go.bits .and .u64 (IntKind.u64.wrap (((IntKind.u64.wrap ((Go.bits .and .u64 ((IntKind.u64.wrap ((Go.bits .and .u64 (a0 / 2) 6148914691236517205) + (Go.bits .and .u64 a0 6148914691236517205))) / 4) 3689348814741910323) + (Go.bits .and .u64 (IntKind.u64.wrap ((Go.bits .and .u64 (a0 / 2) 6148914691236517205) + (Go.bits .and .u64 a0 6148914691236517205))) 3689348814741910323))) / 16) + (IntKind.u64.wrap ((Go.bits .and .u64 ((IntKind.u64.wrap ((Go.bits .and .u64 (a0 / 2) 6148914691236517205) + (Go.bits .and .u64 a0 6148914691236517205))) / 4) 3689348814741910323) + (Go.bits .and .u64 (IntKind.u64.wrap ((Go.bits .and .u64 (a0 / 2) 6148914691236517205) + (Go.bits .and .u64 a0 6148914691236517205))) 3689348814741910323))))) 1085102592571150095) / 256))) / 65536))) + ((IntKind.u64.wrap ((IntKind.u64.wrap ((Go.bits .and .u64 (IntKind.u64.wrap (((IntKind.u64.wrap ((Go.bits .and .u64 ((IntKind.u64.wrap ((Go.bits .and .u64 (a0 / 2) 6148914691236517205) + (Go.bits .and .u64 a0 6148914691236517205))) / 4) 3689348814741910323) + (Go.bits .and .u64 (IntKind.u64.wrap ((Go.bits .and .u64 (a0 / 2) 6148914691236517205) + (Go.bits .and .u64 a0 6148914691236517205))) 3689348814741910323))) / 16) + (IntKind.u64.wrap ((Go.bits .and .u64 ((IntKind.u64.wrap ((Go.bits .and .u64 (a0 / 2) 6148914691236517205) + (Go.bits .and .u64 a0 6148914691236517205))) / 4) 3689348814741910323) + (Go.bits .and .u64 (IntKind.u64.wrap ((Go.bits .and .u64 (a0 / 2) 6148914691236517205) + (Go.bits .and .u64 a0 6148914691236517205))) 3689348814741910323))))) 1085102592571150095) + ((Go.bits .and .u64 (IntKind.u64.wrap (((IntKind.u64.wrap ((Go.bits .and .u64 ((IntKind.u64.wrap ((Go.bits .and .u64 (a0 / 2) 6148914691236517205) + (Go.bits .and .u64 a0 6148914691236517205))) / 4) 3689348814741910323) + (Go.bits .and .u64 (IntKind.u64.wrap ((Go.bits .and .u64 (a0 / 2) 6148914691236517205) + (Go.bits .and .u64 a0 6148914691236517205))) 3689348814741910323))) / 16) + (IntKind.u64.wrap ((Go.bits .and .u64 ((IntKind.u64.wrap ((Go.bits .and .u64 (a0 / 2) 6148914691236517205) + (Go.bits .and .u64 a0 6148914691236517205))) / 4) 3689348814741910323) + (Go.bits .and .u64 (IntKind.u64.wrap ((Go.bits .and .u64 (a0 / 2) 6148914691236517205) + (Go.bits .and .u64 a0 6148914691236517205))) 3689348814741910323))))) 1085102592571150095) / 256))) + ((IntKind.u64.wrap ((Go.bits .and .u64 (IntKind.u64.wrap (((IntKind.u64.wrap ((Go.bits .and .u64 ((IntKind.u64.wrap ((Go.bits .and .u64 (a0 / 2) 6148914691236517205) + (Go.bits .and .u64 a0 6148914691236517205))) / 4) 3689348814741910323) + (Go.bits .and .u64 (IntKind.u64.wrap ((Go.bits .and .u64 (a0 / 2) 6148914691236517205) + (Go.bits .and .u64 a0 6148914691236517205))) 3689348814741910323))) / 16) + (IntKind.u64.wrap ((Go.bits .and .u64 ((IntKind.u64.wrap ((Go.bits .and .u64 (a0 / 2) 6148914691236517205) + (Go.bits .and .u64 a0 6148914691236517205))) / 4) 3689348814741910323) + (Go.bits .and .u64 (IntKind.u64.wrap ((Go.bits .and .u64 (a0 / 2) 6148914691236517205) + (Go.bits .and .u64 a0 6148914691236517205))) 3689348814741910323))))) 1085102592571150095) + ((Go.bits .and .u64 (IntKind.u64.wrap (((IntKind.u64.wrap ((Go.bits .and .u64 ((IntKind.u64.wrap ((Go.bits .and .u64 (a0 / 2) 6148914691236517205) + (Go.bits .and .u64 a0 6148914691236517205))) / 4) 3689348814741910323) + (Go.bits .and .u64 (IntKind.u64.wrap ((Go.bits .and .u64 (a0 / 2) 6148914691236517205) + (Go.bits .and .u64 a0 6148914691236517205))) 3689348814741910323))) / 16) + (IntKind.u64.wrap ((Go.bits .and .u64 ((IntKind.u64.wrap ((Go.bits .and .u64 (a0 / 2) 6148914691236517205) + (Go.bits .and .u64 a0 6148914691236517205))) / 4) 3689348814741910323) + (Go.bits .and .u64 (IntKind.u64.wrap ((Go.bits .and .u64 (a0 / 2) 6148914691236517205) + (Go.bits .and .u64 a0 6148914691236517205))) 3689348814741910323))))) 1085102592571150095) / 256))) / 65536))) / 4294967296)))) 127)) = some r := h
  clear h
  obtain rfl := Option.some.inj H
  go_enter Tryd.func37, Tryd.ntmps37
  go_wp2
  go_ret
  exact ⟨by first | rfl | (simp; done) | (simp [*]; done), by repeat (first | exact Drawn0.refl _ | apply Drawn0.step)⟩

/-! ### compact_RangeSize: function 21 -/
def compact_RangeSize.f (a0 : Int) (a1 : Int) : Option (Int) := (compact_Decompose.f a0 a1).bind fun bt148 => ((bits_OnesCount64.f bt148.1).bind fun t150 => ((bits_OnesCount64.f bt148.2).bind fun t151 => (some (wrap64 (t150 + t151)))))
set_option maxHeartbeats 8000000 in
set_option maxRecDepth 100000 in
theorem compact_RangeSize.calls (a0 : Int) (a1 : Int) (r : Int) (w : World) (h : compact_RangeSize.f a0 a1 = some r) :
    Calls Tryd.prog 21 #[.int .u64 a0, .int .u64 a1] w fun e w' => e = .returned (.int .i64 r) ∧ Drawn0 w w' := by
  have H : ((compact_Decompose.f a0 a1).bind fun bt148 => ((bits_OnesCount64.f bt148.1).bind fun t150 => ((bits_OnesCount64.f bt148.2).bind fun t151 => (some (wrap64 (t150 + t151)))))) = some r := h
  clear h
  replace H := Option.bind_eq_some_iff.mp H
  obtain ⟨⟨t148, t149⟩, A30, H⟩ := H
  replace H : ((bits_OnesCount64.f t148).bind fun t150 => ((bits_OnesCount64.f t149).bind fun t151 => (some (wrap64 (t150 + t151))))) = some r := H
  have A3 := Aside0.mk A30
  clear A30
  replace H := Option.bind_eq_some_iff.mp H
  obtain ⟨t150, A40, H⟩ := H
  replace H : ((bits_OnesCount64.f t149).bind fun t151 => (some (wrap64 (t150 + t151)))) = some r := H
  have A4 := Aside0.mk A40
  clear A40
  replace H := Option.bind_eq_some_iff.mp H
  obtain ⟨t151, A50, H⟩ := H
  replace H : (some (wrap64 (t150 + t151))) = some r := H
  have A5 := Aside0.mk A50
  clear A50
  obtain rfl := Option.some.inj H
  go_enter Tryd.func21, Tryd.ntmps21
  go_wp2_with (first | ((with_reducible refine gate_callee (f := 34) rfl ?_); refine goesL_ (some 10) rfl rfl Tryd.func34 (by kernel_rfl) rfl #[.int .u64 a0, .int .u64 a1] rfl (by (try simp only [List.map_toArray, List.map_cons, List.map_nil]); first | done | rfl | (simp only [List.length_drop, List.length_take]; rfl)) ?_; (with_reducible refine (compact_Decompose.calls a0 a1 t148 t149 _ A3.out).mono ?_); rintro e w' ⟨rfl, ⟨nd, rfl⟩⟩; refine ⟨_, rfl, ?_⟩) | ((with_reducible refine gate_callee (f := 37) rfl ?_); refine goesL_ (some 14) rfl rfl Tryd.func37 (by kernel_rfl) rfl #[.int .u64 t148] rfl (by (try simp only [List.map_toArray, List.map_cons, List.map_nil]); first | done | rfl | (simp only [List.length_drop, List.length_take]; rfl)) ?_; (with_reducible refine (bits_OnesCount64.calls t148 t150 _ A4.out).mono ?_); rintro e w' ⟨rfl, ⟨nd, rfl⟩⟩; refine ⟨_, rfl, ?_⟩) | ((with_reducible refine gate_callee (f := 37) rfl ?_); refine goesL_ (some 16) rfl rfl Tryd.func37 (by kernel_rfl) rfl #[.int .u64 t149] rfl (by (try simp only [List.map_toArray, List.map_cons, List.map_nil]); first | done | rfl | (simp only [List.length_drop, List.length_take]; rfl)) ?_; (with_reducible refine (bits_OnesCount64.calls t149 t151 _ A5.out).mono ?_); rintro e w' ⟨rfl, ⟨nd, rfl⟩⟩; refine ⟨_, rfl, ?_⟩))
  go_ret
  exact ⟨by first | rfl | (simp; done) | (simp [*]; done), by repeat (first | exact Drawn0.refl _ | apply Drawn0.step)⟩

/-! ### impl_RangeSize: function 10 -/
def impl_RangeSize.f (a0 : Int) (a1 : Int) : Option (Int) := (compact_RangeSize.f a0 a1).bind fun t152 => (some t152)
set_option maxHeartbeats 8000000 in
set_option maxRecDepth 100000 in
theorem impl_RangeSize.calls (a0 : Int) (a1 : Int) (r : Int) (w : World) (h : impl_RangeSize.f a0 a1 = some r) :
    Calls Tryd.prog 10 #[.int .u64 a0, .int .u64 a1] w fun e w' => e = .returned (.int .i64 r) ∧ Drawn0 w w' := by
  have H : ((compact_RangeSize.f a0 a1).bind fun t152 => (some t152)) = some r := h
  clear h
  replace H := Option.bind_eq_some_iff.mp H
  obtain ⟨t152, A30, H⟩ := H
  replace H : (some t152) = some r := H
  have A3 := Aside0.mk A30
  clear A30
  obtain rfl := Option.some.inj H
  go_enter Tryd.func10, Tryd.ntmps10
  go_wp2_with (first | ((with_reducible refine gate_callee (f := 21) rfl ?_); refine goesL_ (some 7) rfl rfl Tryd.func21 (by kernel_rfl) rfl #[.int .u64 a0, .int .u64 a1] rfl (by (try simp only [List.map_toArray, List.map_cons, List.map_nil]); first | done | rfl | (simp only [List.length_drop, List.length_take]; rfl)) ?_; (with_reducible refine (compact_RangeSize.calls a0 a1 t152 _ A3.out).mono ?_); rintro e w' ⟨rfl, ⟨nd, rfl⟩⟩; refine ⟨_, rfl, ?_⟩))
  go_ret
  exact ⟨by first | rfl | (simp; done) | (simp [*]; done), by repeat (first | exact Drawn0.refl _ | apply Drawn0.step)⟩

end Go.Proofs.YtmcelgfekffinaaDoor.Q
