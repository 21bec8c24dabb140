-- Written by wip/tools/myprint.py for this seat (the kit's print with changes); Lean checks it.
import Derived.Test.YtfhcpniibiobgaaDoorQfx0
import Derived.Test.YtfhcpniibiobgaaDoorQfx1
import Derived.Test.YtfhcpniibiobgaaDoorQfx4
namespace Go.Proofs.YtfhcpniibiobgaaDoor.Qf
open Go.RowKit Go.Proofs.YtfhcpniibiobgaaDoorW.PrintWords Go.Proofs.YtfhcpniibiobgaaDoorW.PrintLast Go.Proofs.YtfhcpniibiobgaaDoorW.PrintMore
attribute [local go_sem] max2_int min2_int max_two min_two max_three min_three max_four min_four   -- for this text's walks alone
set_option linter.unusedVariables false
set_option linter.unusedSimpArgs false

/-! ### spec_RangeOf: function 28 -/
def spec_RangeOf.l0 : Nat → Int → List (List Int) → List (S52) → Int → Int → Int → Int → Int → Int → Int → Int → Int → Int → List (List Int) → Option (Int × Int × (List (List Int)))
  | 0, _, _, _, _, _, _, _, _, _, _, _, _, _, _ => none
  | k + 1, x1, x2, x23, x24, x25, x218000, x218001, x218002, x218003, x218004, x218005, x220000, x220001, x220002 => if x25 < x24 then (if 0 ≤ x25 then (if x25 < (x23.length : Int) then ((spec_Leaves.f ((rd_T52 x23 x25).f0) ((rd_T52 x23 x25).f1)).bind fun bt225 => (if 0 ≤ (IntKind.u64.wrap (bt225.1 - x1)) then (if (IntKind.u64.wrap (bt225.1 - x1)) ≤ (IntKind.u64.wrap (bt225.2 - x1)) then (if (IntKind.u64.wrap (bt225.2 - x1)) ≤ (x2.length : Int) then ((spec_Root.f k x218000 x218001 x218002 x218003 x218004 x218005 ((x2.take ((IntKind.u64.wrap (bt225.2 - x1)) : Int).toNat).drop ((IntKind.u64.wrap (bt225.1 - x1)) : Int).toNat)).bind fun t233 => (if x220002.length < 5864062014805 then (spec_RangeOf.l0 k x1 x2 x23 x24 (wrap64 (x25 + 1)) x218000 x218001 x218002 x218003 x218004 x218005 x220000 x220001 (x220002 ++ [t233])) else (none))) else (none)) else (none)) else (none))) else (none)) else (none)) else (some (x220000, x220001, x220002))
def spec_RangeOf.f (k : Nat) (a0_0 : Int) (a0_1 : Int) (a0_2 : Int) (a0_3 : Int) (a0_4 : Int) (a0_5 : Int) (a1 : Int) (l2 : List (List Int)) : Option (Int × Int × (List (List Int))) := (spec_Nodes.f k a1 (IntKind.u64.wrap (a1 + (IntKind.u64.wrap ((l2.length : Int)))))).bind fun t220 => (spec_RangeOf.l0 k a1 l2 t220 (t220.length : Int) 0 a0_0 a0_1 a0_2 a0_3 a0_4 a0_5 a1 (IntKind.u64.wrap (a1 + (IntKind.u64.wrap ((l2.length : Int))))) ([] : List (List Int)))
theorem spec_RangeOf.mono_l : ∀ k, (∀ y0 y1 y2 y3 y4 y5 y6 y7 y8 y9 y10 y11 y12 y13, LeO (spec_RangeOf.l0 k y0 y1 y2 y3 y4 y5 y6 y7 y8 y9 y10 y11 y12 y13) (spec_RangeOf.l0 (k + 1) y0 y1 y2 y3 y4 y5 y6 y7 y8 y9 y10 y11 y12 y13))
  | 0 => fun _ _ _ _ _ _ _ _ _ _ _ _ _ _ r h => by simp [spec_RangeOf.l0] at h
  | k + 1 => by
    have ih0 := spec_RangeOf.mono_l k
    · intro y0 y1 y2 y3 y4 y5 y6 y7 y8 y9 y10 y11 y12 y13
      unfold spec_RangeOf.l0
      repeat' first
      | (with_reducible exact ih0 _ _ _ _ _ _ _ _ _ _ _ _ _ _)
      | (with_reducible exact spec_Nodes.mono _ _ _)
      | (with_reducible exact spec_Root.mono _ _ _ _ _ _ _ _)
      | (with_reducible exact LeO.refl _)
      | (with_reducible exact LeO.none _)
      | (with_reducible refine LeO.ite ?_ ?_)
      | (with_reducible refine LeO.bind ?_ (fun _ => ?_))
      | exact ih0 _ _ _ _ _ _ _ _ _ _ _ _ _ _
      | exact spec_Nodes.mono _ _ _
      | exact spec_Root.mono _ _ _ _ _ _ _ _
      | exact LeO.none _
      | refine LeO.ite ?_ ?_
      | refine LeO.bind ?_ (fun _ => ?_)
theorem spec_RangeOf.mono : ∀ a0 a1 a2 a3 a4 a5 a6 a7 k, LeO (spec_RangeOf.f k a0 a1 a2 a3 a4 a5 a6 a7) (spec_RangeOf.f (k + 1) a0 a1 a2 a3 a4 a5 a6 a7) := by
  intro a0 a1 a2 a3 a4 a5 a6 a7 k
  have ih0 := spec_RangeOf.mono_l k
  unfold spec_RangeOf.f
  repeat' first
      | (with_reducible exact ih0 _ _ _ _ _ _ _ _ _ _ _ _ _ _)
      | (with_reducible exact spec_Nodes.mono _ _ _)
      | (with_reducible exact spec_Root.mono _ _ _ _ _ _ _ _)
      | (with_reducible exact LeO.refl _)
      | (with_reducible exact LeO.none _)
      | (with_reducible refine LeO.ite ?_ ?_)
      | (with_reducible refine LeO.bind ?_ (fun _ => ?_))
      | exact ih0 _ _ _ _ _ _ _ _ _ _ _ _ _ _
      | exact spec_Nodes.mono _ _ _
      | exact spec_Root.mono _ _ _ _ _ _ _ _
      | exact LeO.none _
      | refine LeO.ite ?_ ?_
      | refine LeO.bind ?_ (fun _ => ?_)
def spec_RangeOf.T6 : Bool × List (List Nat × List Nat) := (true, [([], []), ([0], [0]), ([], []), ([], []), ([], []), ([4], [4]), ([], []), ([5, 6], [5, 6]), ([], []), ([8], [8]), ([], []), ([9, 10], [9, 10]), ([3, 7, 11], [3, 7, 11]), ([2, 12], [2, 12]), ([13], [13]), ([1, 14, 13], [1, 14]), ([0, 1, 2, 3, 4, 5, 6, 7, 8, 9, 10, 11, 12, 13, 14, 15], []), ([16, 15, 15, 0, 1, 2, 3, 4, 5, 6, 7, 8, 9, 10, 11, 12, 13, 14, 15], [15, 16])])
def spec_RangeOf.B6 : List Nat := [0, 1, 0, 0, 0, 16, 0, 112, 0, 256, 0, 1792, 4088, 8188, 16380, 32767, 65535, 131071]
theorem spec_RangeOf.tab6 : rtab .any (opsOf Tryd.f28 6) = spec_RangeOf.T6 := by kernel_rfl
theorem spec_RangeOf.bits6 : waitsOk spec_RangeOf.T6.2 spec_RangeOf.B6 = true := by kernel_rfl
set_option maxHeartbeats 8000000 in
set_option maxRecDepth 100000 in
theorem spec_RangeOf.calls (k : Nat) (a0_0 : Int) (a0_1 : Int) (a0_2 : Int) (a0_3 : Int) (a0_4 : Int) (a0_5 : Int) (a1 : Int) (P2_ : Nat → Prop) (A2 : Option Addr) (c2 : Nat) (l2 : List (List Int)) (r1 : Int) (r2 : Int) (r3 : List (List Int)) (w : World) (hs2 : Kd.V (Kd.slice 5 (Kd.int .u8)) 28 w w.heap.size (fun k_ => P2_ k_) (.slice A2 l2.length c2) l2) (h : spec_RangeOf.f k a0_0 a0_1 a0_2 a0_3 a0_4 a0_5 a1 l2 = some (r1, r2, r3)) :
    Calls Tryd.prog 28 #[.agg #[.int .i64 a0_0, .int .i64 a0_1, .int .i64 a0_2, .int .u64 a0_3, .int .u64 a0_4, .int .u64 a0_5], .int .u64 a1, .slice A2 l2.length c2] w fun e w' => ∃ v2_ : Value, e = .returned (.agg #[.int .u64 r1, .int .u64 r2, v2_]) ∧ Kd.N (Kd.slice 5 (Kd.int .u8)) 28 w' w.heap.size (fun k_ => (P2_ k_ ∨ w.heap.size ≤ k_)) v2_ r3 ∧ Below w.heap.size w w' := by
  have hu24 := Tryd.underlying24
  have hu35 := Tryd.underlying35
  have hu55 := Tryd.underlying55
  have hu52 := Tryd.underlying52
  have HO2 := Aside0.mk (show Kd.V (Kd.slice 5 (Kd.int .u8)) 28 w w.heap.size (fun k_ => (P2_ k_ ∨ w.heap.size ≤ k_)) (.slice A2 l2.length c2) l2 from Kd.V_mono hs2 (fun k_ hk => .inl hk))
  have HB := Aside0.mk (Below.refl w.heap.size w)
  have H : ((spec_Nodes.f k a1 (IntKind.u64.wrap (a1 + (IntKind.u64.wrap ((l2.length : Int)))))).bind fun t220 => (spec_RangeOf.l0 k a1 l2 t220 (t220.length : Int) 0 a0_0 a0_1 a0_2 a0_3 a0_4 a0_5 a1 (IntKind.u64.wrap (a1 + (IntKind.u64.wrap ((l2.length : Int))))) ([] : List (List Int)))) = some (r1, r2, r3) := h
  clear h
  replace H := Option.bind_eq_some_iff.mp H
  obtain ⟨t220, A40, H⟩ := H
  replace H : (spec_RangeOf.l0 k a1 l2 t220 (t220.length : Int) 0 a0_0 a0_1 a0_2 a0_3 a0_4 a0_5 a1 (IntKind.u64.wrap (a1 + (IntKind.u64.wrap ((l2.length : Int))))) ([] : List (List Int))) = some (r1, r2, r3) := H
  have A4 := Aside0.mk A40
  clear A40
  have H' := Aside0.mk H
  clear H
  go_enter Tryd.func28, Tryd.ntmps28
  go_wp2_with (first | ((with_reducible refine gate_dst (N := 3) rfl ?_); refine box_event ?hg (N := 3) ?hd (cs := #[.int .i64 a0_0, .int .i64 a0_1, .int .i64 a0_2, .int .u64 a0_3, .int .u64 a0_4, .int .u64 a0_5]) (t := 24) ?hr ?_; (case hd => rfl); (case hg => rfl); (case hr => first | (go_simp; done) | (go_simp; rfl)); intro gb217 hg w5 hbox hb; have n0_ := Aside0.mk (Kd.V_below (Kd.V_elderB (by (with_reducible repeat (first | apply Kd.V_alloc | apply Kd.V_drewN | apply Kd.V_drew)); exact HO2.out) gb217 (Nat.le_of_eq hg.symm)) hb); have n1_ := Aside0.mk (below_step (by repeat (first | (with_reducible first | exact HB.out | apply below_alloc | apply pw_below_drewN | apply below_drew1) | exact HB.out)) hb); have n2_ := Aside0.mk (hbox); have n3_ := Aside0.mk ((by rw [hg]; exact (below_size (by repeat (first | (with_reducible first | exact HB.out | apply below_alloc | apply pw_below_drewN | apply below_drew1) | exact HB.out))) : w.heap.size ≤ gb217)); have n4_ := Aside0.mk ((by rw [hg]; exact (below_size (by repeat (first | (with_reducible first | exact HB.out | apply below_alloc | apply pw_below_drewN | apply below_drew1) | exact HB.out))) : w.heap.size ≤ gb217)); clear HO2; clear HB; have HO2 := n0_; have HB := n1_; have BK217 := n2_; have GW217 := n3_; have GE217 := n4_; clear n0_ n1_ n2_ n3_ n4_; clear hb hbox hg) | ((with_reducible refine gate_dst (N := 6) rfl ?_); refine box_event ?hg (N := 6) ?hd (cs := #[.int .u64 0, .int .u64 0, .slice none 0 0]) (t := 35) ?hr ?_; (case hd => rfl); (case hg => rfl); (case hr => first | (go_simp; done) | (go_simp; rfl)); intro gb218 hg w6 hbox hb; have n0_ := Aside0.mk (Kd.V_below (Kd.V_elderB (by (with_reducible repeat (first | apply Kd.V_alloc | apply Kd.V_drewN | apply Kd.V_drew)); exact HO2.out) gb218 (Nat.le_of_eq hg.symm)) hb); have n1_ := Aside0.mk (blk_below (g := gb217) (o := .cells #[.int .i64 a0_0, .int .i64 a0_1, .int .i64 a0_2, .int .u64 a0_3, .int .u64 a0_4, .int .u64 a0_5] 24 (0, 0)) (by (with_reducible repeat (first | refine blk_drewN ?_ _ | refine blk_drew ?_ | refine blk_alloc ?_ _)); exact BK217.out) hb); have n2_ := Aside0.mk (below_step (by repeat (first | (with_reducible first | exact HB.out | apply below_alloc | apply pw_below_drewN | apply below_drew1 | refine below_set ?_ GE217.out) | exact HB.out)) hb); have n3_ := Aside0.mk (hbox); have n4_ := Aside0.mk ((by rw [hg]; exact (below_size (by repeat (first | (with_reducible first | exact HB.out | apply below_alloc | apply pw_below_drewN | apply below_drew1 | refine below_set ?_ GE217.out) | exact HB.out))) : w.heap.size ≤ gb218)); have n5_ := Aside0.mk ((by rw [hg]; exact (below_size (by repeat (first | (with_reducible first | exact HB.out | apply below_alloc | apply pw_below_drewN | apply below_drew1 | refine below_set ?_ GE217.out) | exact HB.out))) : w.heap.size ≤ gb218)); have n6_ := Aside0.mk ((by rw [hg]; exact Nat.ne_of_lt (blk_lt (g := gb217) (o := .cells #[.int .i64 a0_0, .int .i64 a0_1, .int .i64 a0_2, .int .u64 a0_3, .int .u64 a0_4, .int .u64 a0_5] 24 (0, 0)) (by (with_reducible repeat (first | refine blk_drewN ?_ _ | refine blk_drew ?_ | refine blk_alloc ?_ _)); exact BK217.out)) : gb217 ≠ gb218)); have n7_ := Aside0.mk ((by rw [hg]; exact Nat.ne_of_gt (blk_lt (g := gb217) (o := .cells #[.int .i64 a0_0, .int .i64 a0_1, .int .i64 a0_2, .int .u64 a0_3, .int .u64 a0_4, .int .u64 a0_5] 24 (0, 0)) (by (with_reducible repeat (first | refine blk_drewN ?_ _ | refine blk_drew ?_ | refine blk_alloc ?_ _)); exact BK217.out)) : gb218 ≠ gb217)); clear HO2; clear BK217; clear HB; have HO2 := n0_; have BK217 := n1_; have HB := n2_; have BK218 := n3_; have GW218 := n4_; have GE218 := n5_; have NB217_218 := n6_; have NB218_217 := n7_; clear n0_ n1_ n2_ n3_ n4_ n5_ n6_ n7_; clear hb hbox hg) | ((with_reducible refine gate_dst (N := 7) rfl ?_); refine box_event ?hg (N := 7) ?hd (cs := #[.int .u64 0, .int .u64 0, .slice none 0 0]) (t := 35) ?hr ?_; (case hd => rfl); (case hg => rfl); (case hr => first | (go_simp; done) | (go_simp; rfl)); intro gb219 hg w7 hbox hb; have n0_ := Aside0.mk (Kd.V_below (Kd.V_elderB (by (with_reducible repeat (first | apply Kd.V_alloc | apply Kd.V_drewN | apply Kd.V_drew)); exact HO2.out) gb219 (Nat.le_of_eq hg.symm)) hb); have n1_ := Aside0.mk (blk_below (g := gb217) (o := .cells #[.int .i64 a0_0, .int .i64 a0_1, .int .i64 a0_2, .int .u64 a0_3, .int .u64 a0_4, .int .u64 a0_5] 24 (0, 0)) (by (with_reducible repeat (first | refine blk_drewN ?_ _ | refine blk_drew ?_ | refine blk_alloc ?_ _)); exact BK217.out) hb); have n2_ := Aside0.mk (blk_below (g := gb218) (o := .cells #[.int .u64 0, .int .u64 0, .slice none 0 0] 35 (0, 0)) (by (with_reducible repeat (first | refine blk_drewN ?_ _ | refine blk_drew ?_ | refine blk_alloc ?_ _)); exact BK218.out) hb); have n3_ := Aside0.mk (below_step (by repeat (first | (with_reducible first | exact HB.out | apply below_alloc | apply pw_below_drewN | apply below_drew1 | refine below_set ?_ GE217.out | refine below_set ?_ GE218.out) | exact HB.out)) hb); have n4_ := Aside0.mk (hbox); have n5_ := Aside0.mk ((by rw [hg]; exact (below_size (by repeat (first | (with_reducible first | exact HB.out | apply below_alloc | apply pw_below_drewN | apply below_drew1 | refine below_set ?_ GE217.out | refine below_set ?_ GE218.out) | exact HB.out))) : w.heap.size ≤ gb219)); have n6_ := Aside0.mk ((by rw [hg]; exact (below_size (by repeat (first | (with_reducible first | exact HB.out | apply below_alloc | apply pw_below_drewN | apply below_drew1 | refine below_set ?_ GE217.out | refine below_set ?_ GE218.out) | exact HB.out))) : w.heap.size ≤ gb219)); have n7_ := Aside0.mk ((by rw [hg]; exact Nat.ne_of_lt (blk_lt (g := gb217) (o := .cells #[.int .i64 a0_0, .int .i64 a0_1, .int .i64 a0_2, .int .u64 a0_3, .int .u64 a0_4, .int .u64 a0_5] 24 (0, 0)) (by (with_reducible repeat (first | refine blk_drewN ?_ _ | refine blk_drew ?_ | refine blk_alloc ?_ _)); exact BK217.out)) : gb217 ≠ gb219)); have n8_ := Aside0.mk ((by rw [hg]; exact Nat.ne_of_gt (blk_lt (g := gb217) (o := .cells #[.int .i64 a0_0, .int .i64 a0_1, .int .i64 a0_2, .int .u64 a0_3, .int .u64 a0_4, .int .u64 a0_5] 24 (0, 0)) (by (with_reducible repeat (first | refine blk_drewN ?_ _ | refine blk_drew ?_ | refine blk_alloc ?_ _)); exact BK217.out)) : gb219 ≠ gb217)); have n9_ := Aside0.mk ((by rw [hg]; exact Nat.ne_of_lt (blk_lt (g := gb218) (o := .cells #[.int .u64 0, .int .u64 0, .slice none 0 0] 35 (0, 0)) (by (with_reducible repeat (first | refine blk_drewN ?_ _ | refine blk_drew ?_ | refine blk_alloc ?_ _)); exact BK218.out)) : gb218 ≠ gb219)); have n10_ := Aside0.mk ((by rw [hg]; exact Nat.ne_of_gt (blk_lt (g := gb218) (o := .cells #[.int .u64 0, .int .u64 0, .slice none 0 0] 35 (0, 0)) (by (with_reducible repeat (first | refine blk_drewN ?_ _ | refine blk_drew ?_ | refine blk_alloc ?_ _)); exact BK218.out)) : gb219 ≠ gb218)); clear HO2; clear BK217; clear BK218; clear HB; have HO2 := n0_; have BK217 := n1_; have BK218 := n2_; have HB := n3_; have BK219 := n4_; have GW219 := n5_; have GE219 := n6_; have NB217_219 := n7_; have NB219_217 := n8_; have NB218_219 := n9_; have NB219_218 := n10_; clear n0_ n1_ n2_ n3_ n4_ n5_ n6_ n7_ n8_ n9_ n10_; clear hb hbox hg; have hnb8 := NB219_217.out; have hnc8 := NB217_219.out; have hnb9 := NB219_218.out; have hnc9 := NB218_219.out; have hcz10_0 : w7.cell? ⟨gb219, 0, none⟩ = some (.int .u64 0) := (blk_cell BK219.out 0).trans rfl; have hcz10_1 : w7.cell? ⟨gb219, 1, none⟩ = some (.int .u64 0) := (blk_cell BK219.out 1).trans rfl; have hcz10_2 : w7.cell? ⟨gb219, 2, none⟩ = some (.slice none 0 0) := (blk_cell BK219.out 2).trans rfl; have hfz10_0 := blk_frozen BK219.out 0; have hfz10_1 := blk_frozen BK219.out 1; have hfz10_2 := blk_frozen BK219.out 2) | ((with_reducible refine gate_callee (f := 66) rfl ?_); refine goesL_ (some 23) rfl rfl Tryd.func66 (by kernel_rfl) rfl #[.agg #[.int .u64 a1, .int .u64 (IntKind.u64.wrap (a1 + (IntKind.u64.wrap ((l2.length : Int)))))]] rfl (by (try simp only [List.map_toArray, List.map_cons, List.map_nil]); first | done | rfl | (simp only [List.length_drop, List.length_take]; rfl)) ?_; (with_reducible refine (spec_Nodes.calls k a1 (IntKind.u64.wrap (a1 + (IntKind.u64.wrap ((l2.length : Int))))) t220 _ A4.out).mono ?_); rintro e w11 ⟨v221, rfl, ho0, hb⟩; refine ⟨_, rfl, ?_⟩; have n0_ := Aside0.mk (Kd.V_elder' (by (with_reducible repeat (first | apply Kd.V_alloc | apply Kd.V_drewN | apply Kd.V_drew)); exact (Kd.V_mono (Kd.V_far (p := ⟨gb219, 2, none⟩) (Kd.V_far (p := ⟨gb219, 1, none⟩) (Kd.V_far (p := ⟨gb219, 0, none⟩) (Kd.V_mono HO2.out (fun k_ hk => (⟨hk, hk.2⟩ : _ ∧ k_ ≠ gb219))) (fun _ hk => hk.2) (.int .u64 a1)) (fun _ hk => hk.2) (.int .u64 (IntKind.u64.wrap (a1 + (IntKind.u64.wrap ((l2.length : Int))))))) (fun _ hk => hk.2) (.slice none 0 0)) (fun _ h_ => h_.1))) (Kd.R_base ho0) hb); have n1_ := Aside0.mk (Kd.R_lower (Kd.R_newM (M := fun k_ => (w.heap.size ≤ k_)) ho0 (below_size (by repeat (first | (with_reducible first | exact HB.out | apply below_alloc | apply pw_below_drewN | apply below_drew1 | refine below_set ?_ GE217.out | refine below_set ?_ GE218.out | refine below_set ?_ GE219.out) | exact HB.out))) (fun k_ h_ => h_)) (below_size (by repeat (first | (with_reducible first | exact HB.out | apply below_alloc | apply pw_below_drewN | apply below_drew1 | refine below_set ?_ GE217.out | refine below_set ?_ GE218.out | refine below_set ?_ GE219.out) | exact HB.out)))); have n2_ := Aside0.mk (blk_below (g := gb217) (o := .cells #[.int .i64 a0_0, .int .i64 a0_1, .int .i64 a0_2, .int .u64 a0_3, .int .u64 a0_4, .int .u64 a0_5] 24 (0, 0)) (by (with_reducible repeat (first | refine blk_drewN ?_ _ | refine blk_drew ?_ | refine blk_alloc ?_ _)); refine blk_far ?_ NB217_219.out _; (with_reducible repeat (first | refine blk_drewN ?_ _ | refine blk_drew ?_ | refine blk_alloc ?_ _)); refine blk_far ?_ NB217_219.out _; (with_reducible repeat (first | refine blk_drewN ?_ _ | refine blk_drew ?_ | refine blk_alloc ?_ _)); refine blk_far ?_ NB217_219.out _; (with_reducible repeat (first | refine blk_drewN ?_ _ | refine blk_drew ?_ | refine blk_alloc ?_ _)); exact BK217.out) hb); have n3_ := Aside0.mk (blk_below (g := gb218) (o := .cells #[.int .u64 0, .int .u64 0, .slice none 0 0] 35 (0, 0)) (by (with_reducible repeat (first | refine blk_drewN ?_ _ | refine blk_drew ?_ | refine blk_alloc ?_ _)); refine blk_far ?_ NB218_219.out _; (with_reducible repeat (first | refine blk_drewN ?_ _ | refine blk_drew ?_ | refine blk_alloc ?_ _)); refine blk_far ?_ NB218_219.out _; (with_reducible repeat (first | refine blk_drewN ?_ _ | refine blk_drew ?_ | refine blk_alloc ?_ _)); refine blk_far ?_ NB218_219.out _; (with_reducible repeat (first | refine blk_drewN ?_ _ | refine blk_drew ?_ | refine blk_alloc ?_ _)); exact BK218.out) hb); have n4_ := Aside0.mk (blk_below (g := gb219) (o := .cells #[.int .u64 a1, .int .u64 (IntKind.u64.wrap (a1 + (IntKind.u64.wrap ((l2.length : Int))))), .slice none 0 0] 35 (0, 0)) (by (with_reducible repeat (first | refine blk_drewN ?_ _ | refine blk_drew ?_ | refine blk_alloc ?_ _)); refine blk_put (cs := #[.int .u64 a1, .int .u64 (IntKind.u64.wrap (a1 + (IntKind.u64.wrap ((l2.length : Int))))), .slice none 0 0]) ?_ 2 _ rfl; (with_reducible repeat (first | refine blk_drewN ?_ _ | refine blk_drew ?_ | refine blk_alloc ?_ _)); refine blk_put (cs := #[.int .u64 a1, .int .u64 0, .slice none 0 0]) ?_ 1 _ rfl; (with_reducible repeat (first | refine blk_drewN ?_ _ | refine blk_drew ?_ | refine blk_alloc ?_ _)); refine blk_put (cs := #[.int .u64 0, .int .u64 0, .slice none 0 0]) ?_ 0 _ rfl; (with_reducible repeat (first | refine blk_drewN ?_ _ | refine blk_drew ?_ | refine blk_alloc ?_ _)); exact BK219.out) hb); have n5_ := Aside0.mk (below_step (by repeat (first | (with_reducible first | exact HB.out | apply below_alloc | apply pw_below_drewN | apply below_drew1 | refine below_set ?_ GE217.out | refine below_set ?_ GE218.out | refine below_set ?_ GE219.out) | exact HB.out)) hb); clear HO2; clear BK217; clear BK218; clear BK219; clear HB; have HO2 := n0_; have HO222 := n1_; have BK217 := n2_; have BK218 := n3_; have BK219 := n4_; have HB := n5_; clear n0_ n1_ n2_ n3_ n4_ n5_; (try clear hb); (try clear hb2); (try clear hk); (try clear hi); (try clear ho0); obtain ⟨Ao12, co12, eo12⟩ := Kd.R_slice HO222.out; subst eo12))
  (try simp only [Act.put, List.setIfInBounds_toArray, List.set_cons_zero, List.set_cons_succ])
  go_loopg [25] k (fun kq v25 w' => ∃ (x25_1 : Int) (x220002_1 : List (List Int)) (u220002 : Value), v25 = .int .i64 x25_1 ∧ Aside0 (spec_RangeOf.l0 kq a1 l2 t220 (t220.length : Int) x25_1 a0_0 a0_1 a0_2 a0_3 a0_4 a0_5 a1 (IntKind.u64.wrap (a1 + (IntKind.u64.wrap ((l2.length : Int))))) x220002_1 = some (r1, r2, r3)) ∧ Aside0 (kq ≤ k) ∧ Aside0 (Kd.V (Kd.slice 5 (Kd.int .u8)) 28 w' w.heap.size (fun k_ => (P2_ k_ ∨ w.heap.size ≤ k_) ∧ some k_ ≠ ((.slice Ao12 t220.length co12) : Value).ownBlock ∧ some k_ ≠ (u220002 : Value).ownBlock ∧ k_ ≠ gb217 ∧ k_ ≠ gb218 ∧ k_ ≠ gb219) (.slice A2 l2.length c2) l2) ∧ Aside0 (Kd.R k52 52 w' w.heap.size (fun k_ => (w.heap.size ≤ k_)) (.slice Ao12 t220.length co12) t220) ∧ Aside0 (Kd.N (Kd.slice 5 (Kd.int .u8)) 28 w' w.heap.size (fun k_ => (P2_ k_ ∨ w.heap.size ≤ k_) ∧ some k_ ≠ ((.slice Ao12 t220.length co12) : Value).ownBlock ∧ k_ ≠ gb217 ∧ k_ ≠ gb218 ∧ k_ ≠ gb219) u220002 x220002_1) ∧ Aside0 (w'.heap[gb217]? = some (.cells #[.int .i64 a0_0, .int .i64 a0_1, .int .i64 a0_2, .int .u64 a0_3, .int .u64 a0_4, .int .u64 a0_5] 24 (0, 0))) ∧ Aside0 (w'.heap[gb218]? = some (.cells #[.int .u64 0, .int .u64 0, (.slice none 0 0)] 35 (0, 0))) ∧ Aside0 (w'.heap[gb219]? = some (.cells #[.int .u64 a1, .int .u64 (IntKind.u64.wrap (a1 + (IntKind.u64.wrap ((l2.length : Int))))), u220002] 35 (0, 0))) ∧ Aside0 (Below w.heap.size w w'))
  case atStart => exact ⟨(0), (([] : List (List Int))), (.slice none 0 0), (by first | rfl | (simp; done) | (simp [*]; done)), H', ⟨Nat.le_refl _⟩, ⟨by (with_reducible repeat (first | apply Kd.V_alloc | apply Kd.V_drewN | apply Kd.V_drew)); exact Kd.V_mono HO2.out (fun _ hk => ⟨hk.1.1.1.1, ⟨hk.2, ⟨(by simp [Value.ownBlock]), ⟨hk.1.1.1.2, ⟨hk.1.1.2, hk.1.2⟩⟩⟩⟩⟩)⟩, ⟨by (with_reducible repeat (first | apply Kd.R_alloc | apply Kd.R_drewN | apply Kd.R_drew)); exact Kd.R_mono HO222.out (fun _ hk => hk.1)⟩, ⟨by first | exact Kd.S_nil _ _ _ _ _ | exact Kd.N_nil _ _ _ _ _ | exact Kd.V_nil _ _ _ _ _ | exact Kd.Q_nil _ _ _ _ _ | exact Kd.R_nil _ _ _ _ _⟩, ⟨by (with_reducible repeat (first | refine blk_drewN ?_ _ | refine blk_drew ?_ | refine blk_alloc ?_ _)); exact BK217.out⟩, ⟨by (with_reducible repeat (first | refine blk_drewN ?_ _ | refine blk_drew ?_ | refine blk_alloc ?_ _)); exact BK218.out⟩, ⟨by (with_reducible repeat (first | refine blk_drewN ?_ _ | refine blk_drew ?_ | refine blk_alloc ?_ _)); exact BK219.out⟩, ⟨by repeat (first | (with_reducible first | exact HB.out | apply below_alloc | apply pw_below_drewN | apply below_drew1 | refine below_set ?_ GE217.out | refine below_set ?_ GE218.out | refine below_set ?_ GE219.out) | exact HB.out)⟩⟩
  case round =>
    clear H'
    try clear c2
    try clear p2
    try clear c6
    try clear c8
    try clear c9
    try clear hcz10_0
    try clear hcz10_1
    try clear hcz10_2
    try clear hfz10_0
    try clear hfz10_1
    try clear hfz10_2
    obtain ⟨x25_1, x220002_1, u220002, rfl, HA, HK1, HO_2, HO_23, HO_220002, BK217, BK218, BK219, HB⟩ := hrel
    cases gk with
    | zero => exact absurd HA.out (by simp [spec_RangeOf.l0])
    | succ k1 =>
      have H := HA.out
      clear HA
      simp only [spec_RangeOf.l0] at H
      by_cases c13 : x25_1 < (t220.length : Int)
      · rw [if_pos c13] at H
        have c13b0 : decide (x25_1 < (t220.length : Int)) = true := decide_eq_true c13
        clear c13
        by_cases c14 : 0 ≤ x25_1
        · rw [if_pos c14] at H
          have c14b0 : decide (0 ≤ x25_1) = true := decide_eq_true c14
          clear c14
          by_cases c15 : x25_1 < (t220.length : Int)
          · rw [if_pos c15] at H
            have c15b0 : decide (x25_1 < (t220.length : Int)) = true := decide_eq_true c15
            clear c15
            replace H := Option.bind_eq_some_iff.mp H
            obtain ⟨⟨t225, t226⟩, A160, H⟩ := H
            replace H : (if 0 ≤ (IntKind.u64.wrap (t225 - a1)) then (if (IntKind.u64.wrap (t225 - a1)) ≤ (IntKind.u64.wrap (t226 - a1)) then (if (IntKind.u64.wrap (t226 - a1)) ≤ (l2.length : Int) then ((spec_Root.f k1 a0_0 a0_1 a0_2 a0_3 a0_4 a0_5 ((l2.take ((IntKind.u64.wrap (t226 - a1)) : Int).toNat).drop ((IntKind.u64.wrap (t225 - a1)) : Int).toNat)).bind fun t233 => (if x220002_1.length < 5864062014805 then (spec_RangeOf.l0 k1 a1 l2 t220 (t220.length : Int) (wrap64 (x25_1 + 1)) a0_0 a0_1 a0_2 a0_3 a0_4 a0_5 a1 (IntKind.u64.wrap (a1 + (IntKind.u64.wrap ((l2.length : Int))))) (x220002_1 ++ [t233])) else (none))) else (none)) else (none)) else (none)) = some (r1, r2, r3) := H
            have A16 := Aside0.mk A160
            clear A160
            obtain ⟨ji17, hji17⟩ : ∃ j_ : Int, (IntKind.u64.wrap (t225 - a1)) = j_ := ⟨_, rfl⟩
            replace H : (if 0 ≤ (ji17) then (if (ji17) ≤ (IntKind.u64.wrap (t226 - a1)) then (if (IntKind.u64.wrap (t226 - a1)) ≤ (l2.length : Int) then ((spec_Root.f k1 a0_0 a0_1 a0_2 a0_3 a0_4 a0_5 ((l2.take ((IntKind.u64.wrap (t226 - a1)) : Int).toNat).drop ((ji17) : Int).toNat)).bind fun t233 => (if x220002_1.length < 5864062014805 then (spec_RangeOf.l0 k1 a1 l2 t220 (t220.length : Int) (wrap64 (x25_1 + 1)) a0_0 a0_1 a0_2 a0_3 a0_4 a0_5 a1 (IntKind.u64.wrap (a1 + (IntKind.u64.wrap ((l2.length : Int))))) (x220002_1 ++ [t233])) else (none))) else (none)) else (none)) else (none)) = some (r1, r2, r3) := by first | (rw [hji17] at H; exact H) | (simp only [hji17] at H ⊢; exact H)
            (try rw [hji17] at A16)
            by_cases c18 : 0 ≤ (ji17)
            · rw [if_pos c18] at H
              have c18b0 := eq_true c18
              have c18b1 : decide (0 ≤ (ji17)) = true := decide_eq_true c18
              clear c18
              by_cases c19 : (ji17) ≤ (IntKind.u64.wrap (t226 - a1))
              · rw [if_pos c19] at H
                have c19b0 := eq_true c19
                have c19b1 : decide ((ji17) ≤ (IntKind.u64.wrap (t226 - a1))) = true := decide_eq_true c19
                clear c19
                by_cases c20 : (IntKind.u64.wrap (t226 - a1)) ≤ (l2.length : Int)
                · rw [if_pos c20] at H
                  have c20b0 := eq_true c20
                  have c20b1 : decide ((IntKind.u64.wrap (t226 - a1)) ≤ (l2.length : Int)) = true := decide_eq_true c20
                  clear c20
                  obtain ⟨y228, hy228⟩ : ∃ y_ : List (List Int), y_ = ((l2.take ((IntKind.u64.wrap (t226 - a1)) : Int).toNat).drop ((ji17) : Int).toNat) := ⟨_, rfl⟩
                  replace H : ((spec_Root.f k1 a0_0 a0_1 a0_2 a0_3 a0_4 a0_5 y228).bind fun t233 => (if x220002_1.length < 5864062014805 then (spec_RangeOf.l0 k1 a1 l2 t220 (t220.length : Int) (wrap64 (x25_1 + 1)) a0_0 a0_1 a0_2 a0_3 a0_4 a0_5 a1 (IntKind.u64.wrap (a1 + (IntKind.u64.wrap ((l2.length : Int))))) (x220002_1 ++ [t233])) else (none))) = some (r1, r2, r3) := by first | (rw [hy228]; with_reducible exact H) | (have H2_ := (Option.bind_some _ _).symm.trans H; rw [hy228]; with_reducible exact H2_) | (have H2_ := (Option.bind_some _ _).symm.trans H; with_reducible exact H2_) | with_reducible exact H | (rw [hy228]; exact H) | exact H
                  have Ny228 := Aside0.mk hy228
                  clear hy228
                  replace H := Option.bind_eq_some_iff.mp H
                  obtain ⟨t233, A210, H⟩ := H
                  replace H : (if x220002_1.length < 5864062014805 then (spec_RangeOf.l0 k1 a1 l2 t220 (t220.length : Int) (wrap64 (x25_1 + 1)) a0_0 a0_1 a0_2 a0_3 a0_4 a0_5 a1 (IntKind.u64.wrap (a1 + (IntKind.u64.wrap ((l2.length : Int))))) (x220002_1 ++ [t233])) else (none)) = some (r1, r2, r3) := H
                  have A21 := Aside0.mk A210
                  clear A210
                  by_cases c22 : x220002_1.length < 5864062014805
                  · rw [if_pos c22] at H
                    have LMc22 := Aside0.mk c22
                    clear c22
                    obtain ⟨y236, hy236⟩ : ∃ y_ : List (List Int), y_ = (x220002_1 ++ [t233]) := ⟨_, rfl⟩
                    replace H : (spec_RangeOf.l0 k1 a1 l2 t220 (t220.length : Int) (wrap64 (x25_1 + 1)) a0_0 a0_1 a0_2 a0_3 a0_4 a0_5 a1 (IntKind.u64.wrap (a1 + (IntKind.u64.wrap ((l2.length : Int))))) y236) = some (r1, r2, r3) := by first | (rw [hy236]; with_reducible exact H) | (have H2_ := (Option.bind_some _ _).symm.trans H; rw [hy236]; with_reducible exact H2_) | (have H2_ := (Option.bind_some _ _).symm.trans H; with_reducible exact H2_) | with_reducible exact H | (rw [hy236]; exact H) | exact H
                    have Ny236 := Aside0.mk hy236
                    clear hy236
                    have H' := Aside0.mk H
                    clear H
                    have p223 : 0 ≤ (x25_1 : Int) := of_decide_eq_true (by first | (with_reducible assumption) | assumption)
                    have q223 : x25_1 < (t220.length : Int) := of_decide_eq_true (by first | (with_reducible assumption) | assumption)
                    obtain ⟨ad223, e223, hx223_0, hx223_1⟩ := at_T52 (Kd.R_reads' HO_23.out).2.2 x25_1 p223 q223
                    cases e223
                    replace p223 := eq_true p223
                    replace q223 := eq_true q223
                    try go_wp2_with (first | ((with_reducible refine gate_dst (N := 9) rfl ?_); refine box_event ?hg (N := 9) ?hd (cs := #[.int .u64 0, .int .u64 0]) (t := 52) ?hr ?_; (case hd => rfl); (case hg => rfl); (case hr => first | (go_simp; done) | (go_simp; rfl)); intro gb224 hg w23 hbox hb; have n0_ := Aside0.mk (Kd.V_below (Kd.V_elderB (by (with_reducible repeat (first | apply Kd.V_alloc | apply Kd.V_drewN | apply Kd.V_drew)); exact HO_2.out) gb224 (Nat.le_of_eq hg.symm)) hb); have n1_ := Aside0.mk (Kd.R_below (Kd.R_elderB (by (with_reducible repeat (first | apply Kd.R_alloc | apply Kd.R_drewN | apply Kd.R_drew)); exact HO_23.out) gb224 (Nat.le_of_eq hg.symm)) hb); have n2_ := Aside0.mk (Kd.N_below (Kd.N_elderB (by (with_reducible repeat (first | apply Kd.N_alloc | apply Kd.N_drewN | apply Kd.N_drew)); exact HO_220002.out) gb224 (Nat.le_of_eq hg.symm)) hb); have n3_ := Aside0.mk (blk_below (g := gb217) (o := .cells #[.int .i64 a0_0, .int .i64 a0_1, .int .i64 a0_2, .int .u64 a0_3, .int .u64 a0_4, .int .u64 a0_5] 24 (0, 0)) (by (with_reducible repeat (first | refine blk_drewN ?_ _ | refine blk_drew ?_ | refine blk_alloc ?_ _)); exact BK217.out) hb); have n4_ := Aside0.mk (blk_below (g := gb218) (o := .cells #[.int .u64 0, .int .u64 0, .slice none 0 0] 35 (0, 0)) (by (with_reducible repeat (first | refine blk_drewN ?_ _ | refine blk_drew ?_ | refine blk_alloc ?_ _)); exact BK218.out) hb); have n5_ := Aside0.mk (blk_below (g := gb219) (o := .cells #[.int .u64 a1, .int .u64 (IntKind.u64.wrap (a1 + (IntKind.u64.wrap ((l2.length : Int))))), u220002] 35 (0, 0)) (by (with_reducible repeat (first | refine blk_drewN ?_ _ | refine blk_drew ?_ | refine blk_alloc ?_ _)); exact BK219.out) hb); have n6_ := Aside0.mk (below_step (by repeat (first | (with_reducible first | exact HB.out | apply below_alloc | apply pw_below_drewN | apply below_drew1 | refine below_set ?_ GE217.out | refine below_set ?_ GE218.out | refine below_set ?_ GE219.out) | exact HB.out)) hb); have n7_ := Aside0.mk (hbox); have n8_ := Aside0.mk ((by rw [hg]; exact (below_size (by repeat (first | (with_reducible first | exact HB.out | apply below_alloc | apply pw_below_drewN | apply below_drew1 | refine below_set ?_ GE217.out | refine below_set ?_ GE218.out | refine below_set ?_ GE219.out) | exact HB.out))) : w.heap.size ≤ gb224)); have n9_ := Aside0.mk ((by rw [hg]; exact (below_size (by repeat (first | (with_reducible first | exact HB.out | apply below_alloc | apply pw_below_drewN | apply below_drew1 | refine below_set ?_ GE217.out | refine below_set ?_ GE218.out | refine below_set ?_ GE219.out) | exact HB.out))) : w.heap.size ≤ gb224)); have n10_ := Aside0.mk ((by rw [hg]; exact Nat.ne_of_lt (blk_lt (g := gb217) (o := .cells #[.int .i64 a0_0, .int .i64 a0_1, .int .i64 a0_2, .int .u64 a0_3, .int .u64 a0_4, .int .u64 a0_5] 24 (0, 0)) (by (with_reducible repeat (first | refine blk_drewN ?_ _ | refine blk_drew ?_ | refine blk_alloc ?_ _)); exact BK217.out)) : gb217 ≠ gb224)); have n11_ := Aside0.mk ((by rw [hg]; exact Nat.ne_of_gt (blk_lt (g := gb217) (o := .cells #[.int .i64 a0_0, .int .i64 a0_1, .int .i64 a0_2, .int .u64 a0_3, .int .u64 a0_4, .int .u64 a0_5] 24 (0, 0)) (by (with_reducible repeat (first | refine blk_drewN ?_ _ | refine blk_drew ?_ | refine blk_alloc ?_ _)); exact BK217.out)) : gb224 ≠ gb217)); have n12_ := Aside0.mk ((by rw [hg]; exact Nat.ne_of_lt (blk_lt (g := gb218) (o := .cells #[.int .u64 0, .int .u64 0, .slice none 0 0] 35 (0, 0)) (by (with_reducible repeat (first | refine blk_drewN ?_ _ | refine blk_drew ?_ | refine blk_alloc ?_ _)); exact BK218.out)) : gb218 ≠ gb224)); have n13_ := Aside0.mk ((by rw [hg]; exact Nat.ne_of_gt (blk_lt (g := gb218) (o := .cells #[.int .u64 0, .int .u64 0, .slice none 0 0] 35 (0, 0)) (by (with_reducible repeat (first | refine blk_drewN ?_ _ | refine blk_drew ?_ | refine blk_alloc ?_ _)); exact BK218.out)) : gb224 ≠ gb218)); have n14_ := Aside0.mk ((by rw [hg]; exact Nat.ne_of_lt (blk_lt (g := gb219) (o := .cells #[.int .u64 a1, .int .u64 (IntKind.u64.wrap (a1 + (IntKind.u64.wrap ((l2.length : Int))))), u220002] 35 (0, 0)) (by (with_reducible repeat (first | refine blk_drewN ?_ _ | refine blk_drew ?_ | refine blk_alloc ?_ _)); exact BK219.out)) : gb219 ≠ gb224)); have n15_ := Aside0.mk ((by rw [hg]; exact Nat.ne_of_gt (blk_lt (g := gb219) (o := .cells #[.int .u64 a1, .int .u64 (IntKind.u64.wrap (a1 + (IntKind.u64.wrap ((l2.length : Int))))), u220002] 35 (0, 0)) (by (with_reducible repeat (first | refine blk_drewN ?_ _ | refine blk_drew ?_ | refine blk_alloc ?_ _)); exact BK219.out)) : gb224 ≠ gb219)); clear HO_2; clear HO_23; clear HO_220002; clear BK217; clear BK218; clear BK219; clear HB; have HO_2 := n0_; have HO_23 := n1_; have HO_220002 := n2_; have BK217 := n3_; have BK218 := n4_; have BK219 := n5_; have HB := n6_; have BK224 := n7_; have GW224 := n8_; have GE224 := n9_; have NB217_224 := n10_; have NB224_217 := n11_; have NB218_224 := n12_; have NB224_218 := n13_; have NB219_224 := n14_; have NB224_219 := n15_; clear n0_ n1_ n2_ n3_ n4_ n5_ n6_ n7_ n8_ n9_ n10_ n11_ n12_ n13_ n14_ n15_; clear hb hbox hg; have hnb24 := NB224_217.out; have hnc24 := NB217_224.out; have hnb25 := NB224_218.out; have hnc25 := NB218_224.out; have hnb26 := NB224_219.out; have hnc26 := NB219_224.out; have hcz27_0 : w23.cell? ⟨gb224, 0, none⟩ = some (.int .u64 0) := (blk_cell BK224.out 0).trans rfl; have hcz27_1 : w23.cell? ⟨gb224, 1, none⟩ = some (.int .u64 0) := (blk_cell BK224.out 1).trans rfl; have hfz27_0 := blk_frozen BK224.out 0; have hfz27_1 := blk_frozen BK224.out 1) | ((with_reducible refine gate_callee (f := 30) rfl ?_); refine goesL_ (some 30) rfl rfl Tryd.func30 (by kernel_rfl) rfl #[.agg #[.int .u64 ((rd_T52 t220 x25_1).f0), .int .u64 ((rd_T52 t220 x25_1).f1)]] rfl (by (try simp only [List.map_toArray, List.map_cons, List.map_nil]); first | done | rfl | (simp only [List.length_drop, List.length_take]; rfl)) ?_; (with_reducible refine (spec_Leaves.calls ((rd_T52 t220 x25_1).f0) ((rd_T52 t220 x25_1).f1) t225 t226 _ A16.out).mono ?_); rintro e w28 ⟨rfl, hb⟩; refine ⟨_, rfl, ?_⟩; have n0_ := Aside0.mk (Kd.V_below (by (with_reducible repeat (first | apply Kd.V_alloc | apply Kd.V_drewN | apply Kd.V_drew)); exact (Kd.V_mono (Kd.V_far (p := ⟨gb224, 1, none⟩) (Kd.V_far (p := ⟨gb224, 0, none⟩) (Kd.V_mono HO_2.out (fun k_ hk => (⟨hk, hk.2⟩ : _ ∧ k_ ≠ gb224))) (fun _ hk => hk.2) (.int .u64 ((rd_T52 t220 x25_1).f0))) (fun _ hk => hk.2) (.int .u64 ((rd_T52 t220 x25_1).f1))) (fun _ h_ => h_.1))) hb); have n1_ := Aside0.mk (Kd.R_below (by (with_reducible repeat (first | apply Kd.R_alloc | apply Kd.R_drewN | apply Kd.R_drew)); exact (Kd.R_mono (Kd.R_far (p := ⟨gb224, 1, none⟩) (Kd.R_far (p := ⟨gb224, 0, none⟩) (Kd.R_mono HO_23.out (fun k_ hk => (⟨hk, hk.2⟩ : _ ∧ k_ ≠ gb224))) (fun _ hk => hk.2) (.int .u64 ((rd_T52 t220 x25_1).f0))) (fun _ hk => hk.2) (.int .u64 ((rd_T52 t220 x25_1).f1))) (fun _ h_ => h_.1))) hb); have n2_ := Aside0.mk (Kd.N_below (by (with_reducible repeat (first | apply Kd.N_alloc | apply Kd.N_drewN | apply Kd.N_drew)); exact (Kd.N_mono (Kd.N_far (p := ⟨gb224, 1, none⟩) (Kd.N_far (p := ⟨gb224, 0, none⟩) (Kd.N_mono HO_220002.out (fun k_ hk => (⟨hk, hk.2⟩ : _ ∧ k_ ≠ gb224))) (fun _ hk => hk.2) (.int .u64 ((rd_T52 t220 x25_1).f0))) (fun _ hk => hk.2) (.int .u64 ((rd_T52 t220 x25_1).f1))) (fun _ h_ => h_.1))) hb); have n3_ := Aside0.mk (blk_below (g := gb217) (o := .cells #[.int .i64 a0_0, .int .i64 a0_1, .int .i64 a0_2, .int .u64 a0_3, .int .u64 a0_4, .int .u64 a0_5] 24 (0, 0)) (by (with_reducible repeat (first | refine blk_drewN ?_ _ | refine blk_drew ?_ | refine blk_alloc ?_ _)); refine blk_far ?_ NB217_224.out _; (with_reducible repeat (first | refine blk_drewN ?_ _ | refine blk_drew ?_ | refine blk_alloc ?_ _)); refine blk_far ?_ NB217_224.out _; (with_reducible repeat (first | refine blk_drewN ?_ _ | refine blk_drew ?_ | refine blk_alloc ?_ _)); exact BK217.out) hb); have n4_ := Aside0.mk (blk_below (g := gb218) (o := .cells #[.int .u64 0, .int .u64 0, .slice none 0 0] 35 (0, 0)) (by (with_reducible repeat (first | refine blk_drewN ?_ _ | refine blk_drew ?_ | refine blk_alloc ?_ _)); refine blk_far ?_ NB218_224.out _; (with_reducible repeat (first | refine blk_drewN ?_ _ | refine blk_drew ?_ | refine blk_alloc ?_ _)); refine blk_far ?_ NB218_224.out _; (with_reducible repeat (first | refine blk_drewN ?_ _ | refine blk_drew ?_ | refine blk_alloc ?_ _)); exact BK218.out) hb); have n5_ := Aside0.mk (blk_below (g := gb219) (o := .cells #[.int .u64 a1, .int .u64 (IntKind.u64.wrap (a1 + (IntKind.u64.wrap ((l2.length : Int))))), u220002] 35 (0, 0)) (by (with_reducible repeat (first | refine blk_drewN ?_ _ | refine blk_drew ?_ | refine blk_alloc ?_ _)); refine blk_far ?_ NB219_224.out _; (with_reducible repeat (first | refine blk_drewN ?_ _ | refine blk_drew ?_ | refine blk_alloc ?_ _)); refine blk_far ?_ NB219_224.out _; (with_reducible repeat (first | refine blk_drewN ?_ _ | refine blk_drew ?_ | refine blk_alloc ?_ _)); exact BK219.out) hb); have n6_ := Aside0.mk (blk_below (g := gb224) (o := .cells #[.int .u64 ((rd_T52 t220 x25_1).f0), .int .u64 ((rd_T52 t220 x25_1).f1)] 52 (0, 0)) (by (with_reducible repeat (first | refine blk_drewN ?_ _ | refine blk_drew ?_ | refine blk_alloc ?_ _)); refine blk_put (cs := #[.int .u64 ((rd_T52 t220 x25_1).f0), .int .u64 0]) ?_ 1 _ rfl; (with_reducible repeat (first | refine blk_drewN ?_ _ | refine blk_drew ?_ | refine blk_alloc ?_ _)); refine blk_put (cs := #[.int .u64 0, .int .u64 0]) ?_ 0 _ rfl; (with_reducible repeat (first | refine blk_drewN ?_ _ | refine blk_drew ?_ | refine blk_alloc ?_ _)); exact BK224.out) hb); have n7_ := Aside0.mk (below_step (by repeat (first | (with_reducible first | exact HB.out | apply below_alloc | apply pw_below_drewN | apply below_drew1 | refine below_set ?_ GE217.out | refine below_set ?_ GE218.out | refine below_set ?_ GE219.out | refine below_set ?_ GE224.out) | exact HB.out)) hb); clear HO_2; clear HO_23; clear HO_220002; clear BK217; clear BK218; clear BK219; clear BK224; clear HB; have HO_2 := n0_; have HO_23 := n1_; have HO_220002 := n2_; have BK217 := n3_; have BK218 := n4_; have BK219 := n5_; have BK224 := n6_; have HB := n7_; clear n0_ n1_ n2_ n3_ n4_ n5_ n6_ n7_; (try clear hb); (try clear hb2); (try clear hk); (try clear hi)) | ((with_reducible refine gate_dst (N := 10) rfl ?_); refine box_event ?hg (N := 10) ?hd (cs := #[.int .u64 0, .int .u64 0]) (t := 55) ?hr ?_; (case hd => rfl); (case hg => rfl); (case hr => first | (go_simp; done) | (go_simp; rfl)); intro gb227 hg w29 hbox hb; have n0_ := Aside0.mk (Kd.V_below (Kd.V_elderB (by (with_reducible repeat (first | apply Kd.V_alloc | apply Kd.V_drewN | apply Kd.V_drew)); exact HO_2.out) gb227 (Nat.le_of_eq hg.symm)) hb); have n1_ := Aside0.mk (Kd.R_below (by (with_reducible repeat (first | apply Kd.R_alloc | apply Kd.R_drewN | apply Kd.R_drew)); exact HO_23.out) hb); have n2_ := Aside0.mk (Kd.N_below (Kd.N_elderB (by (with_reducible repeat (first | apply Kd.N_alloc | apply Kd.N_drewN | apply Kd.N_drew)); exact HO_220002.out) gb227 (Nat.le_of_eq hg.symm)) hb); have n3_ := Aside0.mk (blk_below (g := gb217) (o := .cells #[.int .i64 a0_0, .int .i64 a0_1, .int .i64 a0_2, .int .u64 a0_3, .int .u64 a0_4, .int .u64 a0_5] 24 (0, 0)) (by (with_reducible repeat (first | refine blk_drewN ?_ _ | refine blk_drew ?_ | refine blk_alloc ?_ _)); exact BK217.out) hb); have n4_ := Aside0.mk (blk_below (g := gb218) (o := .cells #[.int .u64 0, .int .u64 0, .slice none 0 0] 35 (0, 0)) (by (with_reducible repeat (first | refine blk_drewN ?_ _ | refine blk_drew ?_ | refine blk_alloc ?_ _)); exact BK218.out) hb); have n5_ := Aside0.mk (blk_below (g := gb219) (o := .cells #[.int .u64 a1, .int .u64 (IntKind.u64.wrap (a1 + (IntKind.u64.wrap ((l2.length : Int))))), u220002] 35 (0, 0)) (by (with_reducible repeat (first | refine blk_drewN ?_ _ | refine blk_drew ?_ | refine blk_alloc ?_ _)); exact BK219.out) hb); have n6_ := Aside0.mk (blk_below (g := gb224) (o := .cells #[.int .u64 ((rd_T52 t220 x25_1).f0), .int .u64 ((rd_T52 t220 x25_1).f1)] 52 (0, 0)) (by (with_reducible repeat (first | refine blk_drewN ?_ _ | refine blk_drew ?_ | refine blk_alloc ?_ _)); exact BK224.out) hb); have n7_ := Aside0.mk (below_step (by repeat (first | (with_reducible first | exact HB.out | apply below_alloc | apply pw_below_drewN | apply below_drew1 | refine below_set ?_ GE217.out | refine below_set ?_ GE218.out | refine below_set ?_ GE219.out | refine below_set ?_ GE224.out) | exact HB.out)) hb); have n8_ := Aside0.mk (hbox); have n9_ := Aside0.mk ((by rw [hg]; exact (below_size (by repeat (first | (with_reducible first | exact HB.out | apply below_alloc | apply pw_below_drewN | apply below_drew1 | refine below_set ?_ GE217.out | refine below_set ?_ GE218.out | refine below_set ?_ GE219.out | refine below_set ?_ GE224.out) | exact HB.out))) : w.heap.size ≤ gb227)); have n10_ := Aside0.mk ((by rw [hg]; exact (below_size (by repeat (first | (with_reducible first | exact HB.out | apply below_alloc | apply pw_below_drewN | apply below_drew1 | refine below_set ?_ GE217.out | refine below_set ?_ GE218.out | refine below_set ?_ GE219.out | refine below_set ?_ GE224.out) | exact HB.out))) : w.heap.size ≤ gb227)); have n11_ := Aside0.mk ((by rw [hg]; exact Nat.ne_of_lt (blk_lt (g := gb217) (o := .cells #[.int .i64 a0_0, .int .i64 a0_1, .int .i64 a0_2, .int .u64 a0_3, .int .u64 a0_4, .int .u64 a0_5] 24 (0, 0)) (by (with_reducible repeat (first | refine blk_drewN ?_ _ | refine blk_drew ?_ | refine blk_alloc ?_ _)); exact BK217.out)) : gb217 ≠ gb227)); have n12_ := Aside0.mk ((by rw [hg]; exact Nat.ne_of_gt (blk_lt (g := gb217) (o := .cells #[.int .i64 a0_0, .int .i64 a0_1, .int .i64 a0_2, .int .u64 a0_3, .int .u64 a0_4, .int .u64 a0_5] 24 (0, 0)) (by (with_reducible repeat (first | refine blk_drewN ?_ _ | refine blk_drew ?_ | refine blk_alloc ?_ _)); exact BK217.out)) : gb227 ≠ gb217)); have n13_ := Aside0.mk ((by rw [hg]; exact Nat.ne_of_lt (blk_lt (g := gb218) (o := .cells #[.int .u64 0, .int .u64 0, .slice none 0 0] 35 (0, 0)) (by (with_reducible repeat (first | refine blk_drewN ?_ _ | refine blk_drew ?_ | refine blk_alloc ?_ _)); exact BK218.out)) : gb218 ≠ gb227)); have n14_ := Aside0.mk ((by rw [hg]; exact Nat.ne_of_gt (blk_lt (g := gb218) (o := .cells #[.int .u64 0, .int .u64 0, .slice none 0 0] 35 (0, 0)) (by (with_reducible repeat (first | refine blk_drewN ?_ _ | refine blk_drew ?_ | refine blk_alloc ?_ _)); exact BK218.out)) : gb227 ≠ gb218)); have n15_ := Aside0.mk ((by rw [hg]; exact Nat.ne_of_lt (blk_lt (g := gb219) (o := .cells #[.int .u64 a1, .int .u64 (IntKind.u64.wrap (a1 + (IntKind.u64.wrap ((l2.length : Int))))), u220002] 35 (0, 0)) (by (with_reducible repeat (first | refine blk_drewN ?_ _ | refine blk_drew ?_ | refine blk_alloc ?_ _)); exact BK219.out)) : gb219 ≠ gb227)); have n16_ := Aside0.mk ((by rw [hg]; exact Nat.ne_of_gt (blk_lt (g := gb219) (o := .cells #[.int .u64 a1, .int .u64 (IntKind.u64.wrap (a1 + (IntKind.u64.wrap ((l2.length : Int))))), u220002] 35 (0, 0)) (by (with_reducible repeat (first | refine blk_drewN ?_ _ | refine blk_drew ?_ | refine blk_alloc ?_ _)); exact BK219.out)) : gb227 ≠ gb219)); have n17_ := Aside0.mk ((by rw [hg]; exact Nat.ne_of_lt (blk_lt (g := gb224) (o := .cells #[.int .u64 ((rd_T52 t220 x25_1).f0), .int .u64 ((rd_T52 t220 x25_1).f1)] 52 (0, 0)) (by (with_reducible repeat (first | refine blk_drewN ?_ _ | refine blk_drew ?_ | refine blk_alloc ?_ _)); exact BK224.out)) : gb224 ≠ gb227)); have n18_ := Aside0.mk ((by rw [hg]; exact Nat.ne_of_gt (blk_lt (g := gb224) (o := .cells #[.int .u64 ((rd_T52 t220 x25_1).f0), .int .u64 ((rd_T52 t220 x25_1).f1)] 52 (0, 0)) (by (with_reducible repeat (first | refine blk_drewN ?_ _ | refine blk_drew ?_ | refine blk_alloc ?_ _)); exact BK224.out)) : gb227 ≠ gb224)); clear HO_2; clear HO_23; clear HO_220002; clear BK217; clear BK218; clear BK219; clear BK224; clear HB; have HO_2 := n0_; have HO_23 := n1_; have HO_220002 := n2_; have BK217 := n3_; have BK218 := n4_; have BK219 := n5_; have BK224 := n6_; have HB := n7_; have BK227 := n8_; have GW227 := n9_; have GE227 := n10_; have NB217_227 := n11_; have NB227_217 := n12_; have NB218_227 := n13_; have NB227_218 := n14_; have NB219_227 := n15_; have NB227_219 := n16_; have NB224_227 := n17_; have NB227_224 := n18_; clear n0_ n1_ n2_ n3_ n4_ n5_ n6_ n7_ n8_ n9_ n10_ n11_ n12_ n13_ n14_ n15_ n16_ n17_ n18_; clear hb hbox hg; have hnb30 := NB227_217.out; have hnc30 := NB217_227.out; have hnb31 := NB227_218.out; have hnc31 := NB218_227.out; have hnb32 := NB227_219.out; have hnc32 := NB219_227.out; have hnb33 := NB227_224.out; have hnc33 := NB224_227.out; have hcz34_0 : w29.cell? ⟨gb227, 0, none⟩ = some (.int .u64 0) := (blk_cell BK227.out 0).trans rfl; have hcz34_1 : w29.cell? ⟨gb227, 1, none⟩ = some (.int .u64 0) := (blk_cell BK227.out 1).trans rfl; have hfz34_0 := blk_frozen BK227.out 0; have hfz34_1 := blk_frozen BK227.out 1))
                    have n0_ : Aside0 (Kd.V (Kd.slice 5 (Kd.int .u8)) 28 ((w29.setCell ⟨gb227, 0, none⟩ (.int .u64 t225)).setCell ⟨gb227, 1, none⟩ (.int .u64 t226)) w.heap.size (fun k_ => (P2_ k_ ∨ w.heap.size ≤ k_) ∧ some k_ ≠ (.slice (some ad223) t220.length co12 : Value).ownBlock ∧ some k_ ≠ (u220002 : Value).ownBlock ∧ k_ ≠ gb217 ∧ k_ ≠ gb218 ∧ k_ ≠ gb219 ∧ k_ ≠ gb224 ∧ k_ ≠ gb227) (.slice A2 l2.length c2) l2) := ⟨by (with_reducible repeat (first | apply Kd.V_alloc | apply Kd.V_drewN | apply Kd.V_drew)); exact Kd.V_mono (Kd.V_far (p := ⟨gb227, 1, none⟩) (Kd.V_far (p := ⟨gb227, 0, none⟩) (Kd.V_mono HO_2.out (fun k_ hk => (⟨hk, hk.2⟩ : _ ∧ k_ ≠ gb227))) (fun _ hk => hk.2) (.int .u64 t225)) (fun _ hk => hk.2) (.int .u64 t226)) (fun _ hk => ⟨hk.1.1.1.1, ⟨hk.1.1.1.2.1, ⟨hk.1.1.1.2.2.1, ⟨hk.1.1.1.2.2.2.1, ⟨hk.1.1.1.2.2.2.2.1, ⟨hk.1.1.1.2.2.2.2.2, ⟨hk.1.1.2, hk.1.2⟩⟩⟩⟩⟩⟩⟩)⟩
                    have n1_ : Aside0 (Kd.R k52 52 ((w29.setCell ⟨gb227, 0, none⟩ (.int .u64 t225)).setCell ⟨gb227, 1, none⟩ (.int .u64 t226)) w.heap.size (fun k_ => (w.heap.size ≤ k_) ∧ k_ ≠ gb224) (.slice (some ad223) t220.length co12) t220) := ⟨by (with_reducible repeat (first | apply Kd.R_alloc | apply Kd.R_drewN | apply Kd.R_drew)); exact Kd.R_mono (Kd.R_far (p := ⟨gb227, 1, none⟩) (Kd.R_far (p := ⟨gb227, 0, none⟩) (Kd.R_types HO_23.out BK227.out (by decide)) (fun _ hk => hk.2) (.int .u64 t225)) (fun _ hk => hk.2) (.int .u64 t226)) (fun _ hk => ⟨hk.1.1, hk.1.2⟩)⟩
                    have n2_ : Aside0 (Kd.N (Kd.slice 5 (Kd.int .u8)) 28 ((w29.setCell ⟨gb227, 0, none⟩ (.int .u64 t225)).setCell ⟨gb227, 1, none⟩ (.int .u64 t226)) w.heap.size (fun k_ => (P2_ k_ ∨ w.heap.size ≤ k_) ∧ some k_ ≠ (.slice (some ad223) t220.length co12 : Value).ownBlock ∧ k_ ≠ gb217 ∧ k_ ≠ gb218 ∧ k_ ≠ gb219 ∧ k_ ≠ gb224 ∧ k_ ≠ gb227) u220002 x220002_1) := ⟨by (with_reducible repeat (first | apply Kd.N_alloc | apply Kd.N_drewN | apply Kd.N_drew)); exact Kd.N_mono (Kd.N_far (p := ⟨gb227, 1, none⟩) (Kd.N_far (p := ⟨gb227, 0, none⟩) (Kd.N_mono HO_220002.out (fun k_ hk => (⟨hk, hk.2⟩ : _ ∧ k_ ≠ gb227))) (fun _ hk => hk.2) (.int .u64 t225)) (fun _ hk => hk.2) (.int .u64 t226)) (fun _ hk => ⟨hk.1.1.1.1, ⟨hk.1.1.1.2.1, ⟨hk.1.1.1.2.2.1, ⟨hk.1.1.1.2.2.2.1, ⟨hk.1.1.1.2.2.2.2, ⟨hk.1.1.2, hk.1.2⟩⟩⟩⟩⟩⟩)⟩
                    have n3_ : Aside0 (((w29.setCell ⟨gb227, 0, none⟩ (.int .u64 t225)).setCell ⟨gb227, 1, none⟩ (.int .u64 t226)).heap[gb217]? = some (.cells #[.int .i64 a0_0, .int .i64 a0_1, .int .i64 a0_2, .int .u64 a0_3, .int .u64 a0_4, .int .u64 a0_5] 24 (0, 0))) := ⟨by (with_reducible repeat (first | refine blk_drewN ?_ _ | refine blk_drew ?_ | refine blk_alloc ?_ _)); refine blk_far ?_ NB217_227.out _; (with_reducible repeat (first | refine blk_drewN ?_ _ | refine blk_drew ?_ | refine blk_alloc ?_ _)); refine blk_far ?_ NB217_227.out _; (with_reducible repeat (first | refine blk_drewN ?_ _ | refine blk_drew ?_ | refine blk_alloc ?_ _)); exact BK217.out⟩
                    have n4_ : Aside0 (((w29.setCell ⟨gb227, 0, none⟩ (.int .u64 t225)).setCell ⟨gb227, 1, none⟩ (.int .u64 t226)).heap[gb218]? = some (.cells #[.int .u64 0, .int .u64 0, .slice none 0 0] 35 (0, 0))) := ⟨by (with_reducible repeat (first | refine blk_drewN ?_ _ | refine blk_drew ?_ | refine blk_alloc ?_ _)); refine blk_far ?_ NB218_227.out _; (with_reducible repeat (first | refine blk_drewN ?_ _ | refine blk_drew ?_ | refine blk_alloc ?_ _)); refine blk_far ?_ NB218_227.out _; (with_reducible repeat (first | refine blk_drewN ?_ _ | refine blk_drew ?_ | refine blk_alloc ?_ _)); exact BK218.out⟩
                    have n5_ : Aside0 (((w29.setCell ⟨gb227, 0, none⟩ (.int .u64 t225)).setCell ⟨gb227, 1, none⟩ (.int .u64 t226)).heap[gb219]? = some (.cells #[.int .u64 a1, .int .u64 (IntKind.u64.wrap (a1 + (IntKind.u64.wrap ((l2.length : Int))))), u220002] 35 (0, 0))) := ⟨by (with_reducible repeat (first | refine blk_drewN ?_ _ | refine blk_drew ?_ | refine blk_alloc ?_ _)); refine blk_far ?_ NB219_227.out _; (with_reducible repeat (first | refine blk_drewN ?_ _ | refine blk_drew ?_ | refine blk_alloc ?_ _)); refine blk_far ?_ NB219_227.out _; (with_reducible repeat (first | refine blk_drewN ?_ _ | refine blk_drew ?_ | refine blk_alloc ?_ _)); exact BK219.out⟩
                    have n6_ : Aside0 (((w29.setCell ⟨gb227, 0, none⟩ (.int .u64 t225)).setCell ⟨gb227, 1, none⟩ (.int .u64 t226)).heap[gb224]? = some (.cells #[.int .u64 ((rd_T52 t220 x25_1).f0), .int .u64 ((rd_T52 t220 x25_1).f1)] 52 (0, 0))) := ⟨by (with_reducible repeat (first | refine blk_drewN ?_ _ | refine blk_drew ?_ | refine blk_alloc ?_ _)); refine blk_far ?_ NB224_227.out _; (with_reducible repeat (first | refine blk_drewN ?_ _ | refine blk_drew ?_ | refine blk_alloc ?_ _)); refine blk_far ?_ NB224_227.out _; (with_reducible repeat (first | refine blk_drewN ?_ _ | refine blk_drew ?_ | refine blk_alloc ?_ _)); exact BK224.out⟩
                    have n7_ : Aside0 (((w29.setCell ⟨gb227, 0, none⟩ (.int .u64 t225)).setCell ⟨gb227, 1, none⟩ (.int .u64 t226)).heap[gb227]? = some (.cells #[.int .u64 t225, .int .u64 t226] 55 (0, 0))) := ⟨by (with_reducible repeat (first | refine blk_drewN ?_ _ | refine blk_drew ?_ | refine blk_alloc ?_ _)); refine blk_put (cs := #[.int .u64 t225, .int .u64 0]) ?_ 1 _ rfl; (with_reducible repeat (first | refine blk_drewN ?_ _ | refine blk_drew ?_ | refine blk_alloc ?_ _)); refine blk_put (cs := #[.int .u64 0, .int .u64 0]) ?_ 0 _ rfl; (with_reducible repeat (first | refine blk_drewN ?_ _ | refine blk_drew ?_ | refine blk_alloc ?_ _)); exact BK227.out⟩
                    have n8_ : Aside0 (Below w.heap.size w ((w29.setCell ⟨gb227, 0, none⟩ (.int .u64 t225)).setCell ⟨gb227, 1, none⟩ (.int .u64 t226))) := ⟨by repeat (first | (with_reducible first | exact HB.out | apply below_alloc | apply pw_below_drewN | apply below_drew1 | refine below_set ?_ GE217.out | refine below_set ?_ GE218.out | refine below_set ?_ GE219.out | refine below_set ?_ GE224.out | refine below_set ?_ GE227.out) | exact HB.out)⟩
                    (try clear HO_2)
                    (try clear HO_23)
                    (try clear HO_220002)
                    (try clear BK217)
                    (try clear BK218)
                    (try clear BK219)
                    (try clear BK224)
                    (try clear BK227)
                    (try clear HB)
                    generalize ((w29.setCell ⟨gb227, 0, none⟩ (.int .u64 t225)).setCell ⟨gb227, 1, none⟩ (.int .u64 t226)) = w35 at n0_ n1_ n2_ n3_ n4_ n5_ n6_ n7_ n8_ ⊢
                    have HO_2 := n0_
                    have HO_23 := n1_
                    have HO_220002 := n2_
                    have BK217 := n3_
                    have BK218 := n4_
                    have BK219 := n5_
                    have BK224 := n6_
                    have BK227 := n7_
                    have HB := n8_
                    clear n0_ n1_ n2_ n3_ n4_ n5_ n6_ n7_ n8_
                    have n0_ := Aside0.mk (Kd.V_drew HO_2.out)
                    have n1_ := Aside0.mk (Kd.R_drew HO_23.out)
                    have n2_ := Aside0.mk (Kd.N_drew HO_220002.out)
                    have n3_ := Aside0.mk (blk_drew BK217.out)
                    have n4_ := Aside0.mk (blk_drew BK218.out)
                    have n5_ := Aside0.mk (blk_drew BK219.out)
                    have n6_ := Aside0.mk (blk_drew BK224.out)
                    have n7_ := Aside0.mk (blk_drew BK227.out)
                    have n8_ := Aside0.mk (below_drew1 HB.out)
                    clear HO_2
                    clear HO_23
                    clear HO_220002
                    clear BK217
                    clear BK218
                    clear BK219
                    clear BK224
                    clear BK227
                    clear HB
                    have HO_2 := n0_
                    have HO_23 := n1_
                    have HO_220002 := n2_
                    have BK217 := n3_
                    have BK218 := n4_
                    have BK219 := n5_
                    have BK224 := n6_
                    have BK227 := n7_
                    have HB := n8_
                    clear n0_ n1_ n2_ n3_ n4_ n5_ n6_ n7_ n8_
                    have q37 : ((IntKind.u64.wrap (t226 - a1)) : Int) ≤ ((l2.length : Int) : Int) := of_decide_eq_true (by first | (with_reducible assumption) | assumption)
                    obtain ⟨i037, hi037, _, hsz37, _⟩ := info_parts info28
                    have hroom37 : l2.length ≤ c2 := (Kd.V_reads' HO_2.out).2.1
                    have hC37 : Kd.F (Kd.slice 5 (Kd.int .u8)) _ _ A2 l2.length l2 := (Kd.V_at (base := w.heap.size) HO_2.out).2.2
                    have ql37 : ((ji17) : Int) ≤ ((IntKind.u64.wrap (t226 - a1)) : Int) := of_decide_eq_true (by first | (with_reducible assumption) | assumption)
                    have q037 : (0 : Int) ≤ ((ji17) : Int) := of_decide_eq_true (by first | (with_reducible assumption) | assumption)
                    have hcut37 := cut_mid (P := Tryd.prog) 25 28 .u64 .u64 Tryd.underlying25 hi037 1 hsz37 A2 l2.length c2 (ji17) (IntKind.u64.wrap (t226 - a1)) q037 ql37 q37 hroom37
                    have hr37 := Kd.F_mid (lo := ((ji17) : Int).toNat) (hi := ((IntKind.u64.wrap (t226 - a1)) : Int).toNat) (c := c2) hC37 (by omega) (by omega) hroom37
                    obtain ⟨A37, hA37⟩ : ∃ Aq_, Aq_ = (if c2 = ((ji17) : Int).toNat then A2 else (A2 : Option Addr).map (·.add (((ji17) : Int).toNat * 1))) := ⟨_, rfl⟩
                    obtain ⟨c37, hc37⟩ : ∃ cq_, cq_ = c2 - ((ji17) : Int).toNat := ⟨_, rfl⟩
                    have hy37 : y228.length = ((IntKind.u64.wrap (t226 - a1)) : Int).toNat - ((ji17) : Int).toNat := (by rw [Ny228.out, List.length_drop, List.length_take] <;> omega)
                    rw [show ((l2).take ((IntKind.u64.wrap (t226 - a1)) : Int).toNat).drop ((ji17) : Int).toNat = y228 from Ny228.out.symm] at hr37
                    replace hr37 : Kd.F (Kd.slice 5 (Kd.int .u8)) _ _ A37 y228.length y228 := (by rw [hA37]; exact hr37)
                    rw [← hy37, ← hA37, ← hc37] at hcut37
                    have HO232 := Aside0.mk (show Kd.V (Kd.slice 5 (Kd.int .u8)) 28 _ w.heap.size _ (.slice A37 y228.length c37) y228 from Kd.V_mk (by rw [hy37, hc37]; exact Nat.sub_le_sub_right (Nat.le_trans (by omega) hroom37) _) hr37)
                    have HC232 := Aside0.mk (show y228.length ≤ c37 from by rw [hy37, hc37]; exact Nat.sub_le_sub_right (Nat.le_trans (by omega) hroom37) _)
                    clear hr37 hC37 hroom37 hi037 hsz37 hc37
                    have KY37 := Aside0.mk hy37
                    have KA37 := Aside0.mk hA37
                    clear hy37 hA37
                    replace q37 := eq_true q37
                    refine start_ (n := 18) (S := fun w' => w'.cell? ⟨gb219, 0, none⟩ = some (.int .u64 a1) ∧ w'.cell? ⟨gb219, 1, none⟩ = some (.int .u64 (IntKind.u64.wrap (a1 + (IntKind.u64.wrap ((l2.length : Int)))))) ∧ w'.cell? ⟨gb219, 2, none⟩ = some (u220002) ∧ w'.cell? ⟨gb217, 0, none⟩ = some (.int .i64 a0_0) ∧ w'.cell? ⟨gb217, 1, none⟩ = some (.int .i64 a0_1) ∧ w'.cell? ⟨gb217, 2, none⟩ = some (.int .i64 a0_2) ∧ w'.cell? ⟨gb217, 3, none⟩ = some (.int .u64 a0_3) ∧ w'.cell? ⟨gb217, 4, none⟩ = some (.int .u64 a0_4) ∧ w'.cell? ⟨gb217, 5, none⟩ = some (.int .u64 a0_5) ∧ w'.cell? ⟨gb227, 0, none⟩ = some (.int .u64 t225) ∧ w'.cell? ⟨gb227, 1, none⟩ = some (.int .u64 t226)) (ds := [17]) #[false, false, false, false, false, false, false, false, false, false, false, false, false, false, false, false, false, false] (by kernel_rfl) rfl rfl ⟨(blk_cell BK219.out 0).trans rfl, (blk_cell BK219.out 1).trans rfl, (blk_cell BK219.out 2).trans rfl, (blk_cell BK217.out 0).trans rfl, (blk_cell BK217.out 1).trans rfl, (blk_cell BK217.out 2).trans rfl, (blk_cell BK217.out 3).trans rfl, (blk_cell BK217.out 4).trans rfl, (blk_cell BK217.out 5).trans rfl, (blk_cell BK227.out 0).trans rfl, (blk_cell BK227.out 1).trans rfl⟩ (fun hHeld => ?_); refine with_tabW spec_RangeOf.tab6 spec_RangeOf.bits6 (fun HT_ HW_ => ?_)
                    generalize w35.drew = w36 at HO_2 HO_23 HO_220002 BK217 BK218 BK219 BK224 BK227 HB HO232 hHeld ⊢
                    refine pure_ (i := 0) (N := some 31) (v := ?_) (a' := ?_) #[true, false, false, false, false, false, false, false, false, false, false, false, false, false, false, false, false, false] rfl rfl (any_of HT_.out (by kernel_rfl)) (fun _ _ _ h => h) (Or.inl ⟨by rfl, ?_⟩) ?_ ?_
                    rotate_left
                    · intro w'
                      go_simp
                      with_reducible rfl
                    rotate_left
                    · simp only [Act.put, List.setIfInBounds_toArray, List.set_cons_zero, List.set_cons_succ, i64_w, i32_w]
                      rfl
                    refine pure_ (i := 3) (N := some 34) (v := ?_) (a' := ?_) #[true, false, false, true, false, false, false, false, false, false, false, false, false, false, false, false, false, false] rfl rfl (any_of HT_.out (by kernel_rfl)) (fun _ _ _ h => h) (Or.inl ⟨by rfl, ?_⟩) ?_ ?_
                    rotate_left
                    · intro w'
                      go_simp
                      with_reducible rfl
                    rotate_left
                    · simp only [Act.put, List.setIfInBounds_toArray, List.set_cons_zero, List.set_cons_succ, i64_w, i32_w]
                      rfl
                    refine pure_ (i := 4) (N := some 35) (v := ?_) (a' := ?_) #[true, false, false, true, true, false, false, false, false, false, false, false, false, false, false, false, false, false] rfl rfl (any_of HT_.out (by kernel_rfl)) (fun _ _ _ h => h) (Or.inl ⟨by rfl, ?_⟩) ?_ ?_
                    rotate_left
                    · intro w'
                      go_simp
                      with_reducible rfl
                    rotate_left
                    · simp only [Act.put, List.setIfInBounds_toArray, List.set_cons_zero, List.set_cons_succ, i64_w, i32_w]
                      rfl
                    refine pure_ (i := 6) (N := some 37) (v := ?_) (a' := ?_) #[true, false, false, true, true, false, true, false, false, false, false, false, false, false, false, false, false, false] rfl rfl (any_of HT_.out (by kernel_rfl)) (fun _ _ _ h => h) (Or.inl ⟨by rfl, ?_⟩) ?_ ?_
                    rotate_left
                    · intro w'
                      go_simp
                      with_reducible rfl
                    rotate_left
                    · simp only [Act.put, List.setIfInBounds_toArray, List.set_cons_zero, List.set_cons_succ, i64_w, i32_w]
                      rfl
                    refine pure_ (i := 8) (N := some 39) (v := ?_) (a' := ?_) #[true, false, false, true, true, false, true, false, true, false, false, false, false, false, false, false, false, false] rfl rfl (any_of HT_.out (by kernel_rfl)) (fun _ _ _ h => h) (Or.inl ⟨by rfl, ?_⟩) ?_ ?_
                    rotate_left
                    · intro w'
                      go_simp
                      with_reducible rfl
                    rotate_left
                    · simp only [Act.put, List.setIfInBounds_toArray, List.set_cons_zero, List.set_cons_succ, i64_w, i32_w]
                      rfl
                    refine pure_ (i := 10) (N := some 41) (v := ?_) (a' := ?_) #[true, false, false, true, true, false, true, false, true, false, true, false, false, false, false, false, false, false] rfl rfl (any_of HT_.out (by kernel_rfl)) (fun _ _ _ h => h) (Or.inl ⟨by rfl, ?_⟩) ?_ ?_
                    rotate_left
                    · intro w'
                      go_simp
                      with_reducible rfl
                    rotate_left
                    · simp only [Act.put, List.setIfInBounds_toArray, List.set_cons_zero, List.set_cons_succ, i64_w, i32_w]
                      rfl
                    refine take_ (i := 1) (N := some 32) (v := ?_) (a' := ?_) #[true, true, false, true, true, false, true, false, true, false, true, false, false, false, false, false, false, false] rfl rfl (take_ofW HT_.out HW_.out (by kernel_rfl)) (fun _ _ _ h => h) (Or.inl ⟨by rfl, ?_⟩) hHeld ?_ ?_
                    rotate_left
                    · rintro w' ⟨s0, s1, s2, s3, s4, s5, s6, s7, s8, s9, s10⟩
                      go_simp
                      with_reducible rfl
                    rotate_left
                    · simp only [Act.put, List.setIfInBounds_toArray, List.set_cons_zero, List.set_cons_succ, i64_w, i32_w]
                      rfl
                    refine take_ (i := 2) (N := some 33) (v := ?_) (a' := ?_) #[true, true, true, true, true, false, true, false, true, false, true, false, false, false, false, false, false, false] rfl rfl (take_ofW HT_.out HW_.out (by kernel_rfl)) (fun _ _ _ h => h) (Or.inl ⟨by rfl, ?_⟩) hHeld ?_ ?_
                    rotate_left
                    · rintro w' ⟨s0, s1, s2, s3, s4, s5, s6, s7, s8, s9, s10⟩
                      go_simp
                      with_reducible rfl
                    rotate_left
                    · simp only [Act.put, List.setIfInBounds_toArray, List.set_cons_zero, List.set_cons_succ, i64_w, i32_w]
                      rfl
                    refine take_ (i := 5) (N := some 36) (v := ?_) (a' := ?_) #[true, true, true, true, true, true, true, false, true, false, true, false, false, false, false, false, false, false] rfl rfl (take_ofW HT_.out HW_.out (by kernel_rfl)) (fun _ _ _ h => h) (Or.inl ⟨by rfl, ?_⟩) hHeld ?_ ?_
                    rotate_left
                    · rintro w' ⟨s0, s1, s2, s3, s4, s5, s6, s7, s8, s9, s10⟩
                      go_simp
                      with_reducible rfl
                    rotate_left
                    · simp only [Act.put, List.setIfInBounds_toArray, List.set_cons_zero, List.set_cons_succ, i64_w, i32_w]
                      rfl
                    refine pure_ (i := 7) (N := some 38) (v := ?_) (a' := ?_) #[true, true, true, true, true, true, true, true, true, false, true, false, false, false, false, false, false, false] rfl rfl (any_of HT_.out (by kernel_rfl)) (fun _ _ _ h => h) (Or.inl ⟨by rfl, ?_⟩) ?_ ?_
                    rotate_left
                    · intro w'
                      go_simp
                      with_reducible rfl
                    rotate_left
                    · simp only [Act.put, List.setIfInBounds_toArray, List.set_cons_zero, List.set_cons_succ, i64_w, i32_w]
                      rfl
                    refine take_ (i := 9) (N := some 40) (v := ?_) (a' := ?_) #[true, true, true, true, true, true, true, true, true, true, true, false, false, false, false, false, false, false] rfl rfl (take_ofW HT_.out HW_.out (by kernel_rfl)) (fun _ _ _ h => h) (Or.inl ⟨by rfl, ?_⟩) hHeld ?_ ?_
                    rotate_left
                    · rintro w' ⟨s0, s1, s2, s3, s4, s5, s6, s7, s8, s9, s10⟩
                      go_simp
                      with_reducible rfl
                    rotate_left
                    · simp only [Act.put, List.setIfInBounds_toArray, List.set_cons_zero, List.set_cons_succ, i64_w, i32_w]
                      rfl
                    refine pure_ (i := 11) (N := some 42) (v := ?_) (a' := ?_) #[true, true, true, true, true, true, true, true, true, true, true, true, false, false, false, false, false, false] rfl rfl (any_of HT_.out (by kernel_rfl)) (fun _ _ _ h => h) (Or.inl ⟨by rfl, ?_⟩) ?_ ?_
                    rotate_left
                    · intro w'
                      go_simp
                      with_reducible rfl
                    rotate_left
                    · simp only [Act.put, List.setIfInBounds_toArray, List.set_cons_zero, List.set_cons_succ, i64_w, i32_w]
                      rfl
                    refine pure_ (i := 12) (N := some 43) (v := ?_) (a' := ?_) #[true, true, true, true, true, true, true, true, true, true, true, true, true, false, false, false, false, false] rfl rfl (any_of HT_.out (by kernel_rfl)) (fun _ _ _ h => h) (Or.inl ⟨by rfl, ?_⟩) ?_ ?_
                    rotate_left
                    · intro w'
                      go_simp
                      with_reducible rfl
                    rotate_left
                    · simp only [Act.put, List.setIfInBounds_toArray, List.set_cons_zero, List.set_cons_succ, i64_w, i32_w]
                      rfl
                    refine one_ (i := 13) (N := some 44) #[true, true, true, true, true, true, true, true, true, true, true, true, true, true, false, false, false, false] rfl rfl (one_of HT_.out (by kernel_rfl)) (by decide) (fun K hK => ?_)
                    refine goes_ Tryd.func37 (by kernel_rfl) rfl #[.agg #[.int .i64 a0_0, .int .i64 a0_1, .int .i64 a0_2, .int .u64 a0_3, .int .u64 a0_4, .int .u64 a0_5], .slice A37 y228.length c37] (by rfl) rfl rfl (by (try simp only [List.map_toArray, List.map_cons, List.map_nil]); first | done | rfl | (simp only [List.length_drop, List.length_take]; rfl)) ?_
                    with_reducible refine (spec_Root.calls k1 a0_0 a0_1 a0_2 a0_3 a0_4 a0_5 (fun k_ => ((P2_ k_ ∨ w.heap.size ≤ k_) ∧ (some k_ ≠ (.slice (some ad223) t220.length co12 : Value).ownBlock ∧ (some k_ ≠ (u220002 : Value).ownBlock ∧ (k_ ≠ gb217 ∧ (k_ ≠ gb218 ∧ (k_ ≠ gb219 ∧ (k_ ≠ gb224 ∧ k_ ≠ gb227)))))))) _ _ y228 t233 _ ?side1 A21.out).mono ?_
                    (case side1 => exact HO232.out)
                    rintro e w38 ⟨v234, rfl, ho0, hb⟩
                    refine ⟨_, rfl, ?_⟩
                    have n0_ := Aside0.mk (Kd.V_below (by (with_reducible repeat (first | apply Kd.V_alloc | apply Kd.V_drewN | apply Kd.V_drew)); exact HO_2.out) hb)
                    have n1_ := Aside0.mk (Kd.R_below (by (with_reducible repeat (first | apply Kd.R_alloc | apply Kd.R_drewN | apply Kd.R_drew)); exact HO_23.out) hb)
                    have n2_ := Aside0.mk (Kd.N_below (by (with_reducible repeat (first | apply Kd.N_alloc | apply Kd.N_drewN | apply Kd.N_drew)); exact HO_220002.out) hb)
                    have n3_ := Aside0.mk (Kd.V_below (by (with_reducible repeat (first | apply Kd.V_alloc | apply Kd.V_drewN | apply Kd.V_drew)); exact HO232.out) hb)
                    have n4_ := Aside0.mk (Kd.V_lower (Kd.V_mono (ok' := fun k_ => (P2_ k_ ∨ w.heap.size ≤ k_) ∧ some k_ ≠ (.slice (some ad223) t220.length co12 : Value).ownBlock ∧ some k_ ≠ (u220002 : Value).ownBlock ∧ k_ ≠ gb217 ∧ k_ ≠ gb218 ∧ k_ ≠ gb219 ∧ k_ ≠ gb224 ∧ k_ ≠ gb227) ho0 (fun k_ hk_ => ⟨Or.elim hk_ (fun hs_ => hs_.1) (fun hn_ => (.inr (Nat.le_trans (below_size (by repeat (first | (with_reducible first | exact HB.out | apply below_alloc | apply pw_below_drewN | apply below_drew1 | refine below_set ?_ GE217.out | refine below_set ?_ GE218.out | refine below_set ?_ GE219.out | refine below_set ?_ GE224.out | refine below_set ?_ GE227.out) | exact HB.out))) hn_))), Or.elim hk_ (fun hs_ => hs_.2.1) (fun hn_ => (Kd.fresh' (Kd.R_lt (by (with_reducible repeat (first | apply Kd.R_alloc | apply Kd.R_drewN | apply Kd.R_drew)); exact HO_23.out)) k_ hn_)), Or.elim hk_ (fun hs_ => hs_.2.2.1) (fun hn_ => (Kd.fresh' (Kd.N_lt (by (with_reducible repeat (first | apply Kd.N_alloc | apply Kd.N_drewN | apply Kd.N_drew)); exact HO_220002.out)) k_ hn_)), Or.elim hk_ (fun hs_ => hs_.2.2.2.1) (fun hn_ => (Kd.freshB (g := gb217) (o := .cells #[.int .i64 a0_0, .int .i64 a0_1, .int .i64 a0_2, .int .u64 a0_3, .int .u64 a0_4, .int .u64 a0_5] 24 (0, 0)) (by (with_reducible repeat (first | refine blk_drewN ?_ _ | refine blk_drew ?_ | refine blk_alloc ?_ _)); exact BK217.out) k_ hn_)), Or.elim hk_ (fun hs_ => hs_.2.2.2.2.1) (fun hn_ => (Kd.freshB (g := gb218) (o := .cells #[.int .u64 0, .int .u64 0, .slice none 0 0] 35 (0, 0)) (by (with_reducible repeat (first | refine blk_drewN ?_ _ | refine blk_drew ?_ | refine blk_alloc ?_ _)); exact BK218.out) k_ hn_)), Or.elim hk_ (fun hs_ => hs_.2.2.2.2.2.1) (fun hn_ => (Kd.freshB (g := gb219) (o := .cells #[.int .u64 a1, .int .u64 (IntKind.u64.wrap (a1 + (IntKind.u64.wrap ((l2.length : Int))))), u220002] 35 (0, 0)) (by (with_reducible repeat (first | refine blk_drewN ?_ _ | refine blk_drew ?_ | refine blk_alloc ?_ _)); exact BK219.out) k_ hn_)), Or.elim hk_ (fun hs_ => hs_.2.2.2.2.2.2.1) (fun hn_ => (Kd.freshB (g := gb224) (o := .cells #[.int .u64 ((rd_T52 t220 x25_1).f0), .int .u64 ((rd_T52 t220 x25_1).f1)] 52 (0, 0)) (by (with_reducible repeat (first | refine blk_drewN ?_ _ | refine blk_drew ?_ | refine blk_alloc ?_ _)); exact BK224.out) k_ hn_)), Or.elim hk_ (fun hs_ => hs_.2.2.2.2.2.2.2) (fun hn_ => (Kd.freshB (g := gb227) (o := .cells #[.int .u64 t225, .int .u64 t226] 55 (0, 0)) (by (with_reducible repeat (first | refine blk_drewN ?_ _ | refine blk_drew ?_ | refine blk_alloc ?_ _)); exact BK227.out) k_ hn_))⟩)) (below_size (by repeat (first | (with_reducible first | exact HB.out | apply below_alloc | apply pw_below_drewN | apply below_drew1 | refine below_set ?_ GE217.out | refine below_set ?_ GE218.out | refine below_set ?_ GE219.out | refine below_set ?_ GE224.out | refine below_set ?_ GE227.out) | exact HB.out))))
                    have n5_ := Aside0.mk (blk_below (g := gb217) (o := .cells #[.int .i64 a0_0, .int .i64 a0_1, .int .i64 a0_2, .int .u64 a0_3, .int .u64 a0_4, .int .u64 a0_5] 24 (0, 0)) (by (with_reducible repeat (first | refine blk_drewN ?_ _ | refine blk_drew ?_ | refine blk_alloc ?_ _)); exact BK217.out) hb)
                    have n6_ := Aside0.mk (blk_below (g := gb218) (o := .cells #[.int .u64 0, .int .u64 0, .slice none 0 0] 35 (0, 0)) (by (with_reducible repeat (first | refine blk_drewN ?_ _ | refine blk_drew ?_ | refine blk_alloc ?_ _)); exact BK218.out) hb)
                    have n7_ := Aside0.mk (blk_below (g := gb219) (o := .cells #[.int .u64 a1, .int .u64 (IntKind.u64.wrap (a1 + (IntKind.u64.wrap ((l2.length : Int))))), u220002] 35 (0, 0)) (by (with_reducible repeat (first | refine blk_drewN ?_ _ | refine blk_drew ?_ | refine blk_alloc ?_ _)); exact BK219.out) hb)
                    have n8_ := Aside0.mk (blk_below (g := gb224) (o := .cells #[.int .u64 ((rd_T52 t220 x25_1).f0), .int .u64 ((rd_T52 t220 x25_1).f1)] 52 (0, 0)) (by (with_reducible repeat (first | refine blk_drewN ?_ _ | refine blk_drew ?_ | refine blk_alloc ?_ _)); exact BK224.out) hb)
                    have n9_ := Aside0.mk (blk_below (g := gb227) (o := .cells #[.int .u64 t225, .int .u64 t226] 55 (0, 0)) (by (with_reducible repeat (first | refine blk_drewN ?_ _ | refine blk_drew ?_ | refine blk_alloc ?_ _)); exact BK227.out) hb)
                    have n10_ := Aside0.mk (below_step (by repeat (first | (with_reducible first | exact HB.out | apply below_alloc | apply pw_below_drewN | apply below_drew1 | refine below_set ?_ GE217.out | refine below_set ?_ GE218.out | refine below_set ?_ GE219.out | refine below_set ?_ GE224.out | refine below_set ?_ GE227.out) | exact HB.out)) hb)
                    clear HO_2
                    clear HO_23
                    clear HO_220002
                    clear HO232
                    clear BK217
                    clear BK218
                    clear BK219
                    clear BK224
                    clear BK227
                    clear HB
                    have HO_2 := n0_
                    have HO_23 := n1_
                    have HO_220002 := n2_
                    have HO232 := n3_
                    have HO235 := n4_
                    have BK217 := n5_
                    have BK218 := n6_
                    have BK219 := n7_
                    have BK224 := n8_
                    have BK227 := n9_
                    have HB := n10_
                    clear n0_ n1_ n2_ n3_ n4_ n5_ n6_ n7_ n8_ n9_ n10_
                    (try clear hb)
                    (try clear hb2)
                    (try clear hk)
                    (try clear hi)
                    (try clear ho0)
                    obtain ⟨Ao40, co40, eo40⟩ := Kd.V_slice HO235.out
                    (first | subst eo40 | (injection eo40 with f1_ f2_ f3_; have f4_ := f1_.symm; have f5_ := f3_.symm; clear f1_ f2_ f3_; subst f4_; subst f5_))
                    refine hK.out _ _ ⟨(blk_cell BK219.out 0).trans rfl, (blk_cell BK219.out 1).trans rfl, (blk_cell BK219.out 2).trans rfl, (blk_cell BK217.out 0).trans rfl, (blk_cell BK217.out 1).trans rfl, (blk_cell BK217.out 2).trans rfl, (blk_cell BK217.out 3).trans rfl, (blk_cell BK217.out 4).trans rfl, (blk_cell BK217.out 5).trans rfl, (blk_cell BK227.out 0).trans rfl, (blk_cell BK227.out 1).trans rfl⟩ (fun hHeld => ?_)
                    clear hK K
                    refine norm_ (a' := ?_) ?_ ?_
                    rotate_left
                    · show Act.put _ (some 44) _ = _
                      simp only [Act.put, List.setIfInBounds_toArray, List.set_cons_zero, List.set_cons_succ, i64_w, i32_w]
                      rfl
                    refine one_ (i := 14) (N := some 45) #[true, true, true, true, true, true, true, true, true, true, true, true, true, true, true, false, false, false] rfl rfl (one_of HT_.out (by kernel_rfl)) (by decide) (fun K hK => ?_)
                    refine value_ (w1 := ?_) (v := ?_) (by rfl) rfl ?_ ?_
                    rotate_left 2
                    · go_simp
                      constructor
                      · rfl
                      · rfl
                    refine hK.out _ _ ⟨(blk_cell (blk_alloc BK219.out _) 0).trans rfl, (blk_cell (blk_alloc BK219.out _) 1).trans rfl, (blk_cell (blk_alloc BK219.out _) 2).trans rfl, (blk_cell (blk_alloc BK217.out _) 0).trans rfl, (blk_cell (blk_alloc BK217.out _) 1).trans rfl, (blk_cell (blk_alloc BK217.out _) 2).trans rfl, (blk_cell (blk_alloc BK217.out _) 3).trans rfl, (blk_cell (blk_alloc BK217.out _) 4).trans rfl, (blk_cell (blk_alloc BK217.out _) 5).trans rfl, (blk_cell (blk_alloc BK227.out _) 0).trans rfl, (blk_cell (blk_alloc BK227.out _) 1).trans rfl⟩ (fun hHeld => ?_)
                    clear hK K
                    refine norm_ (a' := ?_) ?_ ?_
                    rotate_left
                    · show Act.put _ (some 45) _ = _
                      simp only [Act.put, List.setIfInBounds_toArray, List.set_cons_zero, List.set_cons_succ, i64_w, i32_w]
                      rfl
                    refine one_ (i := 15) (N := some 46) #[true, true, true, true, true, true, true, true, true, true, true, true, true, true, true, true, false, false] rfl rfl (one_of HT_.out (by kernel_rfl)) (by decide) (fun K hK => ?_)
                    refine Kd.N_append_step (Kd.slice 5 (Kd.int .u8)) (w0 := w) w.heap.size (by rfl) (.tmp 32) (.tmp 45) 25 28 (.slice none 0 0) 24 rfl Tryd.underlying25 info28 rfl (by decide) (by omega) u220002 x220002_1 t233 [.slice Ao40 t233.length co40] (fun k_ => (P2_ k_ ∨ w.heap.size ≤ k_) ∧ some k_ ≠ (.slice (some ad223) t220.length co12 : Value).ownBlock ∧ k_ ≠ gb217 ∧ k_ ≠ gb218 ∧ k_ ≠ gb219 ∧ k_ ≠ gb224 ∧ k_ ≠ gb227) (fun k_ => ((fun k_ => (P2_ k_ ∨ w.heap.size ≤ k_) ∧ some k_ ≠ (.slice (some ad223) t220.length co12 : Value).ownBlock ∧ k_ ≠ gb217 ∧ k_ ≠ gb218 ∧ k_ ≠ gb219 ∧ k_ ≠ gb224 ∧ k_ ≠ gb227)) k_ ∧ some k_ ≠ (u220002 : Value).ownBlock) rfl rfl ?aP (fun _ hk => hk) ?aF ?aO ?aB ?aS ?aL ?_
                    (case aP => exact (Kd.FK_slice_mk (Kd.V_reads' (Kd.V_mono (ok' := (fun k_ => ((fun k_ => (P2_ k_ ∨ w.heap.size ≤ k_) ∧ some k_ ≠ (.slice (some ad223) t220.length co12 : Value).ownBlock ∧ k_ ≠ gb217 ∧ k_ ≠ gb218 ∧ k_ ≠ gb219 ∧ k_ ≠ gb224 ∧ k_ ≠ gb227)) k_ ∧ some k_ ≠ (u220002 : Value).ownBlock)) (HO235.out) (fun k_ hk => ⟨⟨hk.1, ⟨hk.2.1, ⟨hk.2.2.2.1, ⟨hk.2.2.2.2.1, ⟨hk.2.2.2.2.2.1, ⟨hk.2.2.2.2.2.2.1, hk.2.2.2.2.2.2.2⟩⟩⟩⟩⟩⟩, hk.2.2.1⟩))).2.1 (Kd.V_F (Kd.V_mono (ok' := (fun k_ => ((fun k_ => (P2_ k_ ∨ w.heap.size ≤ k_) ∧ some k_ ≠ (.slice (some ad223) t220.length co12 : Value).ownBlock ∧ k_ ≠ gb217 ∧ k_ ≠ gb218 ∧ k_ ≠ gb219 ∧ k_ ≠ gb224 ∧ k_ ≠ gb227)) k_ ∧ some k_ ≠ (u220002 : Value).ownBlock)) (HO235.out) (fun k_ hk => ⟨⟨hk.1, ⟨hk.2.1, ⟨hk.2.2.2.1, ⟨hk.2.2.2.2.1, ⟨hk.2.2.2.2.2.1, ⟨hk.2.2.2.2.2.2.1, hk.2.2.2.2.2.2.2⟩⟩⟩⟩⟩⟩, hk.2.2.1⟩)))))
                    (case aB => exact (by repeat (first | (with_reducible first | exact HB.out | apply below_alloc | apply pw_below_drewN | apply below_drew1 | refine below_set ?_ GE217.out | refine below_set ?_ GE218.out | refine below_set ?_ GE219.out | refine below_set ?_ GE224.out | refine below_set ?_ GE227.out) | exact HB.out)))
                    (case aF => exact (fun k_ hk => ⟨(.inr (Nat.le_trans (below_size (by repeat (first | (with_reducible first | exact HB.out | apply below_alloc | apply pw_below_drewN | apply below_drew1 | refine below_set ?_ GE217.out | refine below_set ?_ GE218.out | refine below_set ?_ GE219.out | refine below_set ?_ GE224.out | refine below_set ?_ GE227.out) | exact HB.out))) hk)), Kd.fresh' (Kd.R_lt (by (with_reducible repeat (first | apply Kd.R_alloc | apply Kd.R_drewN | apply Kd.R_drew)); exact HO_23.out)) k_ hk, Kd.freshB (g := gb217) (o := .cells #[.int .i64 a0_0, .int .i64 a0_1, .int .i64 a0_2, .int .u64 a0_3, .int .u64 a0_4, .int .u64 a0_5] 24 (0, 0)) (by (with_reducible repeat (first | refine blk_drewN ?_ _ | refine blk_drew ?_ | refine blk_alloc ?_ _)); exact BK217.out) k_ hk, Kd.freshB (g := gb218) (o := .cells #[.int .u64 0, .int .u64 0, .slice none 0 0] 35 (0, 0)) (by (with_reducible repeat (first | refine blk_drewN ?_ _ | refine blk_drew ?_ | refine blk_alloc ?_ _)); exact BK218.out) k_ hk, Kd.freshB (g := gb219) (o := .cells #[.int .u64 a1, .int .u64 (IntKind.u64.wrap (a1 + (IntKind.u64.wrap ((l2.length : Int))))), u220002] 35 (0, 0)) (by (with_reducible repeat (first | refine blk_drewN ?_ _ | refine blk_drew ?_ | refine blk_alloc ?_ _)); exact BK219.out) k_ hk, Kd.freshB (g := gb224) (o := .cells #[.int .u64 ((rd_T52 t220 x25_1).f0), .int .u64 ((rd_T52 t220 x25_1).f1)] 52 (0, 0)) (by (with_reducible repeat (first | refine blk_drewN ?_ _ | refine blk_drew ?_ | refine blk_alloc ?_ _)); exact BK224.out) k_ hk, Kd.freshB (g := gb227) (o := .cells #[.int .u64 t225, .int .u64 t226] 55 (0, 0)) (by (with_reducible repeat (first | refine blk_drewN ?_ _ | refine blk_drew ?_ | refine blk_alloc ?_ _)); exact BK227.out) k_ hk⟩))
                    (case aO => exact (by (with_reducible repeat (first | apply Kd.N_alloc | apply Kd.N_drewN | apply Kd.N_drew)); exact HO_220002.out))
                    (case aS => exact (below_size (by repeat (first | (with_reducible first | exact HB.out | apply below_alloc | apply pw_below_drewN | apply below_drew1 | refine below_set ?_ GE217.out | refine below_set ?_ GE218.out | refine below_set ?_ GE219.out | refine below_set ?_ GE224.out | refine below_set ?_ GE227.out) | exact HB.out))))
                    (case aL => have := LMc22.out; omega)
                    intro v237 w39 ho hb hg hat
                    rw [← Ny236.out] at ho
                    have n0_ := Aside0.mk (Kd.V_afterv (ok := (fun k_ => (P2_ k_ ∨ w.heap.size ≤ k_) ∧ some k_ ≠ (.slice (some ad223) t220.length co12 : Value).ownBlock ∧ k_ ≠ gb217 ∧ k_ ≠ gb218 ∧ k_ ≠ gb219 ∧ k_ ≠ gb224 ∧ k_ ≠ gb227)) (by (with_reducible repeat (first | apply Kd.V_alloc | apply Kd.V_drewN | apply Kd.V_drew)); exact Kd.V_mono HO_2.out (fun _ hk => ⟨⟨hk.1, ⟨hk.2.1, ⟨hk.2.2.2.1, ⟨hk.2.2.2.2.1, ⟨hk.2.2.2.2.2.1, ⟨hk.2.2.2.2.2.2.1, hk.2.2.2.2.2.2.2⟩⟩⟩⟩⟩⟩, hk.2.2.1⟩)) hg hat)
                    have n1_ := Aside0.mk (Kd.R_over' (by (with_reducible repeat (first | apply Kd.R_alloc | apply Kd.R_drewN | apply Kd.R_drew)); exact HO_23.out) (Kd.N_typed (by (with_reducible repeat (first | apply Kd.N_alloc | apply Kd.N_drewN | apply Kd.N_drew)); exact HO_220002.out)) (by decide) hg)
                    have n2_ := Aside0.mk (blk_grown (g := gb217) (o := .cells #[.int .i64 a0_0, .int .i64 a0_1, .int .i64 a0_2, .int .u64 a0_3, .int .u64 a0_4, .int .u64 a0_5] 24 (0, 0)) (by (with_reducible repeat (first | refine blk_drewN ?_ _ | refine blk_drew ?_ | refine blk_alloc ?_ _)); exact BK217.out) hg (Kd.N_ne HO_220002.out BK217.out (by decide)))
                    have n3_ := Aside0.mk (blk_grown (g := gb218) (o := .cells #[.int .u64 0, .int .u64 0, .slice none 0 0] 35 (0, 0)) (by (with_reducible repeat (first | refine blk_drewN ?_ _ | refine blk_drew ?_ | refine blk_alloc ?_ _)); exact BK218.out) hg (Kd.N_ne HO_220002.out BK218.out (by decide)))
                    have n4_ := Aside0.mk (blk_grown (g := gb219) (o := .cells #[.int .u64 a1, .int .u64 (IntKind.u64.wrap (a1 + (IntKind.u64.wrap ((l2.length : Int))))), u220002] 35 (0, 0)) (by (with_reducible repeat (first | refine blk_drewN ?_ _ | refine blk_drew ?_ | refine blk_alloc ?_ _)); exact BK219.out) hg (Kd.N_ne HO_220002.out BK219.out (by decide)))
                    have n5_ := Aside0.mk (blk_grown (g := gb224) (o := .cells #[.int .u64 ((rd_T52 t220 x25_1).f0), .int .u64 ((rd_T52 t220 x25_1).f1)] 52 (0, 0)) (by (with_reducible repeat (first | refine blk_drewN ?_ _ | refine blk_drew ?_ | refine blk_alloc ?_ _)); exact BK224.out) hg (Kd.N_ne HO_220002.out BK224.out (by decide)))
                    have n6_ := Aside0.mk (blk_grown (g := gb227) (o := .cells #[.int .u64 t225, .int .u64 t226] 55 (0, 0)) (by (with_reducible repeat (first | refine blk_drewN ?_ _ | refine blk_drew ?_ | refine blk_alloc ?_ _)); exact BK227.out) hg (Kd.N_ne HO_220002.out BK227.out (by decide)))
                    have n7_ := Aside0.mk (Kd.V_afterv (ok := (fun k_ => (P2_ k_ ∨ w.heap.size ≤ k_) ∧ some k_ ≠ (.slice (some ad223) t220.length co12 : Value).ownBlock ∧ k_ ≠ gb217 ∧ k_ ≠ gb218 ∧ k_ ≠ gb219 ∧ k_ ≠ gb224 ∧ k_ ≠ gb227)) (by (with_reducible repeat (first | apply Kd.V_alloc | apply Kd.V_drewN | apply Kd.V_drew)); exact Kd.V_mono HO232.out (fun _ hk => ⟨⟨hk.1, ⟨hk.2.1, ⟨hk.2.2.2.1, ⟨hk.2.2.2.2.1, ⟨hk.2.2.2.2.2.1, ⟨hk.2.2.2.2.2.2.1, hk.2.2.2.2.2.2.2⟩⟩⟩⟩⟩⟩, hk.2.2.1⟩)) hg hat)
                    have n8_ := Aside0.mk (Kd.V_afterv (ok := (fun k_ => (P2_ k_ ∨ w.heap.size ≤ k_) ∧ some k_ ≠ (.slice (some ad223) t220.length co12 : Value).ownBlock ∧ k_ ≠ gb217 ∧ k_ ≠ gb218 ∧ k_ ≠ gb219 ∧ k_ ≠ gb224 ∧ k_ ≠ gb227)) (by (with_reducible repeat (first | apply Kd.V_alloc | apply Kd.V_drewN | apply Kd.V_drew)); exact Kd.V_mono HO235.out (fun _ hk => ⟨⟨hk.1, ⟨hk.2.1, ⟨hk.2.2.2.1, ⟨hk.2.2.2.2.1, ⟨hk.2.2.2.2.2.1, ⟨hk.2.2.2.2.2.2.1, hk.2.2.2.2.2.2.2⟩⟩⟩⟩⟩⟩, hk.2.2.1⟩)) hg hat)
                    have n9_ := Aside0.mk (hb)
                    have n10_ := Aside0.mk (ho)
                    clear HO_2
                    clear HO_23
                    clear BK217
                    clear BK218
                    clear BK219
                    clear BK224
                    clear BK227
                    clear HO232
                    clear HO235
                    clear HB
                    clear HO_220002
                    have HO_2 := n0_
                    have HO_23 := n1_
                    have BK217 := n2_
                    have BK218 := n3_
                    have BK219 := n4_
                    have BK224 := n5_
                    have BK227 := n6_
                    have HO232 := n7_
                    have HO235 := n8_
                    have HB := n9_
                    have HO238 := n10_
                    clear n0_ n1_ n2_ n3_ n4_ n5_ n6_ n7_ n8_ n9_ n10_
                    clear ho hb hg hat
                    obtain ⟨Ao41, co41, eo41⟩ := Kd.N_slice HO238.out
                    (first | subst eo41 | (injection eo41 with f1_ f2_ f3_; have f4_ := f1_.symm; have f5_ := f3_.symm; clear f1_ f2_ f3_; subst f4_; subst f5_))
                    refine hK.out _ _ ⟨(blk_cell BK219.out 0).trans rfl, (blk_cell BK219.out 1).trans rfl, (blk_cell BK219.out 2).trans rfl, (blk_cell BK217.out 0).trans rfl, (blk_cell BK217.out 1).trans rfl, (blk_cell BK217.out 2).trans rfl, (blk_cell BK217.out 3).trans rfl, (blk_cell BK217.out 4).trans rfl, (blk_cell BK217.out 5).trans rfl, (blk_cell BK227.out 0).trans rfl, (blk_cell BK227.out 1).trans rfl⟩ (fun hHeld => ?_)
                    clear hK K
                    refine norm_ (a' := ?_) ?_ ?_
                    rotate_left
                    · show Act.put _ (some 46) _ = _
                      simp only [Act.put, List.setIfInBounds_toArray, List.set_cons_zero, List.set_cons_succ, i64_w, i32_w]
                      rfl
                    refine pure_ (i := 16) (N := some 47) (v := ?_) (a' := ?_) #[true, true, true, true, true, true, true, true, true, true, true, true, true, true, true, true, true, false] rfl rfl (any_of HT_.out (by kernel_rfl)) (fun _ _ _ h => h) (Or.inl ⟨by rfl, ?_⟩) ?_ ?_
                    rotate_left
                    · intro w'
                      go_simp
                      with_reducible rfl
                    rotate_left
                    · simp only [Act.put, List.setIfInBounds_toArray, List.set_cons_zero, List.set_cons_succ, i64_w, i32_w]
                      rfl
                    refine last_ (i := 17) (N := none) #[true, true, true, true, true, true, true, true, true, true, true, true, true, true, true, true, true, true] rfl rfl (one_of HT_.out (by kernel_rfl)) (by decide) (fun K hK => ?_)
                    have hs42 : w39.cell? ⟨gb219, 2, none⟩ = some (u220002) := (blk_cell BK219.out 2).trans rfl
                    have hfs42 := blk_frozen BK219.out 2
                    have hns42_0 := NB217_219.out
                    have hns42_1 := NB218_219.out
                    have hns42_3 := NB224_219.out
                    have hns42_4 := NB227_219.out
                    have hms42_0 := NB219_217.out
                    have hms42_1 := NB219_218.out
                    have hms42_3 := NB219_224.out
                    have hms42_4 := NB219_227.out
                    refine skip_ (w1 := ?_) (by rfl) rfl ?_ ?_
                    rotate_left
                    · go_simp
                      rfl
                    refine hK.out _ _ ?_
                    clear hK K
                    refine done_ (done_of HT_.out (by kernel_rfl)) ?_
                    try go_wp2
                    go_roundg k1
                    case measure => have := HK1.out; omega
                    case rel => exact ⟨(wrap64 (x25_1 + 1)), (y236), (.slice Ao41 y236.length co41), (by first | rfl | (simp; done) | (simp [*]; done)), H', ⟨by have := HK1.out; omega⟩, ⟨by (with_reducible repeat (first | apply Kd.V_alloc | apply Kd.V_drewN | apply Kd.V_drew)); exact Kd.V_mono (Kd.V_far (p := ⟨gb219, 2, none⟩) (Kd.V_mono HO_2.out (fun k_ hk => (⟨hk, hk.1.2.2.2.2.1⟩ : _ ∧ k_ ≠ gb219))) (fun _ hk => hk.2) (.slice Ao41 y236.length co41)) (fun _ hk => ⟨hk.1.1.1, ⟨hk.1.1.2.1, ⟨hk.1.2, ⟨hk.1.1.2.2.1, ⟨hk.1.1.2.2.2.1, hk.1.1.2.2.2.2.1⟩⟩⟩⟩⟩)⟩, ⟨by (with_reducible repeat (first | apply Kd.R_alloc | apply Kd.R_drewN | apply Kd.R_drew)); exact Kd.R_mono (Kd.R_far (p := ⟨gb219, 2, none⟩) (Kd.R_types HO_23.out BK219.out (by decide)) (fun _ hk => hk.2) (.slice Ao41 y236.length co41)) (fun _ hk => hk.1.1)⟩, ⟨by (with_reducible repeat (first | apply Kd.N_alloc | apply Kd.N_drewN | apply Kd.N_drew)); exact Kd.N_mono (Kd.N_far (p := ⟨gb219, 2, none⟩) (Kd.N_mono HO238.out (fun k_ hk => (⟨hk, hk.2.2.2.2.1⟩ : _ ∧ k_ ≠ gb219))) (fun _ hk => hk.2) (.slice Ao41 y236.length co41)) (fun _ hk => ⟨hk.1.1, ⟨hk.1.2.1, ⟨hk.1.2.2.1, ⟨hk.1.2.2.2.1, hk.1.2.2.2.2.1⟩⟩⟩⟩)⟩, ⟨by (with_reducible repeat (first | refine blk_drewN ?_ _ | refine blk_drew ?_ | refine blk_alloc ?_ _)); refine blk_far ?_ NB217_219.out _; (with_reducible repeat (first | refine blk_drewN ?_ _ | refine blk_drew ?_ | refine blk_alloc ?_ _)); exact BK217.out⟩, ⟨by (with_reducible repeat (first | refine blk_drewN ?_ _ | refine blk_drew ?_ | refine blk_alloc ?_ _)); refine blk_far ?_ NB218_219.out _; (with_reducible repeat (first | refine blk_drewN ?_ _ | refine blk_drew ?_ | refine blk_alloc ?_ _)); exact BK218.out⟩, ⟨by (with_reducible repeat (first | refine blk_drewN ?_ _ | refine blk_drew ?_ | refine blk_alloc ?_ _)); refine blk_put (cs := #[.int .u64 a1, .int .u64 (IntKind.u64.wrap (a1 + (IntKind.u64.wrap ((l2.length : Int))))), u220002]) ?_ 2 _ rfl; (with_reducible repeat (first | refine blk_drewN ?_ _ | refine blk_drew ?_ | refine blk_alloc ?_ _)); exact BK219.out⟩, ⟨by repeat (first | (with_reducible first | exact HB.out | apply below_alloc | apply pw_below_drewN | apply below_drew1 | refine below_set ?_ GE217.out | refine below_set ?_ GE218.out | refine below_set ?_ GE219.out | refine below_set ?_ GE224.out | refine below_set ?_ GE227.out) | exact HB.out)⟩⟩
                  · rw [if_neg c22] at H
                    exact absurd H (by simp)
                · rw [if_neg c20] at H
                  exact absurd H (by simp)
              · rw [if_neg c19] at H
                exact absurd H (by simp)
            · rw [if_neg c18] at H
              exact absurd H (by simp)
          · rw [if_neg c15] at H
            exact absurd H (by simp)
        · rw [if_neg c14] at H
          exact absurd H (by simp)
      · rw [if_neg c13] at H
        have c13b0 : decide (x25_1 < (t220.length : Int)) = false := decide_eq_false c13
        clear c13
        simp only [Option.some.injEq, Prod.mk.injEq] at H
        obtain ⟨rfl, rfl, rfl⟩ := H
        have hnb43 := NB219_217.out
        have hnc43 := NB217_219.out
        have hnb44 := NB219_218.out
        have hnc44 := NB218_219.out
        have hcz45_0 : wr.cell? ⟨gb219, 0, none⟩ = some (.int .u64 a1) := (blk_cell BK219.out 0).trans rfl
        have hcz45_1 : wr.cell? ⟨gb219, 1, none⟩ = some (.int .u64 (IntKind.u64.wrap (a1 + (IntKind.u64.wrap ((l2.length : Int)))))) := (blk_cell BK219.out 1).trans rfl
        have hcz45_2 : wr.cell? ⟨gb219, 2, none⟩ = some (u220002) := (blk_cell BK219.out 2).trans rfl
        have hfz45_0 := blk_frozen BK219.out 0
        have hfz45_1 := blk_frozen BK219.out 1
        have hfz45_2 := blk_frozen BK219.out 2
        have hnb46 := NB218_217.out
        have hnc46 := NB217_218.out
        have hcz47_0 : wr.cell? ⟨gb218, 0, none⟩ = some (.int .u64 0) := (blk_cell BK218.out 0).trans rfl
        have hcz47_1 : wr.cell? ⟨gb218, 1, none⟩ = some (.int .u64 0) := (blk_cell BK218.out 1).trans rfl
        have hcz47_2 : wr.cell? ⟨gb218, 2, none⟩ = some (.slice none 0 0) := (blk_cell BK218.out 2).trans rfl
        have hfz47_0 := blk_frozen BK218.out 0
        have hfz47_1 := blk_frozen BK218.out 1
        have hfz47_2 := blk_frozen BK218.out 2
        obtain ⟨Ao48, co48, eo48⟩ := Kd.N_slice HO_220002.out
        subst eo48
        go_wp2
        refine bodyPost_ret (results_cell_row rfl _ _ gb218 35 #[.int .u64 a1, .int .u64 (IntKind.u64.wrap (a1 + (IntKind.u64.wrap ((l2.length : Int))))), .slice Ao48 x220002_1.length co48] (0, 0) _ rfl (by (with_reducible repeat (first | refine blk_drewN ?_ _ | refine blk_drew ?_ | refine blk_alloc ?_ _)); refine blk_put (cs := #[.int .u64 a1, .int .u64 (IntKind.u64.wrap (a1 + (IntKind.u64.wrap ((l2.length : Int))))), .slice none 0 0]) ?_ 2 _ rfl; (with_reducible repeat (first | refine blk_drewN ?_ _ | refine blk_drew ?_ | refine blk_alloc ?_ _)); refine blk_put (cs := #[.int .u64 a1, .int .u64 0, .slice none 0 0]) ?_ 1 _ rfl; (with_reducible repeat (first | refine blk_drewN ?_ _ | refine blk_drew ?_ | refine blk_alloc ?_ _)); refine blk_put (cs := #[.int .u64 0, .int .u64 0, .slice none 0 0]) ?_ 0 _ rfl; (with_reducible repeat (first | refine blk_drewN ?_ _ | refine blk_drew ?_ | refine blk_alloc ?_ _)); exact BK218.out) Tryd.underlying35 rfl (by kernel_rfl)) rfl ?_
        exact ⟨_, by first | rfl | (simp [errW_none, errW_some] <;> rfl) | (simp [*, errW_none, errW_some] <;> rfl), by (with_reducible repeat (first | apply Kd.N_alloc | apply Kd.N_drewN | apply Kd.N_drew)); exact Kd.N_mono (Kd.N_far (p := ⟨gb218, 2, none⟩) (Kd.N_far (p := ⟨gb218, 1, none⟩) (Kd.N_far (p := ⟨gb218, 0, none⟩) (Kd.N_mono HO_220002.out (fun k_ hk => (⟨hk, hk.2.2.2.1⟩ : _ ∧ k_ ≠ gb218))) (fun _ hk => hk.2) (.int .u64 a1)) (fun _ hk => hk.2) (.int .u64 (IntKind.u64.wrap (a1 + (IntKind.u64.wrap ((l2.length : Int))))))) (fun _ hk => hk.2) (.slice Ao48 x220002_1.length co48)) (fun _ hk => hk.1.1), by repeat (first | (with_reducible first | exact HB.out | apply below_alloc | apply pw_below_drewN | apply below_drew1 | refine below_set ?_ GE217.out | refine below_set ?_ GE218.out | refine below_set ?_ GE219.out) | exact HB.out)⟩

/-! ### impl_fromNode: function 57 -/
def impl_fromNode.f (a0_0 : Int) (a0_1 : Int) : Option (Int × Int) := some (a0_0, a0_1)
set_option maxHeartbeats 8000000 in
set_option maxRecDepth 100000 in
theorem impl_fromNode.calls (a0_0 : Int) (a0_1 : Int) (r1 : Int) (r2 : Int) (w : World) (h : impl_fromNode.f a0_0 a0_1 = some (r1, r2)) :
    Calls Tryd.prog 57 #[.agg #[.int .u64 a0_0, .int .u64 a0_1]] w fun e w' => e = .returned (.agg #[.int .u64 r1, .int .u64 r2]) ∧ Below w.heap.size w w' := by
  have hu108 := Tryd.underlying108
  have hu52 := Tryd.underlying52
  have HB := Aside0.mk (Below.refl w.heap.size w)
  have H : (some (a0_0, a0_1)) = some (r1, r2) := h
  clear h
  simp only [Option.some.injEq, Prod.mk.injEq] at H
  obtain ⟨rfl, rfl⟩ := H
  go_enter Tryd.func57, Tryd.ntmps57
  go_wp2_with (first | ((with_reducible refine gate_dst (N := 1) rfl ?_); refine box_event ?hg (N := 1) ?hd (cs := #[.int .u64 a0_0, .int .u64 a0_1]) (t := 108) ?hr ?_; (case hd => rfl); (case hg => rfl); (case hr => first | (go_simp; done) | (go_simp; rfl)); intro gb239 hg w2 hbox hb; have n0_ := Aside0.mk (below_step (by repeat (first | (with_reducible first | exact HB.out | apply below_alloc | apply pw_below_drewN | apply below_drew1) | exact HB.out)) hb); have n1_ := Aside0.mk (hbox); have n2_ := Aside0.mk ((by rw [hg]; exact (below_size (by repeat (first | (with_reducible first | exact HB.out | apply below_alloc | apply pw_below_drewN | apply below_drew1) | exact HB.out))) : w.heap.size ≤ gb239)); have n3_ := Aside0.mk ((by rw [hg]; exact (below_size (by repeat (first | (with_reducible first | exact HB.out | apply below_alloc | apply pw_below_drewN | apply below_drew1) | exact HB.out))) : w.heap.size ≤ gb239)); clear HB; have HB := n0_; have BK239 := n1_; have GW239 := n2_; have GE239 := n3_; clear n0_ n1_ n2_ n3_; clear hb hbox hg) | ((with_reducible refine gate_dst (N := 2) rfl ?_); refine box_event ?hg (N := 2) ?hd (cs := #[.int .u64 0, .int .u64 0]) (t := 52) ?hr ?_; (case hd => rfl); (case hg => rfl); (case hr => first | (go_simp; done) | (go_simp; rfl)); intro gb240 hg w3 hbox hb; have n0_ := Aside0.mk (blk_below (g := gb239) (o := .cells #[.int .u64 a0_0, .int .u64 a0_1] 108 (0, 0)) (by (with_reducible repeat (first | refine blk_drewN ?_ _ | refine blk_drew ?_ | refine blk_alloc ?_ _)); exact BK239.out) hb); have n1_ := Aside0.mk (below_step (by repeat (first | (with_reducible first | exact HB.out | apply below_alloc | apply pw_below_drewN | apply below_drew1 | refine below_set ?_ GE239.out) | exact HB.out)) hb); have n2_ := Aside0.mk (hbox); have n3_ := Aside0.mk ((by rw [hg]; exact (below_size (by repeat (first | (with_reducible first | exact HB.out | apply below_alloc | apply pw_below_drewN | apply below_drew1 | refine below_set ?_ GE239.out) | exact HB.out))) : w.heap.size ≤ gb240)); have n4_ := Aside0.mk ((by rw [hg]; exact (below_size (by repeat (first | (with_reducible first | exact HB.out | apply below_alloc | apply pw_below_drewN | apply below_drew1 | refine below_set ?_ GE239.out) | exact HB.out))) : w.heap.size ≤ gb240)); have n5_ := Aside0.mk ((by rw [hg]; exact Nat.ne_of_lt (blk_lt (g := gb239) (o := .cells #[.int .u64 a0_0, .int .u64 a0_1] 108 (0, 0)) (by (with_reducible repeat (first | refine blk_drewN ?_ _ | refine blk_drew ?_ | refine blk_alloc ?_ _)); exact BK239.out)) : gb239 ≠ gb240)); have n6_ := Aside0.mk ((by rw [hg]; exact Nat.ne_of_gt (blk_lt (g := gb239) (o := .cells #[.int .u64 a0_0, .int .u64 a0_1] 108 (0, 0)) (by (with_reducible repeat (first | refine blk_drewN ?_ _ | refine blk_drew ?_ | refine blk_alloc ?_ _)); exact BK239.out)) : gb240 ≠ gb239)); clear BK239; clear HB; have BK239 := n0_; have HB := n1_; have BK240 := n2_; have GW240 := n3_; have GE240 := n4_; have NB239_240 := n5_; have NB240_239 := n6_; clear n0_ n1_ n2_ n3_ n4_ n5_ n6_; clear hb hbox hg; have hnb4 := NB239_240.out; have hnc4 := NB240_239.out; have hcz5_0 : w3.cell? ⟨gb239, 0, none⟩ = some (.int .u64 a0_0) := (blk_cell BK239.out 0).trans rfl; have hcz5_1 : w3.cell? ⟨gb239, 1, none⟩ = some (.int .u64 a0_1) := (blk_cell BK239.out 1).trans rfl; have hfz5_0 := blk_frozen BK239.out 0; have hfz5_1 := blk_frozen BK239.out 1; have hcz6_0 : w3.cell? ⟨gb240, 0, none⟩ = some (.int .u64 0) := (blk_cell BK240.out 0).trans rfl; have hcz6_1 : w3.cell? ⟨gb240, 1, none⟩ = some (.int .u64 0) := (blk_cell BK240.out 1).trans rfl; have hfz6_0 := blk_frozen BK240.out 0; have hfz6_1 := blk_frozen BK240.out 1))
  refine bodyPost_ret (results_cell_row rfl _ _ gb240 52 #[.int .u64 a0_0, .int .u64 a0_1] (0, 0) _ rfl (by (with_reducible repeat (first | refine blk_drewN ?_ _ | refine blk_drew ?_ | refine blk_alloc ?_ _)); refine blk_put (cs := #[.int .u64 a0_0, .int .u64 0]) ?_ 1 _ rfl; (with_reducible repeat (first | refine blk_drewN ?_ _ | refine blk_drew ?_ | refine blk_alloc ?_ _)); refine blk_put (cs := #[.int .u64 0, .int .u64 0]) ?_ 0 _ rfl; (with_reducible repeat (first | refine blk_drewN ?_ _ | refine blk_drew ?_ | refine blk_alloc ?_ _)); exact BK240.out) Tryd.underlying52 rfl (by kernel_rfl)) rfl ?_
  exact ⟨by first | rfl | (simp [errW_none, errW_some] <;> rfl) | (simp [*, errW_none, errW_some] <;> rfl), by repeat (first | (with_reducible first | exact HB.out | apply below_alloc | apply pw_below_drewN | apply below_drew1 | refine below_set ?_ GE239.out | refine below_set ?_ GE240.out) | exact HB.out)⟩

/-! ### impl_toNode: function 67 -/
def impl_toNode.f (a0_0 : Int) (a0_1 : Int) : Option (Int × Int) := (compact_NewNodeID.f a0_0 a0_1).bind fun bt243 => (some (bt243.1, bt243.2))
set_option maxHeartbeats 8000000 in
set_option maxRecDepth 100000 in
theorem impl_toNode.calls (a0_0 : Int) (a0_1 : Int) (r1 : Int) (r2 : Int) (w : World) (h : impl_toNode.f a0_0 a0_1 = some (r1, r2)) :
    Calls Tryd.prog 67 #[.agg #[.int .u64 a0_0, .int .u64 a0_1]] w fun e w' => e = .returned (.agg #[.int .u64 r1, .int .u64 r2]) ∧ Below w.heap.size w w' := by
  have hu52 := Tryd.underlying52
  have hu108 := Tryd.underlying108
  have HB := Aside0.mk (Below.refl w.heap.size w)
  have H : ((compact_NewNodeID.f a0_0 a0_1).bind fun bt243 => (some (bt243.1, bt243.2))) = some (r1, r2) := h
  clear h
  replace H := Option.bind_eq_some_iff.mp H
  obtain ⟨⟨t243, t244⟩, A20, H⟩ := H
  replace H : (some (t243, t244)) = some (r1, r2) := H
  have A2 := Aside0.mk A20
  clear A20
  simp only [Option.some.injEq, Prod.mk.injEq] at H
  obtain ⟨rfl, rfl⟩ := H
  go_enter Tryd.func67, Tryd.ntmps67
  go_wp2_with (first | ((with_reducible refine gate_dst (N := 1) rfl ?_); refine box_event ?hg (N := 1) ?hd (cs := #[.int .u64 a0_0, .int .u64 a0_1]) (t := 52) ?hr ?_; (case hd => rfl); (case hg => rfl); (case hr => first | (go_simp; done) | (go_simp; rfl)); intro gb241 hg w3 hbox hb; have n0_ := Aside0.mk (below_step (by repeat (first | (with_reducible first | exact HB.out | apply below_alloc | apply pw_below_drewN | apply below_drew1) | exact HB.out)) hb); have n1_ := Aside0.mk (hbox); have n2_ := Aside0.mk ((by rw [hg]; exact (below_size (by repeat (first | (with_reducible first | exact HB.out | apply below_alloc | apply pw_below_drewN | apply below_drew1) | exact HB.out))) : w.heap.size ≤ gb241)); have n3_ := Aside0.mk ((by rw [hg]; exact (below_size (by repeat (first | (with_reducible first | exact HB.out | apply below_alloc | apply pw_below_drewN | apply below_drew1) | exact HB.out))) : w.heap.size ≤ gb241)); clear HB; have HB := n0_; have BK241 := n1_; have GW241 := n2_; have GE241 := n3_; clear n0_ n1_ n2_ n3_; clear hb hbox hg) | ((with_reducible refine gate_dst (N := 2) rfl ?_); refine box_event ?hg (N := 2) ?hd (cs := #[.int .u64 0, .int .u64 0]) (t := 108) ?hr ?_; (case hd => rfl); (case hg => rfl); (case hr => first | (go_simp; done) | (go_simp; rfl)); intro gb242 hg w4 hbox hb; have n0_ := Aside0.mk (blk_below (g := gb241) (o := .cells #[.int .u64 a0_0, .int .u64 a0_1] 52 (0, 0)) (by (with_reducible repeat (first | refine blk_drewN ?_ _ | refine blk_drew ?_ | refine blk_alloc ?_ _)); exact BK241.out) hb); have n1_ := Aside0.mk (below_step (by repeat (first | (with_reducible first | exact HB.out | apply below_alloc | apply pw_below_drewN | apply below_drew1 | refine below_set ?_ GE241.out) | exact HB.out)) hb); have n2_ := Aside0.mk (hbox); have n3_ := Aside0.mk ((by rw [hg]; exact (below_size (by repeat (first | (with_reducible first | exact HB.out | apply below_alloc | apply pw_below_drewN | apply below_drew1 | refine below_set ?_ GE241.out) | exact HB.out))) : w.heap.size ≤ gb242)); have n4_ := Aside0.mk ((by rw [hg]; exact (below_size (by repeat (first | (with_reducible first | exact HB.out | apply below_alloc | apply pw_below_drewN | apply below_drew1 | refine below_set ?_ GE241.out) | exact HB.out))) : w.heap.size ≤ gb242)); have n5_ := Aside0.mk ((by rw [hg]; exact Nat.ne_of_lt (blk_lt (g := gb241) (o := .cells #[.int .u64 a0_0, .int .u64 a0_1] 52 (0, 0)) (by (with_reducible repeat (first | refine blk_drewN ?_ _ | refine blk_drew ?_ | refine blk_alloc ?_ _)); exact BK241.out)) : gb241 ≠ gb242)); have n6_ := Aside0.mk ((by rw [hg]; exact Nat.ne_of_gt (blk_lt (g := gb241) (o := .cells #[.int .u64 a0_0, .int .u64 a0_1] 52 (0, 0)) (by (with_reducible repeat (first | refine blk_drewN ?_ _ | refine blk_drew ?_ | refine blk_alloc ?_ _)); exact BK241.out)) : gb242 ≠ gb241)); clear BK241; clear HB; have BK241 := n0_; have HB := n1_; have BK242 := n2_; have GW242 := n3_; have GE242 := n4_; have NB241_242 := n5_; have NB242_241 := n6_; clear n0_ n1_ n2_ n3_ n4_ n5_ n6_; clear hb hbox hg; have hnb5 := NB241_242.out; have hnc5 := NB242_241.out; have hcz6_0 : w4.cell? ⟨gb241, 0, none⟩ = some (.int .u64 a0_0) := (blk_cell BK241.out 0).trans rfl; have hcz6_1 : w4.cell? ⟨gb241, 1, none⟩ = some (.int .u64 a0_1) := (blk_cell BK241.out 1).trans rfl; have hfz6_0 := blk_frozen BK241.out 0; have hfz6_1 := blk_frozen BK241.out 1) | ((with_reducible refine gate_callee (f := 90) rfl ?_); refine goesL_ (some 7) rfl rfl Tryd.func90 (by kernel_rfl) rfl #[.int .u64 a0_0, .int .u64 a0_1] rfl (by (try simp only [List.map_toArray, List.map_cons, List.map_nil]); first | done | rfl | (simp only [List.length_drop, List.length_take]; rfl)) ?_; (with_reducible refine (compact_NewNodeID.calls a0_0 a0_1 t243 t244 _ A2.out).mono ?_); rintro e w7 ⟨rfl, hb⟩; refine ⟨_, rfl, ?_⟩; have n0_ := Aside0.mk (blk_below (g := gb241) (o := .cells #[.int .u64 a0_0, .int .u64 a0_1] 52 (0, 0)) (by (with_reducible repeat (first | refine blk_drewN ?_ _ | refine blk_drew ?_ | refine blk_alloc ?_ _)); exact BK241.out) hb); have n1_ := Aside0.mk (blk_below (g := gb242) (o := .cells #[.int .u64 0, .int .u64 0] 108 (0, 0)) (by (with_reducible repeat (first | refine blk_drewN ?_ _ | refine blk_drew ?_ | refine blk_alloc ?_ _)); exact BK242.out) hb); have n2_ := Aside0.mk (below_step (by repeat (first | (with_reducible first | exact HB.out | apply below_alloc | apply pw_below_drewN | apply below_drew1 | refine below_set ?_ GE241.out | refine below_set ?_ GE242.out) | exact HB.out)) hb); clear BK241; clear BK242; clear HB; have BK241 := n0_; have BK242 := n1_; have HB := n2_; clear n0_ n1_ n2_; (try clear hb); (try clear hb2); (try clear hk); (try clear hi); have hcz8_0 : w7.cell? ⟨gb242, 0, none⟩ = some (.int .u64 0) := (blk_cell BK242.out 0).trans rfl; have hcz8_1 : w7.cell? ⟨gb242, 1, none⟩ = some (.int .u64 0) := (blk_cell BK242.out 1).trans rfl; have hfz8_0 := blk_frozen BK242.out 0; have hfz8_1 := blk_frozen BK242.out 1))
  refine bodyPost_ret (results_cell_row rfl _ _ gb242 108 #[.int .u64 t243, .int .u64 t244] (0, 0) _ rfl (by (with_reducible repeat (first | refine blk_drewN ?_ _ | refine blk_drew ?_ | refine blk_alloc ?_ _)); refine blk_put (cs := #[.int .u64 t243, .int .u64 0]) ?_ 1 _ rfl; (with_reducible repeat (first | refine blk_drewN ?_ _ | refine blk_drew ?_ | refine blk_alloc ?_ _)); refine blk_put (cs := #[.int .u64 0, .int .u64 0]) ?_ 0 _ rfl; (with_reducible repeat (first | refine blk_drewN ?_ _ | refine blk_drew ?_ | refine blk_alloc ?_ _)); exact BK242.out) Tryd.underlying108 rfl (by kernel_rfl)) rfl ?_
  exact ⟨by first | rfl | (simp [errW_none, errW_some] <;> rfl) | (simp [*, errW_none, errW_some] <;> rfl), by repeat (first | (with_reducible first | exact HB.out | apply below_alloc | apply pw_below_drewN | apply below_drew1 | refine below_set ?_ GE241.out | refine below_set ?_ GE242.out) | exact HB.out)⟩

/-! ### compact_NodeID_Parent: function 68 -/
def compact_NodeID_Parent.f (a0_0 : Int) (a0_1 : Int) : Option (Int × Int) := (compact_NewNodeID.f (IntKind.u64.wrap (a0_0 + 1)) (a0_1 / 2)).bind fun bt247 => (some (bt247.1, bt247.2))
set_option maxHeartbeats 8000000 in
set_option maxRecDepth 100000 in
theorem compact_NodeID_Parent.calls (a0_0 : Int) (a0_1 : Int) (r1 : Int) (r2 : Int) (w : World) (h : compact_NodeID_Parent.f a0_0 a0_1 = some (r1, r2)) :
    Calls Tryd.prog 68 #[.agg #[.int .u64 a0_0, .int .u64 a0_1]] w fun e w' => e = .returned (.agg #[.int .u64 r1, .int .u64 r2]) ∧ Below w.heap.size w w' := by
  have hu108 := Tryd.underlying108
  have HB := Aside0.mk (Below.refl w.heap.size w)
  have H : ((compact_NewNodeID.f (IntKind.u64.wrap (a0_0 + 1)) (a0_1 / 2)).bind fun bt247 => (some (bt247.1, bt247.2))) = some (r1, r2) := h
  clear h
  replace H := Option.bind_eq_some_iff.mp H
  obtain ⟨⟨t247, t248⟩, A20, H⟩ := H
  replace H : (some (t247, t248)) = some (r1, r2) := H
  have A2 := Aside0.mk A20
  clear A20
  simp only [Option.some.injEq, Prod.mk.injEq] at H
  obtain ⟨rfl, rfl⟩ := H
  go_enter Tryd.func68, Tryd.ntmps68
  go_wp2_with (first | ((with_reducible refine gate_dst (N := 1) rfl ?_); refine box_event ?hg (N := 1) ?hd (cs := #[.int .u64 a0_0, .int .u64 a0_1]) (t := 108) ?hr ?_; (case hd => rfl); (case hg => rfl); (case hr => first | (go_simp; done) | (go_simp; rfl)); intro gb245 hg w3 hbox hb; have n0_ := Aside0.mk (below_step (by repeat (first | (with_reducible first | exact HB.out | apply below_alloc | apply pw_below_drewN | apply below_drew1) | exact HB.out)) hb); have n1_ := Aside0.mk (hbox); have n2_ := Aside0.mk ((by rw [hg]; exact (below_size (by repeat (first | (with_reducible first | exact HB.out | apply below_alloc | apply pw_below_drewN | apply below_drew1) | exact HB.out))) : w.heap.size ≤ gb245)); have n3_ := Aside0.mk ((by rw [hg]; exact (below_size (by repeat (first | (with_reducible first | exact HB.out | apply below_alloc | apply pw_below_drewN | apply below_drew1) | exact HB.out))) : w.heap.size ≤ gb245)); clear HB; have HB := n0_; have BK245 := n1_; have GW245 := n2_; have GE245 := n3_; clear n0_ n1_ n2_ n3_; clear hb hbox hg) | ((with_reducible refine gate_dst (N := 2) rfl ?_); refine box_event ?hg (N := 2) ?hd (cs := #[.int .u64 0, .int .u64 0]) (t := 108) ?hr ?_; (case hd => rfl); (case hg => rfl); (case hr => first | (go_simp; done) | (go_simp; rfl)); intro gb246 hg w4 hbox hb; have n0_ := Aside0.mk (blk_below (g := gb245) (o := .cells #[.int .u64 a0_0, .int .u64 a0_1] 108 (0, 0)) (by (with_reducible repeat (first | refine blk_drewN ?_ _ | refine blk_drew ?_ | refine blk_alloc ?_ _)); exact BK245.out) hb); have n1_ := Aside0.mk (below_step (by repeat (first | (with_reducible first | exact HB.out | apply below_alloc | apply pw_below_drewN | apply below_drew1 | refine below_set ?_ GE245.out) | exact HB.out)) hb); have n2_ := Aside0.mk (hbox); have n3_ := Aside0.mk ((by rw [hg]; exact (below_size (by repeat (first | (with_reducible first | exact HB.out | apply below_alloc | apply pw_below_drewN | apply below_drew1 | refine below_set ?_ GE245.out) | exact HB.out))) : w.heap.size ≤ gb246)); have n4_ := Aside0.mk ((by rw [hg]; exact (below_size (by repeat (first | (with_reducible first | exact HB.out | apply below_alloc | apply pw_below_drewN | apply below_drew1 | refine below_set ?_ GE245.out) | exact HB.out))) : w.heap.size ≤ gb246)); have n5_ := Aside0.mk ((by rw [hg]; exact Nat.ne_of_lt (blk_lt (g := gb245) (o := .cells #[.int .u64 a0_0, .int .u64 a0_1] 108 (0, 0)) (by (with_reducible repeat (first | refine blk_drewN ?_ _ | refine blk_drew ?_ | refine blk_alloc ?_ _)); exact BK245.out)) : gb245 ≠ gb246)); have n6_ := Aside0.mk ((by rw [hg]; exact Nat.ne_of_gt (blk_lt (g := gb245) (o := .cells #[.int .u64 a0_0, .int .u64 a0_1] 108 (0, 0)) (by (with_reducible repeat (first | refine blk_drewN ?_ _ | refine blk_drew ?_ | refine blk_alloc ?_ _)); exact BK245.out)) : gb246 ≠ gb245)); clear BK245; clear HB; have BK245 := n0_; have HB := n1_; have BK246 := n2_; have GW246 := n3_; have GE246 := n4_; have NB245_246 := n5_; have NB246_245 := n6_; clear n0_ n1_ n2_ n3_ n4_ n5_ n6_; clear hb hbox hg; have hnb5 := NB245_246.out; have hnc5 := NB246_245.out; have hcz6_0 : w4.cell? ⟨gb245, 0, none⟩ = some (.int .u64 a0_0) := (blk_cell BK245.out 0).trans rfl; have hcz6_1 : w4.cell? ⟨gb245, 1, none⟩ = some (.int .u64 a0_1) := (blk_cell BK245.out 1).trans rfl; have hfz6_0 := blk_frozen BK245.out 0; have hfz6_1 := blk_frozen BK245.out 1) | ((with_reducible refine gate_callee (f := 90) rfl ?_); refine goesL_ (some 9) rfl rfl Tryd.func90 (by kernel_rfl) rfl #[.int .u64 (IntKind.u64.wrap (a0_0 + 1)), .int .u64 (a0_1 / 2)] rfl (by (try simp only [List.map_toArray, List.map_cons, List.map_nil]); first | done | rfl | (simp only [List.length_drop, List.length_take]; rfl)) ?_; (with_reducible refine (compact_NewNodeID.calls (IntKind.u64.wrap (a0_0 + 1)) (a0_1 / 2) t247 t248 _ A2.out).mono ?_); rintro e w7 ⟨rfl, hb⟩; refine ⟨_, rfl, ?_⟩; have n0_ := Aside0.mk (blk_below (g := gb245) (o := .cells #[.int .u64 a0_0, .int .u64 a0_1] 108 (0, 0)) (by (with_reducible repeat (first | refine blk_drewN ?_ _ | refine blk_drew ?_ | refine blk_alloc ?_ _)); exact BK245.out) hb); have n1_ := Aside0.mk (blk_below (g := gb246) (o := .cells #[.int .u64 0, .int .u64 0] 108 (0, 0)) (by (with_reducible repeat (first | refine blk_drewN ?_ _ | refine blk_drew ?_ | refine blk_alloc ?_ _)); exact BK246.out) hb); have n2_ := Aside0.mk (below_step (by repeat (first | (with_reducible first | exact HB.out | apply below_alloc | apply pw_below_drewN | apply below_drew1 | refine below_set ?_ GE245.out | refine below_set ?_ GE246.out) | exact HB.out)) hb); clear BK245; clear BK246; clear HB; have BK245 := n0_; have BK246 := n1_; have HB := n2_; clear n0_ n1_ n2_; (try clear hb); (try clear hb2); (try clear hk); (try clear hi); have hcz8_0 : w7.cell? ⟨gb246, 0, none⟩ = some (.int .u64 0) := (blk_cell BK246.out 0).trans rfl; have hcz8_1 : w7.cell? ⟨gb246, 1, none⟩ = some (.int .u64 0) := (blk_cell BK246.out 1).trans rfl; have hfz8_0 := blk_frozen BK246.out 0; have hfz8_1 := blk_frozen BK246.out 1))
  refine bodyPost_ret (results_cell_row rfl _ _ gb246 108 #[.int .u64 t247, .int .u64 t248] (0, 0) _ rfl (by (with_reducible repeat (first | refine blk_drewN ?_ _ | refine blk_drew ?_ | refine blk_alloc ?_ _)); refine blk_put (cs := #[.int .u64 t247, .int .u64 0]) ?_ 1 _ rfl; (with_reducible repeat (first | refine blk_drewN ?_ _ | refine blk_drew ?_ | refine blk_alloc ?_ _)); refine blk_put (cs := #[.int .u64 0, .int .u64 0]) ?_ 0 _ rfl; (with_reducible repeat (first | refine blk_drewN ?_ _ | refine blk_drew ?_ | refine blk_alloc ?_ _)); exact BK246.out) Tryd.underlying108 rfl (by kernel_rfl)) rfl ?_
  exact ⟨by first | rfl | (simp [errW_none, errW_some] <;> rfl) | (simp [*, errW_none, errW_some] <;> rfl), by repeat (first | (with_reducible first | exact HB.out | apply below_alloc | apply pw_below_drewN | apply below_drew1 | refine below_set ?_ GE245.out | refine below_set ?_ GE246.out) | exact HB.out)⟩

/-! ### impl_Parent: function 29 -/
def impl_Parent.f (a0_0 : Int) (a0_1 : Int) : Option (Int × Int) := (impl_toNode.f a0_0 a0_1).bind fun bt251 => ((compact_NodeID_Parent.f bt251.1 bt251.2).bind fun bt253 => ((impl_fromNode.f bt253.1 bt253.2).bind fun bt255 => (some (bt255.1, bt255.2))))
set_option maxHeartbeats 8000000 in
set_option maxRecDepth 100000 in
theorem impl_Parent.calls (a0_0 : Int) (a0_1 : Int) (r1 : Int) (r2 : Int) (w : World) (h : impl_Parent.f a0_0 a0_1 = some (r1, r2)) :
    Calls Tryd.prog 29 #[.agg #[.int .u64 a0_0, .int .u64 a0_1]] w fun e w' => e = .returned (.agg #[.int .u64 r1, .int .u64 r2]) ∧ Below w.heap.size w w' := by
  have hu52 := Tryd.underlying52
  have HB := Aside0.mk (Below.refl w.heap.size w)
  have H : ((impl_toNode.f a0_0 a0_1).bind fun bt251 => ((compact_NodeID_Parent.f bt251.1 bt251.2).bind fun bt253 => ((impl_fromNode.f bt253.1 bt253.2).bind fun bt255 => (some (bt255.1, bt255.2))))) = some (r1, r2) := h
  clear h
  replace H := Option.bind_eq_some_iff.mp H
  obtain ⟨⟨t251, t252⟩, A20, H⟩ := H
  replace H : ((compact_NodeID_Parent.f t251 t252).bind fun bt253 => ((impl_fromNode.f bt253.1 bt253.2).bind fun bt255 => (some (bt255.1, bt255.2)))) = some (r1, r2) := H
  have A2 := Aside0.mk A20
  clear A20
  replace H := Option.bind_eq_some_iff.mp H
  obtain ⟨⟨t253, t254⟩, A30, H⟩ := H
  replace H : ((impl_fromNode.f t253 t254).bind fun bt255 => (some (bt255.1, bt255.2))) = some (r1, r2) := H
  have A3 := Aside0.mk A30
  clear A30
  replace H := Option.bind_eq_some_iff.mp H
  obtain ⟨⟨t255, t256⟩, A40, H⟩ := H
  replace H : (some (t255, t256)) = some (r1, r2) := H
  have A4 := Aside0.mk A40
  clear A40
  simp only [Option.some.injEq, Prod.mk.injEq] at H
  obtain ⟨rfl, rfl⟩ := H
  go_enter Tryd.func29, Tryd.ntmps29
  go_wp2_with (first | ((with_reducible refine gate_dst (N := 1) rfl ?_); refine box_event ?hg (N := 1) ?hd (cs := #[.int .u64 a0_0, .int .u64 a0_1]) (t := 52) ?hr ?_; (case hd => rfl); (case hg => rfl); (case hr => first | (go_simp; done) | (go_simp; rfl)); intro gb249 hg w5 hbox hb; have n0_ := Aside0.mk (below_step (by repeat (first | (with_reducible first | exact HB.out | apply below_alloc | apply pw_below_drewN | apply below_drew1) | exact HB.out)) hb); have n1_ := Aside0.mk (hbox); have n2_ := Aside0.mk ((by rw [hg]; exact (below_size (by repeat (first | (with_reducible first | exact HB.out | apply below_alloc | apply pw_below_drewN | apply below_drew1) | exact HB.out))) : w.heap.size ≤ gb249)); have n3_ := Aside0.mk ((by rw [hg]; exact (below_size (by repeat (first | (with_reducible first | exact HB.out | apply below_alloc | apply pw_below_drewN | apply below_drew1) | exact HB.out))) : w.heap.size ≤ gb249)); clear HB; have HB := n0_; have BK249 := n1_; have GW249 := n2_; have GE249 := n3_; clear n0_ n1_ n2_ n3_; clear hb hbox hg) | ((with_reducible refine gate_dst (N := 2) rfl ?_); refine box_event ?hg (N := 2) ?hd (cs := #[.int .u64 0, .int .u64 0]) (t := 52) ?hr ?_; (case hd => rfl); (case hg => rfl); (case hr => first | (go_simp; done) | (go_simp; rfl)); intro gb250 hg w6 hbox hb; have n0_ := Aside0.mk (blk_below (g := gb249) (o := .cells #[.int .u64 a0_0, .int .u64 a0_1] 52 (0, 0)) (by (with_reducible repeat (first | refine blk_drewN ?_ _ | refine blk_drew ?_ | refine blk_alloc ?_ _)); exact BK249.out) hb); have n1_ := Aside0.mk (below_step (by repeat (first | (with_reducible first | exact HB.out | apply below_alloc | apply pw_below_drewN | apply below_drew1 | refine below_set ?_ GE249.out) | exact HB.out)) hb); have n2_ := Aside0.mk (hbox); have n3_ := Aside0.mk ((by rw [hg]; exact (below_size (by repeat (first | (with_reducible first | exact HB.out | apply below_alloc | apply pw_below_drewN | apply below_drew1 | refine below_set ?_ GE249.out) | exact HB.out))) : w.heap.size ≤ gb250)); have n4_ := Aside0.mk ((by rw [hg]; exact (below_size (by repeat (first | (with_reducible first | exact HB.out | apply below_alloc | apply pw_below_drewN | apply below_drew1 | refine below_set ?_ GE249.out) | exact HB.out))) : w.heap.size ≤ gb250)); have n5_ := Aside0.mk ((by rw [hg]; exact Nat.ne_of_lt (blk_lt (g := gb249) (o := .cells #[.int .u64 a0_0, .int .u64 a0_1] 52 (0, 0)) (by (with_reducible repeat (first | refine blk_drewN ?_ _ | refine blk_drew ?_ | refine blk_alloc ?_ _)); exact BK249.out)) : gb249 ≠ gb250)); have n6_ := Aside0.mk ((by rw [hg]; exact Nat.ne_of_gt (blk_lt (g := gb249) (o := .cells #[.int .u64 a0_0, .int .u64 a0_1] 52 (0, 0)) (by (with_reducible repeat (first | refine blk_drewN ?_ _ | refine blk_drew ?_ | refine blk_alloc ?_ _)); exact BK249.out)) : gb250 ≠ gb249)); clear BK249; clear HB; have BK249 := n0_; have HB := n1_; have BK250 := n2_; have GW250 := n3_; have GE250 := n4_; have NB249_250 := n5_; have NB250_249 := n6_; clear n0_ n1_ n2_ n3_ n4_ n5_ n6_; clear hb hbox hg; have hnb7 := NB249_250.out; have hnc7 := NB250_249.out; have hcz8_0 : w6.cell? ⟨gb249, 0, none⟩ = some (.int .u64 a0_0) := (blk_cell BK249.out 0).trans rfl; have hcz8_1 : w6.cell? ⟨gb249, 1, none⟩ = some (.int .u64 a0_1) := (blk_cell BK249.out 1).trans rfl; have hfz8_0 := blk_frozen BK249.out 0; have hfz8_1 := blk_frozen BK249.out 1) | ((with_reducible refine gate_callee (f := 67) rfl ?_); refine goesL_ (some 4) rfl rfl Tryd.func67 (by kernel_rfl) rfl #[.agg #[.int .u64 a0_0, .int .u64 a0_1]] rfl (by (try simp only [List.map_toArray, List.map_cons, List.map_nil]); first | done | rfl | (simp only [List.length_drop, List.length_take]; rfl)) ?_; (with_reducible refine (impl_toNode.calls a0_0 a0_1 t251 t252 _ A2.out).mono ?_); rintro e w9 ⟨rfl, hb⟩; refine ⟨_, rfl, ?_⟩; have n0_ := Aside0.mk (blk_below (g := gb249) (o := .cells #[.int .u64 a0_0, .int .u64 a0_1] 52 (0, 0)) (by (with_reducible repeat (first | refine blk_drewN ?_ _ | refine blk_drew ?_ | refine blk_alloc ?_ _)); exact BK249.out) hb); have n1_ := Aside0.mk (blk_below (g := gb250) (o := .cells #[.int .u64 0, .int .u64 0] 52 (0, 0)) (by (with_reducible repeat (first | refine blk_drewN ?_ _ | refine blk_drew ?_ | refine blk_alloc ?_ _)); exact BK250.out) hb); have n2_ := Aside0.mk (below_step (by repeat (first | (with_reducible first | exact HB.out | apply below_alloc | apply pw_below_drewN | apply below_drew1 | refine below_set ?_ GE249.out | refine below_set ?_ GE250.out) | exact HB.out)) hb); clear BK249; clear BK250; clear HB; have BK249 := n0_; have BK250 := n1_; have HB := n2_; clear n0_ n1_ n2_; (try clear hb); (try clear hb2); (try clear hk); (try clear hi)) | ((with_reducible refine gate_callee (f := 68) rfl ?_); refine goesL_ (some 5) rfl rfl Tryd.func68 (by kernel_rfl) rfl #[.agg #[.int .u64 t251, .int .u64 t252]] rfl (by (try simp only [List.map_toArray, List.map_cons, List.map_nil]); first | done | rfl | (simp only [List.length_drop, List.length_take]; rfl)) ?_; (with_reducible refine (compact_NodeID_Parent.calls t251 t252 t253 t254 _ A3.out).mono ?_); rintro e w10 ⟨rfl, hb⟩; refine ⟨_, rfl, ?_⟩; have n0_ := Aside0.mk (blk_below (g := gb249) (o := .cells #[.int .u64 a0_0, .int .u64 a0_1] 52 (0, 0)) (by (with_reducible repeat (first | refine blk_drewN ?_ _ | refine blk_drew ?_ | refine blk_alloc ?_ _)); exact BK249.out) hb); have n1_ := Aside0.mk (blk_below (g := gb250) (o := .cells #[.int .u64 0, .int .u64 0] 52 (0, 0)) (by (with_reducible repeat (first | refine blk_drewN ?_ _ | refine blk_drew ?_ | refine blk_alloc ?_ _)); exact BK250.out) hb); have n2_ := Aside0.mk (below_step (by repeat (first | (with_reducible first | exact HB.out | apply below_alloc | apply pw_below_drewN | apply below_drew1 | refine below_set ?_ GE249.out | refine below_set ?_ GE250.out) | exact HB.out)) hb); clear BK249; clear BK250; clear HB; have BK249 := n0_; have BK250 := n1_; have HB := n2_; clear n0_ n1_ n2_; (try clear hb); (try clear hb2); (try clear hk); (try clear hi)) | ((with_reducible refine gate_callee (f := 57) rfl ?_); refine goesL_ (some 6) rfl rfl Tryd.func57 (by kernel_rfl) rfl #[.agg #[.int .u64 t253, .int .u64 t254]] rfl (by (try simp only [List.map_toArray, List.map_cons, List.map_nil]); first | done | rfl | (simp only [List.length_drop, List.length_take]; rfl)) ?_; (with_reducible refine (impl_fromNode.calls t253 t254 t255 t256 _ A4.out).mono ?_); rintro e w11 ⟨rfl, hb⟩; refine ⟨_, rfl, ?_⟩; have n0_ := Aside0.mk (blk_below (g := gb249) (o := .cells #[.int .u64 a0_0, .int .u64 a0_1] 52 (0, 0)) (by (with_reducible repeat (first | refine blk_drewN ?_ _ | refine blk_drew ?_ | refine blk_alloc ?_ _)); exact BK249.out) hb); have n1_ := Aside0.mk (blk_below (g := gb250) (o := .cells #[.int .u64 0, .int .u64 0] 52 (0, 0)) (by (with_reducible repeat (first | refine blk_drewN ?_ _ | refine blk_drew ?_ | refine blk_alloc ?_ _)); exact BK250.out) hb); have n2_ := Aside0.mk (below_step (by repeat (first | (with_reducible first | exact HB.out | apply below_alloc | apply pw_below_drewN | apply below_drew1 | refine below_set ?_ GE249.out | refine below_set ?_ GE250.out) | exact HB.out)) hb); clear BK249; clear BK250; clear HB; have BK249 := n0_; have BK250 := n1_; have HB := n2_; clear n0_ n1_ n2_; (try clear hb); (try clear hb2); (try clear hk); (try clear hi); have hcz12_0 : w11.cell? ⟨gb250, 0, none⟩ = some (.int .u64 0) := (blk_cell BK250.out 0).trans rfl; have hcz12_1 : w11.cell? ⟨gb250, 1, none⟩ = some (.int .u64 0) := (blk_cell BK250.out 1).trans rfl; have hfz12_0 := blk_frozen BK250.out 0; have hfz12_1 := blk_frozen BK250.out 1))
  refine bodyPost_ret (results_cell_row rfl _ _ gb250 52 #[.int .u64 t255, .int .u64 t256] (0, 0) _ rfl (by (with_reducible repeat (first | refine blk_drewN ?_ _ | refine blk_drew ?_ | refine blk_alloc ?_ _)); refine blk_put (cs := #[.int .u64 t255, .int .u64 0]) ?_ 1 _ rfl; (with_reducible repeat (first | refine blk_drewN ?_ _ | refine blk_drew ?_ | refine blk_alloc ?_ _)); refine blk_put (cs := #[.int .u64 0, .int .u64 0]) ?_ 0 _ rfl; (with_reducible repeat (first | refine blk_drewN ?_ _ | refine blk_drew ?_ | refine blk_alloc ?_ _)); exact BK250.out) Tryd.underlying52 rfl (by kernel_rfl)) rfl ?_
  exact ⟨by first | rfl | (simp [errW_none, errW_some] <;> rfl) | (simp [*, errW_none, errW_some] <;> rfl), by repeat (first | (with_reducible first | exact HB.out | apply below_alloc | apply pw_below_drewN | apply below_drew1 | refine below_set ?_ GE249.out | refine below_set ?_ GE250.out) | exact HB.out)⟩

/-! ### spec_RootOf: function 31 -/
def spec_RootOf.f (k : Nat) (a0_0 : Int) (a0_1 : Int) (a0_2 : Int) (a0_3 : Int) (a0_4 : Int) (a0_5 : Int) (l1 : List (List Int)) (a2_0 : Int) (a2_1 : Int) : Option (List Int) := if 0 ≤ a2_0 then (if a2_0 ≤ a2_1 then (if a2_1 ≤ (l1.length : Int) then ((spec_Root.f k a0_0 a0_1 a0_2 a0_3 a0_4 a0_5 ((l1.take (a2_1 : Int).toNat).drop (a2_0 : Int).toNat)).bind fun t264 => (some t264)) else (none)) else (none)) else (none)
theorem spec_RootOf.mono : ∀ a0 a1 a2 a3 a4 a5 a6 a7 a8 k, LeO (spec_RootOf.f k a0 a1 a2 a3 a4 a5 a6 a7 a8) (spec_RootOf.f (k + 1) a0 a1 a2 a3 a4 a5 a6 a7 a8) := by
  intro a0 a1 a2 a3 a4 a5 a6 a7 a8 k
  unfold spec_RootOf.f
  repeat' first
      | (with_reducible exact spec_Root.mono _ _ _ _ _ _ _ _)
      | (with_reducible exact LeO.refl _)
      | (with_reducible exact LeO.none _)
      | (with_reducible refine LeO.ite ?_ ?_)
      | (with_reducible refine LeO.bind ?_ (fun _ => ?_))
      | exact spec_Root.mono _ _ _ _ _ _ _ _
      | exact LeO.none _
      | refine LeO.ite ?_ ?_
      | refine LeO.bind ?_ (fun _ => ?_)
def spec_RootOf.T1 : Bool × List (List Nat × List Nat) := (true, [([], []), ([], []), ([], []), ([2], [2]), ([], []), ([4], [4]), ([1, 3, 5], [1, 3, 5]), ([0, 6], [0, 6]), ([7, 7, 0, 1, 2, 3, 4, 5, 6, 7], [7])])
def spec_RootOf.B1 : List Nat := [0, 0, 0, 4, 0, 16, 62, 127, 255]
theorem spec_RootOf.tab1 : rtab .any (opsOf Tryd.f31 1) = spec_RootOf.T1 := by kernel_rfl
theorem spec_RootOf.bits1 : waitsOk spec_RootOf.T1.2 spec_RootOf.B1 = true := by kernel_rfl
set_option maxHeartbeats 8000000 in
set_option maxRecDepth 100000 in
theorem spec_RootOf.calls (k : Nat) (a0_0 : Int) (a0_1 : Int) (a0_2 : Int) (a0_3 : Int) (a0_4 : Int) (a0_5 : Int) (P1_ : Nat → Prop) (A1 : Option Addr) (c1 : Nat) (l1 : List (List Int)) (a2_0 : Int) (a2_1 : Int) (r : List Int) (w : World) (hs1 : Kd.V (Kd.slice 5 (Kd.int .u8)) 28 w w.heap.size (fun k_ => P1_ k_) (.slice A1 l1.length c1) l1) (h : spec_RootOf.f k a0_0 a0_1 a0_2 a0_3 a0_4 a0_5 l1 a2_0 a2_1 = some r) :
    Calls Tryd.prog 31 #[.agg #[.int .i64 a0_0, .int .i64 a0_1, .int .i64 a0_2, .int .u64 a0_3, .int .u64 a0_4, .int .u64 a0_5], .slice A1 l1.length c1, .agg #[.int .u64 a2_0, .int .u64 a2_1]] w fun e w' => ∃ v0_ : Value, e = .returned (v0_) ∧ Kd.V (Kd.int .u8) 5 w' w.heap.size (fun k_ => (P1_ k_ ∨ w.heap.size ≤ k_)) v0_ r ∧ Below w.heap.size w w' := by
  have hu24 := Tryd.underlying24
  have hu55 := Tryd.underlying55
  have HO1 := Aside0.mk (show Kd.V (Kd.slice 5 (Kd.int .u8)) 28 w w.heap.size (fun k_ => (P1_ k_ ∨ w.heap.size ≤ k_)) (.slice A1 l1.length c1) l1 from Kd.V_mono hs1 (fun k_ hk => .inl hk))
  have HB := Aside0.mk (Below.refl w.heap.size w)
  have H : (if 0 ≤ a2_0 then (if a2_0 ≤ a2_1 then (if a2_1 ≤ (l1.length : Int) then ((spec_Root.f k a0_0 a0_1 a0_2 a0_3 a0_4 a0_5 ((l1.take (a2_1 : Int).toNat).drop (a2_0 : Int).toNat)).bind fun t264 => (some t264)) else (none)) else (none)) else (none)) = some r := h
  clear h
  by_cases c4 : 0 ≤ a2_0
  · rw [if_pos c4] at H
    have c4b0 := eq_true c4
    have c4b1 : decide (0 ≤ a2_0) = true := decide_eq_true c4
    clear c4
    by_cases c5 : a2_0 ≤ a2_1
    · rw [if_pos c5] at H
      have c5b0 := eq_true c5
      have c5b1 : decide (a2_0 ≤ a2_1) = true := decide_eq_true c5
      clear c5
      by_cases c6 : a2_1 ≤ (l1.length : Int)
      · rw [if_pos c6] at H
        have c6b0 := eq_true c6
        have c6b1 : decide (a2_1 ≤ (l1.length : Int)) = true := decide_eq_true c6
        clear c6
        obtain ⟨y259, hy259⟩ : ∃ y_ : List (List Int), y_ = ((l1.take (a2_1 : Int).toNat).drop (a2_0 : Int).toNat) := ⟨_, rfl⟩
        replace H : ((spec_Root.f k a0_0 a0_1 a0_2 a0_3 a0_4 a0_5 y259).bind fun t264 => (some t264)) = some r := by first | (rw [hy259]; with_reducible exact H) | (have H2_ := (Option.bind_some _ _).symm.trans H; rw [hy259]; with_reducible exact H2_) | (have H2_ := (Option.bind_some _ _).symm.trans H; with_reducible exact H2_) | with_reducible exact H | (rw [hy259]; exact H) | exact H
        have Ny259 := Aside0.mk hy259
        clear hy259
        replace H := Option.bind_eq_some_iff.mp H
        obtain ⟨t264, A70, H⟩ := H
        replace H : (some t264) = some r := H
        have A7 := Aside0.mk A70
        clear A70
        obtain rfl := Option.some.inj H
        go_enter Tryd.func31, Tryd.ntmps31
        try go_wp2_with (first | ((with_reducible refine gate_dst (N := 3) rfl ?_); refine box_event ?hg (N := 3) ?hd (cs := #[.int .i64 a0_0, .int .i64 a0_1, .int .i64 a0_2, .int .u64 a0_3, .int .u64 a0_4, .int .u64 a0_5]) (t := 24) ?hr ?_; (case hd => rfl); (case hg => rfl); (case hr => first | (go_simp; done) | (go_simp; rfl)); intro gb257 hg w8 hbox hb; have n0_ := Aside0.mk (Kd.V_below (Kd.V_elderB (by (with_reducible repeat (first | apply Kd.V_alloc | apply Kd.V_drewN | apply Kd.V_drew)); exact HO1.out) gb257 (Nat.le_of_eq hg.symm)) hb); have n1_ := Aside0.mk (below_step (by repeat (first | (with_reducible first | exact HB.out | apply below_alloc | apply pw_below_drewN | apply below_drew1) | exact HB.out)) hb); have n2_ := Aside0.mk (hbox); have n3_ := Aside0.mk ((by rw [hg]; exact (below_size (by repeat (first | (with_reducible first | exact HB.out | apply below_alloc | apply pw_below_drewN | apply below_drew1) | exact HB.out))) : w.heap.size ≤ gb257)); have n4_ := Aside0.mk ((by rw [hg]; exact (below_size (by repeat (first | (with_reducible first | exact HB.out | apply below_alloc | apply pw_below_drewN | apply below_drew1) | exact HB.out))) : w.heap.size ≤ gb257)); clear HO1; clear HB; have HO1 := n0_; have HB := n1_; have BK257 := n2_; have GW257 := n3_; have GE257 := n4_; clear n0_ n1_ n2_ n3_ n4_; clear hb hbox hg) | ((with_reducible refine gate_dst (N := 5) rfl ?_); refine box_event ?hg (N := 5) ?hd (cs := #[.int .u64 a2_0, .int .u64 a2_1]) (t := 55) ?hr ?_; (case hd => rfl); (case hg => rfl); (case hr => first | (go_simp; done) | (go_simp; rfl)); intro gb258 hg w9 hbox hb; have n0_ := Aside0.mk (Kd.V_below (Kd.V_elderB (by (with_reducible repeat (first | apply Kd.V_alloc | apply Kd.V_drewN | apply Kd.V_drew)); exact HO1.out) gb258 (Nat.le_of_eq hg.symm)) hb); have n1_ := Aside0.mk (blk_below (g := gb257) (o := .cells #[.int .i64 a0_0, .int .i64 a0_1, .int .i64 a0_2, .int .u64 a0_3, .int .u64 a0_4, .int .u64 a0_5] 24 (0, 0)) (by (with_reducible repeat (first | refine blk_drewN ?_ _ | refine blk_drew ?_ | refine blk_alloc ?_ _)); exact BK257.out) hb); have n2_ := Aside0.mk (below_step (by repeat (first | (with_reducible first | exact HB.out | apply below_alloc | apply pw_below_drewN | apply below_drew1 | refine below_set ?_ GE257.out) | exact HB.out)) hb); have n3_ := Aside0.mk (hbox); have n4_ := Aside0.mk ((by rw [hg]; exact (below_size (by repeat (first | (with_reducible first | exact HB.out | apply below_alloc | apply pw_below_drewN | apply below_drew1 | refine below_set ?_ GE257.out) | exact HB.out))) : w.heap.size ≤ gb258)); have n5_ := Aside0.mk ((by rw [hg]; exact (below_size (by repeat (first | (with_reducible first | exact HB.out | apply below_alloc | apply pw_below_drewN | apply below_drew1 | refine below_set ?_ GE257.out) | exact HB.out))) : w.heap.size ≤ gb258)); have n6_ := Aside0.mk ((by rw [hg]; exact Nat.ne_of_lt (blk_lt (g := gb257) (o := .cells #[.int .i64 a0_0, .int .i64 a0_1, .int .i64 a0_2, .int .u64 a0_3, .int .u64 a0_4, .int .u64 a0_5] 24 (0, 0)) (by (with_reducible repeat (first | refine blk_drewN ?_ _ | refine blk_drew ?_ | refine blk_alloc ?_ _)); exact BK257.out)) : gb257 ≠ gb258)); have n7_ := Aside0.mk ((by rw [hg]; exact Nat.ne_of_gt (blk_lt (g := gb257) (o := .cells #[.int .i64 a0_0, .int .i64 a0_1, .int .i64 a0_2, .int .u64 a0_3, .int .u64 a0_4, .int .u64 a0_5] 24 (0, 0)) (by (with_reducible repeat (first | refine blk_drewN ?_ _ | refine blk_drew ?_ | refine blk_alloc ?_ _)); exact BK257.out)) : gb258 ≠ gb257)); clear HO1; clear BK257; clear HB; have HO1 := n0_; have BK257 := n1_; have HB := n2_; have BK258 := n3_; have GW258 := n4_; have GE258 := n5_; have NB257_258 := n6_; have NB258_257 := n7_; clear n0_ n1_ n2_ n3_ n4_ n5_ n6_ n7_; clear hb hbox hg))
        have n0_ := Aside0.mk (Kd.V_drew HO1.out)
        have n1_ := Aside0.mk (blk_drew BK257.out)
        have n2_ := Aside0.mk (blk_drew BK258.out)
        have n3_ := Aside0.mk (below_drew1 HB.out)
        clear HO1
        clear BK257
        clear BK258
        clear HB
        have HO1 := n0_
        have BK257 := n1_
        have BK258 := n2_
        have HB := n3_
        clear n0_ n1_ n2_ n3_
        have q11 : (a2_1 : Int) ≤ ((l1.length : Int) : Int) := of_decide_eq_true (by first | (with_reducible assumption) | assumption)
        obtain ⟨i011, hi011, _, hsz11, _⟩ := info_parts info28
        have hroom11 : l1.length ≤ c1 := (Kd.V_reads' HO1.out).2.1
        have hC11 : Kd.F (Kd.slice 5 (Kd.int .u8)) _ _ A1 l1.length l1 := (Kd.V_at (base := w.heap.size) HO1.out).2.2
        have ql11 : (a2_0 : Int) ≤ (a2_1 : Int) := of_decide_eq_true (by first | (with_reducible assumption) | assumption)
        have q011 : (0 : Int) ≤ (a2_0 : Int) := of_decide_eq_true (by first | (with_reducible assumption) | assumption)
        have hcut11 := cut_mid (P := Tryd.prog) 25 28 .u64 .u64 Tryd.underlying25 hi011 1 hsz11 A1 l1.length c1 a2_0 a2_1 q011 ql11 q11 hroom11
        have hr11 := Kd.F_mid (lo := (a2_0 : Int).toNat) (hi := (a2_1 : Int).toNat) (c := c1) hC11 (by omega) (by omega) hroom11
        obtain ⟨A11, hA11⟩ : ∃ Aq_, Aq_ = (if c1 = (a2_0 : Int).toNat then A1 else (A1 : Option Addr).map (·.add ((a2_0 : Int).toNat * 1))) := ⟨_, rfl⟩
        obtain ⟨c11, hc11⟩ : ∃ cq_, cq_ = c1 - (a2_0 : Int).toNat := ⟨_, rfl⟩
        have hy11 : y259.length = (a2_1 : Int).toNat - (a2_0 : Int).toNat := (by rw [Ny259.out, List.length_drop, List.length_take] <;> omega)
        rw [show ((l1).take (a2_1 : Int).toNat).drop (a2_0 : Int).toNat = y259 from Ny259.out.symm] at hr11
        replace hr11 : Kd.F (Kd.slice 5 (Kd.int .u8)) _ _ A11 y259.length y259 := (by rw [hA11]; exact hr11)
        rw [← hy11, ← hA11, ← hc11] at hcut11
        have HO263 := Aside0.mk (show Kd.V (Kd.slice 5 (Kd.int .u8)) 28 _ w.heap.size _ (.slice A11 y259.length c11) y259 from Kd.V_mk (by rw [hy11, hc11]; exact Nat.sub_le_sub_right (Nat.le_trans (by omega) hroom11) _) hr11)
        have HC263 := Aside0.mk (show y259.length ≤ c11 from by rw [hy11, hc11]; exact Nat.sub_le_sub_right (Nat.le_trans (by omega) hroom11) _)
        clear hr11 hC11 hroom11 hi011 hsz11 hc11
        have KY11 := Aside0.mk hy11
        have KA11 := Aside0.mk hA11
        clear hy11 hA11
        replace q11 := eq_true q11
        refine start_ (n := 9) (S := fun w' => w'.cell? ⟨gb257, 0, none⟩ = some (.int .i64 a0_0) ∧ w'.cell? ⟨gb257, 1, none⟩ = some (.int .i64 a0_1) ∧ w'.cell? ⟨gb257, 2, none⟩ = some (.int .i64 a0_2) ∧ w'.cell? ⟨gb257, 3, none⟩ = some (.int .u64 a0_3) ∧ w'.cell? ⟨gb257, 4, none⟩ = some (.int .u64 a0_4) ∧ w'.cell? ⟨gb257, 5, none⟩ = some (.int .u64 a0_5) ∧ w'.cell? ⟨gb258, 0, none⟩ = some (.int .u64 a2_0) ∧ w'.cell? ⟨gb258, 1, none⟩ = some (.int .u64 a2_1)) (ds := []) #[false, false, false, false, false, false, false, false, false] (by kernel_rfl) rfl rfl ⟨(blk_cell BK257.out 0).trans rfl, (blk_cell BK257.out 1).trans rfl, (blk_cell BK257.out 2).trans rfl, (blk_cell BK257.out 3).trans rfl, (blk_cell BK257.out 4).trans rfl, (blk_cell BK257.out 5).trans rfl, (blk_cell BK258.out 0).trans rfl, (blk_cell BK258.out 1).trans rfl⟩ (fun hHeld => ?_); refine with_tabW spec_RootOf.tab1 spec_RootOf.bits1 (fun HT_ HW_ => ?_)
        generalize w9.drew = w10 at HO1 BK257 BK258 HB HO263 hHeld ⊢
        refine pure_ (i := 1) (N := some 8) (v := ?_) (a' := ?_) #[false, true, false, false, false, false, false, false, false] rfl rfl (any_of HT_.out (by kernel_rfl)) (fun _ _ _ h => h) (Or.inl ⟨by rfl, ?_⟩) ?_ ?_
        rotate_left
        · intro w'
          go_simp
          with_reducible rfl
        rotate_left
        · simp only [Act.put, List.setIfInBounds_toArray, List.set_cons_zero, List.set_cons_succ, i64_w, i32_w]
          rfl
        refine pure_ (i := 2) (N := some 9) (v := ?_) (a' := ?_) #[false, true, true, false, false, false, false, false, false] rfl rfl (any_of HT_.out (by kernel_rfl)) (fun _ _ _ h => h) (Or.inl ⟨by rfl, ?_⟩) ?_ ?_
        rotate_left
        · intro w'
          go_simp
          with_reducible rfl
        rotate_left
        · simp only [Act.put, List.setIfInBounds_toArray, List.set_cons_zero, List.set_cons_succ, i64_w, i32_w]
          rfl
        refine pure_ (i := 4) (N := some 11) (v := ?_) (a' := ?_) #[false, true, true, false, true, false, false, false, false] rfl rfl (any_of HT_.out (by kernel_rfl)) (fun _ _ _ h => h) (Or.inl ⟨by rfl, ?_⟩) ?_ ?_
        rotate_left
        · intro w'
          go_simp
          with_reducible rfl
        rotate_left
        · simp only [Act.put, List.setIfInBounds_toArray, List.set_cons_zero, List.set_cons_succ, i64_w, i32_w]
          rfl
        refine take_ (i := 0) (N := some 7) (v := ?_) (a' := ?_) #[true, true, true, false, true, false, false, false, false] rfl rfl (take_ofW HT_.out HW_.out (by kernel_rfl)) (fun _ _ _ h => h) (Or.inl ⟨by rfl, ?_⟩) hHeld ?_ ?_
        rotate_left
        · rintro w' ⟨s0, s1, s2, s3, s4, s5, s6, s7⟩
          go_simp
          with_reducible rfl
        rotate_left
        · simp only [Act.put, List.setIfInBounds_toArray, List.set_cons_zero, List.set_cons_succ, i64_w, i32_w]
          rfl
        refine take_ (i := 3) (N := some 10) (v := ?_) (a' := ?_) #[true, true, true, true, true, false, false, false, false] rfl rfl (take_ofW HT_.out HW_.out (by kernel_rfl)) (fun _ _ _ h => h) (Or.inl ⟨by rfl, ?_⟩) hHeld ?_ ?_
        rotate_left
        · rintro w' ⟨s0, s1, s2, s3, s4, s5, s6, s7⟩
          go_simp
          with_reducible rfl
        rotate_left
        · simp only [Act.put, List.setIfInBounds_toArray, List.set_cons_zero, List.set_cons_succ, i64_w, i32_w]
          rfl
        refine take_ (i := 5) (N := some 12) (v := ?_) (a' := ?_) #[true, true, true, true, true, true, false, false, false] rfl rfl (take_ofW HT_.out HW_.out (by kernel_rfl)) (fun _ _ _ h => h) (Or.inl ⟨by rfl, ?_⟩) hHeld ?_ ?_
        rotate_left
        · rintro w' ⟨s0, s1, s2, s3, s4, s5, s6, s7⟩
          go_simp
          with_reducible rfl
        rotate_left
        · simp only [Act.put, List.setIfInBounds_toArray, List.set_cons_zero, List.set_cons_succ, i64_w, i32_w]
          rfl
        refine pure_ (i := 6) (N := some 13) (v := ?_) (a' := ?_) #[true, true, true, true, true, true, true, false, false] rfl rfl (any_of HT_.out (by kernel_rfl)) (fun _ _ _ h => h) (Or.inl ⟨by rfl, ?_⟩) ?_ ?_
        rotate_left
        · intro w'
          go_simp
          with_reducible rfl
        rotate_left
        · simp only [Act.put, List.setIfInBounds_toArray, List.set_cons_zero, List.set_cons_succ, i64_w, i32_w]
          rfl
        refine one_ (i := 7) (N := some 14) #[true, true, true, true, true, true, true, true, false] rfl rfl (one_of HT_.out (by kernel_rfl)) (by decide) (fun K hK => ?_)
        refine goes_ Tryd.func37 (by kernel_rfl) rfl #[.agg #[.int .i64 a0_0, .int .i64 a0_1, .int .i64 a0_2, .int .u64 a0_3, .int .u64 a0_4, .int .u64 a0_5], .slice A11 y259.length c11] (by rfl) rfl rfl (by (try simp only [List.map_toArray, List.map_cons, List.map_nil]); first | done | rfl | (simp only [List.length_drop, List.length_take]; rfl)) ?_
        with_reducible refine (spec_Root.calls k a0_0 a0_1 a0_2 a0_3 a0_4 a0_5 (fun k_ => (((P1_ k_ ∨ w.heap.size ≤ k_) ∧ k_ ≠ gb257) ∧ k_ ≠ gb258)) _ _ y259 t264 _ ?side1 A7.out).mono ?_
        (case side1 => exact HO263.out)
        rintro e w12 ⟨v265, rfl, ho0, hb⟩
        refine ⟨_, rfl, ?_⟩
        have n0_ := Aside0.mk (Kd.V_below (by (with_reducible repeat (first | apply Kd.V_alloc | apply Kd.V_drewN | apply Kd.V_drew)); exact HO1.out) hb)
        have n1_ := Aside0.mk (Kd.V_below (by (with_reducible repeat (first | apply Kd.V_alloc | apply Kd.V_drewN | apply Kd.V_drew)); exact HO263.out) hb)
        have n2_ := Aside0.mk (Kd.V_lower (Kd.V_mono (ok' := fun k_ => (P1_ k_ ∨ w.heap.size ≤ k_) ∧ k_ ≠ gb257 ∧ k_ ≠ gb258) ho0 (fun k_ hk_ => ⟨Or.elim hk_ (fun hs_ => hs_.1.1) (fun hn_ => (.inr (Nat.le_trans (below_size (by repeat (first | (with_reducible first | exact HB.out | apply below_alloc | apply pw_below_drewN | apply below_drew1 | refine below_set ?_ GE257.out | refine below_set ?_ GE258.out) | exact HB.out))) hn_))), Or.elim hk_ (fun hs_ => hs_.1.2) (fun hn_ => (Kd.freshB (g := gb257) (o := .cells #[.int .i64 a0_0, .int .i64 a0_1, .int .i64 a0_2, .int .u64 a0_3, .int .u64 a0_4, .int .u64 a0_5] 24 (0, 0)) (by (with_reducible repeat (first | refine blk_drewN ?_ _ | refine blk_drew ?_ | refine blk_alloc ?_ _)); exact BK257.out) k_ hn_)), Or.elim hk_ (fun hs_ => hs_.2) (fun hn_ => (Kd.freshB (g := gb258) (o := .cells #[.int .u64 a2_0, .int .u64 a2_1] 55 (0, 0)) (by (with_reducible repeat (first | refine blk_drewN ?_ _ | refine blk_drew ?_ | refine blk_alloc ?_ _)); exact BK258.out) k_ hn_))⟩)) (below_size (by repeat (first | (with_reducible first | exact HB.out | apply below_alloc | apply pw_below_drewN | apply below_drew1 | refine below_set ?_ GE257.out | refine below_set ?_ GE258.out) | exact HB.out))))
        have n3_ := Aside0.mk (blk_below (g := gb257) (o := .cells #[.int .i64 a0_0, .int .i64 a0_1, .int .i64 a0_2, .int .u64 a0_3, .int .u64 a0_4, .int .u64 a0_5] 24 (0, 0)) (by (with_reducible repeat (first | refine blk_drewN ?_ _ | refine blk_drew ?_ | refine blk_alloc ?_ _)); exact BK257.out) hb)
        have n4_ := Aside0.mk (blk_below (g := gb258) (o := .cells #[.int .u64 a2_0, .int .u64 a2_1] 55 (0, 0)) (by (with_reducible repeat (first | refine blk_drewN ?_ _ | refine blk_drew ?_ | refine blk_alloc ?_ _)); exact BK258.out) hb)
        have n5_ := Aside0.mk (below_step (by repeat (first | (with_reducible first | exact HB.out | apply below_alloc | apply pw_below_drewN | apply below_drew1 | refine below_set ?_ GE257.out | refine below_set ?_ GE258.out) | exact HB.out)) hb)
        clear HO1
        clear HO263
        clear BK257
        clear BK258
        clear HB
        have HO1 := n0_
        have HO263 := n1_
        have HO266 := n2_
        have BK257 := n3_
        have BK258 := n4_
        have HB := n5_
        clear n0_ n1_ n2_ n3_ n4_ n5_
        (try clear hb)
        (try clear hb2)
        (try clear hk)
        (try clear hi)
        (try clear ho0)
        refine hK.out _ _ ⟨(blk_cell BK257.out 0).trans rfl, (blk_cell BK257.out 1).trans rfl, (blk_cell BK257.out 2).trans rfl, (blk_cell BK257.out 3).trans rfl, (blk_cell BK257.out 4).trans rfl, (blk_cell BK257.out 5).trans rfl, (blk_cell BK258.out 0).trans rfl, (blk_cell BK258.out 1).trans rfl⟩ (fun hHeld => ?_)
        clear hK K
        refine norm_ (a' := ?_) ?_ ?_
        rotate_left
        · show Act.put _ (some 14) _ = _
          simp only [Act.put, List.setIfInBounds_toArray, List.set_cons_zero, List.set_cons_succ, i64_w, i32_w]
          rfl
        refine pure_ (i := 8) (N := some 6) (v := ?_) (a' := ?_) #[true, true, true, true, true, true, true, true, true] rfl rfl (any_of HT_.out (by kernel_rfl)) (fun _ _ _ h => h) (Or.inl ⟨by rfl, ?_⟩) ?_ ?_
        rotate_left
        · intro w'
          go_simp
          with_reducible rfl
        rotate_left
        · simp only [Act.put, List.setIfInBounds_toArray, List.set_cons_zero, List.set_cons_succ, i64_w, i32_w]
          rfl
        refine done_ (done_of HT_.out (by kernel_rfl)) ?_
        try go_wp2
        go_ret
        exact ⟨_, by first | rfl | (simp [errW_none, errW_some] <;> rfl) | (simp [*, errW_none, errW_some] <;> rfl), by (with_reducible repeat (first | apply Kd.V_alloc | apply Kd.V_drewN | apply Kd.V_drew)); exact Kd.V_mono HO266.out (fun _ hk => hk.1), by repeat (first | (with_reducible first | exact HB.out | apply below_alloc | apply pw_below_drewN | apply below_drew1 | refine below_set ?_ GE257.out | refine below_set ?_ GE258.out) | exact HB.out)⟩
      · rw [if_neg c6] at H
        exact absurd H (by simp)
    · rw [if_neg c5] at H
      exact absurd H (by simp)
  · rw [if_neg c4] at H
    exact absurd H (by simp)

-- NOT PRINTED: function 6 (laws_FnRangeGrows)

/-! ### impl_word: function 85, by hand -/
def impl_word.f (a0 : Int) (a1 : Int) : Option (List Int) := some (Hs.wordF a0 a1)
theorem impl_word.calls (a0 : Int) (a1 : Int) (r : List Int) (w : World) (h : impl_word.f a0 a1 = some r) :
    Calls Tryd.prog 85 #[.int .u64 a0, .int .i64 a1] w fun e w' => ∃ v0_ : Value, e = .returned (v0_) ∧ Kd.R (Kd.int .u8) 5 w' w.heap.size (fun _ => True) v0_ r ∧ Below w.heap.size w w' := by
  obtain rfl := Option.some.inj h
  exact Hs.word_calls a0 a1 w

/-! ### impl_mixed: function 86, by hand -/
def impl_mixed.f (a0 : Int) (l1 : List Int) : Option (Int) := if l1.length ≤ 140737488351232 then some (Hs.mixF a0 l1) else none
theorem impl_mixed.calls (a0 : Int) (A1 : Option Addr) (c1 : Nat) (l1 : List Int) (r : Int) (w : World) (hr1 : Kd.C (Kd.int .u8) w A1 l1.length l1) (hc1 : l1.length ≤ c1) (h : impl_mixed.f a0 l1 = some r) :
    Calls Tryd.prog 86 #[.int .u64 a0, .slice A1 l1.length c1] w fun e w' => e = .returned (.int .u64 r) ∧ Drawn0 w w' := by
  unfold impl_mixed.f at h
  split at h
  · obtain rfl := Option.some.inj h
    refine (Hs.mixed_calls a0 A1 c1 l1 w hr1 (by assumption)).mono ?_
    rintro e w' ⟨rfl, rfl⟩
    exact ⟨rfl, Drawn0.refl _⟩
  · cases h

end Go.Proofs.YtfhcpniibiobgaaDoor.Qf
