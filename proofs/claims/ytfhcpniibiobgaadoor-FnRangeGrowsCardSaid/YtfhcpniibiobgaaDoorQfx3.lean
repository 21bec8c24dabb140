-- Written by wip/tools/myprint.py for this seat (the kit's print with changes); Lean checks it.
import Derived.Test.YtfhcpniibiobgaaDoorQfx0
import Derived.Test.YtfhcpniibiobgaaDoorQfx1
import Derived.Test.YtfhcpniibiobgaaDoorQfx2
namespace Go.Proofs.YtfhcpniibiobgaaDoor.Qf
open Go.RowKit Go.Proofs.YtfhcpniibiobgaaDoorW.PrintWords Go.Proofs.YtfhcpniibiobgaaDoorW.PrintLast Go.Proofs.YtfhcpniibiobgaaDoorW.PrintMore
attribute [local go_sem] max2_int min2_int max_two min_two max_three min_three max_four min_four   -- for this text's walks alone
set_option linter.unusedVariables false
set_option linter.unusedSimpArgs false

/-! ### spec_HashChildren: function 77 -/
def spec_HashChildren.l0 : Nat → List Int → List Int → List Int → Int → Option (List Int)
  | 0, _, _, _, _ => none
  | k + 1, x1, x2, x7, x8 => if x8 ≥ 0 then (if 0 ≤ x8 then ((some (([(shr .u64 (IntKind.u64.wrap ((x1.length : Int))) x8) % 256] : List Int) : List Int)).bind fun y152 => (if x7.length + y152.length < 140737488355328 then (spec_HashChildren.l0 k x1 x2 (x7 ++ y152) (wrap64 (x8 - 8))) else (none))) else (none)) else (if x7.length + x1.length < 140737488355328 then ((some (x7 ++ x1 : List Int)).bind fun y158 => (if y158.length + x2.length < 140737488355328 then (some (y158 ++ x2)) else (none))) else (none))
def spec_HashChildren.f (k : Nat) (a0_0 : Int) (a0_1 : Int) (a0_2 : Int) (a0_3 : Int) (a0_4 : Int) (a0_5 : Int) (l1 : List Int) (l2 : List Int) : Option (List Int) := (spec_Terms.f a0_0 a0_1 a0_2 a0_3 a0_4 a0_5).bind fun t148 => (if t148 = true then (spec_HashChildren.l0 k l1 l2 (([1] : List Int)) 56) else ((some (([] : List Int) : List Int)).bind fun y164 => (if y164.length + l1.length < 140737488355328 then ((some (y164 ++ l1 : List Int)).bind fun y167 => ((some (([255] : List Int) : List Int)).bind fun y170 => (if y167.length + y170.length < 140737488355328 then ((some (y167 ++ y170 : List Int)).bind fun y173 => (if y173.length + l2.length < 140737488355328 then ((spec_word.f k a0_0 a0_1 a0_2 a0_3 a0_4 a0_5 a0_5 (y173 ++ l2)).bind fun t179 => (some t179)) else (none))) else (none)))) else (none))))
theorem spec_HashChildren.mono_l : ∀ k, (∀ y0 y1 y2 y3, LeO (spec_HashChildren.l0 k y0 y1 y2 y3) (spec_HashChildren.l0 (k + 1) y0 y1 y2 y3))
  | 0 => fun _ _ _ _ r h => by simp [spec_HashChildren.l0] at h
  | k + 1 => by
    have ih0 := spec_HashChildren.mono_l k
    · intro y0 y1 y2 y3
      unfold spec_HashChildren.l0
      repeat' first
      | (with_reducible exact ih0 _ _ _ _)
      | (with_reducible exact spec_word.mono _ _ _ _ _ _ _ _ _)
      | (with_reducible exact LeO.refl _)
      | (with_reducible exact LeO.none _)
      | (with_reducible refine LeO.ite ?_ ?_)
      | (with_reducible refine LeO.bind ?_ (fun _ => ?_))
      | exact ih0 _ _ _ _
      | exact spec_word.mono _ _ _ _ _ _ _ _ _
      | exact LeO.none _
      | refine LeO.ite ?_ ?_
      | refine LeO.bind ?_ (fun _ => ?_)
theorem spec_HashChildren.mono : ∀ a0 a1 a2 a3 a4 a5 a6 a7 k, LeO (spec_HashChildren.f k a0 a1 a2 a3 a4 a5 a6 a7) (spec_HashChildren.f (k + 1) a0 a1 a2 a3 a4 a5 a6 a7) := by
  intro a0 a1 a2 a3 a4 a5 a6 a7 k
  have ih0 := spec_HashChildren.mono_l k
  unfold spec_HashChildren.f
  repeat' first
      | (with_reducible exact ih0 _ _ _ _)
      | (with_reducible exact spec_word.mono _ _ _ _ _ _ _ _ _)
      | (with_reducible exact LeO.refl _)
      | (with_reducible exact LeO.none _)
      | (with_reducible refine LeO.ite ?_ ?_)
      | (with_reducible refine LeO.bind ?_ (fun _ => ?_))
      | exact ih0 _ _ _ _
      | exact spec_word.mono _ _ _ _ _ _ _ _ _
      | exact LeO.none _
      | refine LeO.ite ?_ ?_
      | refine LeO.bind ?_ (fun _ => ?_)
def spec_HashChildren.T8 : Bool × List (List Nat × List Nat) := (true, [([], []), ([], []), ([1], [1]), ([], []), ([], []), ([3, 4], [3, 4]), ([], []), ([5, 6, 5], [5, 6]), ([], []), ([7, 8, 7], [7, 8]), ([0, 2, 9, 9], [0, 2, 9]), ([10, 10, 0, 1, 2, 3, 4, 5, 6, 7, 8, 9, 10], [10])])
def spec_HashChildren.B8 : List Nat := [0, 0, 2, 0, 0, 24, 0, 120, 0, 504, 1023, 2047]
theorem spec_HashChildren.tab8 : rtab .any (opsOf Tryd.f77 8) = spec_HashChildren.T8 := by kernel_rfl
theorem spec_HashChildren.bits8 : waitsOk spec_HashChildren.T8.2 spec_HashChildren.B8 = true := by kernel_rfl
set_option maxHeartbeats 8000000 in
set_option maxRecDepth 100000 in
theorem spec_HashChildren.calls (k : Nat) (a0_0 : Int) (a0_1 : Int) (a0_2 : Int) (a0_3 : Int) (a0_4 : Int) (a0_5 : Int) (A1 : Option Addr) (c1 : Nat) (l1 : List Int) (A2 : Option Addr) (c2 : Nat) (l2 : List Int) (r : List Int) (w : World) (hr1 : Kd.C (Kd.int .u8) w A1 l1.length l1) (hc1 : l1.length ≤ c1) (hr2 : Kd.C (Kd.int .u8) w A2 l2.length l2) (hc2 : l2.length ≤ c2) (h : spec_HashChildren.f k a0_0 a0_1 a0_2 a0_3 a0_4 a0_5 l1 l2 = some r) :
    Calls Tryd.prog 77 #[.agg #[.int .i64 a0_0, .int .i64 a0_1, .int .i64 a0_2, .int .u64 a0_3, .int .u64 a0_4, .int .u64 a0_5], .slice A1 l1.length c1, .slice A2 l2.length c2] w fun e w' => ∃ v0_ : Value, e = .returned (v0_) ∧ Kd.R (Kd.int .u8) 5 w' w.heap.size (fun _ => True) v0_ r ∧ Below w.heap.size w w' := by
  have hu24 := Tryd.underlying24
  have HR1 := Aside0.mk hr1
  have HC1 := Aside0.mk hc1
  clear hr1 hc1
  have HR2 := Aside0.mk hr2
  have HC2 := Aside0.mk hc2
  clear hr2 hc2
  have HB := Aside0.mk (Below.refl w.heap.size w)
  have H : ((spec_Terms.f a0_0 a0_1 a0_2 a0_3 a0_4 a0_5).bind fun t148 => (if t148 = true then (spec_HashChildren.l0 k l1 l2 (([1] : List Int)) 56) else ((some (([] : List Int) : List Int)).bind fun y164 => (if y164.length + l1.length < 140737488355328 then ((some (y164 ++ l1 : List Int)).bind fun y167 => ((some (([255] : List Int) : List Int)).bind fun y170 => (if y167.length + y170.length < 140737488355328 then ((some (y167 ++ y170 : List Int)).bind fun y173 => (if y173.length + l2.length < 140737488355328 then ((spec_word.f k a0_0 a0_1 a0_2 a0_3 a0_4 a0_5 a0_5 (y173 ++ l2)).bind fun t179 => (some t179)) else (none))) else (none)))) else (none))))) = some r := h
  clear h
  replace H := Option.bind_eq_some_iff.mp H
  obtain ⟨t148, A40, H⟩ := H
  replace H : (if t148 = true then (spec_HashChildren.l0 k l1 l2 (([1] : List Int)) 56) else ((some (([] : List Int) : List Int)).bind fun y164 => (if y164.length + l1.length < 140737488355328 then ((some (y164 ++ l1 : List Int)).bind fun y167 => ((some (([255] : List Int) : List Int)).bind fun y170 => (if y167.length + y170.length < 140737488355328 then ((some (y167 ++ y170 : List Int)).bind fun y173 => (if y173.length + l2.length < 140737488355328 then ((spec_word.f k a0_0 a0_1 a0_2 a0_3 a0_4 a0_5 a0_5 (y173 ++ l2)).bind fun t179 => (some t179)) else (none))) else (none)))) else (none)))) = some r := H
  have A4 := Aside0.mk A40
  clear A40
  by_cases c5 : t148 = true
  · subst c5
    have H1 : (spec_HashChildren.l0 k l1 l2 (([1] : List Int)) 56) = some r := by rw [if_pos rfl] at H; exact H
    clear H
    have H := H1
    clear H1
    obtain ⟨y149, hy149⟩ : ∃ y_ : List Int, y_ = (([1] : List Int)) := ⟨_, rfl⟩
    replace H : (spec_HashChildren.l0 k l1 l2 y149 56) = some r := by first | (rw [hy149]; with_reducible exact H) | (have H2_ := (Option.bind_some _ _).symm.trans H; rw [hy149]; with_reducible exact H2_) | (have H2_ := (Option.bind_some _ _).symm.trans H; with_reducible exact H2_) | with_reducible exact H | (rw [hy149]; exact H) | exact H
    have Ny149 := Aside0.mk hy149
    clear hy149
    have H' := Aside0.mk H
    clear H
    go_enter Tryd.func77, Tryd.ntmps77
    go_wp2_with (first | ((with_reducible refine gate_dst (N := 3) rfl ?_); refine box_event ?hg (N := 3) ?hd (cs := #[.int .i64 a0_0, .int .i64 a0_1, .int .i64 a0_2, .int .u64 a0_3, .int .u64 a0_4, .int .u64 a0_5]) (t := 24) ?hr ?_; (case hd => rfl); (case hg => rfl); (case hr => first | (go_simp; done) | (go_simp; rfl)); intro gb147 hg w6 hbox hb; have n0_ := Aside0.mk (below_step (by repeat (first | (with_reducible first | exact HB.out | apply below_alloc | apply pw_below_drewN | apply below_drew1) | exact HB.out)) hb); have n1_ := Aside0.mk (hbox); have n2_ := Aside0.mk ((by rw [hg]; exact (below_size (by repeat (first | (with_reducible first | exact HB.out | apply below_alloc | apply pw_below_drewN | apply below_drew1) | exact HB.out))) : w.heap.size ≤ gb147)); have n3_ := Aside0.mk ((by rw [hg]; exact (below_size (by repeat (first | (with_reducible first | exact HB.out | apply below_alloc | apply pw_below_drewN | apply below_drew1) | exact HB.out))) : w.heap.size ≤ gb147)); clear HB; have HB := n0_; have BK147 := n1_; have GW147 := n2_; have GE147 := n3_; clear n0_ n1_ n2_ n3_; clear hb hbox hg; have hcz7_0 : w6.cell? ⟨gb147, 0, none⟩ = some (.int .i64 a0_0) := (blk_cell BK147.out 0).trans rfl; have hcz7_1 : w6.cell? ⟨gb147, 1, none⟩ = some (.int .i64 a0_1) := (blk_cell BK147.out 1).trans rfl; have hcz7_2 : w6.cell? ⟨gb147, 2, none⟩ = some (.int .i64 a0_2) := (blk_cell BK147.out 2).trans rfl; have hcz7_3 : w6.cell? ⟨gb147, 3, none⟩ = some (.int .u64 a0_3) := (blk_cell BK147.out 3).trans rfl; have hcz7_4 : w6.cell? ⟨gb147, 4, none⟩ = some (.int .u64 a0_4) := (blk_cell BK147.out 4).trans rfl; have hcz7_5 : w6.cell? ⟨gb147, 5, none⟩ = some (.int .u64 a0_5) := (blk_cell BK147.out 5).trans rfl; have hfz7_0 := blk_frozen BK147.out 0; have hfz7_1 := blk_frozen BK147.out 1; have hfz7_2 := blk_frozen BK147.out 2; have hfz7_3 := blk_frozen BK147.out 3; have hfz7_4 := blk_frozen BK147.out 4; have hfz7_5 := blk_frozen BK147.out 5) | ((with_reducible refine gate_callee (f := 14) rfl ?_); refine goesL_ (some 10) rfl rfl Tryd.func14 (by kernel_rfl) rfl #[.agg #[.int .i64 a0_0, .int .i64 a0_1, .int .i64 a0_2, .int .u64 a0_3, .int .u64 a0_4, .int .u64 a0_5]] rfl (by (try simp only [List.map_toArray, List.map_cons, List.map_nil]); first | done | rfl | (simp only [List.length_drop, List.length_take]; rfl)) ?_; (with_reducible refine (spec_Terms.calls a0_0 a0_1 a0_2 a0_3 a0_4 a0_5 true _ A4.out).mono ?_); rintro e w8 ⟨rfl, hb⟩; refine ⟨_, rfl, ?_⟩; have n0_ := Aside0.mk (blk_below (g := gb147) (o := .cells #[.int .i64 a0_0, .int .i64 a0_1, .int .i64 a0_2, .int .u64 a0_3, .int .u64 a0_4, .int .u64 a0_5] 24 (0, 0)) (by (with_reducible repeat (first | refine blk_drewN ?_ _ | refine blk_drew ?_ | refine blk_alloc ?_ _)); exact BK147.out) hb); have n1_ := Aside0.mk (below_step (by repeat (first | (with_reducible first | exact HB.out | apply below_alloc | apply pw_below_drewN | apply below_drew1 | refine below_set ?_ GE147.out) | exact HB.out)) hb); clear BK147; clear HB; have BK147 := n0_; have HB := n1_; clear n0_ n1_; (try clear hb); (try clear hb2); (try clear hk); (try clear hi)) | ((with_reducible refine gate_dst (N := 11) rfl ?_); refine Kd.R_lit (Kd.int .u8) _ 5 ?hg (N := 11) ?hd (xs := ([1] : List Int)) (inner := [.int .u8 1]) (ok := fun _ => True) (okp := fun _ => True) ?hr ?hp (fun _ hk => hk) trivial (Below.refl _ _) (Nat.le_refl _) (by simp) ?_; (case hd => rfl); (case hg => rfl); (case hr => first | (go_simp; done) | (go_simp; rfl)); (case hp => exact (Reps.one (show Kd.M (Kd.int .u8) _ _ _ 1 [.int .u8 1] from rfl) (Reps.none _ _))); intro v150 w9 ho10 hb hg_ hnew_; clear hg_ hnew_; (first | rw [← Ny149.out] at ho10 | (simp only [Int.reduceToNat] at ho10; rw [← Ny149.out] at ho10)); have n0_ := Aside0.mk (Kd.R_lower ho10 (below_size (by repeat (first | (with_reducible first | exact HB.out | apply below_alloc | apply pw_below_drewN | apply below_drew1 | refine below_set ?_ GE147.out) | exact HB.out)))); have n1_ := Aside0.mk (blk_below (g := gb147) (o := .cells #[.int .i64 a0_0, .int .i64 a0_1, .int .i64 a0_2, .int .u64 a0_3, .int .u64 a0_4, .int .u64 a0_5] 24 (0, 0)) (by (with_reducible repeat (first | refine blk_drewN ?_ _ | refine blk_drew ?_ | refine blk_alloc ?_ _)); exact BK147.out) hb); have n2_ := Aside0.mk (below_step (by repeat (first | (with_reducible first | exact HB.out | apply below_alloc | apply pw_below_drewN | apply below_drew1 | refine below_set ?_ GE147.out) | exact HB.out)) hb); clear BK147; clear HB; have HO151 := n0_; have BK147 := n1_; have HB := n2_; clear n0_ n1_ n2_; clear hb ho10))
    (try simp only [Act.put, List.setIfInBounds_toArray, List.set_cons_zero, List.set_cons_succ])
    go_loopg [7, 8] k (fun kq v7 v8 w' => ∃ (x7_1 : List Int) (x8_1 : Int), v8 = .int .i64 x8_1 ∧ Aside0 (spec_HashChildren.l0 kq l1 l2 x7_1 x8_1 = some r) ∧ Aside0 (kq ≤ k) ∧ Aside0 (Kd.R (Kd.int .u8) 5 w' w.heap.size (fun _ => True) v7 x7_1) ∧ Aside0 (w'.heap[gb147]? = some (.cells #[.int .i64 a0_0, .int .i64 a0_1, .int .i64 a0_2, .int .u64 a0_3, .int .u64 a0_4, .int .u64 a0_5] 24 (0, 0))) ∧ Aside0 (Below w.heap.size w w'))
    case atStart => exact ⟨(y149), (56), (by first | rfl | (simp; done) | (simp [*]; done)), H', ⟨Nat.le_refl _⟩, ⟨by (with_reducible repeat (first | apply Kd.R_alloc | apply Kd.R_drewN | apply Kd.R_drew)); exact HO151.out⟩, ⟨by (with_reducible repeat (first | refine blk_drewN ?_ _ | refine blk_drew ?_ | refine blk_alloc ?_ _)); exact BK147.out⟩, ⟨by repeat (first | (with_reducible first | exact HB.out | apply below_alloc | apply pw_below_drewN | apply below_drew1 | refine below_set ?_ GE147.out) | exact HB.out)⟩⟩
    case round =>
      clear H'
      try clear c1
      try clear c2
      try clear p2
      try clear c5
      try clear c7
      try clear hcz7_0
      try clear hcz7_1
      try clear hcz7_2
      try clear hcz7_3
      try clear hcz7_4
      try clear hcz7_5
      try clear hfz7_0
      try clear hfz7_1
      try clear hfz7_2
      try clear hfz7_3
      try clear hfz7_4
      try clear hfz7_5
      obtain ⟨x7_1, x8_1, rfl, HA, HK1, HO_7, BK147, HB⟩ := hrel
      cases gk with
      | zero => exact absurd HA.out (by simp [spec_HashChildren.l0])
      | succ k1 =>
        have H := HA.out
        clear HA
        simp only [spec_HashChildren.l0] at H
        by_cases c11 : x8_1 ≥ 0
        · rw [if_pos c11] at H
          have c11b0 : decide (0 ≤ x8_1) = true := decide_eq_true c11
          clear c11
          by_cases c12 : 0 ≤ x8_1
          · rw [if_pos c12] at H
            have c12b0 := eq_true c12
            have c12b1 : decide (0 ≤ x8_1) = true := decide_eq_true c12
            clear c12
            obtain ⟨ji13, hji13⟩ : ∃ j_ : Int, (shr .u64 (IntKind.u64.wrap ((l1.length : Int))) x8_1) = j_ := ⟨_, rfl⟩
            replace H : ((some (([(ji13) % 256] : List Int) : List Int)).bind fun y152 => (if x7_1.length + y152.length < 140737488355328 then (spec_HashChildren.l0 k1 l1 l2 (x7_1 ++ y152) (wrap64 (x8_1 - 8))) else (none))) = some r := by first | (rw [hji13] at H; exact H) | (simp only [hji13] at H ⊢; exact H)
            have hji13_ : ((IntKind.u64.wrap ((l1.length : Int))) / 2 ^ min x8_1.toNat 64) = ji13 := hji13
            have hji13z : x8_1 ≤ 64 → ((IntKind.u64.wrap ((l1.length : Int))) / 2 ^ x8_1.toNat) = ji13 := shr_small hji13
            obtain ⟨y152, hy152⟩ : ∃ y_ : List Int, y_ = (([(ji13) % 256] : List Int)) := ⟨_, rfl⟩
            replace H : (if x7_1.length + y152.length < 140737488355328 then (spec_HashChildren.l0 k1 l1 l2 (x7_1 ++ y152) (wrap64 (x8_1 - 8))) else (none)) = some r := by first | (rw [hy152]; with_reducible exact H) | (have H2_ := (Option.bind_some _ _).symm.trans H; rw [hy152]; with_reducible exact H2_) | (have H2_ := (Option.bind_some _ _).symm.trans H; with_reducible exact H2_) | with_reducible exact H | (rw [hy152]; exact H) | exact H
            have Ny152 := Aside0.mk hy152
            clear hy152
            by_cases c14 : x7_1.length + y152.length < 140737488355328
            · rw [if_pos c14] at H
              have LMc14 := Aside0.mk c14
              clear c14
              obtain ⟨y155, hy155⟩ : ∃ y_ : List Int, y_ = (x7_1 ++ y152) := ⟨_, rfl⟩
              replace H : (spec_HashChildren.l0 k1 l1 l2 y155 (wrap64 (x8_1 - 8))) = some r := by first | (rw [hy155]; with_reducible exact H) | (have H2_ := (Option.bind_some _ _).symm.trans H; rw [hy155]; with_reducible exact H2_) | (have H2_ := (Option.bind_some _ _).symm.trans H; with_reducible exact H2_) | with_reducible exact H | (rw [hy155]; exact H) | exact H
              have Ny155 := Aside0.mk hy155
              clear hy155
              have H' := Aside0.mk H
              clear H
              go_wp2_with (first | ((with_reducible refine gate_dst (N := 23) rfl ?_); refine Kd.R_lit (Kd.int .u8) _ 5 ?hg (N := 23) ?hd (xs := ([(ji13) % 256] : List Int)) (inner := [.int .u8 ((ji13) % 256)]) (ok := fun _ => True) (okp := fun _ => True) ?hr ?hp (fun _ hk => hk) trivial (Below.refl _ _) (Nat.le_refl _) (by simp) ?_; (case hd => rfl); (case hg => rfl); (case hr => first | (go_simp; done) | (go_simp; rfl)); (case hp => exact (Reps.one (show Kd.M (Kd.int .u8) _ _ _ ((ji13) % 256) [.int .u8 ((ji13) % 256)] from rfl) (Reps.none _ _))); intro v153 w15 ho16 hb hg_ hnew_; clear hg_ hnew_; (first | rw [← Ny152.out] at ho16 | (simp only [Int.reduceToNat] at ho16; rw [← Ny152.out] at ho16)); have n0_ := Aside0.mk (Kd.R_elder' (by (with_reducible repeat (first | apply Kd.R_alloc | apply Kd.R_drewN | apply Kd.R_drew)); exact HO_7.out) (Kd.R_base ho16) hb); have n1_ := Aside0.mk (Kd.R_lower (Kd.R_new' ho16 (Kd.R_lt (by (with_reducible repeat (first | apply Kd.R_alloc | apply Kd.R_drewN | apply Kd.R_drew)); exact HO_7.out))) (below_size (by repeat (first | (with_reducible first | exact HB.out | apply below_alloc | apply pw_below_drewN | apply below_drew1 | refine below_set ?_ GE147.out) | exact HB.out)))); have n2_ := Aside0.mk (blk_below (g := gb147) (o := .cells #[.int .i64 a0_0, .int .i64 a0_1, .int .i64 a0_2, .int .u64 a0_3, .int .u64 a0_4, .int .u64 a0_5] 24 (0, 0)) (by (with_reducible repeat (first | refine blk_drewN ?_ _ | refine blk_drew ?_ | refine blk_alloc ?_ _)); exact BK147.out) hb); have n3_ := Aside0.mk (below_step (by repeat (first | (with_reducible first | exact HB.out | apply below_alloc | apply pw_below_drewN | apply below_drew1 | refine below_set ?_ GE147.out) | exact HB.out)) hb); clear HO_7; clear BK147; clear HB; have HO_7 := n0_; have HO154 := n1_; have BK147 := n2_; have HB := n3_; clear n0_ n1_ n2_ n3_; clear hb ho16; obtain ⟨Ao18, co18, eo18⟩ := Kd.R_slice HO154.out; subst eo18) | ((with_reducible refine gate_builtin (b := .append) (xs := #[.tmp 16, .tmp 23]) rfl ?_); at_builtin; refine Kd.R_append_rows (Kd.int .u8) (w0 := w) w.heap.size rfl (.tmp 16) (.tmp 23) 28 5 (.int .u8 0) 1 rfl Tryd.underlying28 info5 rfl (by decide) (by omega) u7 x7_1 y152 _ _ _ (fun k_ => some k_ ≠ (.slice Ao18 y152.length co18 : Value).ownBlock) (fun _ => False) rfl rfl ?aO ?aR (fun _ _ h => h) (fun _ h => h.elim) ?aF ?aB ?aS ?aL ?_; (case aR => repeat (first | exact (Kd.R_reads' HO154.out).2.2 | (with_reducible refine Kd.C_alloc ?_ _) | (with_reducible refine Kd.C_drewN ?_ _) | (with_reducible refine Kd.C_drew ?_))); (case aB => exact (by repeat (first | (with_reducible first | exact HB.out | apply below_alloc | apply pw_below_drewN | apply below_drew1 | refine below_set ?_ GE147.out) | exact HB.out))); (case aF => exact (fun k_ hk => Kd.fresh' (Kd.R_lt (by (with_reducible repeat (first | apply Kd.R_alloc | apply Kd.R_drewN | apply Kd.R_drew)); exact HO154.out)) k_ hk)); (case aO => exact (by (with_reducible repeat (first | apply Kd.R_alloc | apply Kd.R_drewN | apply Kd.R_drew)); exact Kd.R_mono HO_7.out (fun _ hk => hk.2))); (case aS => exact (below_size (by repeat (first | (with_reducible first | exact HB.out | apply below_alloc | apply pw_below_drewN | apply below_drew1 | refine below_set ?_ GE147.out) | exact HB.out)))); (case aL => have := LMc14.out; omega); intro v156 w17 ho hb hg hat; rw [← Ny155.out] at ho; have n0_ := Aside0.mk (blk_grown (g := gb147) (o := .cells #[.int .i64 a0_0, .int .i64 a0_1, .int .i64 a0_2, .int .u64 a0_3, .int .u64 a0_4, .int .u64 a0_5] 24 (0, 0)) (by (with_reducible repeat (first | refine blk_drewN ?_ _ | refine blk_drew ?_ | refine blk_alloc ?_ _)); exact BK147.out) hg (Kd.R_ne HO_7.out BK147.out (by decide))); have n1_ := Aside0.mk (Kd.R_after (ok := (fun _ => True)) (by (with_reducible repeat (first | apply Kd.R_alloc | apply Kd.R_drewN | apply Kd.R_drew)); exact HO154.out) hg hat); have n2_ := Aside0.mk (hb); have n3_ := Aside0.mk (ho); clear BK147; clear HO154; clear HB; clear HO_7; have BK147 := n0_; have HO154 := n1_; have HB := n2_; have HO157 := n3_; clear n0_ n1_ n2_ n3_; clear ho hb hg hat))
              go_roundg k1
              case measure => have := HK1.out; omega
              case rel => exact ⟨(y155), (wrap64 (x8_1 - 8)), (by first | rfl | (simp; done) | (simp [*]; done)), H', ⟨by have := HK1.out; omega⟩, ⟨by (with_reducible repeat (first | apply Kd.R_alloc | apply Kd.R_drewN | apply Kd.R_drew)); exact Kd.R_mono HO157.out (fun _ hk => trivial)⟩, ⟨by (with_reducible repeat (first | refine blk_drewN ?_ _ | refine blk_drew ?_ | refine blk_alloc ?_ _)); exact BK147.out⟩, ⟨by repeat (first | (with_reducible first | exact HB.out | apply below_alloc | apply pw_below_drewN | apply below_drew1 | refine below_set ?_ GE147.out) | exact HB.out)⟩⟩
            · rw [if_neg c14] at H
              exact absurd H (by simp)
          · rw [if_neg c12] at H
            exact absurd H (by simp)
        · rw [if_neg c11] at H
          have c11b0 : decide (0 ≤ x8_1) = false := decide_eq_false c11
          clear c11
          by_cases c19 : x7_1.length + l1.length < 140737488355328
          · rw [if_pos c19] at H
            have LMc19 := Aside0.mk c19
            clear c19
            obtain ⟨y158, hy158⟩ : ∃ y_ : List Int, y_ = (x7_1 ++ l1) := ⟨_, rfl⟩
            replace H : (if y158.length + l2.length < 140737488355328 then (some (y158 ++ l2)) else (none)) = some r := by first | (rw [hy158]; with_reducible exact H) | (have H2_ := (Option.bind_some _ _).symm.trans H; rw [hy158]; with_reducible exact H2_) | (have H2_ := (Option.bind_some _ _).symm.trans H; with_reducible exact H2_) | with_reducible exact H | (rw [hy158]; exact H) | exact H
            have Ny158 := Aside0.mk hy158
            clear hy158
            by_cases c20 : y158.length + l2.length < 140737488355328
            · rw [if_pos c20] at H
              have LMc20 := Aside0.mk c20
              clear c20
              obtain ⟨y161, hy161⟩ : ∃ y_ : List Int, y_ = (y158 ++ l2) := ⟨_, rfl⟩
              replace H : (some y161) = some r := by first | (rw [hy161]; with_reducible exact H) | (have H2_ := (Option.bind_some _ _).symm.trans H; rw [hy161]; with_reducible exact H2_) | (have H2_ := (Option.bind_some _ _).symm.trans H; with_reducible exact H2_) | with_reducible exact H | (rw [hy161]; exact H) | exact H
              have Ny161 := Aside0.mk hy161
              clear hy161
              obtain rfl := Option.some.inj H
              go_wp2_with (first | ((with_reducible refine gate_builtin (b := .append) (xs := #[.tmp 25, .tmp 26]) rfl ?_); at_builtin; refine Kd.R_append_rows (Kd.int .u8) (w0 := w) w.heap.size rfl (.tmp 25) (.tmp 26) 28 5 (.int .u8 0) 1 rfl Tryd.underlying28 info5 rfl (by decide) (by omega) u7 x7_1 l1 _ _ _ (fun _ => True) (fun _ => False) rfl rfl ?aO ?aR (fun _ _ h => h) (fun _ h => h.elim) ?aF ?aB ?aS ?aL ?_; (case aR => repeat (first | exact (Kd.C_below HR1.out HB.out) | (with_reducible refine Kd.C_alloc ?_ _) | (with_reducible refine Kd.C_drewN ?_ _) | (with_reducible refine Kd.C_drew ?_))); (case aB => exact (by repeat (first | (with_reducible first | exact HB.out | apply below_alloc | apply pw_below_drewN | apply below_drew1 | refine below_set ?_ GE147.out) | exact HB.out))); (case aF => exact (fun _ _ => trivial)); (case aO => exact (by (with_reducible repeat (first | apply Kd.R_alloc | apply Kd.R_drewN | apply Kd.R_drew)); exact HO_7.out)); (case aS => exact (below_size (by repeat (first | (with_reducible first | exact HB.out | apply below_alloc | apply pw_below_drewN | apply below_drew1 | refine below_set ?_ GE147.out) | exact HB.out)))); (case aL => have := LMc19.out; omega); intro v159 w21 ho hb hg hat; rw [← Ny158.out] at ho; have n0_ := Aside0.mk (blk_grown (g := gb147) (o := .cells #[.int .i64 a0_0, .int .i64 a0_1, .int .i64 a0_2, .int .u64 a0_3, .int .u64 a0_4, .int .u64 a0_5] 24 (0, 0)) (by (with_reducible repeat (first | refine blk_drewN ?_ _ | refine blk_drew ?_ | refine blk_alloc ?_ _)); exact BK147.out) hg (Kd.R_ne HO_7.out BK147.out (by decide))); have n1_ := Aside0.mk (hb); have n2_ := Aside0.mk (ho); clear BK147; clear HB; clear HO_7; have BK147 := n0_; have HB := n1_; have HO160 := n2_; clear n0_ n1_ n2_; clear ho hb hg hat) | ((with_reducible refine gate_builtin (b := .append) (xs := #[.tmp 27, .tmp 28]) rfl ?_); at_builtin; refine Kd.R_append_rows (Kd.int .u8) (w0 := w) w.heap.size rfl (.tmp 27) (.tmp 28) 28 5 (.int .u8 0) 1 rfl Tryd.underlying28 info5 rfl (by decide) (by omega) v159 y158 l2 _ _ _ (fun _ => True) (fun _ => False) rfl rfl ?aO ?aR (fun _ _ h => h) (fun _ h => h.elim) ?aF ?aB ?aS ?aL ?_; (case aR => repeat (first | exact (Kd.C_below HR2.out HB.out) | (with_reducible refine Kd.C_alloc ?_ _) | (with_reducible refine Kd.C_drewN ?_ _) | (with_reducible refine Kd.C_drew ?_))); (case aB => exact (by repeat (first | (with_reducible first | exact HB.out | apply below_alloc | apply pw_below_drewN | apply below_drew1 | refine below_set ?_ GE147.out) | exact HB.out))); (case aF => exact (fun _ _ => trivial)); (case aO => exact (by (with_reducible repeat (first | apply Kd.R_alloc | apply Kd.R_drewN | apply Kd.R_drew)); exact HO160.out)); (case aS => exact (below_size (by repeat (first | (with_reducible first | exact HB.out | apply below_alloc | apply pw_below_drewN | apply below_drew1 | refine below_set ?_ GE147.out) | exact HB.out)))); (case aL => have := LMc20.out; omega); intro v162 w22 ho hb hg hat; rw [← Ny161.out] at ho; have n0_ := Aside0.mk (blk_grown (g := gb147) (o := .cells #[.int .i64 a0_0, .int .i64 a0_1, .int .i64 a0_2, .int .u64 a0_3, .int .u64 a0_4, .int .u64 a0_5] 24 (0, 0)) (by (with_reducible repeat (first | refine blk_drewN ?_ _ | refine blk_drew ?_ | refine blk_alloc ?_ _)); exact BK147.out) hg (Kd.R_ne HO160.out BK147.out (by decide))); have n1_ := Aside0.mk (hb); have n2_ := Aside0.mk (ho); clear BK147; clear HB; clear HO160; have BK147 := n0_; have HB := n1_; have HO163 := n2_; clear n0_ n1_ n2_; clear ho hb hg hat))
              go_ret
              exact ⟨_, by first | rfl | (simp [errW_none, errW_some] <;> rfl) | (simp [*, errW_none, errW_some] <;> rfl), by (with_reducible repeat (first | apply Kd.R_alloc | apply Kd.R_drewN | apply Kd.R_drew)); exact HO163.out, by repeat (first | (with_reducible first | exact HB.out | apply below_alloc | apply pw_below_drewN | apply below_drew1 | refine below_set ?_ GE147.out) | exact HB.out)⟩
            · rw [if_neg c20] at H
              exact absurd H (by simp)
          · rw [if_neg c19] at H
            exact absurd H (by simp)
  · replace c5 := Bool.eq_false_iff.mpr c5
    subst c5
    have H1 : ((some (([] : List Int) : List Int)).bind fun y164 => (if y164.length + l1.length < 140737488355328 then ((some (y164 ++ l1 : List Int)).bind fun y167 => ((some (([255] : List Int) : List Int)).bind fun y170 => (if y167.length + y170.length < 140737488355328 then ((some (y167 ++ y170 : List Int)).bind fun y173 => (if y173.length + l2.length < 140737488355328 then ((spec_word.f k a0_0 a0_1 a0_2 a0_3 a0_4 a0_5 a0_5 (y173 ++ l2)).bind fun t179 => (some t179)) else (none))) else (none)))) else (none))) = some r := by rw [if_neg (show ¬ (false = true) by decide)] at H; exact H
    clear H
    have H := H1
    clear H1
    obtain ⟨y164, hy164⟩ : ∃ y_ : List Int, y_ = (([] : List Int)) := ⟨_, rfl⟩
    replace H : (if y164.length + l1.length < 140737488355328 then ((some (y164 ++ l1 : List Int)).bind fun y167 => ((some (([255] : List Int) : List Int)).bind fun y170 => (if y167.length + y170.length < 140737488355328 then ((some (y167 ++ y170 : List Int)).bind fun y173 => (if y173.length + l2.length < 140737488355328 then ((spec_word.f k a0_0 a0_1 a0_2 a0_3 a0_4 a0_5 a0_5 (y173 ++ l2)).bind fun t179 => (some t179)) else (none))) else (none)))) else (none)) = some r := by first | (rw [hy164]; with_reducible exact H) | (have H2_ := (Option.bind_some _ _).symm.trans H; rw [hy164]; with_reducible exact H2_) | (have H2_ := (Option.bind_some _ _).symm.trans H; with_reducible exact H2_) | with_reducible exact H | (rw [hy164]; exact H) | exact H
    have Ny164 := Aside0.mk hy164
    clear hy164
    by_cases c23 : y164.length + l1.length < 140737488355328
    · rw [if_pos c23] at H
      have LMc23 := Aside0.mk c23
      clear c23
      obtain ⟨y167, hy167⟩ : ∃ y_ : List Int, y_ = (y164 ++ l1) := ⟨_, rfl⟩
      replace H : ((some (([255] : List Int) : List Int)).bind fun y170 => (if y167.length + y170.length < 140737488355328 then ((some (y167 ++ y170 : List Int)).bind fun y173 => (if y173.length + l2.length < 140737488355328 then ((spec_word.f k a0_0 a0_1 a0_2 a0_3 a0_4 a0_5 a0_5 (y173 ++ l2)).bind fun t179 => (some t179)) else (none))) else (none))) = some r := by first | (rw [hy167]; with_reducible exact H) | (have H2_ := (Option.bind_some _ _).symm.trans H; rw [hy167]; with_reducible exact H2_) | (have H2_ := (Option.bind_some _ _).symm.trans H; with_reducible exact H2_) | with_reducible exact H | (rw [hy167]; exact H) | exact H
      have Ny167 := Aside0.mk hy167
      clear hy167
      obtain ⟨y170, hy170⟩ : ∃ y_ : List Int, y_ = (([255] : List Int)) := ⟨_, rfl⟩
      replace H : (if y167.length + y170.length < 140737488355328 then ((some (y167 ++ y170 : List Int)).bind fun y173 => (if y173.length + l2.length < 140737488355328 then ((spec_word.f k a0_0 a0_1 a0_2 a0_3 a0_4 a0_5 a0_5 (y173 ++ l2)).bind fun t179 => (some t179)) else (none))) else (none)) = some r := by first | (rw [hy170]; with_reducible exact H) | (have H2_ := (Option.bind_some _ _).symm.trans H; rw [hy170]; with_reducible exact H2_) | (have H2_ := (Option.bind_some _ _).symm.trans H; with_reducible exact H2_) | with_reducible exact H | (rw [hy170]; exact H) | exact H
      have Ny170 := Aside0.mk hy170
      clear hy170
      by_cases c24 : y167.length + y170.length < 140737488355328
      · rw [if_pos c24] at H
        have LMc24 := Aside0.mk c24
        clear c24
        obtain ⟨y173, hy173⟩ : ∃ y_ : List Int, y_ = (y167 ++ y170) := ⟨_, rfl⟩
        replace H : (if y173.length + l2.length < 140737488355328 then ((spec_word.f k a0_0 a0_1 a0_2 a0_3 a0_4 a0_5 a0_5 (y173 ++ l2)).bind fun t179 => (some t179)) else (none)) = some r := by first | (rw [hy173]; with_reducible exact H) | (have H2_ := (Option.bind_some _ _).symm.trans H; rw [hy173]; with_reducible exact H2_) | (have H2_ := (Option.bind_some _ _).symm.trans H; with_reducible exact H2_) | with_reducible exact H | (rw [hy173]; exact H) | exact H
        have Ny173 := Aside0.mk hy173
        clear hy173
        by_cases c25 : y173.length + l2.length < 140737488355328
        · rw [if_pos c25] at H
          have LMc25 := Aside0.mk c25
          clear c25
          obtain ⟨y176, hy176⟩ : ∃ y_ : List Int, y_ = (y173 ++ l2) := ⟨_, rfl⟩
          replace H : ((spec_word.f k a0_0 a0_1 a0_2 a0_3 a0_4 a0_5 a0_5 y176).bind fun t179 => (some t179)) = some r := by first | (rw [hy176]; with_reducible exact H) | (have H2_ := (Option.bind_some _ _).symm.trans H; rw [hy176]; with_reducible exact H2_) | (have H2_ := (Option.bind_some _ _).symm.trans H; with_reducible exact H2_) | with_reducible exact H | (rw [hy176]; exact H) | exact H
          have Ny176 := Aside0.mk hy176
          clear hy176
          replace H := Option.bind_eq_some_iff.mp H
          obtain ⟨t179, A260, H⟩ := H
          replace H : (some t179) = some r := H
          have A26 := Aside0.mk A260
          clear A260
          obtain rfl := Option.some.inj H
          go_enter Tryd.func77, Tryd.ntmps77
          try go_wp2_with (first | ((with_reducible refine gate_dst (N := 3) rfl ?_); refine box_event ?hg (N := 3) ?hd (cs := #[.int .i64 a0_0, .int .i64 a0_1, .int .i64 a0_2, .int .u64 a0_3, .int .u64 a0_4, .int .u64 a0_5]) (t := 24) ?hr ?_; (case hd => rfl); (case hg => rfl); (case hr => first | (go_simp; done) | (go_simp; rfl)); intro gb147 hg w27 hbox hb; have n0_ := Aside0.mk (below_step (by repeat (first | (with_reducible first | exact HB.out | apply below_alloc | apply pw_below_drewN | apply below_drew1) | exact HB.out)) hb); have n1_ := Aside0.mk (hbox); have n2_ := Aside0.mk ((by rw [hg]; exact (below_size (by repeat (first | (with_reducible first | exact HB.out | apply below_alloc | apply pw_below_drewN | apply below_drew1) | exact HB.out))) : w.heap.size ≤ gb147)); have n3_ := Aside0.mk ((by rw [hg]; exact (below_size (by repeat (first | (with_reducible first | exact HB.out | apply below_alloc | apply pw_below_drewN | apply below_drew1) | exact HB.out))) : w.heap.size ≤ gb147)); clear HB; have HB := n0_; have BK147 := n1_; have GW147 := n2_; have GE147 := n3_; clear n0_ n1_ n2_ n3_; clear hb hbox hg; have hcz28_0 : w27.cell? ⟨gb147, 0, none⟩ = some (.int .i64 a0_0) := (blk_cell BK147.out 0).trans rfl; have hcz28_1 : w27.cell? ⟨gb147, 1, none⟩ = some (.int .i64 a0_1) := (blk_cell BK147.out 1).trans rfl; have hcz28_2 : w27.cell? ⟨gb147, 2, none⟩ = some (.int .i64 a0_2) := (blk_cell BK147.out 2).trans rfl; have hcz28_3 : w27.cell? ⟨gb147, 3, none⟩ = some (.int .u64 a0_3) := (blk_cell BK147.out 3).trans rfl; have hcz28_4 : w27.cell? ⟨gb147, 4, none⟩ = some (.int .u64 a0_4) := (blk_cell BK147.out 4).trans rfl; have hcz28_5 : w27.cell? ⟨gb147, 5, none⟩ = some (.int .u64 a0_5) := (blk_cell BK147.out 5).trans rfl; have hfz28_0 := blk_frozen BK147.out 0; have hfz28_1 := blk_frozen BK147.out 1; have hfz28_2 := blk_frozen BK147.out 2; have hfz28_3 := blk_frozen BK147.out 3; have hfz28_4 := blk_frozen BK147.out 4; have hfz28_5 := blk_frozen BK147.out 5) | ((with_reducible refine gate_callee (f := 14) rfl ?_); refine goesL_ (some 10) rfl rfl Tryd.func14 (by kernel_rfl) rfl #[.agg #[.int .i64 a0_0, .int .i64 a0_1, .int .i64 a0_2, .int .u64 a0_3, .int .u64 a0_4, .int .u64 a0_5]] rfl (by (try simp only [List.map_toArray, List.map_cons, List.map_nil]); first | done | rfl | (simp only [List.length_drop, List.length_take]; rfl)) ?_; (with_reducible refine (spec_Terms.calls a0_0 a0_1 a0_2 a0_3 a0_4 a0_5 false _ A4.out).mono ?_); rintro e w29 ⟨rfl, hb⟩; refine ⟨_, rfl, ?_⟩; have n0_ := Aside0.mk (blk_below (g := gb147) (o := .cells #[.int .i64 a0_0, .int .i64 a0_1, .int .i64 a0_2, .int .u64 a0_3, .int .u64 a0_4, .int .u64 a0_5] 24 (0, 0)) (by (with_reducible repeat (first | refine blk_drewN ?_ _ | refine blk_drew ?_ | refine blk_alloc ?_ _)); exact BK147.out) hb); have n1_ := Aside0.mk (below_step (by repeat (first | (with_reducible first | exact HB.out | apply below_alloc | apply pw_below_drewN | apply below_drew1 | refine below_set ?_ GE147.out) | exact HB.out)) hb); clear BK147; clear HB; have BK147 := n0_; have HB := n1_; clear n0_ n1_; (try clear hb); (try clear hb2); (try clear hk); (try clear hi)))
          have n0_ := Aside0.mk (blk_drew BK147.out)
          have n1_ := Aside0.mk (below_drew1 HB.out)
          clear BK147
          clear HB
          have BK147 := n0_
          have HB := n1_
          clear n0_ n1_
          refine start_ (n := 12) (S := fun w' => w'.cell? ⟨gb147, 0, none⟩ = some (.int .i64 a0_0) ∧ w'.cell? ⟨gb147, 1, none⟩ = some (.int .i64 a0_1) ∧ w'.cell? ⟨gb147, 2, none⟩ = some (.int .i64 a0_2) ∧ w'.cell? ⟨gb147, 3, none⟩ = some (.int .u64 a0_3) ∧ w'.cell? ⟨gb147, 4, none⟩ = some (.int .u64 a0_4) ∧ w'.cell? ⟨gb147, 5, none⟩ = some (.int .u64 a0_5)) (ds := []) #[false, false, false, false, false, false, false, false, false, false, false, false] (by kernel_rfl) rfl rfl ⟨(blk_cell BK147.out 0).trans rfl, (blk_cell BK147.out 1).trans rfl, (blk_cell BK147.out 2).trans rfl, (blk_cell BK147.out 3).trans rfl, (blk_cell BK147.out 4).trans rfl, (blk_cell BK147.out 5).trans rfl⟩ (fun hHeld => ?_); refine with_tabW spec_HashChildren.tab8 spec_HashChildren.bits8 (fun HT_ HW_ => ?_)
          generalize w29.drew = w30 at BK147 HB hHeld ⊢
          refine pure_ (i := 1) (N := some 31) (v := ?_) (a' := ?_) #[false, true, false, false, false, false, false, false, false, false, false, false] rfl rfl (any_of HT_.out (by kernel_rfl)) (fun _ _ _ h => h) (Or.inl ⟨by rfl, ?_⟩) ?_ ?_
          rotate_left
          · intro w'
            go_simp
            with_reducible rfl
          rotate_left
          · simp only [Act.put, List.setIfInBounds_toArray, List.set_cons_zero, List.set_cons_succ, i64_w, i32_w]
            rfl
          refine pure_ (i := 4) (N := some 34) (v := ?_) (a' := ?_) #[false, true, false, false, true, false, false, false, false, false, false, false] rfl rfl (any_of HT_.out (by kernel_rfl)) (fun _ _ _ h => h) (Or.inl ⟨by rfl, ?_⟩) ?_ ?_
          rotate_left
          · intro w'
            go_simp
            with_reducible rfl
          rotate_left
          · simp only [Act.put, List.setIfInBounds_toArray, List.set_cons_zero, List.set_cons_succ, i64_w, i32_w]
            rfl
          refine pure_ (i := 8) (N := some 38) (v := ?_) (a' := ?_) #[false, true, false, false, true, false, false, false, true, false, false, false] rfl rfl (any_of HT_.out (by kernel_rfl)) (fun _ _ _ h => h) (Or.inl ⟨by rfl, ?_⟩) ?_ ?_
          rotate_left
          · intro w'
            go_simp
            with_reducible rfl
          rotate_left
          · simp only [Act.put, List.setIfInBounds_toArray, List.set_cons_zero, List.set_cons_succ, i64_w, i32_w]
            rfl
          refine take_ (i := 0) (N := some 30) (v := ?_) (a' := ?_) #[true, true, false, false, true, false, false, false, true, false, false, false] rfl rfl (take_ofW HT_.out HW_.out (by kernel_rfl)) (fun _ _ _ h => h) (Or.inl ⟨by rfl, ?_⟩) hHeld ?_ ?_
          rotate_left
          · rintro w' ⟨s0, s1, s2, s3, s4, s5⟩
            go_simp
            with_reducible rfl
          rotate_left
          · simp only [Act.put, List.setIfInBounds_toArray, List.set_cons_zero, List.set_cons_succ, i64_w, i32_w]
            rfl
          refine take_ (i := 2) (N := some 32) (v := ?_) (a' := ?_) #[true, true, true, false, true, false, false, false, true, false, false, false] rfl rfl (take_ofW HT_.out HW_.out (by kernel_rfl)) (fun _ _ _ h => h) (Or.inl ⟨by rfl, ?_⟩) hHeld ?_ ?_
          rotate_left
          · rintro w' ⟨s0, s1, s2, s3, s4, s5⟩
            go_simp
            with_reducible rfl
          rotate_left
          · simp only [Act.put, List.setIfInBounds_toArray, List.set_cons_zero, List.set_cons_succ, i64_w, i32_w]
            rfl
          refine join_ (σ := Value × Value × Value) 4 #[true, true, true, true, true, true, true, false, true, false, false, false] (fun s_ => [(33, s_.1), (35, s_.2.1), (36, s_.2.2)]) (fun s_ w' => (w'.cell? ⟨gb147, 0, none⟩ = some (.int .i64 a0_0) ∧ w'.cell? ⟨gb147, 1, none⟩ = some (.int .i64 a0_1) ∧ w'.cell? ⟨gb147, 2, none⟩ = some (.int .i64 a0_2) ∧ w'.cell? ⟨gb147, 3, none⟩ = some (.int .u64 a0_3) ∧ w'.cell? ⟨gb147, 4, none⟩ = some (.int .u64 a0_4) ∧ w'.cell? ⟨gb147, 5, none⟩ = some (.int .u64 a0_5)) ∧ (Kd.R (Kd.int .u8) 5 w' w.heap.size (fun k_ => some k_ ≠ (s_.2.2 : Value).ownBlock) s_.2.1 y167) ∧ (Kd.R (Kd.int .u8) 5 w' w.heap.size (fun k_ => some k_ ≠ (s_.2.1 : Value).ownBlock) s_.2.2 y170) ∧ (w'.heap[gb147]? = some (.cells #[.int .i64 a0_0, .int .i64 a0_1, .int .i64 a0_2, .int .u64 a0_3, .int .u64 a0_4, .int .u64 a0_5] 24 (0, 0))) ∧ (Below w.heap.size w w')) ?_ ?_
          rotate_left
          · intro hCont
            refine two_ (i := 3) (j := 6) (Ni := some 33) (Nj := some 36) #[true, true, true, true, true, false, false, false, true, false, false, false] #[true, true, true, false, true, false, true, false, true, false, false, false] rfl rfl rfl rfl (two_of HT_.out (by kernel_rfl)) (by decide) (by decide) (fun K hK => ?_) (fun K hK => ?_)
            · skip
              refine Kd.R_lit_step (Kd.int .u8) _ 5 ?hg (N := 33) ?hd (xs := ([] : List Int)) (inner := []) (ok := fun _ => True) (okp := fun _ => True) ?hr ?hp (fun _ hk => hk) trivial (Below.refl _ _) (Nat.le_refl _) (by simp) ?_; (case hd => rfl); (case hg => rfl); (case hr => first | (go_simp; done) | (go_simp; rfl)); (case hp => exact (Reps.none _ _))
              intro v165 w31 ho32 hb hg_ hnew_
              clear hg_ hnew_
              (first | rw [← Ny164.out] at ho32 | (simp only [Int.reduceToNat] at ho32; rw [← Ny164.out] at ho32))
              have n0_ := Aside0.mk (Kd.R_lower ho32 (below_size (by repeat (first | (with_reducible first | exact HB.out | apply below_alloc | apply pw_below_drewN | apply below_drew1 | refine below_set ?_ GE147.out) | exact HB.out))))
              have n1_ := Aside0.mk (blk_below (g := gb147) (o := .cells #[.int .i64 a0_0, .int .i64 a0_1, .int .i64 a0_2, .int .u64 a0_3, .int .u64 a0_4, .int .u64 a0_5] 24 (0, 0)) (by (with_reducible repeat (first | refine blk_drewN ?_ _ | refine blk_drew ?_ | refine blk_alloc ?_ _)); exact BK147.out) hb)
              have n2_ := Aside0.mk (below_step (by repeat (first | (with_reducible first | exact HB.out | apply below_alloc | apply pw_below_drewN | apply below_drew1 | refine below_set ?_ GE147.out) | exact HB.out)) hb)
              clear BK147
              clear HB
              have HO166 := n0_
              have BK147 := n1_
              have HB := n2_
              clear n0_ n1_ n2_
              clear hb ho32
              refine hK.out _ _ ⟨(blk_cell BK147.out 0).trans rfl, (blk_cell BK147.out 1).trans rfl, (blk_cell BK147.out 2).trans rfl, (blk_cell BK147.out 3).trans rfl, (blk_cell BK147.out 4).trans rfl, (blk_cell BK147.out 5).trans rfl⟩ (fun hHeld => ?_)
              clear hK K
              refine norm_ (a' := ?_) ?_ ?_
              rotate_left
              · show Act.put _ (some 33) _ = _
                simp only [Act.put, List.setIfInBounds_toArray, List.set_cons_zero, List.set_cons_succ, i64_w, i32_w]
                rfl
              refine two_ (i := 5) (j := 6) (Ni := some 35) (Nj := some 36) #[true, true, true, true, true, true, false, false, true, false, false, false] #[true, true, true, true, true, false, true, false, true, false, false, false] rfl rfl rfl rfl (two_of HT_.out (by kernel_rfl)) (by decide) (by decide) (fun K hK => ?_) (fun K hK => ?_)
              · skip
                refine Kd.R_append_rows_step (Kd.int .u8) (w0 := w) w.heap.size (by rfl) (.tmp 33) (.tmp 34) 28 5 (.int .u8 0) 1 rfl Tryd.underlying28 info5 rfl (by decide) (by omega) v165 y164 l1 _ _ _ (fun _ => True) (fun _ => False) rfl rfl ?aO ?aR (fun _ _ h => h) (fun _ h => h.elim) ?aF ?aB ?aS ?aL ?_
                (case aR => repeat (first | exact (Kd.C_below HR1.out HB.out) | (with_reducible refine Kd.C_alloc ?_ _) | (with_reducible refine Kd.C_drewN ?_ _) | (with_reducible refine Kd.C_drew ?_)))
                (case aB => exact (by repeat (first | (with_reducible first | exact HB.out | apply below_alloc | apply pw_below_drewN | apply below_drew1 | refine below_set ?_ GE147.out) | exact HB.out)))
                (case aF => exact (fun _ _ => trivial))
                (case aO => exact (by (with_reducible repeat (first | apply Kd.R_alloc | apply Kd.R_drewN | apply Kd.R_drew)); exact HO166.out))
                (case aS => exact (below_size (by repeat (first | (with_reducible first | exact HB.out | apply below_alloc | apply pw_below_drewN | apply below_drew1 | refine below_set ?_ GE147.out) | exact HB.out))))
                (case aL => have := LMc23.out; omega)
                intro v168 w33 ho hb hg hat
                rw [← Ny167.out] at ho
                have n0_ := Aside0.mk (blk_grown (g := gb147) (o := .cells #[.int .i64 a0_0, .int .i64 a0_1, .int .i64 a0_2, .int .u64 a0_3, .int .u64 a0_4, .int .u64 a0_5] 24 (0, 0)) (by (with_reducible repeat (first | refine blk_drewN ?_ _ | refine blk_drew ?_ | refine blk_alloc ?_ _)); exact BK147.out) hg (Kd.R_ne HO166.out BK147.out (by decide)))
                have n1_ := Aside0.mk (hb)
                have n2_ := Aside0.mk (ho)
                clear BK147
                clear HB
                clear HO166
                have BK147 := n0_
                have HB := n1_
                have HO169 := n2_
                clear n0_ n1_ n2_
                clear ho hb hg hat
                refine hK.out _ _ ⟨(blk_cell BK147.out 0).trans rfl, (blk_cell BK147.out 1).trans rfl, (blk_cell BK147.out 2).trans rfl, (blk_cell BK147.out 3).trans rfl, (blk_cell BK147.out 4).trans rfl, (blk_cell BK147.out 5).trans rfl⟩ (fun hHeld => ?_)
                clear hK K
                refine norm_ (a' := ?_) ?_ ?_
                rotate_left
                · show Act.put _ (some 35) _ = _
                  simp only [Act.put, List.setIfInBounds_toArray, List.set_cons_zero, List.set_cons_succ, i64_w, i32_w]
                  rfl
                refine one_ (i := 6) (N := some 36) #[true, true, true, true, true, true, true, false, true, false, false, false] rfl rfl (one_of HT_.out (by kernel_rfl)) (by decide) (fun K hK => ?_)
                refine Kd.R_lit_step (Kd.int .u8) _ 5 ?hg (N := 36) ?hd (xs := ([255] : List Int)) (inner := [.int .u8 255]) (ok := fun _ => True) (okp := fun _ => True) ?hr ?hp (fun _ hk => hk) trivial (Below.refl _ _) (Nat.le_refl _) (by simp) ?_; (case hd => rfl); (case hg => rfl); (case hr => first | (go_simp; done) | (go_simp; rfl)); (case hp => exact (Reps.one (show Kd.M (Kd.int .u8) _ _ _ 255 [.int .u8 255] from rfl) (Reps.none _ _)))
                intro v171 w34 ho35 hb hg_ hnew_
                clear hg_ hnew_
                (first | rw [← Ny170.out] at ho35 | (simp only [Int.reduceToNat] at ho35; rw [← Ny170.out] at ho35))
                have n0_ := Aside0.mk (Kd.R_elder' (by (with_reducible repeat (first | apply Kd.R_alloc | apply Kd.R_drewN | apply Kd.R_drew)); exact HO169.out) (Kd.R_base ho35) hb)
                have n1_ := Aside0.mk (Kd.R_lower (Kd.R_new' ho35 (Kd.R_lt (by (with_reducible repeat (first | apply Kd.R_alloc | apply Kd.R_drewN | apply Kd.R_drew)); exact HO169.out))) (below_size (by repeat (first | (with_reducible first | exact HB.out | apply below_alloc | apply pw_below_drewN | apply below_drew1 | refine below_set ?_ GE147.out) | exact HB.out))))
                have n2_ := Aside0.mk (blk_below (g := gb147) (o := .cells #[.int .i64 a0_0, .int .i64 a0_1, .int .i64 a0_2, .int .u64 a0_3, .int .u64 a0_4, .int .u64 a0_5] 24 (0, 0)) (by (with_reducible repeat (first | refine blk_drewN ?_ _ | refine blk_drew ?_ | refine blk_alloc ?_ _)); exact BK147.out) hb)
                have n3_ := Aside0.mk (below_step (by repeat (first | (with_reducible first | exact HB.out | apply below_alloc | apply pw_below_drewN | apply below_drew1 | refine below_set ?_ GE147.out) | exact HB.out)) hb)
                clear HO169
                clear BK147
                clear HB
                have HO169 := n0_
                have HO172 := n1_
                have BK147 := n2_
                have HB := n3_
                clear n0_ n1_ n2_ n3_
                clear hb ho35
                refine hK.out _ _ ⟨(blk_cell BK147.out 0).trans rfl, (blk_cell BK147.out 1).trans rfl, (blk_cell BK147.out 2).trans rfl, (blk_cell BK147.out 3).trans rfl, (blk_cell BK147.out 4).trans rfl, (blk_cell BK147.out 5).trans rfl⟩ (fun hHeld => ?_)
                clear hK K
                refine norm_ (a' := ?_) ?_ ?_
                rotate_left
                · show Act.put _ (some 36) _ = _
                  simp only [Act.put, List.setIfInBounds_toArray, List.set_cons_zero, List.set_cons_succ, i64_w, i32_w]
                  rfl
                exact norm_ (by simp only [putAll, Act.put, List.setIfInBounds_toArray, List.set_cons_zero, List.set_cons_succ]) (hCont (v165, v168, v171) _ ⟨hHeld, (by (with_reducible repeat (first | apply Kd.R_alloc | apply Kd.R_drewN | apply Kd.R_drew)); exact Kd.R_mono HO169.out (fun _ hk => hk.2)), (by (with_reducible repeat (first | apply Kd.R_alloc | apply Kd.R_drewN | apply Kd.R_drew)); exact Kd.R_mono HO172.out (fun _ hk => hk.2)), (by (with_reducible repeat (first | refine blk_drewN ?_ _ | refine blk_drew ?_ | refine blk_alloc ?_ _)); exact BK147.out), (by repeat (first | (with_reducible first | exact HB.out | apply below_alloc | apply pw_below_drewN | apply below_drew1 | refine below_set ?_ GE147.out) | exact HB.out))⟩)
              · skip
                refine Kd.R_lit_step (Kd.int .u8) _ 5 ?hg (N := 36) ?hd (xs := ([255] : List Int)) (inner := [.int .u8 255]) (ok := fun _ => True) (okp := fun _ => True) ?hr ?hp (fun _ hk => hk) trivial (Below.refl _ _) (Nat.le_refl _) (by simp) ?_; (case hd => rfl); (case hg => rfl); (case hr => first | (go_simp; done) | (go_simp; rfl)); (case hp => exact (Reps.one (show Kd.M (Kd.int .u8) _ _ _ 255 [.int .u8 255] from rfl) (Reps.none _ _)))
                intro v171 w33 ho34 hb hg_ hnew_
                clear hg_ hnew_
                (first | rw [← Ny170.out] at ho34 | (simp only [Int.reduceToNat] at ho34; rw [← Ny170.out] at ho34))
                have n0_ := Aside0.mk (Kd.R_elder' (by (with_reducible repeat (first | apply Kd.R_alloc | apply Kd.R_drewN | apply Kd.R_drew)); exact HO166.out) (Kd.R_base ho34) hb)
                have n1_ := Aside0.mk (Kd.R_lower (Kd.R_new' ho34 (Kd.R_lt (by (with_reducible repeat (first | apply Kd.R_alloc | apply Kd.R_drewN | apply Kd.R_drew)); exact HO166.out))) (below_size (by repeat (first | (with_reducible first | exact HB.out | apply below_alloc | apply pw_below_drewN | apply below_drew1 | refine below_set ?_ GE147.out) | exact HB.out))))
                have n2_ := Aside0.mk (blk_below (g := gb147) (o := .cells #[.int .i64 a0_0, .int .i64 a0_1, .int .i64 a0_2, .int .u64 a0_3, .int .u64 a0_4, .int .u64 a0_5] 24 (0, 0)) (by (with_reducible repeat (first | refine blk_drewN ?_ _ | refine blk_drew ?_ | refine blk_alloc ?_ _)); exact BK147.out) hb)
                have n3_ := Aside0.mk (below_step (by repeat (first | (with_reducible first | exact HB.out | apply below_alloc | apply pw_below_drewN | apply below_drew1 | refine below_set ?_ GE147.out) | exact HB.out)) hb)
                clear HO166
                clear BK147
                clear HB
                have HO166 := n0_
                have HO172 := n1_
                have BK147 := n2_
                have HB := n3_
                clear n0_ n1_ n2_ n3_
                clear hb ho34
                refine hK.out _ _ ⟨(blk_cell BK147.out 0).trans rfl, (blk_cell BK147.out 1).trans rfl, (blk_cell BK147.out 2).trans rfl, (blk_cell BK147.out 3).trans rfl, (blk_cell BK147.out 4).trans rfl, (blk_cell BK147.out 5).trans rfl⟩ (fun hHeld => ?_)
                clear hK K
                refine norm_ (a' := ?_) ?_ ?_
                rotate_left
                · show Act.put _ (some 36) _ = _
                  simp only [Act.put, List.setIfInBounds_toArray, List.set_cons_zero, List.set_cons_succ, i64_w, i32_w]
                  rfl
                refine one_ (i := 5) (N := some 35) #[true, true, true, true, true, true, true, false, true, false, false, false] rfl rfl (one_of HT_.out (by kernel_rfl)) (by decide) (fun K hK => ?_)
                refine Kd.R_append_rows_step (Kd.int .u8) (w0 := w) w.heap.size (by rfl) (.tmp 33) (.tmp 34) 28 5 (.int .u8 0) 1 rfl Tryd.underlying28 info5 rfl (by decide) (by omega) v165 y164 l1 _ _ _ (fun k_ => some k_ ≠ (v171 : Value).ownBlock) (fun _ => False) rfl rfl ?aO ?aR (fun _ _ h => h) (fun _ h => h.elim) ?aF ?aB ?aS ?aL ?_
                (case aR => repeat (first | exact (Kd.C_below HR1.out HB.out) | (with_reducible refine Kd.C_alloc ?_ _) | (with_reducible refine Kd.C_drewN ?_ _) | (with_reducible refine Kd.C_drew ?_)))
                (case aB => exact (by repeat (first | (with_reducible first | exact HB.out | apply below_alloc | apply pw_below_drewN | apply below_drew1 | refine below_set ?_ GE147.out) | exact HB.out)))
                (case aF => exact (fun k_ hk => Kd.fresh' (Kd.R_lt (by (with_reducible repeat (first | apply Kd.R_alloc | apply Kd.R_drewN | apply Kd.R_drew)); exact HO172.out)) k_ hk))
                (case aO => exact (by (with_reducible repeat (first | apply Kd.R_alloc | apply Kd.R_drewN | apply Kd.R_drew)); exact Kd.R_mono HO166.out (fun _ hk => hk.2)))
                (case aS => exact (below_size (by repeat (first | (with_reducible first | exact HB.out | apply below_alloc | apply pw_below_drewN | apply below_drew1 | refine below_set ?_ GE147.out) | exact HB.out))))
                (case aL => have := LMc23.out; omega)
                intro v168 w35 ho hb hg hat
                rw [← Ny167.out] at ho
                have n0_ := Aside0.mk (blk_grown (g := gb147) (o := .cells #[.int .i64 a0_0, .int .i64 a0_1, .int .i64 a0_2, .int .u64 a0_3, .int .u64 a0_4, .int .u64 a0_5] 24 (0, 0)) (by (with_reducible repeat (first | refine blk_drewN ?_ _ | refine blk_drew ?_ | refine blk_alloc ?_ _)); exact BK147.out) hg (Kd.R_ne HO166.out BK147.out (by decide)))
                have n1_ := Aside0.mk (Kd.R_after (ok := (fun _ => True)) (by (with_reducible repeat (first | apply Kd.R_alloc | apply Kd.R_drewN | apply Kd.R_drew)); exact HO172.out) hg hat)
                have n2_ := Aside0.mk (hb)
                have n3_ := Aside0.mk (ho)
                clear BK147
                clear HO172
                clear HB
                clear HO166
                have BK147 := n0_
                have HO172 := n1_
                have HB := n2_
                have HO169 := n3_
                clear n0_ n1_ n2_ n3_
                clear ho hb hg hat
                refine hK.out _ _ ⟨(blk_cell BK147.out 0).trans rfl, (blk_cell BK147.out 1).trans rfl, (blk_cell BK147.out 2).trans rfl, (blk_cell BK147.out 3).trans rfl, (blk_cell BK147.out 4).trans rfl, (blk_cell BK147.out 5).trans rfl⟩ (fun hHeld => ?_)
                clear hK K
                refine norm_ (a' := ?_) ?_ ?_
                rotate_left
                · show Act.put _ (some 35) _ = _
                  simp only [Act.put, List.setIfInBounds_toArray, List.set_cons_zero, List.set_cons_succ, i64_w, i32_w]
                  rfl
                exact norm_ (by simp only [putAll, Act.put, List.setIfInBounds_toArray, List.set_cons_zero, List.set_cons_succ]) (hCont (v165, v168, v171) _ ⟨hHeld, (by (with_reducible repeat (first | apply Kd.R_alloc | apply Kd.R_drewN | apply Kd.R_drew)); exact HO169.out), (by (with_reducible repeat (first | apply Kd.R_alloc | apply Kd.R_drewN | apply Kd.R_drew)); exact Kd.R_mono HO172.out (fun _ hk => hk.2)), (by (with_reducible repeat (first | refine blk_drewN ?_ _ | refine blk_drew ?_ | refine blk_alloc ?_ _)); exact BK147.out), (by repeat (first | (with_reducible first | exact HB.out | apply below_alloc | apply pw_below_drewN | apply below_drew1 | refine below_set ?_ GE147.out) | exact HB.out))⟩)
            · skip
              refine Kd.R_lit_step (Kd.int .u8) _ 5 ?hg (N := 36) ?hd (xs := ([255] : List Int)) (inner := [.int .u8 255]) (ok := fun _ => True) (okp := fun _ => True) ?hr ?hp (fun _ hk => hk) trivial (Below.refl _ _) (Nat.le_refl _) (by simp) ?_; (case hd => rfl); (case hg => rfl); (case hr => first | (go_simp; done) | (go_simp; rfl)); (case hp => exact (Reps.one (show Kd.M (Kd.int .u8) _ _ _ 255 [.int .u8 255] from rfl) (Reps.none _ _)))
              intro v171 w31 ho32 hb hg_ hnew_
              clear hg_ hnew_
              (first | rw [← Ny170.out] at ho32 | (simp only [Int.reduceToNat] at ho32; rw [← Ny170.out] at ho32))
              have n0_ := Aside0.mk (Kd.R_lower ho32 (below_size (by repeat (first | (with_reducible first | exact HB.out | apply below_alloc | apply pw_below_drewN | apply below_drew1 | refine below_set ?_ GE147.out) | exact HB.out))))
              have n1_ := Aside0.mk (blk_below (g := gb147) (o := .cells #[.int .i64 a0_0, .int .i64 a0_1, .int .i64 a0_2, .int .u64 a0_3, .int .u64 a0_4, .int .u64 a0_5] 24 (0, 0)) (by (with_reducible repeat (first | refine blk_drewN ?_ _ | refine blk_drew ?_ | refine blk_alloc ?_ _)); exact BK147.out) hb)
              have n2_ := Aside0.mk (below_step (by repeat (first | (with_reducible first | exact HB.out | apply below_alloc | apply pw_below_drewN | apply below_drew1 | refine below_set ?_ GE147.out) | exact HB.out)) hb)
              clear BK147
              clear HB
              have HO172 := n0_
              have BK147 := n1_
              have HB := n2_
              clear n0_ n1_ n2_
              clear hb ho32
              refine hK.out _ _ ⟨(blk_cell BK147.out 0).trans rfl, (blk_cell BK147.out 1).trans rfl, (blk_cell BK147.out 2).trans rfl, (blk_cell BK147.out 3).trans rfl, (blk_cell BK147.out 4).trans rfl, (blk_cell BK147.out 5).trans rfl⟩ (fun hHeld => ?_)
              clear hK K
              refine norm_ (a' := ?_) ?_ ?_
              rotate_left
              · show Act.put _ (some 36) _ = _
                simp only [Act.put, List.setIfInBounds_toArray, List.set_cons_zero, List.set_cons_succ, i64_w, i32_w]
                rfl
              refine one_ (i := 3) (N := some 33) #[true, true, true, true, true, false, true, false, true, false, false, false] rfl rfl (one_of HT_.out (by kernel_rfl)) (by decide) (fun K hK => ?_)
              refine Kd.R_lit_step (Kd.int .u8) _ 5 ?hg (N := 33) ?hd (xs := ([] : List Int)) (inner := []) (ok := fun _ => True) (okp := fun _ => True) ?hr ?hp (fun _ hk => hk) trivial (Below.refl _ _) (Nat.le_refl _) (by simp) ?_; (case hd => rfl); (case hg => rfl); (case hr => first | (go_simp; done) | (go_simp; rfl)); (case hp => exact (Reps.none _ _))
              intro v165 w33 ho34 hb hg_ hnew_
              clear hg_ hnew_
              (first | rw [← Ny164.out] at ho34 | (simp only [Int.reduceToNat] at ho34; rw [← Ny164.out] at ho34))
              have n0_ := Aside0.mk (Kd.R_elder' (by (with_reducible repeat (first | apply Kd.R_alloc | apply Kd.R_drewN | apply Kd.R_drew)); exact HO172.out) (Kd.R_base ho34) hb)
              have n1_ := Aside0.mk (Kd.R_lower (Kd.R_new' ho34 (Kd.R_lt (by (with_reducible repeat (first | apply Kd.R_alloc | apply Kd.R_drewN | apply Kd.R_drew)); exact HO172.out))) (below_size (by repeat (first | (with_reducible first | exact HB.out | apply below_alloc | apply pw_below_drewN | apply below_drew1 | refine below_set ?_ GE147.out) | exact HB.out))))
              have n2_ := Aside0.mk (blk_below (g := gb147) (o := .cells #[.int .i64 a0_0, .int .i64 a0_1, .int .i64 a0_2, .int .u64 a0_3, .int .u64 a0_4, .int .u64 a0_5] 24 (0, 0)) (by (with_reducible repeat (first | refine blk_drewN ?_ _ | refine blk_drew ?_ | refine blk_alloc ?_ _)); exact BK147.out) hb)
              have n3_ := Aside0.mk (below_step (by repeat (first | (with_reducible first | exact HB.out | apply below_alloc | apply pw_below_drewN | apply below_drew1 | refine below_set ?_ GE147.out) | exact HB.out)) hb)
              clear HO172
              clear BK147
              clear HB
              have HO172 := n0_
              have HO166 := n1_
              have BK147 := n2_
              have HB := n3_
              clear n0_ n1_ n2_ n3_
              clear hb ho34
              refine hK.out _ _ ⟨(blk_cell BK147.out 0).trans rfl, (blk_cell BK147.out 1).trans rfl, (blk_cell BK147.out 2).trans rfl, (blk_cell BK147.out 3).trans rfl, (blk_cell BK147.out 4).trans rfl, (blk_cell BK147.out 5).trans rfl⟩ (fun hHeld => ?_)
              clear hK K
              refine norm_ (a' := ?_) ?_ ?_
              rotate_left
              · show Act.put _ (some 33) _ = _
                simp only [Act.put, List.setIfInBounds_toArray, List.set_cons_zero, List.set_cons_succ, i64_w, i32_w]
                rfl
              refine one_ (i := 5) (N := some 35) #[true, true, true, true, true, true, true, false, true, false, false, false] rfl rfl (one_of HT_.out (by kernel_rfl)) (by decide) (fun K hK => ?_)
              refine Kd.R_append_rows_step (Kd.int .u8) (w0 := w) w.heap.size (by rfl) (.tmp 33) (.tmp 34) 28 5 (.int .u8 0) 1 rfl Tryd.underlying28 info5 rfl (by decide) (by omega) v165 y164 l1 _ _ _ (fun k_ => some k_ ≠ (v171 : Value).ownBlock) (fun _ => False) rfl rfl ?aO ?aR (fun _ _ h => h) (fun _ h => h.elim) ?aF ?aB ?aS ?aL ?_
              (case aR => repeat (first | exact (Kd.C_below HR1.out HB.out) | (with_reducible refine Kd.C_alloc ?_ _) | (with_reducible refine Kd.C_drewN ?_ _) | (with_reducible refine Kd.C_drew ?_)))
              (case aB => exact (by repeat (first | (with_reducible first | exact HB.out | apply below_alloc | apply pw_below_drewN | apply below_drew1 | refine below_set ?_ GE147.out) | exact HB.out)))
              (case aF => exact (fun k_ hk => Kd.fresh' (Kd.R_lt (by (with_reducible repeat (first | apply Kd.R_alloc | apply Kd.R_drewN | apply Kd.R_drew)); exact HO172.out)) k_ hk))
              (case aO => exact (by (with_reducible repeat (first | apply Kd.R_alloc | apply Kd.R_drewN | apply Kd.R_drew)); exact Kd.R_mono HO166.out (fun _ hk => hk.2)))
              (case aS => exact (below_size (by repeat (first | (with_reducible first | exact HB.out | apply below_alloc | apply pw_below_drewN | apply below_drew1 | refine below_set ?_ GE147.out) | exact HB.out))))
              (case aL => have := LMc23.out; omega)
              intro v168 w35 ho hb hg hat
              rw [← Ny167.out] at ho
              have n0_ := Aside0.mk (blk_grown (g := gb147) (o := .cells #[.int .i64 a0_0, .int .i64 a0_1, .int .i64 a0_2, .int .u64 a0_3, .int .u64 a0_4, .int .u64 a0_5] 24 (0, 0)) (by (with_reducible repeat (first | refine blk_drewN ?_ _ | refine blk_drew ?_ | refine blk_alloc ?_ _)); exact BK147.out) hg (Kd.R_ne HO166.out BK147.out (by decide)))
              have n1_ := Aside0.mk (Kd.R_after (ok := (fun _ => True)) (by (with_reducible repeat (first | apply Kd.R_alloc | apply Kd.R_drewN | apply Kd.R_drew)); exact HO172.out) hg hat)
              have n2_ := Aside0.mk (hb)
              have n3_ := Aside0.mk (ho)
              clear BK147
              clear HO172
              clear HB
              clear HO166
              have BK147 := n0_
              have HO172 := n1_
              have HB := n2_
              have HO169 := n3_
              clear n0_ n1_ n2_ n3_
              clear ho hb hg hat
              refine hK.out _ _ ⟨(blk_cell BK147.out 0).trans rfl, (blk_cell BK147.out 1).trans rfl, (blk_cell BK147.out 2).trans rfl, (blk_cell BK147.out 3).trans rfl, (blk_cell BK147.out 4).trans rfl, (blk_cell BK147.out 5).trans rfl⟩ (fun hHeld => ?_)
              clear hK K
              refine norm_ (a' := ?_) ?_ ?_
              rotate_left
              · show Act.put _ (some 35) _ = _
                simp only [Act.put, List.setIfInBounds_toArray, List.set_cons_zero, List.set_cons_succ, i64_w, i32_w]
                rfl
              exact norm_ (by simp only [putAll, Act.put, List.setIfInBounds_toArray, List.set_cons_zero, List.set_cons_succ]) (hCont (v165, v168, v171) _ ⟨hHeld, (by (with_reducible repeat (first | apply Kd.R_alloc | apply Kd.R_drewN | apply Kd.R_drew)); exact HO169.out), (by (with_reducible repeat (first | apply Kd.R_alloc | apply Kd.R_drewN | apply Kd.R_drew)); exact Kd.R_mono HO172.out (fun _ hk => hk.2)), (by (with_reducible repeat (first | refine blk_drewN ?_ _ | refine blk_drew ?_ | refine blk_alloc ?_ _)); exact BK147.out), (by repeat (first | (with_reducible first | exact HB.out | apply below_alloc | apply pw_below_drewN | apply below_drew1 | refine below_set ?_ GE147.out) | exact HB.out))⟩)
          rintro ⟨v165, v168, v171⟩ w36 ⟨hS_, h0_, h1_, h2_, h3_⟩
          have n0_ : Aside0 (Kd.R (Kd.int .u8) 5 w36 w.heap.size (fun k_ => some k_ ≠ (v171 : Value).ownBlock) v168 y167) := ⟨h0_⟩
          have n1_ : Aside0 (Kd.R (Kd.int .u8) 5 w36 w.heap.size (fun k_ => some k_ ≠ (v168 : Value).ownBlock) v171 y170) := ⟨h1_⟩
          have n2_ : Aside0 (w36.heap[gb147]? = some (.cells #[.int .i64 a0_0, .int .i64 a0_1, .int .i64 a0_2, .int .u64 a0_3, .int .u64 a0_4, .int .u64 a0_5] 24 (0, 0))) := ⟨h2_⟩
          have n3_ : Aside0 (Below w.heap.size w w36) := ⟨h3_⟩
          clear BK147
          clear HB
          clear h0_ h1_ h2_ h3_
          have HO169 := n0_
          have HO172 := n1_
          have BK147 := n2_
          have HB := n3_
          clear n0_ n1_ n2_ n3_
          have hHeld : w36.cell? ⟨gb147, 0, none⟩ = some (.int .i64 a0_0) ∧ w36.cell? ⟨gb147, 1, none⟩ = some (.int .i64 a0_1) ∧ w36.cell? ⟨gb147, 2, none⟩ = some (.int .i64 a0_2) ∧ w36.cell? ⟨gb147, 3, none⟩ = some (.int .u64 a0_3) ∧ w36.cell? ⟨gb147, 4, none⟩ = some (.int .u64 a0_4) ∧ w36.cell? ⟨gb147, 5, none⟩ = some (.int .u64 a0_5) := hS_
          obtain ⟨Ao38, co38, eo38⟩ := Kd.R_slice HO172.out
          (first | subst eo38 | (injection eo38 with f1_ f2_ f3_; have f4_ := f1_.symm; have f5_ := f3_.symm; clear f1_ f2_ f3_; subst f4_; subst f5_))
          refine norm_ (a' := ?_) ?_ ?_
          rotate_left
          · simp only [putAll, Act.put, List.setIfInBounds_toArray, List.set_cons_zero, List.set_cons_succ]
            rfl
          refine one_ (i := 7) (N := some 37) #[true, true, true, true, true, true, true, true, true, false, false, false] rfl rfl (one_of HT_.out (by kernel_rfl)) (by decide) (fun K hK => ?_)
          refine Kd.R_append_rows_step (Kd.int .u8) (w0 := w) w.heap.size (by rfl) (.tmp 35) (.tmp 36) 28 5 (.int .u8 0) 1 rfl Tryd.underlying28 info5 rfl (by decide) (by omega) v168 y167 y170 _ _ _ (fun k_ => some k_ ≠ (.slice Ao38 y170.length co38 : Value).ownBlock) (fun _ => False) rfl rfl ?aO ?aR (fun _ _ h => h) (fun _ h => h.elim) ?aF ?aB ?aS ?aL ?_
          (case aR => repeat (first | exact (Kd.R_reads' HO172.out).2.2 | (with_reducible refine Kd.C_alloc ?_ _) | (with_reducible refine Kd.C_drewN ?_ _) | (with_reducible refine Kd.C_drew ?_)))
          (case aB => exact (by repeat (first | (with_reducible first | exact HB.out | apply below_alloc | apply pw_below_drewN | apply below_drew1 | refine below_set ?_ GE147.out) | exact HB.out)))
          (case aF => exact (fun k_ hk => Kd.fresh' (Kd.R_lt (by (with_reducible repeat (first | apply Kd.R_alloc | apply Kd.R_drewN | apply Kd.R_drew)); exact HO172.out)) k_ hk))
          (case aO => exact (by (with_reducible repeat (first | apply Kd.R_alloc | apply Kd.R_drewN | apply Kd.R_drew)); exact HO169.out))
          (case aS => exact (below_size (by repeat (first | (with_reducible first | exact HB.out | apply below_alloc | apply pw_below_drewN | apply below_drew1 | refine below_set ?_ GE147.out) | exact HB.out))))
          (case aL => have := LMc24.out; omega)
          intro v174 w37 ho hb hg hat
          rw [← Ny173.out] at ho
          have n0_ := Aside0.mk (blk_grown (g := gb147) (o := .cells #[.int .i64 a0_0, .int .i64 a0_1, .int .i64 a0_2, .int .u64 a0_3, .int .u64 a0_4, .int .u64 a0_5] 24 (0, 0)) (by (with_reducible repeat (first | refine blk_drewN ?_ _ | refine blk_drew ?_ | refine blk_alloc ?_ _)); exact BK147.out) hg (Kd.R_ne HO169.out BK147.out (by decide)))
          have n1_ := Aside0.mk (Kd.R_after (ok := (fun _ => True)) (by (with_reducible repeat (first | apply Kd.R_alloc | apply Kd.R_drewN | apply Kd.R_drew)); exact Kd.R_mono HO172.out (fun _ hk => ⟨trivial, hk⟩)) hg hat)
          have n2_ := Aside0.mk (hb)
          have n3_ := Aside0.mk (ho)
          clear BK147
          clear HO172
          clear HB
          clear HO169
          have BK147 := n0_
          have HO172 := n1_
          have HB := n2_
          have HO175 := n3_
          clear n0_ n1_ n2_ n3_
          clear ho hb hg hat
          refine hK.out _ _ ⟨(blk_cell BK147.out 0).trans rfl, (blk_cell BK147.out 1).trans rfl, (blk_cell BK147.out 2).trans rfl, (blk_cell BK147.out 3).trans rfl, (blk_cell BK147.out 4).trans rfl, (blk_cell BK147.out 5).trans rfl⟩ (fun hHeld => ?_)
          clear hK K
          refine norm_ (a' := ?_) ?_ ?_
          rotate_left
          · show Act.put _ (some 37) _ = _
            simp only [Act.put, List.setIfInBounds_toArray, List.set_cons_zero, List.set_cons_succ, i64_w, i32_w]
            rfl
          refine one_ (i := 9) (N := some 39) #[true, true, true, true, true, true, true, true, true, true, false, false] rfl rfl (one_of HT_.out (by kernel_rfl)) (by decide) (fun K hK => ?_)
          refine Kd.R_append_rows_step (Kd.int .u8) (w0 := w) w.heap.size (by rfl) (.tmp 37) (.tmp 38) 28 5 (.int .u8 0) 1 rfl Tryd.underlying28 info5 rfl (by decide) (by omega) v174 y173 l2 _ _ _ (fun k_ => some k_ ≠ (.slice Ao38 y170.length co38 : Value).ownBlock) (fun _ => False) rfl rfl ?aO ?aR (fun _ _ h => h) (fun _ h => h.elim) ?aF ?aB ?aS ?aL ?_
          (case aR => repeat (first | exact (Kd.C_below HR2.out HB.out) | (with_reducible refine Kd.C_alloc ?_ _) | (with_reducible refine Kd.C_drewN ?_ _) | (with_reducible refine Kd.C_drew ?_)))
          (case aB => exact (by repeat (first | (with_reducible first | exact HB.out | apply below_alloc | apply pw_below_drewN | apply below_drew1 | refine below_set ?_ GE147.out) | exact HB.out)))
          (case aF => exact (fun k_ hk => Kd.fresh' (Kd.R_lt (by (with_reducible repeat (first | apply Kd.R_alloc | apply Kd.R_drewN | apply Kd.R_drew)); exact HO172.out)) k_ hk))
          (case aO => exact (by (with_reducible repeat (first | apply Kd.R_alloc | apply Kd.R_drewN | apply Kd.R_drew)); exact HO175.out))
          (case aS => exact (below_size (by repeat (first | (with_reducible first | exact HB.out | apply below_alloc | apply pw_below_drewN | apply below_drew1 | refine below_set ?_ GE147.out) | exact HB.out))))
          (case aL => have := LMc25.out; omega)
          intro v177 w39 ho hb hg hat
          rw [← Ny176.out] at ho
          have n0_ := Aside0.mk (blk_grown (g := gb147) (o := .cells #[.int .i64 a0_0, .int .i64 a0_1, .int .i64 a0_2, .int .u64 a0_3, .int .u64 a0_4, .int .u64 a0_5] 24 (0, 0)) (by (with_reducible repeat (first | refine blk_drewN ?_ _ | refine blk_drew ?_ | refine blk_alloc ?_ _)); exact BK147.out) hg (Kd.R_ne HO175.out BK147.out (by decide)))
          have n1_ := Aside0.mk (Kd.R_after (ok := (fun _ => True)) (by (with_reducible repeat (first | apply Kd.R_alloc | apply Kd.R_drewN | apply Kd.R_drew)); exact HO172.out) hg hat)
          have n2_ := Aside0.mk (hb)
          have n3_ := Aside0.mk (ho)
          clear BK147
          clear HO172
          clear HB
          clear HO175
          have BK147 := n0_
          have HO172 := n1_
          have HB := n2_
          have HO178 := n3_
          clear n0_ n1_ n2_ n3_
          clear ho hb hg hat
          obtain ⟨Ao40, co40, eo40⟩ := Kd.R_slice HO178.out
          (first | subst eo40 | (injection eo40 with f1_ f2_ f3_; have f4_ := f1_.symm; have f5_ := f3_.symm; clear f1_ f2_ f3_; subst f4_; subst f5_))
          refine hK.out _ _ ⟨(blk_cell BK147.out 0).trans rfl, (blk_cell BK147.out 1).trans rfl, (blk_cell BK147.out 2).trans rfl, (blk_cell BK147.out 3).trans rfl, (blk_cell BK147.out 4).trans rfl, (blk_cell BK147.out 5).trans rfl⟩ (fun hHeld => ?_)
          clear hK K
          refine norm_ (a' := ?_) ?_ ?_
          rotate_left
          · show Act.put _ (some 39) _ = _
            simp only [Act.put, List.setIfInBounds_toArray, List.set_cons_zero, List.set_cons_succ, i64_w, i32_w]
            rfl
          refine one_ (i := 10) (N := some 40) #[true, true, true, true, true, true, true, true, true, true, true, false] rfl rfl (one_of HT_.out (by kernel_rfl)) (by decide) (fun K hK => ?_)
          refine goes_ Tryd.func106 (by kernel_rfl) rfl #[.agg #[.int .i64 a0_0, .int .i64 a0_1, .int .i64 a0_2, .int .u64 a0_3, .int .u64 a0_4, .int .u64 a0_5], .int .u64 a0_5, .slice Ao40 y176.length co40] (by rfl) rfl rfl (by (try simp only [List.map_toArray, List.map_cons, List.map_nil]); first | done | rfl | (simp only [List.length_drop, List.length_take]; rfl)) ?_
          with_reducible refine (spec_word.calls k a0_0 a0_1 a0_2 a0_3 a0_4 a0_5 a0_5 _ _ y176 t179 _ ?side1 ?side2 A26.out).mono ?_
          (case side1 => repeat (first | exact (Kd.R_reads' HO178.out).2.2 | (with_reducible refine Kd.C_alloc ?_ _) | (with_reducible refine Kd.C_drewN ?_ _) | (with_reducible refine Kd.C_drew ?_)))
          (case side2 => exact (Kd.R_reads' HO178.out).2.1)
          rintro e w41 ⟨v180, rfl, ho0, hb⟩
          refine ⟨_, rfl, ?_⟩
          have n0_ := Aside0.mk (Kd.R_elder' (by (with_reducible repeat (first | apply Kd.R_alloc | apply Kd.R_drewN | apply Kd.R_drew)); exact HO172.out) (Kd.R_base ho0) hb)
          have n1_ := Aside0.mk (Kd.R_elder' (by (with_reducible repeat (first | apply Kd.R_alloc | apply Kd.R_drewN | apply Kd.R_drew)); exact HO178.out) (Kd.R_base ho0) hb)
          have n2_ := Aside0.mk (Kd.R_lower (Kd.R_new' (Kd.R_new' ho0 (Kd.R_lt (by (with_reducible repeat (first | apply Kd.R_alloc | apply Kd.R_drewN | apply Kd.R_drew)); exact HO172.out))) (Kd.R_lt (by (with_reducible repeat (first | apply Kd.R_alloc | apply Kd.R_drewN | apply Kd.R_drew)); exact HO178.out))) (below_size (by repeat (first | (with_reducible first | exact HB.out | apply below_alloc | apply pw_below_drewN | apply below_drew1 | refine below_set ?_ GE147.out) | exact HB.out))))
          have n3_ := Aside0.mk (blk_below (g := gb147) (o := .cells #[.int .i64 a0_0, .int .i64 a0_1, .int .i64 a0_2, .int .u64 a0_3, .int .u64 a0_4, .int .u64 a0_5] 24 (0, 0)) (by (with_reducible repeat (first | refine blk_drewN ?_ _ | refine blk_drew ?_ | refine blk_alloc ?_ _)); exact BK147.out) hb)
          have n4_ := Aside0.mk (below_step (by repeat (first | (with_reducible first | exact HB.out | apply below_alloc | apply pw_below_drewN | apply below_drew1 | refine below_set ?_ GE147.out) | exact HB.out)) hb)
          clear HO172
          clear HO178
          clear BK147
          clear HB
          have HO172 := n0_
          have HO178 := n1_
          have HO181 := n2_
          have BK147 := n3_
          have HB := n4_
          clear n0_ n1_ n2_ n3_ n4_
          (try clear hb)
          (try clear hb2)
          (try clear hk)
          (try clear hi)
          (try clear ho0)
          refine hK.out _ _ ⟨(blk_cell BK147.out 0).trans rfl, (blk_cell BK147.out 1).trans rfl, (blk_cell BK147.out 2).trans rfl, (blk_cell BK147.out 3).trans rfl, (blk_cell BK147.out 4).trans rfl, (blk_cell BK147.out 5).trans rfl⟩ (fun hHeld => ?_)
          clear hK K
          refine norm_ (a' := ?_) ?_ ?_
          rotate_left
          · show Act.put _ (some 40) _ = _
            simp only [Act.put, List.setIfInBounds_toArray, List.set_cons_zero, List.set_cons_succ, i64_w, i32_w]
            rfl
          refine pure_ (i := 11) (N := some 6) (v := ?_) (a' := ?_) #[true, true, true, true, true, true, true, true, true, true, true, true] rfl rfl (any_of HT_.out (by kernel_rfl)) (fun _ _ _ h => h) (Or.inl ⟨by rfl, ?_⟩) ?_ ?_
          rotate_left
          · intro w'
            go_simp
            with_reducible rfl
          rotate_left
          · simp only [Act.put, List.setIfInBounds_toArray, List.set_cons_zero, List.set_cons_succ, i64_w, i32_w]
            rfl
          refine done_ (done_of HT_.out (by kernel_rfl)) ?_
          try go_wp2
          go_ret
          exact ⟨_, by first | rfl | (simp [errW_none, errW_some] <;> rfl) | (simp [*, errW_none, errW_some] <;> rfl), by (with_reducible repeat (first | apply Kd.R_alloc | apply Kd.R_drewN | apply Kd.R_drew)); exact Kd.R_mono HO181.out (fun _ hk => trivial), by repeat (first | (with_reducible first | exact HB.out | apply below_alloc | apply pw_below_drewN | apply below_drew1 | refine below_set ?_ GE147.out) | exact HB.out)⟩
        · rw [if_neg c25] at H
          exact absurd H (by simp)
      · rw [if_neg c24] at H
        exact absurd H (by simp)
    · rw [if_neg c23] at H
      exact absurd H (by simp)

end Go.Proofs.YtfhcpniibiobgaaDoor.Qf
