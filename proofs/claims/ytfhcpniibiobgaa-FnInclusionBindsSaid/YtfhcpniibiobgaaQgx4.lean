-- Written by wip/tools/myprint.py for this seat (the kit's print with changes); Lean checks it.
import Derived.Test.YtfhcpniibiobgaaQgx0
import Derived.Test.YtfhcpniibiobgaaQgx3
namespace Go.Proofs.Ytfhcpniibiobgaa.Qg
open Go.RowKit Go.Proofs.YtfhcpniibiobgaaW.PrintWords Go.Proofs.YtfhcpniibiobgaaW.PrintLast Go.Proofs.YtfhcpniibiobgaaW.PrintMore
attribute [local go_sem] max2_int min2_int max_two min_two max_three min_three max_four min_four   -- for this text's walks alone
set_option linter.unusedVariables false
set_option linter.unusedSimpArgs false

/-! ### spec_HashChildren: function 20 -/
def spec_HashChildren.l0 : Nat → List Int → List Int → List Int → Int → Option (List Int)
  | 0, _, _, _, _ => none
  | k + 1, x1, x2, x7, x8 => if x8 ≥ 0 then (if 0 ≤ x8 then ((some (([(shr .u64 (IntKind.u64.wrap ((x1.length : Int))) x8) % 256] : List Int) : List Int)).bind fun y137 => (if x7.length + y137.length < 140737488355328 then (spec_HashChildren.l0 k x1 x2 (x7 ++ y137) (wrap64 (x8 - 8))) else (none))) else (none)) else (if x7.length + x1.length < 140737488355328 then ((some (x7 ++ x1 : List Int)).bind fun y143 => (if y143.length + x2.length < 140737488355328 then (some (y143 ++ x2)) else (none))) else (none))
def spec_HashChildren.f (k : Nat) (a0_0 : Int) (a0_1 : Int) (a0_2 : Int) (a0_3 : Int) (a0_4 : Int) (a0_5 : Int) (l1 : List Int) (l2 : List Int) : Option (List Int) := (spec_Terms.f a0_0 a0_1 a0_2 a0_3 a0_4 a0_5).bind fun t133 => (if t133 = true then (spec_HashChildren.l0 k l1 l2 (([1] : List Int)) 56) else ((some (([] : List Int) : List Int)).bind fun y149 => (if y149.length + l1.length < 140737488355328 then ((some (y149 ++ l1 : List Int)).bind fun y152 => ((some (([255] : List Int) : List Int)).bind fun y155 => (if y152.length + y155.length < 140737488355328 then ((some (y152 ++ y155 : List Int)).bind fun y158 => (if y158.length + l2.length < 140737488355328 then ((spec_word.f k a0_0 a0_1 a0_2 a0_3 a0_4 a0_5 a0_5 (y158 ++ l2)).bind fun t164 => (some t164)) else (none))) else (none)))) else (none))))
theorem spec_HashChildren.mono_l : ∀ k, (∀ y0 y1 y2 y3, LeO (spec_HashChildren.l0 k y0 y1 y2 y3) (spec_HashChildren.l0 (k + 1) y0 y1 y2 y3))
  | 0 => fun _ _ _ _ r h => by simp [spec_HashChildren.l0] at h
  | k + 1 => by
    have ih0 := spec_HashChildren.mono_l k
    · intro y0 y1 y2 y3
      unfold spec_HashChildren.l0
      repeat' first
      | (with_reducible exact ih0 _ _ _ _)
      | (with_reducible exact spec_word.mono _ _ _ _ _ _ _ _ _)
      | (with_reducible exact LeO.refl _)
      | (with_reducible exact LeO.none _)
      | (with_reducible refine LeO.ite ?_ ?_)
      | (with_reducible refine LeO.bind ?_ (fun _ => ?_))
      | exact ih0 _ _ _ _
      | exact spec_word.mono _ _ _ _ _ _ _ _ _
      | exact LeO.none _
      | refine LeO.ite ?_ ?_
      | refine LeO.bind ?_ (fun _ => ?_)
theorem spec_HashChildren.mono : ∀ a0 a1 a2 a3 a4 a5 a6 a7 k, LeO (spec_HashChildren.f k a0 a1 a2 a3 a4 a5 a6 a7) (spec_HashChildren.f (k + 1) a0 a1 a2 a3 a4 a5 a6 a7) := by
  intro a0 a1 a2 a3 a4 a5 a6 a7 k
  have ih0 := spec_HashChildren.mono_l k
  unfold spec_HashChildren.f
  repeat' first
      | (with_reducible exact ih0 _ _ _ _)
      | (with_reducible exact spec_word.mono _ _ _ _ _ _ _ _ _)
      | (with_reducible exact LeO.refl _)
      | (with_reducible exact LeO.none _)
      | (with_reducible refine LeO.ite ?_ ?_)
      | (with_reducible refine LeO.bind ?_ (fun _ => ?_))
      | exact ih0 _ _ _ _
      | exact spec_word.mono _ _ _ _ _ _ _ _ _
      | exact LeO.none _
      | refine LeO.ite ?_ ?_
      | refine LeO.bind ?_ (fun _ => ?_)
def spec_HashChildren.T8 : Bool × List (List Nat × List Nat) := (true, [([], []), ([], []), ([1], [1]), ([], []), ([], []), ([3, 4], [3, 4]), ([], []), ([5, 6, 5], [5, 6]), ([], []), ([7, 8, 7], [7, 8]), ([0, 2, 9, 9], [0, 2, 9]), ([10, 10, 0, 1, 2, 3, 4, 5, 6, 7, 8, 9, 10], [10])])
def spec_HashChildren.B8 : List Nat := [0, 0, 2, 0, 0, 24, 0, 120, 0, 504, 1023, 2047]
theorem spec_HashChildren.tab8 : rtab .any (opsOf Try.f20 8) = spec_HashChildren.T8 := by kernel_rfl
theorem spec_HashChildren.bits8 : waitsOk spec_HashChildren.T8.2 spec_HashChildren.B8 = true := by kernel_rfl
set_option maxHeartbeats 8000000 in
set_option maxRecDepth 100000 in
theorem spec_HashChildren.calls (k : Nat) (a0_0 : Int) (a0_1 : Int) (a0_2 : Int) (a0_3 : Int) (a0_4 : Int) (a0_5 : Int) (A1 : Option Addr) (c1 : Nat) (l1 : List Int) (A2 : Option Addr) (c2 : Nat) (l2 : List Int) (r : List Int) (w : World) (hr1 : Kd.C (Kd.int .u8) w A1 l1.length l1) (hc1 : l1.length ≤ c1) (hr2 : Kd.C (Kd.int .u8) w A2 l2.length l2) (hc2 : l2.length ≤ c2) (h : spec_HashChildren.f k a0_0 a0_1 a0_2 a0_3 a0_4 a0_5 l1 l2 = some r) :
    Calls Try.prog 20 #[.agg #[.int .i64 a0_0, .int .i64 a0_1, .int .i64 a0_2, .int .u64 a0_3, .int .u64 a0_4, .int .u64 a0_5], .slice A1 l1.length c1, .slice A2 l2.length c2] w fun e w' => ∃ v0_ : Value, e = .returned (v0_) ∧ Kd.R (Kd.int .u8) 5 w' w.heap.size (fun _ => True) v0_ r ∧ Below w.heap.size w w' := by
  have hu24 := Try.underlying24
  have HR1 := Aside0.mk hr1
  have HC1 := Aside0.mk hc1
  clear hr1 hc1
  have HR2 := Aside0.mk hr2
  have HC2 := Aside0.mk hc2
  clear hr2 hc2
  have HB := Aside0.mk (Below.refl w.heap.size w)
  have H : ((spec_Terms.f a0_0 a0_1 a0_2 a0_3 a0_4 a0_5).bind fun t133 => (if t133 = true then (spec_HashChildren.l0 k l1 l2 (([1] : List Int)) 56) else ((some (([] : List Int) : List Int)).bind fun y149 => (if y149.length + l1.length < 140737488355328 then ((some (y149 ++ l1 : List Int)).bind fun y152 => ((some (([255] : List Int) : List Int)).bind fun y155 => (if y152.length + y155.length < 140737488355328 then ((some (y152 ++ y155 : List Int)).bind fun y158 => (if y158.length + l2.length < 140737488355328 then ((spec_word.f k a0_0 a0_1 a0_2 a0_3 a0_4 a0_5 a0_5 (y158 ++ l2)).bind fun t164 => (some t164)) else (none))) else (none)))) else (none))))) = some r := h
  clear h
  replace H := Option.bind_eq_some_iff.mp H
  obtain ⟨t133, A40, H⟩ := H
  replace H : (if t133 = true then (spec_HashChildren.l0 k l1 l2 (([1] : List Int)) 56) else ((some (([] : List Int) : List Int)).bind fun y149 => (if y149.length + l1.length < 140737488355328 then ((some (y149 ++ l1 : List Int)).bind fun y152 => ((some (([255] : List Int) : List Int)).bind fun y155 => (if y152.length + y155.length < 140737488355328 then ((some (y152 ++ y155 : List Int)).bind fun y158 => (if y158.length + l2.length < 140737488355328 then ((spec_word.f k a0_0 a0_1 a0_2 a0_3 a0_4 a0_5 a0_5 (y158 ++ l2)).bind fun t164 => (some t164)) else (none))) else (none)))) else (none)))) = some r := H
  have A4 := Aside0.mk A40
  clear A40
  by_cases c5 : t133 = true
  · subst c5
    have H1 : (spec_HashChildren.l0 k l1 l2 (([1] : List Int)) 56) = some r := by rw [if_pos rfl] at H; exact H
    clear H
    have H := H1
    clear H1
    obtain ⟨y134, hy134⟩ : ∃ y_ : List Int, y_ = (([1] : List Int)) := ⟨_, rfl⟩
    replace H : (spec_HashChildren.l0 k l1 l2 y134 56) = some r := by first | (rw [hy134]; with_reducible exact H) | (have H2_ := (Option.bind_some _ _).symm.trans H; rw [hy134]; with_reducible exact H2_) | (have H2_ := (Option.bind_some _ _).symm.trans H; with_reducible exact H2_) | with_reducible exact H | (rw [hy134]; exact H) | exact H
    have Ny134 := Aside0.mk hy134
    clear hy134
    have H' := Aside0.mk H
    clear H
    go_enter Try.func20, Try.ntmps20
    go_wp2_with (first | ((with_reducible refine gate_dst (N := 3) rfl ?_); refine box_event ?hg (N := 3) ?hd (cs := #[.int .i64 a0_0, .int .i64 a0_1, .int .i64 a0_2, .int .u64 a0_3, .int .u64 a0_4, .int .u64 a0_5]) (t := 24) ?hr ?_; (case hd => rfl); (case hg => rfl); (case hr => first | (go_simp; done) | (go_simp; rfl)); intro gb132 hg w6 hbox hb; have n0_ := Aside0.mk (below_step (by repeat (first | (with_reducible first | exact HB.out | apply below_alloc | apply pw_below_drewN | apply below_drew1) | exact HB.out)) hb); have n1_ := Aside0.mk (hbox); have n2_ := Aside0.mk ((by rw [hg]; exact (below_size (by repeat (first | (with_reducible first | exact HB.out | apply below_alloc | apply pw_below_drewN | apply below_drew1) | exact HB.out))) : w.heap.size ≤ gb132)); have n3_ := Aside0.mk ((by rw [hg]; exact (below_size (by repeat (first | (with_reducible first | exact HB.out | apply below_alloc | apply pw_below_drewN | apply below_drew1) | exact HB.out))) : w.heap.size ≤ gb132)); clear HB; have HB := n0_; have BK132 := n1_; have GW132 := n2_; have GE132 := n3_; clear n0_ n1_ n2_ n3_; clear hb hbox hg; have hcz7_0 : w6.cell? ⟨gb132, 0, none⟩ = some (.int .i64 a0_0) := (blk_cell BK132.out 0).trans rfl; have hcz7_1 : w6.cell? ⟨gb132, 1, none⟩ = some (.int .i64 a0_1) := (blk_cell BK132.out 1).trans rfl; have hcz7_2 : w6.cell? ⟨gb132, 2, none⟩ = some (.int .i64 a0_2) := (blk_cell BK132.out 2).trans rfl; have hcz7_3 : w6.cell? ⟨gb132, 3, none⟩ = some (.int .u64 a0_3) := (blk_cell BK132.out 3).trans rfl; have hcz7_4 : w6.cell? ⟨gb132, 4, none⟩ = some (.int .u64 a0_4) := (blk_cell BK132.out 4).trans rfl; have hcz7_5 : w6.cell? ⟨gb132, 5, none⟩ = some (.int .u64 a0_5) := (blk_cell BK132.out 5).trans rfl; have hfz7_0 := blk_frozen BK132.out 0; have hfz7_1 := blk_frozen BK132.out 1; have hfz7_2 := blk_frozen BK132.out 2; have hfz7_3 := blk_frozen BK132.out 3; have hfz7_4 := blk_frozen BK132.out 4; have hfz7_5 := blk_frozen BK132.out 5) | ((with_reducible refine gate_callee (f := 6) rfl ?_); refine goesL_ (some 10) rfl rfl Try.func6 (by kernel_rfl) rfl #[.agg #[.int .i64 a0_0, .int .i64 a0_1, .int .i64 a0_2, .int .u64 a0_3, .int .u64 a0_4, .int .u64 a0_5]] rfl (by (try simp only [List.map_toArray, List.map_cons, List.map_nil]); first | done | rfl | (simp only [List.length_drop, List.length_take]; rfl)) ?_; (with_reducible refine (spec_Terms.calls a0_0 a0_1 a0_2 a0_3 a0_4 a0_5 true _ A4.out).mono ?_); rintro e w8 ⟨rfl, hb⟩; refine ⟨_, rfl, ?_⟩; have n0_ := Aside0.mk (blk_below (g := gb132) (o := .cells #[.int .i64 a0_0, .int .i64 a0_1, .int .i64 a0_2, .int .u64 a0_3, .int .u64 a0_4, .int .u64 a0_5] 24 (0, 0)) (by (with_reducible repeat (first | refine blk_drewN ?_ _ | refine blk_drew ?_ | refine blk_alloc ?_ _)); exact BK132.out) hb); have n1_ := Aside0.mk (below_step (by repeat (first | (with_reducible first | exact HB.out | apply below_alloc | apply pw_below_drewN | apply below_drew1 | refine below_set ?_ GE132.out) | exact HB.out)) hb); clear BK132; clear HB; have BK132 := n0_; have HB := n1_; clear n0_ n1_; (try clear hb); (try clear hb2); (try clear hk); (try clear hi)) | ((with_reducible refine gate_dst (N := 11) rfl ?_); refine Kd.R_lit (Kd.int .u8) _ 5 ?hg (N := 11) ?hd (xs := ([1] : List Int)) (inner := [.int .u8 1]) (ok := fun _ => True) (okp := fun _ => True) ?hr ?hp (fun _ hk => hk) trivial (Below.refl _ _) (Nat.le_refl _) (by simp) ?_; (case hd => rfl); (case hg => rfl); (case hr => first | (go_simp; done) | (go_simp; rfl)); (case hp => exact (Reps.one (show Kd.M (Kd.int .u8) _ _ _ 1 [.int .u8 1] from rfl) (Reps.none _ _))); intro v135 w9 ho10 hb hg_ hnew_; clear hg_ hnew_; (first | rw [← Ny134.out] at ho10 | (simp only [Int.reduceToNat] at ho10; rw [← Ny134.out] at ho10)); have n0_ := Aside0.mk (Kd.R_lower ho10 (below_size (by repeat (first | (with_reducible first | exact HB.out | apply below_alloc | apply pw_below_drewN | apply below_drew1 | refine below_set ?_ GE132.out) | exact HB.out)))); have n1_ := Aside0.mk (blk_below (g := gb132) (o := .cells #[.int .i64 a0_0, .int .i64 a0_1, .int .i64 a0_2, .int .u64 a0_3, .int .u64 a0_4, .int .u64 a0_5] 24 (0, 0)) (by (with_reducible repeat (first | refine blk_drewN ?_ _ | refine blk_drew ?_ | refine blk_alloc ?_ _)); exact BK132.out) hb); have n2_ := Aside0.mk (below_step (by repeat (first | (with_reducible first | exact HB.out | apply below_alloc | apply pw_below_drewN | apply below_drew1 | refine below_set ?_ GE132.out) | exact HB.out)) hb); clear BK132; clear HB; have HO136 := n0_; have BK132 := n1_; have HB := n2_; clear n0_ n1_ n2_; clear hb ho10))
    (try simp only [Act.put, List.setIfInBounds_toArray, List.set_cons_zero, List.set_cons_succ])
    go_loopg [7, 8] k (fun kq v7 v8 w' => ∃ (x7_1 : List Int) (x8_1 : Int), v8 = .int .i64 x8_1 ∧ Aside0 (spec_HashChildren.l0 kq l1 l2 x7_1 x8_1 = some r) ∧ Aside0 (kq ≤ k) ∧ Aside0 (Kd.R (Kd.int .u8) 5 w' w.heap.size (fun _ => True) v7 x7_1) ∧ Aside0 (w'.heap[gb132]? = some (.cells #[.int .i64 a0_0, .int .i64 a0_1, .int .i64 a0_2, .int .u64 a0_3, .int .u64 a0_4, .int .u64 a0_5] 24 (0, 0))) ∧ Aside0 (Below w.heap.size w w'))
    case atStart => exact ⟨(y134), (56), (by first | rfl | (simp; done) | (simp [*]; done)), H', ⟨Nat.le_refl _⟩, ⟨by (with_reducible repeat (first | apply Kd.R_alloc | apply Kd.R_drewN | apply Kd.R_drew)); exact HO136.out⟩, ⟨by (with_reducible repeat (first | refine blk_drewN ?_ _ | refine blk_drew ?_ | refine blk_alloc ?_ _)); exact BK132.out⟩, ⟨by repeat (first | (with_reducible first | exact HB.out | apply below_alloc | apply pw_below_drewN | apply below_drew1 | refine below_set ?_ GE132.out) | exact HB.out)⟩⟩
    case round =>
      clear H'
      try clear c1
      try clear c2
      try clear p2
      try clear c5
      try clear c6
      try clear hcz7_0
      try clear hcz7_1
      try clear hcz7_2
      try clear hcz7_3
      try clear hcz7_4
      try clear hcz7_5
      try clear hfz7_0
      try clear hfz7_1
      try clear hfz7_2
      try clear hfz7_3
      try clear hfz7_4
      try clear hfz7_5
      obtain ⟨x7_1, x8_1, rfl, HA, HK1, HO_7, BK132, HB⟩ := hrel
      cases gk with
      | zero => exact absurd HA.out (by simp [spec_HashChildren.l0])
      | succ k1 =>
        have H := HA.out
        clear HA
        simp only [spec_HashChildren.l0] at H
        by_cases c11 : x8_1 ≥ 0
        · rw [if_pos c11] at H
          have c11b0 : decide (0 ≤ x8_1) = true := decide_eq_true c11
          clear c11
          by_cases c12 : 0 ≤ x8_1
          · rw [if_pos c12] at H
            have c12b0 := eq_true c12
            have c12b1 : decide (0 ≤ x8_1) = true := decide_eq_true c12
            clear c12
            obtain ⟨ji13, hji13⟩ : ∃ j_ : Int, (shr .u64 (IntKind.u64.wrap ((l1.length : Int))) x8_1) = j_ := ⟨_, rfl⟩
            replace H : ((some (([(ji13) % 256] : List Int) : List Int)).bind fun y137 => (if x7_1.length + y137.length < 140737488355328 then (spec_HashChildren.l0 k1 l1 l2 (x7_1 ++ y137) (wrap64 (x8_1 - 8))) else (none))) = some r := by first | (rw [hji13] at H; exact H) | (simp only [hji13] at H ⊢; exact H)
            have hji13_ : ((IntKind.u64.wrap ((l1.length : Int))) / 2 ^ min x8_1.toNat 64) = ji13 := hji13
            have hji13z : x8_1 ≤ 64 → ((IntKind.u64.wrap ((l1.length : Int))) / 2 ^ x8_1.toNat) = ji13 := shr_small hji13
            obtain ⟨y137, hy137⟩ : ∃ y_ : List Int, y_ = (([(ji13) % 256] : List Int)) := ⟨_, rfl⟩
            replace H : (if x7_1.length + y137.length < 140737488355328 then (spec_HashChildren.l0 k1 l1 l2 (x7_1 ++ y137) (wrap64 (x8_1 - 8))) else (none)) = some r := by first | (rw [hy137]; with_reducible exact H) | (have H2_ := (Option.bind_some _ _).symm.trans H; rw [hy137]; with_reducible exact H2_) | (have H2_ := (Option.bind_some _ _).symm.trans H; with_reducible exact H2_) | with_reducible exact H | (rw [hy137]; exact H) | exact H
            have Ny137 := Aside0.mk hy137
            clear hy137
            by_cases c14 : x7_1.length + y137.length < 140737488355328
            · rw [if_pos c14] at H
              have LMc14 := Aside0.mk c14
              clear c14
              obtain ⟨y140, hy140⟩ : ∃ y_ : List Int, y_ = (x7_1 ++ y137) := ⟨_, rfl⟩
              replace H : (spec_HashChildren.l0 k1 l1 l2 y140 (wrap64 (x8_1 - 8))) = some r := by first | (rw [hy140]; with_reducible exact H) | (have H2_ := (Option.bind_some _ _).symm.trans H; rw [hy140]; with_reducible exact H2_) | (have H2_ := (Option.bind_some _ _).symm.trans H; with_reducible exact H2_) | with_reducible exact H | (rw [hy140]; exact H) | exact H
              have Ny140 := Aside0.mk hy140
              clear hy140
              have H' := Aside0.mk H
              clear H
              go_wp2_with (first | ((with_reducible refine gate_dst (N := 23) rfl ?_); refine Kd.R_lit (Kd.int .u8) _ 5 ?hg (N := 23) ?hd (xs := ([(ji13) % 256] : List Int)) (inner := [.int .u8 ((ji13) % 256)]) (ok := fun _ => True) (okp := fun _ => True) ?hr ?hp (fun _ hk => hk) trivial (Below.refl _ _) (Nat.le_refl _) (by simp) ?_; (case hd => rfl); (case hg => rfl); (case hr => first | (go_simp; done) | (go_simp; rfl)); (case hp => exact (Reps.one (show Kd.M (Kd.int .u8) _ _ _ ((ji13) % 256) [.int .u8 ((ji13) % 256)] from rfl) (Reps.none _ _))); intro v138 w15 ho16 hb hg_ hnew_; clear hg_ hnew_; (first | rw [← Ny137.out] at ho16 | (simp only [Int.reduceToNat] at ho16; rw [← Ny137.out] at ho16)); have n0_ := Aside0.mk (Kd.R_elder' (by (with_reducible repeat (first | apply Kd.R_alloc | apply Kd.R_drewN | apply Kd.R_drew)); exact HO_7.out) (Kd.R_base ho16) hb); have n1_ := Aside0.mk (Kd.R_lower (Kd.R_new' ho16 (Kd.R_lt (by (with_reducible repeat (first | apply Kd.R_alloc | apply Kd.R_drewN | apply Kd.R_drew)); exact HO_7.out))) (below_size (by repeat (first | (with_reducible first | exact HB.out | apply below_alloc | apply pw_below_drewN | apply below_drew1 | refine below_set ?_ GE132.out) | exact HB.out)))); have n2_ := Aside0.mk (blk_below (g := gb132) (o := .cells #[.int .i64 a0_0, .int .i64 a0_1, .int .i64 a0_2, .int .u64 a0_3, .int .u64 a0_4, .int .u64 a0_5] 24 (0, 0)) (by (with_reducible repeat (first | refine blk_drewN ?_ _ | refine blk_drew ?_ | refine blk_alloc ?_ _)); exact BK132.out) hb); have n3_ := Aside0.mk (below_step (by repeat (first | (with_reducible first | exact HB.out | apply below_alloc | apply pw_below_drewN | apply below_drew1 | refine below_set ?_ GE132.out) | exact HB.out)) hb); clear HO_7; clear BK132; clear HB; have HO_7 := n0_; have HO139 := n1_; have BK132 := n2_; have HB := n3_; clear n0_ n1_ n2_ n3_; clear hb ho16; obtain ⟨Ao18, co18, eo18⟩ := Kd.R_slice HO139.out; subst eo18) | ((with_reducible refine gate_builtin (b := .append) (xs := #[.tmp 16, .tmp 23]) rfl ?_); at_builtin; refine Kd.R_append_rows (Kd.int .u8) (w0 := w) w.heap.size rfl (.tmp 16) (.tmp 23) 25 5 (.int .u8 0) 1 rfl Try.underlying25 info5 rfl (by decide) (by omega) u7 x7_1 y137 _ _ _ (fun k_ => some k_ ≠ (.slice Ao18 y137.length co18 : Value).ownBlock) (fun _ => False) rfl rfl ?aO ?aR (fun _ _ h => h) (fun _ h => h.elim) ?aF ?aB ?aS ?aL ?_; (case aR => repeat (first | exact (Kd.R_reads' HO139.out).2.2 | (with_reducible refine Kd.C_alloc ?_ _) | (with_reducible refine Kd.C_drewN ?_ _) | (with_reducible refine Kd.C_drew ?_))); (case aB => exact (by repeat (first | (with_reducible first | exact HB.out | apply below_alloc | apply pw_below_drewN | apply below_drew1 | refine below_set ?_ GE132.out) | exact HB.out))); (case aF => exact (fun k_ hk => Kd.fresh' (Kd.R_lt (by (with_reducible repeat (first | apply Kd.R_alloc | apply Kd.R_drewN | apply Kd.R_drew)); exact HO139.out)) k_ hk)); (case aO => exact (by (with_reducible repeat (first | apply Kd.R_alloc | apply Kd.R_drewN | apply Kd.R_drew)); exact Kd.R_mono HO_7.out (fun _ hk => hk.2))); (case aS => exact (below_size (by repeat (first | (with_reducible first | exact HB.out | apply below_alloc | apply pw_below_drewN | apply below_drew1 | refine below_set ?_ GE132.out) | exact HB.out)))); (case aL => have := LMc14.out; omega); intro v141 w17 ho hb hg hat; rw [← Ny140.out] at ho; have n0_ := Aside0.mk (blk_grown (g := gb132) (o := .cells #[.int .i64 a0_0, .int .i64 a0_1, .int .i64 a0_2, .int .u64 a0_3, .int .u64 a0_4, .int .u64 a0_5] 24 (0, 0)) (by (with_reducible repeat (first | refine blk_drewN ?_ _ | refine blk_drew ?_ | refine blk_alloc ?_ _)); exact BK132.out) hg (Kd.R_ne HO_7.out BK132.out (by decide))); have n1_ := Aside0.mk (Kd.R_after (ok := (fun _ => True)) (by (with_reducible repeat (first | apply Kd.R_alloc | apply Kd.R_drewN | apply Kd.R_drew)); exact HO139.out) hg hat); have n2_ := Aside0.mk (hb); have n3_ := Aside0.mk (ho); clear BK132; clear HO139; clear HB; clear HO_7; have BK132 := n0_; have HO139 := n1_; have HB := n2_; have HO142 := n3_; clear n0_ n1_ n2_ n3_; clear ho hb hg hat))
              go_roundg k1
              case measure => have := HK1.out; omega
              case rel => exact ⟨(y140), (wrap64 (x8_1 - 8)), (by first | rfl | (simp; done) | (simp [*]; done)), H', ⟨by have := HK1.out; omega⟩, ⟨by (with_reducible repeat (first | apply Kd.R_alloc | apply Kd.R_drewN | apply Kd.R_drew)); exact Kd.R_mono HO142.out (fun _ hk => trivial)⟩, ⟨by (with_reducible repeat (first | refine blk_drewN ?_ _ | refine blk_drew ?_ | refine blk_alloc ?_ _)); exact BK132.out⟩, ⟨by repeat (first | (with_reducible first | exact HB.out | apply below_alloc | apply pw_below_drewN | apply below_drew1 | refine below_set ?_ GE132.out) | exact HB.out)⟩⟩
            · rw [if_neg c14] at H
              exact absurd H (by simp)
          · rw [if_neg c12] at H
            exact absurd H (by simp)
        · rw [if_neg c11] at H
          have c11b0 : decide (0 ≤ x8_1) = false := decide_eq_false c11
          clear c11
          by_cases c19 : x7_1.length + l1.length < 140737488355328
          · rw [if_pos c19] at H
            have LMc19 := Aside0.mk c19
            clear c19
            obtain ⟨y143, hy143⟩ : ∃ y_ : List Int, y_ = (x7_1 ++ l1) := ⟨_, rfl⟩
            replace H : (if y143.length + l2.length < 140737488355328 then (some (y143 ++ l2)) else (none)) = some r := by first | (rw [hy143]; with_reducible exact H) | (have H2_ := (Option.bind_some _ _).symm.trans H; rw [hy143]; with_reducible exact H2_) | (have H2_ := (Option.bind_some _ _).symm.trans H; with_reducible exact H2_) | with_reducible exact H | (rw [hy143]; exact H) | exact H
            have Ny143 := Aside0.mk hy143
            clear hy143
            by_cases c20 : y143.length + l2.length < 140737488355328
            · rw [if_pos c20] at H
              have LMc20 := Aside0.mk c20
              clear c20
              obtain ⟨y146, hy146⟩ : ∃ y_ : List Int, y_ = (y143 ++ l2) := ⟨_, rfl⟩
              replace H : (some y146) = some r := by first | (rw [hy146]; with_reducible exact H) | (have H2_ := (Option.bind_some _ _).symm.trans H; rw [hy146]; with_reducible exact H2_) | (have H2_ := (Option.bind_some _ _).symm.trans H; with_reducible exact H2_) | with_reducible exact H | (rw [hy146]; exact H) | exact H
              have Ny146 := Aside0.mk hy146
              clear hy146
              obtain rfl := Option.some.inj H
              go_wp2_with (first | ((with_reducible refine gate_builtin (b := .append) (xs := #[.tmp 25, .tmp 26]) rfl ?_); at_builtin; refine Kd.R_append_rows (Kd.int .u8) (w0 := w) w.heap.size rfl (.tmp 25) (.tmp 26) 25 5 (.int .u8 0) 1 rfl Try.underlying25 info5 rfl (by decide) (by omega) u7 x7_1 l1 _ _ _ (fun _ => True) (fun _ => False) rfl rfl ?aO ?aR (fun _ _ h => h) (fun _ h => h.elim) ?aF ?aB ?aS ?aL ?_; (case aR => repeat (first | exact (Kd.C_below HR1.out HB.out) | (with_reducible refine Kd.C_alloc ?_ _) | (with_reducible refine Kd.C_drewN ?_ _) | (with_reducible refine Kd.C_drew ?_))); (case aB => exact (by repeat (first | (with_reducible first | exact HB.out | apply below_alloc | apply pw_below_drewN | apply below_drew1 | refine below_set ?_ GE132.out) | exact HB.out))); (case aF => exact (fun _ _ => trivial)); (case aO => exact (by (with_reducible repeat (first | apply Kd.R_alloc | apply Kd.R_drewN | apply Kd.R_drew)); exact HO_7.out)); (case aS => exact (below_size (by repeat (first | (with_reducible first | exact HB.out | apply below_alloc | apply pw_below_drewN | apply below_drew1 | refine below_set ?_ GE132.out) | exact HB.out)))); (case aL => have := LMc19.out; omega); intro v144 w21 ho hb hg hat; rw [← Ny143.out] at ho; have n0_ := Aside0.mk (blk_grown (g := gb132) (o := .cells #[.int .i64 a0_0, .int .i64 a0_1, .int .i64 a0_2, .int .u64 a0_3, .int .u64 a0_4, .int .u64 a0_5] 24 (0, 0)) (by (with_reducible repeat (first | refine blk_drewN ?_ _ | refine blk_drew ?_ | refine blk_alloc ?_ _)); exact BK132.out) hg (Kd.R_ne HO_7.out BK132.out (by decide))); have n1_ := Aside0.mk (hb); have n2_ := Aside0.mk (ho); clear BK132; clear HB; clear HO_7; have BK132 := n0_; have HB := n1_; have HO145 := n2_; clear n0_ n1_ n2_; clear ho hb hg hat) | ((with_reducible refine gate_builtin (b := .append) (xs := #[.tmp 27, .tmp 28]) rfl ?_); at_builtin; refine Kd.R_append_rows (Kd.int .u8) (w0 := w) w.heap.size rfl (.tmp 27) (.tmp 28) 25 5 (.int .u8 0) 1 rfl Try.underlying25 info5 rfl (by decide) (by omega) v144 y143 l2 _ _ _ (fun _ => True) (fun _ => False) rfl rfl ?aO ?aR (fun _ _ h => h) (fun _ h => h.elim) ?aF ?aB ?aS ?aL ?_; (case aR => repeat (first | exact (Kd.C_below HR2.out HB.out) | (with_reducible refine Kd.C_alloc ?_ _) | (with_reducible refine Kd.C_drewN ?_ _) | (with_reducible refine Kd.C_drew ?_))); (case aB => exact (by repeat (first | (with_reducible first | exact HB.out | apply below_alloc | apply pw_below_drewN | apply below_drew1 | refine below_set ?_ GE132.out) | exact HB.out))); (case aF => exact (fun _ _ => trivial)); (case aO => exact (by (with_reducible repeat (first | apply Kd.R_alloc | apply Kd.R_drewN | apply Kd.R_drew)); exact HO145.out)); (case aS => exact (below_size (by repeat (first | (with_reducible first | exact HB.out | apply below_alloc | apply pw_below_drewN | apply below_drew1 | refine below_set ?_ GE132.out) | exact HB.out)))); (case aL => have := LMc20.out; omega); intro v147 w22 ho hb hg hat; rw [← Ny146.out] at ho; have n0_ := Aside0.mk (blk_grown (g := gb132) (o := .cells #[.int .i64 a0_0, .int .i64 a0_1, .int .i64 a0_2, .int .u64 a0_3, .int .u64 a0_4, .int .u64 a0_5] 24 (0, 0)) (by (with_reducible repeat (first | refine blk_drewN ?_ _ | refine blk_drew ?_ | refine blk_alloc ?_ _)); exact BK132.out) hg (Kd.R_ne HO145.out BK132.out (by decide))); have n1_ := Aside0.mk (hb); have n2_ := Aside0.mk (ho); clear BK132; clear HB; clear HO145; have BK132 := n0_; have HB := n1_; have HO148 := n2_; clear n0_ n1_ n2_; clear ho hb hg hat))
              go_ret
              exact ⟨_, by first | rfl | (simp [errW_none, errW_some] <;> rfl) | (simp [*, errW_none, errW_some] <;> rfl), by (with_reducible repeat (first | apply Kd.R_alloc | apply Kd.R_drewN | apply Kd.R_drew)); exact HO148.out, by repeat (first | (with_reducible first | exact HB.out | apply below_alloc | apply pw_below_drewN | apply below_drew1 | refine below_set ?_ GE132.out) | exact HB.out)⟩
            · rw [if_neg c20] at H
              exact absurd H (by simp)
          · rw [if_neg c19] at H
            exact absurd H (by simp)
  · replace c5 := Bool.eq_false_iff.mpr c5
    subst c5
    have H1 : ((some (([] : List Int) : List Int)).bind fun y149 => (if y149.length + l1.length < 140737488355328 then ((some (y149 ++ l1 : List Int)).bind fun y152 => ((some (([255] : List Int) : List Int)).bind fun y155 => (if y152.length + y155.length < 140737488355328 then ((some (y152 ++ y155 : List Int)).bind fun y158 => (if y158.length + l2.length < 140737488355328 then ((spec_word.f k a0_0 a0_1 a0_2 a0_3 a0_4 a0_5 a0_5 (y158 ++ l2)).bind fun t164 => (some t164)) else (none))) else (none)))) else (none))) = some r := by rw [if_neg (show ¬ (false = true) by decide)] at H; exact H
    clear H
    have H := H1
    clear H1
    obtain ⟨y149, hy149⟩ : ∃ y_ : List Int, y_ = (([] : List Int)) := ⟨_, rfl⟩
    replace H : (if y149.length + l1.length < 140737488355328 then ((some (y149 ++ l1 : List Int)).bind fun y152 => ((some (([255] : List Int) : List Int)).bind fun y155 => (if y152.length + y155.length < 140737488355328 then ((some (y152 ++ y155 : List Int)).bind fun y158 => (if y158.length + l2.length < 140737488355328 then ((spec_word.f k a0_0 a0_1 a0_2 a0_3 a0_4 a0_5 a0_5 (y158 ++ l2)).bind fun t164 => (some t164)) else (none))) else (none)))) else (none)) = some r := by first | (rw [hy149]; with_reducible exact H) | (have H2_ := (Option.bind_some _ _).symm.trans H; rw [hy149]; with_reducible exact H2_) | (have H2_ := (Option.bind_some _ _).symm.trans H; with_reducible exact H2_) | with_reducible exact H | (rw [hy149]; exact H) | exact H
    have Ny149 := Aside0.mk hy149
    clear hy149
    by_cases c23 : y149.length + l1.length < 140737488355328
    · rw [if_pos c23] at H
      have LMc23 := Aside0.mk c23
      clear c23
      obtain ⟨y152, hy152⟩ : ∃ y_ : List Int, y_ = (y149 ++ l1) := ⟨_, rfl⟩
      replace H : ((some (([255] : List Int) : List Int)).bind fun y155 => (if y152.length + y155.length < 140737488355328 then ((some (y152 ++ y155 : List Int)).bind fun y158 => (if y158.length + l2.length < 140737488355328 then ((spec_word.f k a0_0 a0_1 a0_2 a0_3 a0_4 a0_5 a0_5 (y158 ++ l2)).bind fun t164 => (some t164)) else (none))) else (none))) = some r := by first | (rw [hy152]; with_reducible exact H) | (have H2_ := (Option.bind_some _ _).symm.trans H; rw [hy152]; with_reducible exact H2_) | (have H2_ := (Option.bind_some _ _).symm.trans H; with_reducible exact H2_) | with_reducible exact H | (rw [hy152]; exact H) | exact H
      have Ny152 := Aside0.mk hy152
      clear hy152
      obtain ⟨y155, hy155⟩ : ∃ y_ : List Int, y_ = (([255] : List Int)) := ⟨_, rfl⟩
      replace H : (if y152.length + y155.length < 140737488355328 then ((some (y152 ++ y155 : List Int)).bind fun y158 => (if y158.length + l2.length < 140737488355328 then ((spec_word.f k a0_0 a0_1 a0_2 a0_3 a0_4 a0_5 a0_5 (y158 ++ l2)).bind fun t164 => (some t164)) else (none))) else (none)) = some r := by first | (rw [hy155]; with_reducible exact H) | (have H2_ := (Option.bind_some _ _).symm.trans H; rw [hy155]; with_reducible exact H2_) | (have H2_ := (Option.bind_some _ _).symm.trans H; with_reducible exact H2_) | with_reducible exact H | (rw [hy155]; exact H) | exact H
      have Ny155 := Aside0.mk hy155
      clear hy155
      by_cases c24 : y152.length + y155.length < 140737488355328
      · rw [if_pos c24] at H
        have LMc24 := Aside0.mk c24
        clear c24
        obtain ⟨y158, hy158⟩ : ∃ y_ : List Int, y_ = (y152 ++ y155) := ⟨_, rfl⟩
        replace H : (if y158.length + l2.length < 140737488355328 then ((spec_word.f k a0_0 a0_1 a0_2 a0_3 a0_4 a0_5 a0_5 (y158 ++ l2)).bind fun t164 => (some t164)) else (none)) = some r := by first | (rw [hy158]; with_reducible exact H) | (have H2_ := (Option.bind_some _ _).symm.trans H; rw [hy158]; with_reducible exact H2_) | (have H2_ := (Option.bind_some _ _).symm.trans H; with_reducible exact H2_) | with_reducible exact H | (rw [hy158]; exact H) | exact H
        have Ny158 := Aside0.mk hy158
        clear hy158
        by_cases c25 : y158.length + l2.length < 140737488355328
        · rw [if_pos c25] at H
          have LMc25 := Aside0.mk c25
          clear c25
          obtain ⟨y161, hy161⟩ : ∃ y_ : List Int, y_ = (y158 ++ l2) := ⟨_, rfl⟩
          replace H : ((spec_word.f k a0_0 a0_1 a0_2 a0_3 a0_4 a0_5 a0_5 y161).bind fun t164 => (some t164)) = some r := by first | (rw [hy161]; with_reducible exact H) | (have H2_ := (Option.bind_some _ _).symm.trans H; rw [hy161]; with_reducible exact H2_) | (have H2_ := (Option.bind_some _ _).symm.trans H; with_reducible exact H2_) | with_reducible exact H | (rw [hy161]; exact H) | exact H
          have Ny161 := Aside0.mk hy161
          clear hy161
          replace H := Option.bind_eq_some_iff.mp H
          obtain ⟨t164, A260, H⟩ := H
          replace H : (some t164) = some r := H
          have A26 := Aside0.mk A260
          clear A260
          obtain rfl := Option.some.inj H
          go_enter Try.func20, Try.ntmps20
          try go_wp2_with (first | ((with_reducible refine gate_dst (N := 3) rfl ?_); refine box_event ?hg (N := 3) ?hd (cs := #[.int .i64 a0_0, .int .i64 a0_1, .int .i64 a0_2, .int .u64 a0_3, .int .u64 a0_4, .int .u64 a0_5]) (t := 24) ?hr ?_; (case hd => rfl); (case hg => rfl); (case hr => first | (go_simp; done) | (go_simp; rfl)); intro gb132 hg w27 hbox hb; have n0_ := Aside0.mk (below_step (by repeat (first | (with_reducible first | exact HB.out | apply below_alloc | apply pw_below_drewN | apply below_drew1) | exact HB.out)) hb); have n1_ := Aside0.mk (hbox); have n2_ := Aside0.mk ((by rw [hg]; exact (below_size (by repeat (first | (with_reducible first | exact HB.out | apply below_alloc | apply pw_below_drewN | apply below_drew1) | exact HB.out))) : w.heap.size ≤ gb132)); have n3_ := Aside0.mk ((by rw [hg]; exact (below_size (by repeat (first | (with_reducible first | exact HB.out | apply below_alloc | apply pw_below_drewN | apply below_drew1) | exact HB.out))) : w.heap.size ≤ gb132)); clear HB; have HB := n0_; have BK132 := n1_; have GW132 := n2_; have GE132 := n3_; clear n0_ n1_ n2_ n3_; clear hb hbox hg; have hcz28_0 : w27.cell? ⟨gb132, 0, none⟩ = some (.int .i64 a0_0) := (blk_cell BK132.out 0).trans rfl; have hcz28_1 : w27.cell? ⟨gb132, 1, none⟩ = some (.int .i64 a0_1) := (blk_cell BK132.out 1).trans rfl; have hcz28_2 : w27.cell? ⟨gb132, 2, none⟩ = some (.int .i64 a0_2) := (blk_cell BK132.out 2).trans rfl; have hcz28_3 : w27.cell? ⟨gb132, 3, none⟩ = some (.int .u64 a0_3) := (blk_cell BK132.out 3).trans rfl; have hcz28_4 : w27.cell? ⟨gb132, 4, none⟩ = some (.int .u64 a0_4) := (blk_cell BK132.out 4).trans rfl; have hcz28_5 : w27.cell? ⟨gb132, 5, none⟩ = some (.int .u64 a0_5) := (blk_cell BK132.out 5).trans rfl; have hfz28_0 := blk_frozen BK132.out 0; have hfz28_1 := blk_frozen BK132.out 1; have hfz28_2 := blk_frozen BK132.out 2; have hfz28_3 := blk_frozen BK132.out 3; have hfz28_4 := blk_frozen BK132.out 4; have hfz28_5 := blk_frozen BK132.out 5) | ((with_reducible refine gate_callee (f := 6) rfl ?_); refine goesL_ (some 10) rfl rfl Try.func6 (by kernel_rfl) rfl #[.agg #[.int .i64 a0_0, .int .i64 a0_1, .int .i64 a0_2, .int .u64 a0_3, .int .u64 a0_4, .int .u64 a0_5]] rfl (by (try simp only [List.map_toArray, List.map_cons, List.map_nil]); first | done | rfl | (simp only [List.length_drop, List.length_take]; rfl)) ?_; (with_reducible refine (spec_Terms.calls a0_0 a0_1 a0_2 a0_3 a0_4 a0_5 false _ A4.out).mono ?_); rintro e w29 ⟨rfl, hb⟩; refine ⟨_, rfl, ?_⟩; have n0_ := Aside0.mk (blk_below (g := gb132) (o := .cells #[.int .i64 a0_0, .int .i64 a0_1, .int .i64 a0_2, .int .u64 a0_3, .int .u64 a0_4, .int .u64 a0_5] 24 (0, 0)) (by (with_reducible repeat (first | refine blk_drewN ?_ _ | refine blk_drew ?_ | refine blk_alloc ?_ _)); exact BK132.out) hb); have n1_ := Aside0.mk (below_step (by repeat (first | (with_reducible first | exact HB.out | apply below_alloc | apply pw_below_drewN | apply below_drew1 | refine below_set ?_ GE132.out) | exact HB.out)) hb); clear BK132; clear HB; have BK132 := n0_; have HB := n1_; clear n0_ n1_; (try clear hb); (try clear hb2); (try clear hk); (try clear hi)))
          have n0_ := Aside0.mk (blk_drew BK132.out)
          have n1_ := Aside0.mk (below_drew1 HB.out)
          clear BK132
          clear HB
          have BK132 := n0_
          have HB := n1_
          clear n0_ n1_
          refine start_ (n := 12) (S := fun w' => w'.cell? ⟨gb132, 0, none⟩ = some (.int .i64 a0_0) ∧ w'.cell? ⟨gb132, 1, none⟩ = some (.int .i64 a0_1) ∧ w'.cell? ⟨gb132, 2, none⟩ = some (.int .i64 a0_2) ∧ w'.cell? ⟨gb132, 3, none⟩ = some (.int .u64 a0_3) ∧ w'.cell? ⟨gb132, 4, none⟩ = some (.int .u64 a0_4) ∧ w'.cell? ⟨gb132, 5, none⟩ = some (.int .u64 a0_5)) (ds := []) #[false, false, false, false, false, false, false, false, false, false, false, false] (by kernel_rfl) rfl rfl ⟨(blk_cell BK132.out 0).trans rfl, (blk_cell BK132.out 1).trans rfl, (blk_cell BK132.out 2).trans rfl, (blk_cell BK132.out 3).trans rfl, (blk_cell BK132.out 4).trans rfl, (blk_cell BK132.out 5).trans rfl⟩ (fun hHeld => ?_); refine with_tabW spec_HashChildren.tab8 spec_HashChildren.bits8 (fun HT_ HW_ => ?_)
          generalize w29.drew = w30 at BK132 HB hHeld ⊢
          refine pure_ (i := 1) (N := some 31) (v := ?_) (a' := ?_) #[false, true, false, false, false, false, false, false, false, false, false, false] rfl rfl (any_of HT_.out (by kernel_rfl)) (fun _ _ _ h => h) (Or.inl ⟨by rfl, ?_⟩) ?_ ?_
          rotate_left
          · intro w'
            go_simp
            with_reducible rfl
          rotate_left
          · simp only [Act.put, List.setIfInBounds_toArray, List.set_cons_zero, List.set_cons_succ, i64_w, i32_w]
            rfl
          refine pure_ (i := 4) (N := some 34) (v := ?_) (a' := ?_) #[false, true, false, false, true, false, false, false, false, false, false, false] rfl rfl (any_of HT_.out (by kernel_rfl)) (fun _ _ _ h => h) (Or.inl ⟨by rfl, ?_⟩) ?_ ?_
          rotate_left
          · intro w'
            go_simp
            with_reducible rfl
          rotate_left
          · simp only [Act.put, List.setIfInBounds_toArray, List.set_cons_zero, List.set_cons_succ, i64_w, i32_w]
            rfl
          refine pure_ (i := 8) (N := some 38) (v := ?_) (a' := ?_) #[false, true, false, false, true, false, false, false, true, false, false, false] rfl rfl (any_of HT_.out (by kernel_rfl)) (fun _ _ _ h => h) (Or.inl ⟨by rfl, ?_⟩) ?_ ?_
          rotate_left
          · intro w'
            go_simp
            with_reducible rfl
          rotate_left
          · simp only [Act.put, List.setIfInBounds_toArray, List.set_cons_zero, List.set_cons_succ, i64_w, i32_w]
            rfl
          refine take_ (i := 0) (N := some 30) (v := ?_) (a' := ?_) #[true, true, false, false, true, false, false, false, true, false, false, false] rfl rfl (take_ofW HT_.out HW_.out (by kernel_rfl)) (fun _ _ _ h => h) (Or.inl ⟨by rfl, ?_⟩) hHeld ?_ ?_
          rotate_left
          · rintro w' ⟨s0, s1, s2, s3, s4, s5⟩
            go_simp
            with_reducible rfl
          rotate_left
          · simp only [Act.put, List.setIfInBounds_toArray, List.set_cons_zero, List.set_cons_succ, i64_w, i32_w]
            rfl
          refine take_ (i := 2) (N := some 32) (v := ?_) (a' := ?_) #[true, true, true, false, true, false, false, false, true, false, false, false] rfl rfl (take_ofW HT_.out HW_.out (by kernel_rfl)) (fun _ _ _ h => h) (Or.inl ⟨by rfl, ?_⟩) hHeld ?_ ?_
          rotate_left
          · rintro w' ⟨s0, s1, s2, s3, s4, s5⟩
            go_simp
            with_reducible rfl
          rotate_left
          · simp only [Act.put, List.setIfInBounds_toArray, List.set_cons_zero, List.set_cons_succ, i64_w, i32_w]
            rfl
          refine join_ (σ := Value × Value × Value) 4 #[true, true, true, true, true, true, true, false, true, false, false, false] (fun s_ => [(33, s_.1), (35, s_.2.1), (36, s_.2.2)]) (fun s_ w' => (w'.cell? ⟨gb132, 0, none⟩ = some (.int .i64 a0_0) ∧ w'.cell? ⟨gb132, 1, none⟩ = some (.int .i64 a0_1) ∧ w'.cell? ⟨gb132, 2, none⟩ = some (.int .i64 a0_2) ∧ w'.cell? ⟨gb132, 3, none⟩ = some (.int .u64 a0_3) ∧ w'.cell? ⟨gb132, 4, none⟩ = some (.int .u64 a0_4) ∧ w'.cell? ⟨gb132, 5, none⟩ = some (.int .u64 a0_5)) ∧ (Kd.R (Kd.int .u8) 5 w' w.heap.size (fun k_ => some k_ ≠ (s_.2.2 : Value).ownBlock) s_.2.1 y152) ∧ (Kd.R (Kd.int .u8) 5 w' w.heap.size (fun k_ => some k_ ≠ (s_.2.1 : Value).ownBlock) s_.2.2 y155) ∧ (w'.heap[gb132]? = some (.cells #[.int .i64 a0_0, .int .i64 a0_1, .int .i64 a0_2, .int .u64 a0_3, .int .u64 a0_4, .int .u64 a0_5] 24 (0, 0))) ∧ (Below w.heap.size w w')) ?_ ?_
          rotate_left
          · intro hCont
            refine two_ (i := 3) (j := 6) (Ni := some 33) (Nj := some 36) #[true, true, true, true, true, false, false, false, true, false, false, false] #[true, true, true, false, true, false, true, false, true, false, false, false] rfl rfl rfl rfl (two_of HT_.out (by kernel_rfl)) (by decide) (by decide) (fun K hK => ?_) (fun K hK => ?_)
            · skip
              refine Kd.R_lit_step (Kd.int .u8) _ 5 ?hg (N := 33) ?hd (xs := ([] : List Int)) (inner := []) (ok := fun _ => True) (okp := fun _ => True) ?hr ?hp (fun _ hk => hk) trivial (Below.refl _ _) (Nat.le_refl _) (by simp) ?_; (case hd => rfl); (case hg => rfl); (case hr => first | (go_simp; done) | (go_simp; rfl)); (case hp => exact (Reps.none _ _))
              intro v150 w31 ho32 hb hg_ hnew_
              clear hg_ hnew_
              (first | rw [← Ny149.out] at ho32 | (simp only [Int.reduceToNat] at ho32; rw [← Ny149.out] at ho32))
              have n0_ := Aside0.mk (Kd.R_lower ho32 (below_size (by repeat (first | (with_reducible first | exact HB.out | apply below_alloc | apply pw_below_drewN | apply below_drew1 | refine below_set ?_ GE132.out) | exact HB.out))))
              have n1_ := Aside0.mk (blk_below (g := gb132) (o := .cells #[.int .i64 a0_0, .int .i64 a0_1, .int .i64 a0_2, .int .u64 a0_3, .int .u64 a0_4, .int .u64 a0_5] 24 (0, 0)) (by (with_reducible repeat (first | refine blk_drewN ?_ _ | refine blk_drew ?_ | refine blk_alloc ?_ _)); exact BK132.out) hb)
              have n2_ := Aside0.mk (below_step (by repeat (first | (with_reducible first | exact HB.out | apply below_alloc | apply pw_below_drewN | apply below_drew1 | refine below_set ?_ GE132.out) | exact HB.out)) hb)
              clear BK132
              clear HB
              have HO151 := n0_
              have BK132 := n1_
              have HB := n2_
              clear n0_ n1_ n2_
              clear hb ho32
              refine hK.out _ _ ⟨(blk_cell BK132.out 0).trans rfl, (blk_cell BK132.out 1).trans rfl, (blk_cell BK132.out 2).trans rfl, (blk_cell BK132.out 3).trans rfl, (blk_cell BK132.out 4).trans rfl, (blk_cell BK132.out 5).trans rfl⟩ (fun hHeld => ?_)
              clear hK K
              refine norm_ (a' := ?_) ?_ ?_
              rotate_left
              · show Act.put _ (some 33) _ = _
                simp only [Act.put, List.setIfInBounds_toArray, List.set_cons_zero, List.set_cons_succ, i64_w, i32_w]
                rfl
              refine two_ (i := 5) (j := 6) (Ni := some 35) (Nj := some 36) #[true, true, true, true, true, true, false, false, true, false, false, false] #[true, true, true, true, true, false, true, false, true, false, false, false] rfl rfl rfl rfl (two_of HT_.out (by kernel_rfl)) (by decide) (by decide) (fun K hK => ?_) (fun K hK => ?_)
              · skip
                refine Kd.R_append_rows_step (Kd.int .u8) (w0 := w) w.heap.size (by rfl) (.tmp 33) (.tmp 34) 25 5 (.int .u8 0) 1 rfl Try.underlying25 info5 rfl (by decide) (by omega) v150 y149 l1 _ _ _ (fun _ => True) (fun _ => False) rfl rfl ?aO ?aR (fun _ _ h => h) (fun _ h => h.elim) ?aF ?aB ?aS ?aL ?_
                (case aR => repeat (first | exact (Kd.C_below HR1.out HB.out) | (with_reducible refine Kd.C_alloc ?_ _) | (with_reducible refine Kd.C_drewN ?_ _) | (with_reducible refine Kd.C_drew ?_)))
                (case aB => exact (by repeat (first | (with_reducible first | exact HB.out | apply below_alloc | apply pw_below_drewN | apply below_drew1 | refine below_set ?_ GE132.out) | exact HB.out)))
                (case aF => exact (fun _ _ => trivial))
                (case aO => exact (by (with_reducible repeat (first | apply Kd.R_alloc | apply Kd.R_drewN | apply Kd.R_drew)); exact HO151.out))
                (case aS => exact (below_size (by repeat (first | (with_reducible first | exact HB.out | apply below_alloc | apply pw_below_drewN | apply below_drew1 | refine below_set ?_ GE132.out) | exact HB.out))))
                (case aL => have := LMc23.out; omega)
                intro v153 w33 ho hb hg hat
                rw [← Ny152.out] at ho
                have n0_ := Aside0.mk (blk_grown (g := gb132) (o := .cells #[.int .i64 a0_0, .int .i64 a0_1, .int .i64 a0_2, .int .u64 a0_3, .int .u64 a0_4, .int .u64 a0_5] 24 (0, 0)) (by (with_reducible repeat (first | refine blk_drewN ?_ _ | refine blk_drew ?_ | refine blk_alloc ?_ _)); exact BK132.out) hg (Kd.R_ne HO151.out BK132.out (by decide)))
                have n1_ := Aside0.mk (hb)
                have n2_ := Aside0.mk (ho)
                clear BK132
                clear HB
                clear HO151
                have BK132 := n0_
                have HB := n1_
                have HO154 := n2_
                clear n0_ n1_ n2_
                clear ho hb hg hat
                refine hK.out _ _ ⟨(blk_cell BK132.out 0).trans rfl, (blk_cell BK132.out 1).trans rfl, (blk_cell BK132.out 2).trans rfl, (blk_cell BK132.out 3).trans rfl, (blk_cell BK132.out 4).trans rfl, (blk_cell BK132.out 5).trans rfl⟩ (fun hHeld => ?_)
                clear hK K
                refine norm_ (a' := ?_) ?_ ?_
                rotate_left
                · show Act.put _ (some 35) _ = _
                  simp only [Act.put, List.setIfInBounds_toArray, List.set_cons_zero, List.set_cons_succ, i64_w, i32_w]
                  rfl
                refine one_ (i := 6) (N := some 36) #[true, true, true, true, true, true, true, false, true, false, false, false] rfl rfl (one_of HT_.out (by kernel_rfl)) (by decide) (fun K hK => ?_)
                refine Kd.R_lit_step (Kd.int .u8) _ 5 ?hg (N := 36) ?hd (xs := ([255] : List Int)) (inner := [.int .u8 255]) (ok := fun _ => True) (okp := fun _ => True) ?hr ?hp (fun _ hk => hk) trivial (Below.refl _ _) (Nat.le_refl _) (by simp) ?_; (case hd => rfl); (case hg => rfl); (case hr => first | (go_simp; done) | (go_simp; rfl)); (case hp => exact (Reps.one (show Kd.M (Kd.int .u8) _ _ _ 255 [.int .u8 255] from rfl) (Reps.none _ _)))
                intro v156 w34 ho35 hb hg_ hnew_
                clear hg_ hnew_
                (first | rw [← Ny155.out] at ho35 | (simp only [Int.reduceToNat] at ho35; rw [← Ny155.out] at ho35))
                have n0_ := Aside0.mk (Kd.R_elder' (by (with_reducible repeat (first | apply Kd.R_alloc | apply Kd.R_drewN | apply Kd.R_drew)); exact HO154.out) (Kd.R_base ho35) hb)
                have n1_ := Aside0.mk (Kd.R_lower (Kd.R_new' ho35 (Kd.R_lt (by (with_reducible repeat (first | apply Kd.R_alloc | apply Kd.R_drewN | apply Kd.R_drew)); exact HO154.out))) (below_size (by repeat (first | (with_reducible first | exact HB.out | apply below_alloc | apply pw_below_drewN | apply below_drew1 | refine below_set ?_ GE132.out) | exact HB.out))))
                have n2_ := Aside0.mk (blk_below (g := gb132) (o := .cells #[.int .i64 a0_0, .int .i64 a0_1, .int .i64 a0_2, .int .u64 a0_3, .int .u64 a0_4, .int .u64 a0_5] 24 (0, 0)) (by (with_reducible repeat (first | refine blk_drewN ?_ _ | refine blk_drew ?_ | refine blk_alloc ?_ _)); exact BK132.out) hb)
                have n3_ := Aside0.mk (below_step (by repeat (first | (with_reducible first | exact HB.out | apply below_alloc | apply pw_below_drewN | apply below_drew1 | refine below_set ?_ GE132.out) | exact HB.out)) hb)
                clear HO154
                clear BK132
                clear HB
                have HO154 := n0_
                have HO157 := n1_
                have BK132 := n2_
                have HB := n3_
                clear n0_ n1_ n2_ n3_
                clear hb ho35
                refine hK.out _ _ ⟨(blk_cell BK132.out 0).trans rfl, (blk_cell BK132.out 1).trans rfl, (blk_cell BK132.out 2).trans rfl, (blk_cell BK132.out 3).trans rfl, (blk_cell BK132.out 4).trans rfl, (blk_cell BK132.out 5).trans rfl⟩ (fun hHeld => ?_)
                clear hK K
                refine norm_ (a' := ?_) ?_ ?_
                rotate_left
                · show Act.put _ (some 36) _ = _
                  simp only [Act.put, List.setIfInBounds_toArray, List.set_cons_zero, List.set_cons_succ, i64_w, i32_w]
                  rfl
                exact norm_ (by simp only [putAll, Act.put, List.setIfInBounds_toArray, List.set_cons_zero, List.set_cons_succ]) (hCont (v150, v153, v156) _ ⟨hHeld, (by (with_reducible repeat (first | apply Kd.R_alloc | apply Kd.R_drewN | apply Kd.R_drew)); exact Kd.R_mono HO154.out (fun _ hk => hk.2)), (by (with_reducible repeat (first | apply Kd.R_alloc | apply Kd.R_drewN | apply Kd.R_drew)); exact Kd.R_mono HO157.out (fun _ hk => hk.2)), (by (with_reducible repeat (first | refine blk_drewN ?_ _ | refine blk_drew ?_ | refine blk_alloc ?_ _)); exact BK132.out), (by repeat (first | (with_reducible first | exact HB.out | apply below_alloc | apply pw_below_drewN | apply below_drew1 | refine below_set ?_ GE132.out) | exact HB.out))⟩)
              · skip
                refine Kd.R_lit_step (Kd.int .u8) _ 5 ?hg (N := 36) ?hd (xs := ([255] : List Int)) (inner := [.int .u8 255]) (ok := fun _ => True) (okp := fun _ => True) ?hr ?hp (fun _ hk => hk) trivial (Below.refl _ _) (Nat.le_refl _) (by simp) ?_; (case hd => rfl); (case hg => rfl); (case hr => first | (go_simp; done) | (go_simp; rfl)); (case hp => exact (Reps.one (show Kd.M (Kd.int .u8) _ _ _ 255 [.int .u8 255] from rfl) (Reps.none _ _)))
                intro v156 w33 ho34 hb hg_ hnew_
                clear hg_ hnew_
                (first | rw [← Ny155.out] at ho34 | (simp only [Int.reduceToNat] at ho34; rw [← Ny155.out] at ho34))
                have n0_ := Aside0.mk (Kd.R_elder' (by (with_reducible repeat (first | apply Kd.R_alloc | apply Kd.R_drewN | apply Kd.R_drew)); exact HO151.out) (Kd.R_base ho34) hb)
                have n1_ := Aside0.mk (Kd.R_lower (Kd.R_new' ho34 (Kd.R_lt (by (with_reducible repeat (first | apply Kd.R_alloc | apply Kd.R_drewN | apply Kd.R_drew)); exact HO151.out))) (below_size (by repeat (first | (with_reducible first | exact HB.out | apply below_alloc | apply pw_below_drewN | apply below_drew1 | refine below_set ?_ GE132.out) | exact HB.out))))
                have n2_ := Aside0.mk (blk_below (g := gb132) (o := .cells #[.int .i64 a0_0, .int .i64 a0_1, .int .i64 a0_2, .int .u64 a0_3, .int .u64 a0_4, .int .u64 a0_5] 24 (0, 0)) (by (with_reducible repeat (first | refine blk_drewN ?_ _ | refine blk_drew ?_ | refine blk_alloc ?_ _)); exact BK132.out) hb)
                have n3_ := Aside0.mk (below_step (by repeat (first | (with_reducible first | exact HB.out | apply below_alloc | apply pw_below_drewN | apply below_drew1 | refine below_set ?_ GE132.out) | exact HB.out)) hb)
                clear HO151
                clear BK132
                clear HB
                have HO151 := n0_
                have HO157 := n1_
                have BK132 := n2_
                have HB := n3_
                clear n0_ n1_ n2_ n3_
                clear hb ho34
                refine hK.out _ _ ⟨(blk_cell BK132.out 0).trans rfl, (blk_cell BK132.out 1).trans rfl, (blk_cell BK132.out 2).trans rfl, (blk_cell BK132.out 3).trans rfl, (blk_cell BK132.out 4).trans rfl, (blk_cell BK132.out 5).trans rfl⟩ (fun hHeld => ?_)
                clear hK K
                refine norm_ (a' := ?_) ?_ ?_
                rotate_left
                · show Act.put _ (some 36) _ = _
                  simp only [Act.put, List.setIfInBounds_toArray, List.set_cons_zero, List.set_cons_succ, i64_w, i32_w]
                  rfl
                refine one_ (i := 5) (N := some 35) #[true, true, true, true, true, true, true, false, true, false, false, false] rfl rfl (one_of HT_.out (by kernel_rfl)) (by decide) (fun K hK => ?_)
                refine Kd.R_append_rows_step (Kd.int .u8) (w0 := w) w.heap.size (by rfl) (.tmp 33) (.tmp 34) 25 5 (.int .u8 0) 1 rfl Try.underlying25 info5 rfl (by decide) (by omega) v150 y149 l1 _ _ _ (fun k_ => some k_ ≠ (v156 : Value).ownBlock) (fun _ => False) rfl rfl ?aO ?aR (fun _ _ h => h) (fun _ h => h.elim) ?aF ?aB ?aS ?aL ?_
                (case aR => repeat (first | exact (Kd.C_below HR1.out HB.out) | (with_reducible refine Kd.C_alloc ?_ _) | (with_reducible refine Kd.C_drewN ?_ _) | (with_reducible refine Kd.C_drew ?_)))
                (case aB => exact (by repeat (first | (with_reducible first | exact HB.out | apply below_alloc | apply pw_below_drewN | apply below_drew1 | refine below_set ?_ GE132.out) | exact HB.out)))
                (case aF => exact (fun k_ hk => Kd.fresh' (Kd.R_lt (by (with_reducible repeat (first | apply Kd.R_alloc | apply Kd.R_drewN | apply Kd.R_drew)); exact HO157.out)) k_ hk))
                (case aO => exact (by (with_reducible repeat (first | apply Kd.R_alloc | apply Kd.R_drewN | apply Kd.R_drew)); exact Kd.R_mono HO151.out (fun _ hk => hk.2)))
                (case aS => exact (below_size (by repeat (first | (with_reducible first | exact HB.out | apply below_alloc | apply pw_below_drewN | apply below_drew1 | refine below_set ?_ GE132.out) | exact HB.out))))
                (case aL => have := LMc23.out; omega)
                intro v153 w35 ho hb hg hat
                rw [← Ny152.out] at ho
                have n0_ := Aside0.mk (blk_grown (g := gb132) (o := .cells #[.int .i64 a0_0, .int .i64 a0_1, .int .i64 a0_2, .int .u64 a0_3, .int .u64 a0_4, .int .u64 a0_5] 24 (0, 0)) (by (with_reducible repeat (first | refine blk_drewN ?_ _ | refine blk_drew ?_ | refine blk_alloc ?_ _)); exact BK132.out) hg (Kd.R_ne HO151.out BK132.out (by decide)))
                have n1_ := Aside0.mk (Kd.R_after (ok := (fun _ => True)) (by (with_reducible repeat (first | apply Kd.R_alloc | apply Kd.R_drewN | apply Kd.R_drew)); exact HO157.out) hg hat)
                have n2_ := Aside0.mk (hb)
                have n3_ := Aside0.mk (ho)
                clear BK132
                clear HO157
                clear HB
                clear HO151
                have BK132 := n0_
                have HO157 := n1_
                have HB := n2_
                have HO154 := n3_
                clear n0_ n1_ n2_ n3_
                clear ho hb hg hat
                refine hK.out _ _ ⟨(blk_cell BK132.out 0).trans rfl, (blk_cell BK132.out 1).trans rfl, (blk_cell BK132.out 2).trans rfl, (blk_cell BK132.out 3).trans rfl, (blk_cell BK132.out 4).trans rfl, (blk_cell BK132.out 5).trans rfl⟩ (fun hHeld => ?_)
                clear hK K
                refine norm_ (a' := ?_) ?_ ?_
                rotate_left
                · show Act.put _ (some 35) _ = _
                  simp only [Act.put, List.setIfInBounds_toArray, List.set_cons_zero, List.set_cons_succ, i64_w, i32_w]
                  rfl
                exact norm_ (by simp only [putAll, Act.put, List.setIfInBounds_toArray, List.set_cons_zero, List.set_cons_succ]) (hCont (v150, v153, v156) _ ⟨hHeld, (by (with_reducible repeat (first | apply Kd.R_alloc | apply Kd.R_drewN | apply Kd.R_drew)); exact HO154.out), (by (with_reducible repeat (first | apply Kd.R_alloc | apply Kd.R_drewN | apply Kd.R_drew)); exact Kd.R_mono HO157.out (fun _ hk => hk.2)), (by (with_reducible repeat (first | refine blk_drewN ?_ _ | refine blk_drew ?_ | refine blk_alloc ?_ _)); exact BK132.out), (by repeat (first | (with_reducible first | exact HB.out | apply below_alloc | apply pw_below_drewN | apply below_drew1 | refine below_set ?_ GE132.out) | exact HB.out))⟩)
            · skip
              refine Kd.R_lit_step (Kd.int .u8) _ 5 ?hg (N := 36) ?hd (xs := ([255] : List Int)) (inner := [.int .u8 255]) (ok := fun _ => True) (okp := fun _ => True) ?hr ?hp (fun _ hk => hk) trivial (Below.refl _ _) (Nat.le_refl _) (by simp) ?_; (case hd => rfl); (case hg => rfl); (case hr => first | (go_simp; done) | (go_simp; rfl)); (case hp => exact (Reps.one (show Kd.M (Kd.int .u8) _ _ _ 255 [.int .u8 255] from rfl) (Reps.none _ _)))
              intro v156 w31 ho32 hb hg_ hnew_
              clear hg_ hnew_
              (first | rw [← Ny155.out] at ho32 | (simp only [Int.reduceToNat] at ho32; rw [← Ny155.out] at ho32))
              have n0_ := Aside0.mk (Kd.R_lower ho32 (below_size (by repeat (first | (with_reducible first | exact HB.out | apply below_alloc | apply pw_below_drewN | apply below_drew1 | refine below_set ?_ GE132.out) | exact HB.out))))
              have n1_ := Aside0.mk (blk_below (g := gb132) (o := .cells #[.int .i64 a0_0, .int .i64 a0_1, .int .i64 a0_2, .int .u64 a0_3, .int .u64 a0_4, .int .u64 a0_5] 24 (0, 0)) (by (with_reducible repeat (first | refine blk_drewN ?_ _ | refine blk_drew ?_ | refine blk_alloc ?_ _)); exact BK132.out) hb)
              have n2_ := Aside0.mk (below_step (by repeat (first | (with_reducible first | exact HB.out | apply below_alloc | apply pw_below_drewN | apply below_drew1 | refine below_set ?_ GE132.out) | exact HB.out)) hb)
              clear BK132
              clear HB
              have HO157 := n0_
              have BK132 := n1_
              have HB := n2_
              clear n0_ n1_ n2_
              clear hb ho32
              refine hK.out _ _ ⟨(blk_cell BK132.out 0).trans rfl, (blk_cell BK132.out 1).trans rfl, (blk_cell BK132.out 2).trans rfl, (blk_cell BK132.out 3).trans rfl, (blk_cell BK132.out 4).trans rfl, (blk_cell BK132.out 5).trans rfl⟩ (fun hHeld => ?_)
              clear hK K
              refine norm_ (a' := ?_) ?_ ?_
              rotate_left
              · show Act.put _ (some 36) _ = _
                simp only [Act.put, List.setIfInBounds_toArray, List.set_cons_zero, List.set_cons_succ, i64_w, i32_w]
                rfl
              refine one_ (i := 3) (N := some 33) #[true, true, true, true, true, false, true, false, true, false, false, false] rfl rfl (one_of HT_.out (by kernel_rfl)) (by decide) (fun K hK => ?_)
              refine Kd.R_lit_step (Kd.int .u8) _ 5 ?hg (N := 33) ?hd (xs := ([] : List Int)) (inner := []) (ok := fun _ => True) (okp := fun _ => True) ?hr ?hp (fun _ hk => hk) trivial (Below.refl _ _) (Nat.le_refl _) (by simp) ?_; (case hd => rfl); (case hg => rfl); (case hr => first | (go_simp; done) | (go_simp; rfl)); (case hp => exact (Reps.none _ _))
              intro v150 w33 ho34 hb hg_ hnew_
              clear hg_ hnew_
              (first | rw [← Ny149.out] at ho34 | (simp only [Int.reduceToNat] at ho34; rw [← Ny149.out] at ho34))
              have n0_ := Aside0.mk (Kd.R_elder' (by (with_reducible repeat (first | apply Kd.R_alloc | apply Kd.R_drewN | apply Kd.R_drew)); exact HO157.out) (Kd.R_base ho34) hb)
              have n1_ := Aside0.mk (Kd.R_lower (Kd.R_new' ho34 (Kd.R_lt (by (with_reducible repeat (first | apply Kd.R_alloc | apply Kd.R_drewN | apply Kd.R_drew)); exact HO157.out))) (below_size (by repeat (first | (with_reducible first | exact HB.out | apply below_alloc | apply pw_below_drewN | apply below_drew1 | refine below_set ?_ GE132.out) | exact HB.out))))
              have n2_ := Aside0.mk (blk_below (g := gb132) (o := .cells #[.int .i64 a0_0, .int .i64 a0_1, .int .i64 a0_2, .int .u64 a0_3, .int .u64 a0_4, .int .u64 a0_5] 24 (0, 0)) (by (with_reducible repeat (first | refine blk_drewN ?_ _ | refine blk_drew ?_ | refine blk_alloc ?_ _)); exact BK132.out) hb)
              have n3_ := Aside0.mk (below_step (by repeat (first | (with_reducible first | exact HB.out | apply below_alloc | apply pw_below_drewN | apply below_drew1 | refine below_set ?_ GE132.out) | exact HB.out)) hb)
              clear HO157
              clear BK132
              clear HB
              have HO157 := n0_
              have HO151 := n1_
              have BK132 := n2_
              have HB := n3_
              clear n0_ n1_ n2_ n3_
              clear hb ho34
              refine hK.out _ _ ⟨(blk_cell BK132.out 0).trans rfl, (blk_cell BK132.out 1).trans rfl, (blk_cell BK132.out 2).trans rfl, (blk_cell BK132.out 3).trans rfl, (blk_cell BK132.out 4).trans rfl, (blk_cell BK132.out 5).trans rfl⟩ (fun hHeld => ?_)
              clear hK K
              refine norm_ (a' := ?_) ?_ ?_
              rotate_left
              · show Act.put _ (some 33) _ = _
                simp only [Act.put, List.setIfInBounds_toArray, List.set_cons_zero, List.set_cons_succ, i64_w, i32_w]
                rfl
              refine one_ (i := 5) (N := some 35) #[true, true, true, true, true, true, true, false, true, false, false, false] rfl rfl (one_of HT_.out (by kernel_rfl)) (by decide) (fun K hK => ?_)
              refine Kd.R_append_rows_step (Kd.int .u8) (w0 := w) w.heap.size (by rfl) (.tmp 33) (.tmp 34) 25 5 (.int .u8 0) 1 rfl Try.underlying25 info5 rfl (by decide) (by omega) v150 y149 l1 _ _ _ (fun k_ => some k_ ≠ (v156 : Value).ownBlock) (fun _ => False) rfl rfl ?aO ?aR (fun _ _ h => h) (fun _ h => h.elim) ?aF ?aB ?aS ?aL ?_
              (case aR => repeat (first | exact (Kd.C_below HR1.out HB.out) | (with_reducible refine Kd.C_alloc ?_ _) | (with_reducible refine Kd.C_drewN ?_ _) | (with_reducible refine Kd.C_drew ?_)))
              (case aB => exact (by repeat (first | (with_reducible first | exact HB.out | apply below_alloc | apply pw_below_drewN | apply below_drew1 | refine below_set ?_ GE132.out) | exact HB.out)))
              (case aF => exact (fun k_ hk => Kd.fresh' (Kd.R_lt (by (with_reducible repeat (first | apply Kd.R_alloc | apply Kd.R_drewN | apply Kd.R_drew)); exact HO157.out)) k_ hk))
              (case aO => exact (by (with_reducible repeat (first | apply Kd.R_alloc | apply Kd.R_drewN | apply Kd.R_drew)); exact Kd.R_mono HO151.out (fun _ hk => hk.2)))
              (case aS => exact (below_size (by repeat (first | (with_reducible first | exact HB.out | apply below_alloc | apply pw_below_drewN | apply below_drew1 | refine below_set ?_ GE132.out) | exact HB.out))))
              (case aL => have := LMc23.out; omega)
              intro v153 w35 ho hb hg hat
              rw [← Ny152.out] at ho
              have n0_ := Aside0.mk (blk_grown (g := gb132) (o := .cells #[.int .i64 a0_0, .int .i64 a0_1, .int .i64 a0_2, .int .u64 a0_3, .int .u64 a0_4, .int .u64 a0_5] 24 (0, 0)) (by (with_reducible repeat (first | refine blk_drewN ?_ _ | refine blk_drew ?_ | refine blk_alloc ?_ _)); exact BK132.out) hg (Kd.R_ne HO151.out BK132.out (by decide)))
              have n1_ := Aside0.mk (Kd.R_after (ok := (fun _ => True)) (by (with_reducible repeat (first | apply Kd.R_alloc | apply Kd.R_drewN | apply Kd.R_drew)); exact HO157.out) hg hat)
              have n2_ := Aside0.mk (hb)
              have n3_ := Aside0.mk (ho)
              clear BK132
              clear HO157
              clear HB
              clear HO151
              have BK132 := n0_
              have HO157 := n1_
              have HB := n2_
              have HO154 := n3_
              clear n0_ n1_ n2_ n3_
              clear ho hb hg hat
              refine hK.out _ _ ⟨(blk_cell BK132.out 0).trans rfl, (blk_cell BK132.out 1).trans rfl, (blk_cell BK132.out 2).trans rfl, (blk_cell BK132.out 3).trans rfl, (blk_cell BK132.out 4).trans rfl, (blk_cell BK132.out 5).trans rfl⟩ (fun hHeld => ?_)
              clear hK K
              refine norm_ (a' := ?_) ?_ ?_
              rotate_left
              · show Act.put _ (some 35) _ = _
                simp only [Act.put, List.setIfInBounds_toArray, List.set_cons_zero, List.set_cons_succ, i64_w, i32_w]
                rfl
              exact norm_ (by simp only [putAll, Act.put, List.setIfInBounds_toArray, List.set_cons_zero, List.set_cons_succ]) (hCont (v150, v153, v156) _ ⟨hHeld, (by (with_reducible repeat (first | apply Kd.R_alloc | apply Kd.R_drewN | apply Kd.R_drew)); exact HO154.out), (by (with_reducible repeat (first | apply Kd.R_alloc | apply Kd.R_drewN | apply Kd.R_drew)); exact Kd.R_mono HO157.out (fun _ hk => hk.2)), (by (with_reducible repeat (first | refine blk_drewN ?_ _ | refine blk_drew ?_ | refine blk_alloc ?_ _)); exact BK132.out), (by repeat (first | (with_reducible first | exact HB.out | apply below_alloc | apply pw_below_drewN | apply below_drew1 | refine below_set ?_ GE132.out) | exact HB.out))⟩)
          rintro ⟨v150, v153, v156⟩ w36 ⟨hS_, h0_, h1_, h2_, h3_⟩
          have n0_ : Aside0 (Kd.R (Kd.int .u8) 5 w36 w.heap.size (fun k_ => some k_ ≠ (v156 : Value).ownBlock) v153 y152) := ⟨h0_⟩
          have n1_ : Aside0 (Kd.R (Kd.int .u8) 5 w36 w.heap.size (fun k_ => some k_ ≠ (v153 : Value).ownBlock) v156 y155) := ⟨h1_⟩
          have n2_ : Aside0 (w36.heap[gb132]? = some (.cells #[.int .i64 a0_0, .int .i64 a0_1, .int .i64 a0_2, .int .u64 a0_3, .int .u64 a0_4, .int .u64 a0_5] 24 (0, 0))) := ⟨h2_⟩
          have n3_ : Aside0 (Below w.heap.size w w36) := ⟨h3_⟩
          clear BK132
          clear HB
          clear h0_ h1_ h2_ h3_
          have HO154 := n0_
          have HO157 := n1_
          have BK132 := n2_
          have HB := n3_
          clear n0_ n1_ n2_ n3_
          have hHeld : w36.cell? ⟨gb132, 0, none⟩ = some (.int .i64 a0_0) ∧ w36.cell? ⟨gb132, 1, none⟩ = some (.int .i64 a0_1) ∧ w36.cell? ⟨gb132, 2, none⟩ = some (.int .i64 a0_2) ∧ w36.cell? ⟨gb132, 3, none⟩ = some (.int .u64 a0_3) ∧ w36.cell? ⟨gb132, 4, none⟩ = some (.int .u64 a0_4) ∧ w36.cell? ⟨gb132, 5, none⟩ = some (.int .u64 a0_5) := hS_
          obtain ⟨Ao38, co38, eo38⟩ := Kd.R_slice HO157.out
          (first | subst eo38 | (injection eo38 with f1_ f2_ f3_; have f4_ := f1_.symm; have f5_ := f3_.symm; clear f1_ f2_ f3_; subst f4_; subst f5_))
          refine norm_ (a' := ?_) ?_ ?_
          rotate_left
          · simp only [putAll, Act.put, List.setIfInBounds_toArray, List.set_cons_zero, List.set_cons_succ]
            rfl
          refine one_ (i := 7) (N := some 37) #[true, true, true, true, true, true, true, true, true, false, false, false] rfl rfl (one_of HT_.out (by kernel_rfl)) (by decide) (fun K hK => ?_)
          refine Kd.R_append_rows_step (Kd.int .u8) (w0 := w) w.heap.size (by rfl) (.tmp 35) (.tmp 36) 25 5 (.int .u8 0) 1 rfl Try.underlying25 info5 rfl (by decide) (by omega) v153 y152 y155 _ _ _ (fun k_ => some k_ ≠ (.slice Ao38 y155.length co38 : Value).ownBlock) (fun _ => False) rfl rfl ?aO ?aR (fun _ _ h => h) (fun _ h => h.elim) ?aF ?aB ?aS ?aL ?_
          (case aR => repeat (first | exact (Kd.R_reads' HO157.out).2.2 | (with_reducible refine Kd.C_alloc ?_ _) | (with_reducible refine Kd.C_drewN ?_ _) | (with_reducible refine Kd.C_drew ?_)))
          (case aB => exact (by repeat (first | (with_reducible first | exact HB.out | apply below_alloc | apply pw_below_drewN | apply below_drew1 | refine below_set ?_ GE132.out) | exact HB.out)))
          (case aF => exact (fun k_ hk => Kd.fresh' (Kd.R_lt (by (with_reducible repeat (first | apply Kd.R_alloc | apply Kd.R_drewN | apply Kd.R_drew)); exact HO157.out)) k_ hk))
          (case aO => exact (by (with_reducible repeat (first | apply Kd.R_alloc | apply Kd.R_drewN | apply Kd.R_drew)); exact HO154.out))
          (case aS => exact (below_size (by repeat (first | (with_reducible first | exact HB.out | apply below_alloc | apply pw_below_drewN | apply below_drew1 | refine below_set ?_ GE132.out) | exact HB.out))))
          (case aL => have := LMc24.out; omega)
          intro v159 w37 ho hb hg hat
          rw [← Ny158.out] at ho
          have n0_ := Aside0.mk (blk_grown (g := gb132) (o := .cells #[.int .i64 a0_0, .int .i64 a0_1, .int .i64 a0_2, .int .u64 a0_3, .int .u64 a0_4, .int .u64 a0_5] 24 (0, 0)) (by (with_reducible repeat (first | refine blk_drewN ?_ _ | refine blk_drew ?_ | refine blk_alloc ?_ _)); exact BK132.out) hg (Kd.R_ne HO154.out BK132.out (by decide)))
          have n1_ := Aside0.mk (Kd.R_after (ok := (fun _ => True)) (by (with_reducible repeat (first | apply Kd.R_alloc | apply Kd.R_drewN | apply Kd.R_drew)); exact Kd.R_mono HO157.out (fun _ hk => ⟨trivial, hk⟩)) hg hat)
          have n2_ := Aside0.mk (hb)
          have n3_ := Aside0.mk (ho)
          clear BK132
          clear HO157
          clear HB
          clear HO154
          have BK132 := n0_
          have HO157 := n1_
          have HB := n2_
          have HO160 := n3_
          clear n0_ n1_ n2_ n3_
          clear ho hb hg hat
          refine hK.out _ _ ⟨(blk_cell BK132.out 0).trans rfl, (blk_cell BK132.out 1).trans rfl, (blk_cell BK132.out 2).trans rfl, (blk_cell BK132.out 3).trans rfl, (blk_cell BK132.out 4).trans rfl, (blk_cell BK132.out 5).trans rfl⟩ (fun hHeld => ?_)
          clear hK K
          refine norm_ (a' := ?_) ?_ ?_
          rotate_left
          · show Act.put _ (some 37) _ = _
            simp only [Act.put, List.setIfInBounds_toArray, List.set_cons_zero, List.set_cons_succ, i64_w, i32_w]
            rfl
          refine one_ (i := 9) (N := some 39) #[true, true, true, true, true, true, true, true, true, true, false, false] rfl rfl (one_of HT_.out (by kernel_rfl)) (by decide) (fun K hK => ?_)
          refine Kd.R_append_rows_step (Kd.int .u8) (w0 := w) w.heap.size (by rfl) (.tmp 37) (.tmp 38) 25 5 (.int .u8 0) 1 rfl Try.underlying25 info5 rfl (by decide) (by omega) v159 y158 l2 _ _ _ (fun k_ => some k_ ≠ (.slice Ao38 y155.length co38 : Value).ownBlock) (fun _ => False) rfl rfl ?aO ?aR (fun _ _ h => h) (fun _ h => h.elim) ?aF ?aB ?aS ?aL ?_
          (case aR => repeat (first | exact (Kd.C_below HR2.out HB.out) | (with_reducible refine Kd.C_alloc ?_ _) | (with_reducible refine Kd.C_drewN ?_ _) | (with_reducible refine Kd.C_drew ?_)))
          (case aB => exact (by repeat (first | (with_reducible first | exact HB.out | apply below_alloc | apply pw_below_drewN | apply below_drew1 | refine below_set ?_ GE132.out) | exact HB.out)))
          (case aF => exact (fun k_ hk => Kd.fresh' (Kd.R_lt (by (with_reducible repeat (first | apply Kd.R_alloc | apply Kd.R_drewN | apply Kd.R_drew)); exact HO157.out)) k_ hk))
          (case aO => exact (by (with_reducible repeat (first | apply Kd.R_alloc | apply Kd.R_drewN | apply Kd.R_drew)); exact HO160.out))
          (case aS => exact (below_size (by repeat (first | (with_reducible first | exact HB.out | apply below_alloc | apply pw_below_drewN | apply below_drew1 | refine below_set ?_ GE132.out) | exact HB.out))))
          (case aL => have := LMc25.out; omega)
          intro v162 w39 ho hb hg hat
          rw [← Ny161.out] at ho
          have n0_ := Aside0.mk (blk_grown (g := gb132) (o := .cells #[.int .i64 a0_0, .int .i64 a0_1, .int .i64 a0_2, .int .u64 a0_3, .int .u64 a0_4, .int .u64 a0_5] 24 (0, 0)) (by (with_reducible repeat (first | refine blk_drewN ?_ _ | refine blk_drew ?_ | refine blk_alloc ?_ _)); exact BK132.out) hg (Kd.R_ne HO160.out BK132.out (by decide)))
          have n1_ := Aside0.mk (Kd.R_after (ok := (fun _ => True)) (by (with_reducible repeat (first | apply Kd.R_alloc | apply Kd.R_drewN | apply Kd.R_drew)); exact HO157.out) hg hat)
          have n2_ := Aside0.mk (hb)
          have n3_ := Aside0.mk (ho)
          clear BK132
          clear HO157
          clear HB
          clear HO160
          have BK132 := n0_
          have HO157 := n1_
          have HB := n2_
          have HO163 := n3_
          clear n0_ n1_ n2_ n3_
          clear ho hb hg hat
          obtain ⟨Ao40, co40, eo40⟩ := Kd.R_slice HO163.out
          (first | subst eo40 | (injection eo40 with f1_ f2_ f3_; have f4_ := f1_.symm; have f5_ := f3_.symm; clear f1_ f2_ f3_; subst f4_; subst f5_))
          refine hK.out _ _ ⟨(blk_cell BK132.out 0).trans rfl, (blk_cell BK132.out 1).trans rfl, (blk_cell BK132.out 2).trans rfl, (blk_cell BK132.out 3).trans rfl, (blk_cell BK132.out 4).trans rfl, (blk_cell BK132.out 5).trans rfl⟩ (fun hHeld => ?_)
          clear hK K
          refine norm_ (a' := ?_) ?_ ?_
          rotate_left
          · show Act.put _ (some 39) _ = _
            simp only [Act.put, List.setIfInBounds_toArray, List.set_cons_zero, List.set_cons_succ, i64_w, i32_w]
            rfl
          refine one_ (i := 10) (N := some 40) #[true, true, true, true, true, true, true, true, true, true, true, false] rfl rfl (one_of HT_.out (by kernel_rfl)) (by decide) (fun K hK => ?_)
          refine goes_ Try.func25 (by kernel_rfl) rfl #[.agg #[.int .i64 a0_0, .int .i64 a0_1, .int .i64 a0_2, .int .u64 a0_3, .int .u64 a0_4, .int .u64 a0_5], .int .u64 a0_5, .slice Ao40 y161.length co40] (by rfl) rfl rfl (by (try simp only [List.map_toArray, List.map_cons, List.map_nil]); first | done | rfl | (simp only [List.length_drop, List.length_take]; rfl)) ?_
          with_reducible refine (spec_word.calls k a0_0 a0_1 a0_2 a0_3 a0_4 a0_5 a0_5 _ _ y161 t164 _ ?side1 ?side2 A26.out).mono ?_
          (case side1 => repeat (first | exact (Kd.R_reads' HO163.out).2.2 | (with_reducible refine Kd.C_alloc ?_ _) | (with_reducible refine Kd.C_drewN ?_ _) | (with_reducible refine Kd.C_drew ?_)))
          (case side2 => exact (Kd.R_reads' HO163.out).2.1)
          rintro e w41 ⟨v165, rfl, ho0, hb⟩
          refine ⟨_, rfl, ?_⟩
          have n0_ := Aside0.mk (Kd.R_elder' (by (with_reducible repeat (first | apply Kd.R_alloc | apply Kd.R_drewN | apply Kd.R_drew)); exact HO157.out) (Kd.R_base ho0) hb)
          have n1_ := Aside0.mk (Kd.R_elder' (by (with_reducible repeat (first | apply Kd.R_alloc | apply Kd.R_drewN | apply Kd.R_drew)); exact HO163.out) (Kd.R_base ho0) hb)
          have n2_ := Aside0.mk (Kd.R_lower (Kd.R_new' (Kd.R_new' ho0 (Kd.R_lt (by (with_reducible repeat (first | apply Kd.R_alloc | apply Kd.R_drewN | apply Kd.R_drew)); exact HO157.out))) (Kd.R_lt (by (with_reducible repeat (first | apply Kd.R_alloc | apply Kd.R_drewN | apply Kd.R_drew)); exact HO163.out))) (below_size (by repeat (first | (with_reducible first | exact HB.out | apply below_alloc | apply pw_below_drewN | apply below_drew1 | refine below_set ?_ GE132.out) | exact HB.out))))
          have n3_ := Aside0.mk (blk_below (g := gb132) (o := .cells #[.int .i64 a0_0, .int .i64 a0_1, .int .i64 a0_2, .int .u64 a0_3, .int .u64 a0_4, .int .u64 a0_5] 24 (0, 0)) (by (with_reducible repeat (first | refine blk_drewN ?_ _ | refine blk_drew ?_ | refine blk_alloc ?_ _)); exact BK132.out) hb)
          have n4_ := Aside0.mk (below_step (by repeat (first | (with_reducible first | exact HB.out | apply below_alloc | apply pw_below_drewN | apply below_drew1 | refine below_set ?_ GE132.out) | exact HB.out)) hb)
          clear HO157
          clear HO163
          clear BK132
          clear HB
          have HO157 := n0_
          have HO163 := n1_
          have HO166 := n2_
          have BK132 := n3_
          have HB := n4_
          clear n0_ n1_ n2_ n3_ n4_
          (try clear hb)
          (try clear hb2)
          (try clear hk)
          (try clear hi)
          (try clear ho0)
          refine hK.out _ _ ⟨(blk_cell BK132.out 0).trans rfl, (blk_cell BK132.out 1).trans rfl, (blk_cell BK132.out 2).trans rfl, (blk_cell BK132.out 3).trans rfl, (blk_cell BK132.out 4).trans rfl, (blk_cell BK132.out 5).trans rfl⟩ (fun hHeld => ?_)
          clear hK K
          refine norm_ (a' := ?_) ?_ ?_
          rotate_left
          · show Act.put _ (some 40) _ = _
            simp only [Act.put, List.setIfInBounds_toArray, List.set_cons_zero, List.set_cons_succ, i64_w, i32_w]
            rfl
          refine pure_ (i := 11) (N := some 6) (v := ?_) (a' := ?_) #[true, true, true, true, true, true, true, true, true, true, true, true] rfl rfl (any_of HT_.out (by kernel_rfl)) (fun _ _ _ h => h) (Or.inl ⟨by rfl, ?_⟩) ?_ ?_
          rotate_left
          · intro w'
            go_simp
            with_reducible rfl
          rotate_left
          · simp only [Act.put, List.setIfInBounds_toArray, List.set_cons_zero, List.set_cons_succ, i64_w, i32_w]
            rfl
          refine done_ (done_of HT_.out (by kernel_rfl)) ?_
          try go_wp2
          go_ret
          exact ⟨_, by first | rfl | (simp [errW_none, errW_some] <;> rfl) | (simp [*, errW_none, errW_some] <;> rfl), by (with_reducible repeat (first | apply Kd.R_alloc | apply Kd.R_drewN | apply Kd.R_drew)); exact Kd.R_mono HO166.out (fun _ hk => trivial), by repeat (first | (with_reducible first | exact HB.out | apply below_alloc | apply pw_below_drewN | apply below_drew1 | refine below_set ?_ GE132.out) | exact HB.out)⟩
        · rw [if_neg c25] at H
          exact absurd H (by simp)
      · rw [if_neg c24] at H
        exact absurd H (by simp)
    · rw [if_neg c23] at H
      exact absurd H (by simp)

/-! ### spec_Chained: function 14 -/
mutual
def spec_Chained.l0 : Nat → List Int → Int → Bool → List (List Int) → Int → Int → Int → Int → Int → Int → Int → Int → Option (List Int)
  | 0, _, _, _, _, _, _, _, _, _, _, _, _ => none
  | k + 1, x1, x3, x4, x13, x14, x15, x168000, x168001, x168002, x168003, x168004, x168005 => if x15 < x14 then (if 0 ≤ x15 then (if x15 < (x13.length : Int) then (if x15 < 64 then (spec_Chained.j1 k x1 x3 x4 (rd_L1 x13 x15) x13 x14 x15 ((Go.bits .and .u64 (shr .u64 x3 x15) 1) == 1) x168000 x168001 x168002 x168003 x168004 x168005) else (spec_Chained.j1 k x1 x3 x4 (rd_L1 x13 x15) x13 x14 x15 false x168000 x168001 x168002 x168003 x168004 x168005)) else (none)) else (none)) else (some x1)
def spec_Chained.j1 : Nat → List Int → Int → Bool → List Int → List (List Int) → Int → Int → Bool → Int → Int → Int → Int → Int → Int → Option (List Int)
  | 0, _, _, _, _, _, _, _, _, _, _, _, _, _, _ => none
  | k + 1, x1, x3, x4, x12, x13, x14, x15, x28, x168000, x168001, x168002, x168003, x168004, x168005 => if x28 = true then ((spec_HashChildren.f k x168000 x168001 x168002 x168003 x168004 x168005 x12 x1).bind fun t169 => (spec_Chained.l0 k t169 x3 x4 x13 x14 (wrap64 (x15 + 1)) x168000 x168001 x168002 x168003 x168004 x168005)) else (if x4 = true then (spec_Chained.l0 k x1 x3 x4 x13 x14 (wrap64 (x15 + 1)) x168000 x168001 x168002 x168003 x168004 x168005) else ((spec_HashChildren.f k x168000 x168001 x168002 x168003 x168004 x168005 x1 x12).bind fun t172 => (spec_Chained.l0 k t172 x3 x4 x13 x14 (wrap64 (x15 + 1)) x168000 x168001 x168002 x168003 x168004 x168005)))
end
def spec_Chained.f (k : Nat) (a0_0 : Int) (a0_1 : Int) (a0_2 : Int) (a0_3 : Int) (a0_4 : Int) (a0_5 : Int) (l1 : List Int) (l2 : List (List Int)) (a3 : Int) (a4 : Bool) : Option (List Int) := spec_Chained.l0 k l1 a3 a4 l2 (l2.length : Int) 0 a0_0 a0_1 a0_2 a0_3 a0_4 a0_5
theorem spec_Chained.mono_l : ∀ k, (∀ y0 y1 y2 y3 y4 y5 y6 y7 y8 y9 y10 y11, LeO (spec_Chained.l0 k y0 y1 y2 y3 y4 y5 y6 y7 y8 y9 y10 y11) (spec_Chained.l0 (k + 1) y0 y1 y2 y3 y4 y5 y6 y7 y8 y9 y10 y11)) ∧ (∀ y0 y1 y2 y3 y4 y5 y6 y7 y8 y9 y10 y11 y12 y13, LeO (spec_Chained.j1 k y0 y1 y2 y3 y4 y5 y6 y7 y8 y9 y10 y11 y12 y13) (spec_Chained.j1 (k + 1) y0 y1 y2 y3 y4 y5 y6 y7 y8 y9 y10 y11 y12 y13))
  | 0 => ⟨fun _ _ _ _ _ _ _ _ _ _ _ _ r h => by simp [spec_Chained.l0] at h, fun _ _ _ _ _ _ _ _ _ _ _ _ _ _ r h => by simp [spec_Chained.j1] at h⟩
  | k + 1 => by
    obtain ⟨ih0, ih1⟩ := spec_Chained.mono_l k
    refine ⟨?_, ?_⟩
    · intro y0 y1 y2 y3 y4 y5 y6 y7 y8 y9 y10 y11
      unfold spec_Chained.l0
      repeat' first
      | (with_reducible exact ih0 _ _ _ _ _ _ _ _ _ _ _ _)
      | (with_reducible exact ih1 _ _ _ _ _ _ _ _ _ _ _ _ _ _)
      | (with_reducible exact spec_HashChildren.mono _ _ _ _ _ _ _ _ _)
      | (with_reducible exact LeO.refl _)
      | (with_reducible exact LeO.none _)
      | (with_reducible refine LeO.ite ?_ ?_)
      | (with_reducible refine LeO.bind ?_ (fun _ => ?_))
      | exact ih0 _ _ _ _ _ _ _ _ _ _ _ _
      | exact ih1 _ _ _ _ _ _ _ _ _ _ _ _ _ _
      | exact spec_HashChildren.mono _ _ _ _ _ _ _ _ _
      | exact LeO.none _
      | refine LeO.ite ?_ ?_
      | refine LeO.bind ?_ (fun _ => ?_)
    · intro y0 y1 y2 y3 y4 y5 y6 y7 y8 y9 y10 y11 y12 y13
      unfold spec_Chained.j1
      repeat' first
      | (with_reducible exact ih0 _ _ _ _ _ _ _ _ _ _ _ _)
      | (with_reducible exact ih1 _ _ _ _ _ _ _ _ _ _ _ _ _ _)
      | (with_reducible exact spec_HashChildren.mono _ _ _ _ _ _ _ _ _)
      | (with_reducible exact LeO.refl _)
      | (with_reducible exact LeO.none _)
      | (with_reducible refine LeO.ite ?_ ?_)
      | (with_reducible refine LeO.bind ?_ (fun _ => ?_))
      | exact ih0 _ _ _ _ _ _ _ _ _ _ _ _
      | exact ih1 _ _ _ _ _ _ _ _ _ _ _ _ _ _
      | exact spec_HashChildren.mono _ _ _ _ _ _ _ _ _
      | exact LeO.none _
      | refine LeO.ite ?_ ?_
      | refine LeO.bind ?_ (fun _ => ?_)
theorem spec_Chained.mono : ∀ a0 a1 a2 a3 a4 a5 a6 a7 a8 a9 k, LeO (spec_Chained.f k a0 a1 a2 a3 a4 a5 a6 a7 a8 a9) (spec_Chained.f (k + 1) a0 a1 a2 a3 a4 a5 a6 a7 a8 a9) := by
  intro a0 a1 a2 a3 a4 a5 a6 a7 a8 a9 k
  obtain ⟨ih0, ih1⟩ := spec_Chained.mono_l k
  unfold spec_Chained.f
  repeat' first
      | (with_reducible exact ih0 _ _ _ _ _ _ _ _ _ _ _ _)
      | (with_reducible exact ih1 _ _ _ _ _ _ _ _ _ _ _ _ _ _)
      | (with_reducible exact spec_HashChildren.mono _ _ _ _ _ _ _ _ _)
      | (with_reducible exact LeO.refl _)
      | (with_reducible exact LeO.none _)
      | (with_reducible refine LeO.ite ?_ ?_)
      | (with_reducible refine LeO.bind ?_ (fun _ => ?_))
      | exact ih0 _ _ _ _ _ _ _ _ _ _ _ _
      | exact ih1 _ _ _ _ _ _ _ _ _ _ _ _ _ _
      | exact spec_HashChildren.mono _ _ _ _ _ _ _ _ _
      | exact LeO.none _
      | refine LeO.ite ?_ ?_
      | refine LeO.bind ?_ (fun _ => ?_)
set_option maxHeartbeats 8000000 in
set_option maxRecDepth 100000 in
theorem spec_Chained.calls (k : Nat) (a0_0 : Int) (a0_1 : Int) (a0_2 : Int) (a0_3 : Int) (a0_4 : Int) (a0_5 : Int) (P1_ : Nat → Prop) (A1 : Option Addr) (c1 : Nat) (l1 : List Int) (A2 : Option Addr) (c2 : Nat) (l2 : List (List Int)) (a3 : Int) (a4 : Bool) (r : List Int) (w : World) (hs1 : Kd.V (Kd.int .u8) 5 w w.heap.size (fun k_ => P1_ k_) (.slice A1 l1.length c1) l1) (hr2 : Kd.C (Kd.slice 5 (Kd.int .u8)) w A2 l2.length l2) (hc2 : l2.length ≤ c2) (h : spec_Chained.f k a0_0 a0_1 a0_2 a0_3 a0_4 a0_5 l1 l2 a3 a4 = some r) :
    Calls Try.prog 14 #[.agg #[.int .i64 a0_0, .int .i64 a0_1, .int .i64 a0_2, .int .u64 a0_3, .int .u64 a0_4, .int .u64 a0_5], .slice A1 l1.length c1, .slice A2 l2.length c2, .int .u64 a3, .bool a4] w fun e w' => ∃ v0_ : Value, e = .returned (v0_) ∧ Kd.V (Kd.int .u8) 5 w' w.heap.size (fun k_ => (P1_ k_ ∨ w.heap.size ≤ k_)) v0_ r ∧ Below w.heap.size w w' := by
  have hu24 := Try.underlying24
  have HO1 := Aside0.mk (show Kd.V (Kd.int .u8) 5 w w.heap.size (fun k_ => (P1_ k_ ∨ w.heap.size ≤ k_)) (.slice A1 l1.length c1) l1 from Kd.V_mono hs1 (fun k_ hk => .inl hk))
  have HR2 := Aside0.mk hr2
  have HC2 := Aside0.mk hc2
  clear hr2 hc2
  have HB := Aside0.mk (Below.refl w.heap.size w)
  have H : (spec_Chained.l0 k l1 a3 a4 l2 (l2.length : Int) 0 a0_0 a0_1 a0_2 a0_3 a0_4 a0_5) = some r := h
  clear h
  have H' := Aside0.mk H
  clear H
  go_enter Try.func14, Try.ntmps14
  go_wp2_with (first | ((with_reducible refine gate_dst (N := 5) rfl ?_); refine box_event ?hg (N := 5) ?hd (cs := #[.int .i64 a0_0, .int .i64 a0_1, .int .i64 a0_2, .int .u64 a0_3, .int .u64 a0_4, .int .u64 a0_5]) (t := 24) ?hr ?_; (case hd => rfl); (case hg => rfl); (case hr => first | (go_simp; done) | (go_simp; rfl)); intro gb167 hg w6 hbox hb; have n0_ := Aside0.mk (Kd.V_below (Kd.V_elderB (by (with_reducible repeat (first | apply Kd.V_alloc | apply Kd.V_drewN | apply Kd.V_drew)); exact HO1.out) gb167 (Nat.le_of_eq hg.symm)) hb); have n1_ := Aside0.mk (below_step (by repeat (first | (with_reducible first | exact HB.out | apply below_alloc | apply pw_below_drewN | apply below_drew1) | exact HB.out)) hb); have n2_ := Aside0.mk (hbox); have n3_ := Aside0.mk ((by rw [hg]; exact (below_size (by repeat (first | (with_reducible first | exact HB.out | apply below_alloc | apply pw_below_drewN | apply below_drew1) | exact HB.out))) : w.heap.size ≤ gb167)); have n4_ := Aside0.mk ((by rw [hg]; exact (below_size (by repeat (first | (with_reducible first | exact HB.out | apply below_alloc | apply pw_below_drewN | apply below_drew1) | exact HB.out))) : w.heap.size ≤ gb167)); clear HO1; clear HB; have HO1 := n0_; have HB := n1_; have BK167 := n2_; have GW167 := n3_; have GE167 := n4_; clear n0_ n1_ n2_ n3_ n4_; clear hb hbox hg))
  (try simp only [Act.put, List.setIfInBounds_toArray, List.set_cons_zero, List.set_cons_succ])
  go_loopg [1, 15] k (fun kq v1 v15 w' => ∃ (x1_1 : List Int) (x15_1 : Int), v15 = .int .i64 x15_1 ∧ Aside0 (spec_Chained.l0 kq x1_1 a3 a4 l2 (l2.length : Int) x15_1 a0_0 a0_1 a0_2 a0_3 a0_4 a0_5 = some r) ∧ Aside0 (kq ≤ k) ∧ Aside0 (Kd.V (Kd.int .u8) 5 w' w.heap.size (fun k_ => (P1_ k_ ∨ w.heap.size ≤ k_) ∧ k_ ≠ gb167) v1 x1_1) ∧ Aside0 (w'.heap[gb167]? = some (.cells #[.int .i64 a0_0, .int .i64 a0_1, .int .i64 a0_2, .int .u64 a0_3, .int .u64 a0_4, .int .u64 a0_5] 24 (0, 0))) ∧ Aside0 (Below w.heap.size w w'))
  case atStart => exact ⟨(l1), (0), (by first | rfl | (simp; done) | (simp [*]; done)), H', ⟨Nat.le_refl _⟩, ⟨by (with_reducible repeat (first | apply Kd.V_alloc | apply Kd.V_drewN | apply Kd.V_drew)); exact HO1.out⟩, ⟨by (with_reducible repeat (first | refine blk_drewN ?_ _ | refine blk_drew ?_ | refine blk_alloc ?_ _)); exact BK167.out⟩, ⟨by repeat (first | (with_reducible first | exact HB.out | apply below_alloc | apply pw_below_drewN | apply below_drew1 | refine below_set ?_ GE167.out) | exact HB.out)⟩⟩
  case round =>
    clear H'
    try clear c1
    try clear c2
    try clear p2
    obtain ⟨x1_1, x15_1, rfl, HA, HK1, HO_1, BK167, HB⟩ := hrel
    cases gk with
    | zero => exact absurd HA.out (by simp [spec_Chained.l0])
    | succ k1 =>
      have H := HA.out
      clear HA
      simp only [spec_Chained.l0] at H
      by_cases c7 : x15_1 < (l2.length : Int)
      · rw [if_pos c7] at H
        have c7b0 : decide (x15_1 < (l2.length : Int)) = true := decide_eq_true c7
        clear c7
        by_cases c8 : 0 ≤ x15_1
        · rw [if_pos c8] at H
          have c8b0 : decide (0 ≤ x15_1) = true := decide_eq_true c8
          clear c8
          by_cases c9 : x15_1 < (l2.length : Int)
          · rw [if_pos c9] at H
            have c9b0 : decide (x15_1 < (l2.length : Int)) = true := decide_eq_true c9
            clear c9
            have HC10 := Aside0.mk H
            clear H
            have p168 : 0 ≤ (x15_1 : Int) := of_decide_eq_true (by first | (with_reducible assumption) | assumption)
            have q168 : x15_1 < (l2.length : Int) := of_decide_eq_true (by first | (with_reducible assumption) | assumption)
            obtain ⟨ad168, A168_0, c168_0, e168, hx168_0, hl168_0, hi168_0⟩ := at_L1 HR2.out x15_1 p168 q168
            cases e168
            replace hx168_0 := (HB.out.cell (World.block_lt_of_cell? w _ hx168_0)).trans hx168_0
            have HR168_0 := Aside0.mk hi168_0
            have HC168_0 := Aside0.mk hl168_0
            clear hi168_0 hl168_0
            replace p168 := eq_true p168
            replace q168 := eq_true q168
            go_upto_region 4 with (fail)
            go_cut [28] (fun v28 wc => ∃ (kq : Nat) (x28_9 : Bool), v28 = .bool x28_9 ∧ Aside0 (spec_Chained.j1 kq x1_1 a3 a4 (rd_L1 l2 x15_1) l2 (l2.length : Int) x15_1 x28_9 a0_0 a0_1 a0_2 a0_3 a0_4 a0_5 = some r) ∧ Aside0 (kq ≤ k1) ∧ Aside0 (Kd.V (Kd.int .u8) 5 wc w.heap.size (fun k_ => (P1_ k_ ∨ w.heap.size ≤ k_) ∧ k_ ≠ gb167) u1 x1_1) ∧ Aside0 (wc.heap[gb167]? = some (.cells #[.int .i64 a0_0, .int .i64 a0_1, .int .i64 a0_2, .int .u64 a0_3, .int .u64 a0_4, .int .u64 a0_5] 24 (0, 0))) ∧ Aside0 (Below w.heap.size w wc))
            case first =>
              have H := HC10.out
              clear HC10
              by_cases c11 : x15_1 < 64
              · rw [if_pos c11] at H
                have c11b0 : decide (x15_1 < 64) = true := decide_eq_true c11
                clear c11
                (first | rw [c11b0] | (simp only [i64_w, i32_w]; rw [c11b0]) | skip)
                have c12b0 := eq_true (of_decide_eq_true (by first | (with_reducible assumption) | assumption) : 0 ≤ x15_1)
                obtain ⟨ji13, hji13⟩ : ∃ j_ : Int, (shr .u64 a3 x15_1) = j_ := ⟨_, rfl⟩
                replace H : (spec_Chained.j1 k1 x1_1 a3 a4 (rd_L1 l2 x15_1) l2 (l2.length : Int) x15_1 ((Go.bits .and .u64 (ji13) 1) == 1) a0_0 a0_1 a0_2 a0_3 a0_4 a0_5) = some r := by first | (rw [hji13] at H; exact H) | (simp only [hji13] at H ⊢; exact H)
                have hji13_ : (a3 / 2 ^ min x15_1.toNat 64) = ji13 := hji13
                have hji13z : x15_1 ≤ 64 → (a3 / 2 ^ x15_1.toNat) = ji13 := shr_small hji13
                have H' := Aside0.mk H
                clear H
                go_wp2
                go_meet
                case rel => exact ⟨_, (((Go.bits .and .u64 (ji13) 1) == 1)), (by first | rfl | (simp; done) | (simp only [← hji13] <;> (first | rfl | simp)) | (simp [*]; done)), H', ⟨by have := HK1.out; first | omega | exact Nat.le_refl _⟩, ⟨by (with_reducible repeat (first | apply Kd.V_alloc | apply Kd.V_drewN | apply Kd.V_drew)); exact HO_1.out⟩, ⟨by (with_reducible repeat (first | refine blk_drewN ?_ _ | refine blk_drew ?_ | refine blk_alloc ?_ _)); exact BK167.out⟩, ⟨by repeat (first | (with_reducible first | exact HB.out | apply below_alloc | apply pw_below_drewN | apply below_drew1 | refine below_set ?_ GE167.out) | exact HB.out)⟩⟩
              · rw [if_neg c11] at H
                have c11b0 : decide (x15_1 < 64) = false := decide_eq_false c11
                clear c11
                (first | rw [c11b0] | (simp only [i64_w, i32_w]; rw [c11b0]) | skip)
                have H' := Aside0.mk H
                clear H
                go_wp2
                go_meet
                case rel => exact ⟨_, (false), (by first | rfl | (simp; done) | (simp [*]; done)), H', ⟨by have := HK1.out; first | omega | exact Nat.le_refl _⟩, ⟨by (with_reducible repeat (first | apply Kd.V_alloc | apply Kd.V_drewN | apply Kd.V_drew)); exact HO_1.out⟩, ⟨by (with_reducible repeat (first | refine blk_drewN ?_ _ | refine blk_drew ?_ | refine blk_alloc ?_ _)); exact BK167.out⟩, ⟨by repeat (first | (with_reducible first | exact HB.out | apply below_alloc | apply pw_below_drewN | apply below_drew1 | refine below_set ?_ GE167.out) | exact HB.out)⟩⟩
            case rest =>
              clear HC10
              try clear c1
              try clear p1
              try clear q1
              try clear hx1
              try clear c2
              try clear p2
              try clear c7
              try clear c7b0
              try clear c8
              try clear c8b0
              try clear c9
              try clear c9b0
              try clear c11
              try clear c11b0
              try clear c12
              try clear c12b0
              try clear hx168_0
              try clear p168
              try clear p2
              try clear q168
              obtain ⟨kq, x28_9, rfl, HA, HJ9, HO_1, BK167, HB⟩ := hcut
              cases kq with
              | zero => exact absurd HA.out (by simp [spec_Chained.j1])
              | succ kj9 =>
                have H := HA.out
                clear HA
                simp only [spec_Chained.j1] at H
                by_cases c14 : x28_9 = true
                · subst c14
                  have H1 : ((spec_HashChildren.f kj9 a0_0 a0_1 a0_2 a0_3 a0_4 a0_5 (rd_L1 l2 x15_1) x1_1).bind fun t169 => (spec_Chained.l0 kj9 t169 a3 a4 l2 (l2.length : Int) (wrap64 (x15_1 + 1)) a0_0 a0_1 a0_2 a0_3 a0_4 a0_5)) = some r := by rw [if_pos rfl] at H; exact H
                  clear H
                  have H := H1
                  clear H1
                  replace H := Option.bind_eq_some_iff.mp H
                  obtain ⟨t169, A150, H⟩ := H
                  replace H : (spec_Chained.l0 kj9 t169 a3 a4 l2 (l2.length : Int) (wrap64 (x15_1 + 1)) a0_0 a0_1 a0_2 a0_3 a0_4 a0_5) = some r := H
                  have A15 := Aside0.mk A150
                  clear A150
                  have H' := Aside0.mk H
                  clear H
                  have hcz16_0 : wc.cell? ⟨gb167, 0, none⟩ = some (.int .i64 a0_0) := (blk_cell BK167.out 0).trans rfl
                  have hcz16_1 : wc.cell? ⟨gb167, 1, none⟩ = some (.int .i64 a0_1) := (blk_cell BK167.out 1).trans rfl
                  have hcz16_2 : wc.cell? ⟨gb167, 2, none⟩ = some (.int .i64 a0_2) := (blk_cell BK167.out 2).trans rfl
                  have hcz16_3 : wc.cell? ⟨gb167, 3, none⟩ = some (.int .u64 a0_3) := (blk_cell BK167.out 3).trans rfl
                  have hcz16_4 : wc.cell? ⟨gb167, 4, none⟩ = some (.int .u64 a0_4) := (blk_cell BK167.out 4).trans rfl
                  have hcz16_5 : wc.cell? ⟨gb167, 5, none⟩ = some (.int .u64 a0_5) := (blk_cell BK167.out 5).trans rfl
                  have hfz16_0 := blk_frozen BK167.out 0
                  have hfz16_1 := blk_frozen BK167.out 1
                  have hfz16_2 := blk_frozen BK167.out 2
                  have hfz16_3 := blk_frozen BK167.out 3
                  have hfz16_4 := blk_frozen BK167.out 4
                  have hfz16_5 := blk_frozen BK167.out 5
                  obtain ⟨Ao17, co17, eo17⟩ := Kd.V_slice HO_1.out
                  subst eo17
                  go_wp2_with (first | ((with_reducible refine gate_callee (f := 20) rfl ?_); refine goesL_ (some 32) rfl rfl Try.func20 (by kernel_rfl) rfl #[.agg #[.int .i64 a0_0, .int .i64 a0_1, .int .i64 a0_2, .int .u64 a0_3, .int .u64 a0_4, .int .u64 a0_5], .slice A168_0 (rd_L1 l2 x15_1).length c168_0, .slice Ao17 x1_1.length co17] rfl (by (try simp only [List.map_toArray, List.map_cons, List.map_nil]); first | done | rfl | (simp only [List.length_drop, List.length_take]; rfl)) ?_; (with_reducible refine (spec_HashChildren.calls kj9 a0_0 a0_1 a0_2 a0_3 a0_4 a0_5 _ _ (rd_L1 l2 x15_1) _ _ x1_1 t169 _ ?side1 ?side2 ?side3 ?side4 A15.out).mono ?_); (case side1 => repeat (first | exact (Kd.C_below HR168_0.out HB.out) | (with_reducible refine Kd.C_alloc ?_ _) | (with_reducible refine Kd.C_drewN ?_ _) | (with_reducible refine Kd.C_drew ?_))); (case side2 => exact HC168_0.out); (case side3 => repeat (first | exact (Kd.V_reads' HO_1.out).2.2 | (with_reducible refine Kd.C_alloc ?_ _) | (with_reducible refine Kd.C_drewN ?_ _) | (with_reducible refine Kd.C_drew ?_))); (case side4 => exact (Kd.V_reads' HO_1.out).2.1); rintro e w18 ⟨v170, rfl, ho0, hb⟩; refine ⟨_, rfl, ?_⟩; have n0_ := Aside0.mk (Kd.V_elder' (by (with_reducible repeat (first | apply Kd.V_alloc | apply Kd.V_drewN | apply Kd.V_drew)); exact HO_1.out) (Kd.R_base ho0) hb); have n1_ := Aside0.mk (Kd.R_lower (Kd.R_newM (M := fun k_ => (w.heap.size ≤ k_)) ho0 (below_size (by repeat (first | (with_reducible first | exact HB.out | apply below_alloc | apply pw_below_drewN | apply below_drew1 | refine below_set ?_ GE167.out) | exact HB.out))) (fun k_ h_ => h_)) (below_size (by repeat (first | (with_reducible first | exact HB.out | apply below_alloc | apply pw_below_drewN | apply below_drew1 | refine below_set ?_ GE167.out) | exact HB.out)))); have n2_ := Aside0.mk (blk_below (g := gb167) (o := .cells #[.int .i64 a0_0, .int .i64 a0_1, .int .i64 a0_2, .int .u64 a0_3, .int .u64 a0_4, .int .u64 a0_5] 24 (0, 0)) (by (with_reducible repeat (first | refine blk_drewN ?_ _ | refine blk_drew ?_ | refine blk_alloc ?_ _)); exact BK167.out) hb); have n3_ := Aside0.mk (below_step (by repeat (first | (with_reducible first | exact HB.out | apply below_alloc | apply pw_below_drewN | apply below_drew1 | refine below_set ?_ GE167.out) | exact HB.out)) hb); clear HO_1; clear BK167; clear HB; have HO_1 := n0_; have HO171 := n1_; have BK167 := n2_; have HB := n3_; clear n0_ n1_ n2_ n3_; (try clear hb); (try clear hb2); (try clear hk); (try clear hi); (try clear ho0)))
                  go_roundg kj9
                  case measure => have := HK1.out; have := HJ9.out; omega
                  case rel => exact ⟨(t169), (wrap64 (x15_1 + 1)), (by first | rfl | (simp; done) | (simp [*]; done)), H', ⟨by have := HK1.out; have := HJ9.out; omega⟩, ⟨Kd.V_mono (Kd.R_V (by (with_reducible repeat (first | apply Kd.R_alloc | apply Kd.R_drewN | apply Kd.R_drew)); exact Kd.R_mono (ok' := fun k_ => w.heap.size ≤ k_ ∧ k_ ≠ gb167) (Kd.R_types HO171.out BK167.out (by decide)) (fun _ hk => ⟨hk.1.1, hk.2⟩))) (fun k_ hk => by first | exact ⟨(.inr (hk.1)), hk.2⟩ | exact (.inr (hk)))⟩, ⟨by (with_reducible repeat (first | refine blk_drewN ?_ _ | refine blk_drew ?_ | refine blk_alloc ?_ _)); exact BK167.out⟩, ⟨by repeat (first | (with_reducible first | exact HB.out | apply below_alloc | apply pw_below_drewN | apply below_drew1 | refine below_set ?_ GE167.out) | exact HB.out)⟩⟩
                · replace c14 := Bool.eq_false_iff.mpr c14
                  subst c14
                  have H1 : (if a4 = true then (spec_Chained.l0 kj9 x1_1 a3 a4 l2 (l2.length : Int) (wrap64 (x15_1 + 1)) a0_0 a0_1 a0_2 a0_3 a0_4 a0_5) else ((spec_HashChildren.f kj9 a0_0 a0_1 a0_2 a0_3 a0_4 a0_5 x1_1 (rd_L1 l2 x15_1)).bind fun t172 => (spec_Chained.l0 kj9 t172 a3 a4 l2 (l2.length : Int) (wrap64 (x15_1 + 1)) a0_0 a0_1 a0_2 a0_3 a0_4 a0_5))) = some r := by rw [if_neg (show ¬ (false = true) by decide)] at H; exact H
                  clear H
                  have H := H1
                  clear H1
                  by_cases c19 : a4 = true
                  · subst c19
                    have H1 : (spec_Chained.l0 kj9 x1_1 a3 true l2 (l2.length : Int) (wrap64 (x15_1 + 1)) a0_0 a0_1 a0_2 a0_3 a0_4 a0_5) = some r := by rw [if_pos rfl] at H; exact H
                    clear H
                    have H := H1
                    clear H1
                    have H' := Aside0.mk H
                    clear H
                    go_wp2
                    go_roundg kj9
                    case measure => have := HK1.out; have := HJ9.out; omega
                    case rel => exact ⟨(x1_1), (wrap64 (x15_1 + 1)), (by first | rfl | (simp; done) | (simp [*]; done)), H', ⟨by have := HK1.out; have := HJ9.out; omega⟩, ⟨by (with_reducible repeat (first | apply Kd.V_alloc | apply Kd.V_drewN | apply Kd.V_drew)); exact HO_1.out⟩, ⟨by (with_reducible repeat (first | refine blk_drewN ?_ _ | refine blk_drew ?_ | refine blk_alloc ?_ _)); exact BK167.out⟩, ⟨by repeat (first | (with_reducible first | exact HB.out | apply below_alloc | apply pw_below_drewN | apply below_drew1 | refine below_set ?_ GE167.out) | exact HB.out)⟩⟩
                  · replace c19 := Bool.eq_false_iff.mpr c19
                    subst c19
                    have H1 : ((spec_HashChildren.f kj9 a0_0 a0_1 a0_2 a0_3 a0_4 a0_5 x1_1 (rd_L1 l2 x15_1)).bind fun t172 => (spec_Chained.l0 kj9 t172 a3 false l2 (l2.length : Int) (wrap64 (x15_1 + 1)) a0_0 a0_1 a0_2 a0_3 a0_4 a0_5)) = some r := by rw [if_neg (show ¬ (false = true) by decide)] at H; exact H
                    clear H
                    have H := H1
                    clear H1
                    replace H := Option.bind_eq_some_iff.mp H
                    obtain ⟨t172, A200, H⟩ := H
                    replace H : (spec_Chained.l0 kj9 t172 a3 false l2 (l2.length : Int) (wrap64 (x15_1 + 1)) a0_0 a0_1 a0_2 a0_3 a0_4 a0_5) = some r := H
                    have A20 := Aside0.mk A200
                    clear A200
                    have H' := Aside0.mk H
                    clear H
                    have hcz21_0 : wc.cell? ⟨gb167, 0, none⟩ = some (.int .i64 a0_0) := (blk_cell BK167.out 0).trans rfl
                    have hcz21_1 : wc.cell? ⟨gb167, 1, none⟩ = some (.int .i64 a0_1) := (blk_cell BK167.out 1).trans rfl
                    have hcz21_2 : wc.cell? ⟨gb167, 2, none⟩ = some (.int .i64 a0_2) := (blk_cell BK167.out 2).trans rfl
                    have hcz21_3 : wc.cell? ⟨gb167, 3, none⟩ = some (.int .u64 a0_3) := (blk_cell BK167.out 3).trans rfl
                    have hcz21_4 : wc.cell? ⟨gb167, 4, none⟩ = some (.int .u64 a0_4) := (blk_cell BK167.out 4).trans rfl
                    have hcz21_5 : wc.cell? ⟨gb167, 5, none⟩ = some (.int .u64 a0_5) := (blk_cell BK167.out 5).trans rfl
                    have hfz21_0 := blk_frozen BK167.out 0
                    have hfz21_1 := blk_frozen BK167.out 1
                    have hfz21_2 := blk_frozen BK167.out 2
                    have hfz21_3 := blk_frozen BK167.out 3
                    have hfz21_4 := blk_frozen BK167.out 4
                    have hfz21_5 := blk_frozen BK167.out 5
                    obtain ⟨Ao22, co22, eo22⟩ := Kd.V_slice HO_1.out
                    subst eo22
                    go_wp2_with (first | ((with_reducible refine gate_callee (f := 20) rfl ?_); refine goesL_ (some 38) rfl rfl Try.func20 (by kernel_rfl) rfl #[.agg #[.int .i64 a0_0, .int .i64 a0_1, .int .i64 a0_2, .int .u64 a0_3, .int .u64 a0_4, .int .u64 a0_5], .slice Ao22 x1_1.length co22, .slice A168_0 (rd_L1 l2 x15_1).length c168_0] rfl (by (try simp only [List.map_toArray, List.map_cons, List.map_nil]); first | done | rfl | (simp only [List.length_drop, List.length_take]; rfl)) ?_; (with_reducible refine (spec_HashChildren.calls kj9 a0_0 a0_1 a0_2 a0_3 a0_4 a0_5 _ _ x1_1 _ _ (rd_L1 l2 x15_1) t172 _ ?side1 ?side2 ?side3 ?side4 A20.out).mono ?_); (case side1 => repeat (first | exact (Kd.V_reads' HO_1.out).2.2 | (with_reducible refine Kd.C_alloc ?_ _) | (with_reducible refine Kd.C_drewN ?_ _) | (with_reducible refine Kd.C_drew ?_))); (case side2 => exact (Kd.V_reads' HO_1.out).2.1); (case side3 => repeat (first | exact (Kd.C_below HR168_0.out HB.out) | (with_reducible refine Kd.C_alloc ?_ _) | (with_reducible refine Kd.C_drewN ?_ _) | (with_reducible refine Kd.C_drew ?_))); (case side4 => exact HC168_0.out); rintro e w23 ⟨v173, rfl, ho0, hb⟩; refine ⟨_, rfl, ?_⟩; have n0_ := Aside0.mk (Kd.V_elder' (by (with_reducible repeat (first | apply Kd.V_alloc | apply Kd.V_drewN | apply Kd.V_drew)); exact HO_1.out) (Kd.R_base ho0) hb); have n1_ := Aside0.mk (Kd.R_lower (Kd.R_newM (M := fun k_ => (w.heap.size ≤ k_)) ho0 (below_size (by repeat (first | (with_reducible first | exact HB.out | apply below_alloc | apply pw_below_drewN | apply below_drew1 | refine below_set ?_ GE167.out) | exact HB.out))) (fun k_ h_ => h_)) (below_size (by repeat (first | (with_reducible first | exact HB.out | apply below_alloc | apply pw_below_drewN | apply below_drew1 | refine below_set ?_ GE167.out) | exact HB.out)))); have n2_ := Aside0.mk (blk_below (g := gb167) (o := .cells #[.int .i64 a0_0, .int .i64 a0_1, .int .i64 a0_2, .int .u64 a0_3, .int .u64 a0_4, .int .u64 a0_5] 24 (0, 0)) (by (with_reducible repeat (first | refine blk_drewN ?_ _ | refine blk_drew ?_ | refine blk_alloc ?_ _)); exact BK167.out) hb); have n3_ := Aside0.mk (below_step (by repeat (first | (with_reducible first | exact HB.out | apply below_alloc | apply pw_below_drewN | apply below_drew1 | refine below_set ?_ GE167.out) | exact HB.out)) hb); clear HO_1; clear BK167; clear HB; have HO_1 := n0_; have HO174 := n1_; have BK167 := n2_; have HB := n3_; clear n0_ n1_ n2_ n3_; (try clear hb); (try clear hb2); (try clear hk); (try clear hi); (try clear ho0)))
                    go_roundg kj9
                    case measure => have := HK1.out; have := HJ9.out; omega
                    case rel => exact ⟨(t172), (wrap64 (x15_1 + 1)), (by first | rfl | (simp; done) | (simp [*]; done)), H', ⟨by have := HK1.out; have := HJ9.out; omega⟩, ⟨Kd.V_mono (Kd.R_V (by (with_reducible repeat (first | apply Kd.R_alloc | apply Kd.R_drewN | apply Kd.R_drew)); exact Kd.R_mono (ok' := fun k_ => w.heap.size ≤ k_ ∧ k_ ≠ gb167) (Kd.R_types HO174.out BK167.out (by decide)) (fun _ hk => ⟨hk.1.1, hk.2⟩))) (fun k_ hk => by first | exact ⟨(.inr (hk.1)), hk.2⟩ | exact (.inr (hk)))⟩, ⟨by (with_reducible repeat (first | refine blk_drewN ?_ _ | refine blk_drew ?_ | refine blk_alloc ?_ _)); exact BK167.out⟩, ⟨by repeat (first | (with_reducible first | exact HB.out | apply below_alloc | apply pw_below_drewN | apply below_drew1 | refine below_set ?_ GE167.out) | exact HB.out)⟩⟩
          · rw [if_neg c9] at H
            exact absurd H (by simp)
        · rw [if_neg c8] at H
          exact absurd H (by simp)
      · rw [if_neg c7] at H
        have c7b0 : decide (x15_1 < (l2.length : Int)) = false := decide_eq_false c7
        clear c7
        obtain rfl := Option.some.inj H
        go_wp2
        go_ret
        exact ⟨_, by first | rfl | (simp [errW_none, errW_some] <;> rfl) | (simp [*, errW_none, errW_some] <;> rfl), by (with_reducible repeat (first | apply Kd.V_alloc | apply Kd.V_drewN | apply Kd.V_drew)); exact Kd.V_mono HO_1.out (fun _ hk => hk.1), by repeat (first | (with_reducible first | exact HB.out | apply below_alloc | apply pw_below_drewN | apply below_drew1 | refine below_set ?_ GE167.out) | exact HB.out)⟩

end Go.Proofs.Ytfhcpniibiobgaa.Qg
