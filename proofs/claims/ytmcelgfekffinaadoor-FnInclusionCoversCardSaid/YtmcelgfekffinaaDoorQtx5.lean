-- Written by wip/tools/myprint.py for this seat (the kit's print with changes); Lean checks it.
import Derived.Test.YtmcelgfekffinaaDoorQtx0
import Derived.Test.YtmcelgfekffinaaDoorQtx1
namespace Go.Proofs.YtmcelgfekffinaaDoor.Qt
open Go.RowKit Go.Proofs.YtmcelgfekffinaaDoorW.PrintWords Go.Proofs.YtmcelgfekffinaaDoorW.PrintLast Go.Proofs.YtmcelgfekffinaaDoorW.PrintMore
attribute [local go_sem] max2_int min2_int max_two min_two max_three min_three max_four min_four   -- for this text's walks alone
set_option linter.unusedVariables false
set_option linter.unusedSimpArgs false

attribute [local go_sem high] eqA27
/-! ### laws_raised: function 13 -/
def laws_raised.l0 : Nat → Int → List (S27) → List (S27) → Int → Int → Option ((List (S27)))
  | 0, _, _, _, _, _ => none
  | k + 1, x1, x5, x8, x9, x10 => if x10 < x9 then (if 0 ≤ x10 then (if x10 < (x8.length : Int) then (if x5.length < 8796093022208 then (laws_raised.l0 k x1 (x5 ++ [(⟨IntKind.u64.wrap (((rd_T27 x8 x10).f0) + (IntKind.u64.wrap (x1))), (rd_T27 x8 x10).f1⟩ : S27)]) x8 x9 (wrap64 (x10 + 1))) else (none)) else (none)) else (none)) else (some x5)
def laws_raised.f (k : Nat) (l0 : List (S27)) (a1 : Int) : Option ((List (S27))) := laws_raised.l0 k a1 ([] : List (S27)) l0 (l0.length : Int) 0
theorem laws_raised.mono_l : ∀ k, (∀ y0 y1 y2 y3 y4, LeO (laws_raised.l0 k y0 y1 y2 y3 y4) (laws_raised.l0 (k + 1) y0 y1 y2 y3 y4))
  | 0 => fun _ _ _ _ _ r h => by simp [laws_raised.l0] at h
  | k + 1 => by
    have ih0 := laws_raised.mono_l k
    · intro y0 y1 y2 y3 y4
      unfold laws_raised.l0
      repeat' first
      | (with_reducible exact ih0 _ _ _ _ _)
      | (with_reducible exact LeO.refl _)
      | (with_reducible exact LeO.none _)
      | (with_reducible refine LeO.ite ?_ ?_)
      | (with_reducible refine LeO.bind ?_ (fun _ => ?_))
      | exact ih0 _ _ _ _ _
      | exact LeO.none _
      | refine LeO.ite ?_ ?_
      | refine LeO.bind ?_ (fun _ => ?_)
theorem laws_raised.mono : ∀ a0 a1 k, LeO (laws_raised.f k a0 a1) (laws_raised.f (k + 1) a0 a1) := by
  intro a0 a1 k
  have ih0 := laws_raised.mono_l k
  unfold laws_raised.f
  repeat' first
      | (with_reducible exact ih0 _ _ _ _ _)
      | (with_reducible exact LeO.refl _)
      | (with_reducible exact LeO.none _)
      | (with_reducible refine LeO.ite ?_ ?_)
      | (with_reducible refine LeO.bind ?_ (fun _ => ?_))
      | exact ih0 _ _ _ _ _
      | exact LeO.none _
      | refine LeO.ite ?_ ?_
      | refine LeO.bind ?_ (fun _ => ?_)
set_option maxHeartbeats 8000000 in
set_option maxRecDepth 100000 in
theorem laws_raised.calls (k : Nat) (A0 : Option Addr) (c0 : Nat) (l0 : List (S27)) (a1 : Int) (r : List (S27)) (w : World) (hr0 : Kd.C k27 w A0 l0.length l0) (hc0 : l0.length ≤ c0) (h : laws_raised.f k l0 a1 = some r) :
    Calls Tryd.prog 13 #[.slice A0 l0.length c0, .int .i64 a1] w fun e w' => ∃ v0_ : Value, e = .returned (v0_) ∧ Kd.R k27 27 w' w.heap.size (fun _ => True) v0_ r ∧ Below w.heap.size w w' := by
  have hu27 := Tryd.underlying27
  have HR0 := Aside0.mk hr0
  have HC0 := Aside0.mk hc0
  clear hr0 hc0
  have HB := Aside0.mk (Below.refl w.heap.size w)
  have H : (laws_raised.l0 k a1 ([] : List (S27)) l0 (l0.length : Int) 0) = some r := h
  clear h
  have H' := Aside0.mk H
  clear H
  go_enter Tryd.func13, Tryd.ntmps13
  go_wp2
  (try simp only [Act.put, List.setIfInBounds_toArray, List.set_cons_zero, List.set_cons_succ])
  go_loopg [5, 10] k (fun kq v5 v10 w' => ∃ (x5_1 : List (S27)) (x10_1 : Int), v10 = .int .i64 x10_1 ∧ Aside0 (laws_raised.l0 kq a1 x5_1 l0 (l0.length : Int) x10_1 = some r) ∧ Aside0 (kq ≤ k) ∧ Aside0 (Kd.R k27 27 w' w.heap.size (fun _ => True) v5 x5_1) ∧ Aside0 (Below w.heap.size w w'))
  case atStart => exact ⟨(([] : List (S27))), (0), (by first | rfl | (simp; done) | (simp [*]; done)), H', ⟨Nat.le_refl _⟩, ⟨by first | exact Kd.R_nil _ _ _ _ _ | exact Kd.N_nil _ _ _ _ _ | exact Kd.V_nil _ _ _ _ _ | exact Kd.Q_nil _ _ _ _ _ | exact Kd.S_nil _ _ _ _ _⟩, ⟨by repeat (first | (with_reducible first | exact HB.out | apply below_alloc | apply pw_below_drewN | apply below_drew1) | exact HB.out)⟩⟩
  case round =>
    clear H'
    try clear c1
    try clear p2
    obtain ⟨x5_1, x10_1, rfl, HA, HK1, HO_5, HB⟩ := hrel
    cases gk with
    | zero => exact absurd HA.out (by simp [laws_raised.l0])
    | succ k1 =>
      have H := HA.out
      clear HA
      simp only [laws_raised.l0] at H
      by_cases c3 : x10_1 < (l0.length : Int)
      · rw [if_pos c3] at H
        have c3b0 : decide (x10_1 < (l0.length : Int)) = true := decide_eq_true c3
        clear c3
        by_cases c4 : 0 ≤ x10_1
        · rw [if_pos c4] at H
          have c4b0 : decide (0 ≤ x10_1) = true := decide_eq_true c4
          clear c4
          by_cases c5 : x10_1 < (l0.length : Int)
          · rw [if_pos c5] at H
            have c5b0 : decide (x10_1 < (l0.length : Int)) = true := decide_eq_true c5
            clear c5
            by_cases c6 : x5_1.length < 8796093022208
            · rw [if_pos c6] at H
              have LMc6 := Aside0.mk c6
              clear c6
              obtain ⟨y225, hy225⟩ : ∃ y_ : List (S27), y_ = (x5_1 ++ [(⟨IntKind.u64.wrap (((rd_T27 l0 x10_1).f0) + (IntKind.u64.wrap (a1))), (rd_T27 l0 x10_1).f1⟩ : S27)]) := ⟨_, rfl⟩
              replace H : (laws_raised.l0 k1 a1 y225 l0 (l0.length : Int) (wrap64 (x10_1 + 1))) = some r := by first | (rw [hy225]; with_reducible exact H) | (have H2_ := (Option.bind_some _ _).symm.trans H; rw [hy225]; with_reducible exact H2_) | (have H2_ := (Option.bind_some _ _).symm.trans H; with_reducible exact H2_) | with_reducible exact H | (rw [hy225]; exact H) | exact H
              have Ny225 := Aside0.mk hy225
              clear hy225
              have H' := Aside0.mk H
              clear H
              have p223 : 0 ≤ (x10_1 : Int) := of_decide_eq_true (by first | (with_reducible assumption) | assumption)
              have q223 : x10_1 < (l0.length : Int) := of_decide_eq_true (by first | (with_reducible assumption) | assumption)
              obtain ⟨ad223, e223, hx223_0, hx223_1⟩ := at_T27 HR0.out x10_1 p223 q223
              cases e223
              replace hx223_0 := (HB.out.cell (World.block_lt_of_cell? w _ hx223_0)).trans hx223_0
              replace hx223_1 := (HB.out.cell (World.block_lt_of_cell? w _ hx223_1)).trans hx223_1
              replace p223 := eq_true p223
              replace q223 := eq_true q223
              go_wp2_with (first | ((with_reducible refine gate_dst (N := 7) rfl ?_); refine box_event ?hg (N := 7) ?hd (cs := #[.int .u64 0, .int .u64 0]) (t := 27) ?hr ?_; (case hd => rfl); (case hg => rfl); (case hr => first | (go_simp; done) | (go_simp; rfl)); intro gb224 hg w7 hbox hb; have n0_ := Aside0.mk (Kd.R_below (Kd.R_elderB (by (with_reducible repeat (first | apply Kd.R_alloc | apply Kd.R_drewN | apply Kd.R_drew)); exact HO_5.out) gb224 (Nat.le_of_eq hg.symm)) hb); have n1_ := Aside0.mk (below_step (by repeat (first | (with_reducible first | exact HB.out | apply below_alloc | apply pw_below_drewN | apply below_drew1) | exact HB.out)) hb); have n2_ := Aside0.mk (hbox); have n3_ := Aside0.mk ((by rw [hg]; exact (below_size (by repeat (first | (with_reducible first | exact HB.out | apply below_alloc | apply pw_below_drewN | apply below_drew1) | exact HB.out))) : w.heap.size ≤ gb224)); have n4_ := Aside0.mk ((by rw [hg]; exact (below_size (by repeat (first | (with_reducible first | exact HB.out | apply below_alloc | apply pw_below_drewN | apply below_drew1) | exact HB.out))) : w.heap.size ≤ gb224)); clear HO_5; clear HB; have HO_5 := n0_; have HB := n1_; have BK224 := n2_; have GW224 := n3_; have GE224 := n4_; clear n0_ n1_ n2_ n3_ n4_; clear hb hbox hg; have hcz8_0 : w7.cell? ⟨gb224, 0, none⟩ = some (.int .u64 0) := (blk_cell BK224.out 0).trans rfl; have hcz8_1 : w7.cell? ⟨gb224, 1, none⟩ = some (.int .u64 0) := (blk_cell BK224.out 1).trans rfl; have hfz8_0 := blk_frozen BK224.out 0; have hfz8_1 := blk_frozen BK224.out 1) | ((with_reducible refine gate_builtin (b := .append) (xs := #[.tmp 14, .tmp 23]) rfl ?_); at_builtin; refine Kd.R_append k27 (w0 := w) w.heap.size rfl (.tmp 14) (.tmp 23) 23 27 (.agg #[(.int .u64 0), (.int .u64 0)]) 16 rfl Tryd.underlying23 info27 rfl (by decide) (by omega) u5 x5_1 (⟨IntKind.u64.wrap (((rd_T27 l0 x10_1).f0) + (IntKind.u64.wrap (a1))), (rd_T27 l0 x10_1).f1⟩ : S27) [.int .u64 (IntKind.u64.wrap (((rd_T27 l0 x10_1).f0) + (IntKind.u64.wrap (a1)))), .int .u64 ((rd_T27 l0 x10_1).f1)] (fun k_ => k_ ≠ gb224) (fun _ => False) rfl (by first | (go_simp; done) | (go_simp; rfl)) ?aP (fun _ hk => hk.elim) ?aF ?aO ?aB ?aS ?aL ?_; (case aP => exact k27_mkM _ _ _ (⟨IntKind.u64.wrap (((rd_T27 l0 x10_1).f0) + (IntKind.u64.wrap (a1))), (rd_T27 l0 x10_1).f1⟩ : S27)); (case aB => exact (by repeat (first | (with_reducible first | exact HB.out | apply below_alloc | apply pw_below_drewN | apply below_drew1 | refine below_set ?_ GE224.out) | exact HB.out))); (case aF => exact (fun k_ hk => Kd.freshB (g := gb224) (o := .cells #[.int .u64 ((rd_T27 l0 x10_1).f0), .int .u64 ((rd_T27 l0 x10_1).f1)] 27 (0, 0)) (by (with_reducible repeat (first | refine blk_drewN ?_ _ | refine blk_drew ?_ | refine blk_alloc ?_ _)); refine blk_put (cs := #[.int .u64 ((rd_T27 l0 x10_1).f0), .int .u64 0]) ?_ 1 _ rfl; (with_reducible repeat (first | refine blk_drewN ?_ _ | refine blk_drew ?_ | refine blk_alloc ?_ _)); refine blk_put (cs := #[.int .u64 0, .int .u64 0]) ?_ 0 _ rfl; (with_reducible repeat (first | refine blk_drewN ?_ _ | refine blk_drew ?_ | refine blk_alloc ?_ _)); exact BK224.out) k_ hk)); (case aO => exact (by (with_reducible repeat (first | apply Kd.R_alloc | apply Kd.R_drewN | apply Kd.R_drew)); exact Kd.R_mono (Kd.R_far (p := ⟨gb224, 1, none⟩) (Kd.R_far (p := ⟨gb224, 0, none⟩) (Kd.R_mono HO_5.out (fun k_ hk => (⟨hk, hk.2⟩ : _ ∧ k_ ≠ gb224))) (fun _ hk => hk.2) (.int .u64 ((rd_T27 l0 x10_1).f0))) (fun _ hk => hk.2) (.int .u64 ((rd_T27 l0 x10_1).f1))) (fun _ hk => hk.1.2))); (case aS => exact (below_size (by repeat (first | (with_reducible first | exact HB.out | apply below_alloc | apply pw_below_drewN | apply below_drew1 | refine below_set ?_ GE224.out) | exact HB.out)))); (case aL => have := LMc6.out; omega); intro v226 w9 ho hb hg hat; rw [← Ny225.out] at ho; have n0_ := Aside0.mk (blk_grown (g := gb224) (o := .cells #[.int .u64 ((rd_T27 l0 x10_1).f0), .int .u64 ((rd_T27 l0 x10_1).f1)] 27 (0, 0)) (by (with_reducible repeat (first | refine blk_drewN ?_ _ | refine blk_drew ?_ | refine blk_alloc ?_ _)); refine blk_put (cs := #[.int .u64 ((rd_T27 l0 x10_1).f0), .int .u64 0]) ?_ 1 _ rfl; (with_reducible repeat (first | refine blk_drewN ?_ _ | refine blk_drew ?_ | refine blk_alloc ?_ _)); refine blk_put (cs := #[.int .u64 0, .int .u64 0]) ?_ 0 _ rfl; (with_reducible repeat (first | refine blk_drewN ?_ _ | refine blk_drew ?_ | refine blk_alloc ?_ _)); exact BK224.out) hg (Kd.R_away HO_5.out (fun _ hk => hk.2))); have n1_ := Aside0.mk (hb); have n2_ := Aside0.mk (ho); clear BK224; clear HB; clear HO_5; have BK224 := n0_; have HB := n1_; have HO227 := n2_; clear n0_ n1_ n2_; clear ho hb hg hat))
              go_roundg k1
              case measure => have := HK1.out; omega
              case rel => exact ⟨(y225), (wrap64 (x10_1 + 1)), (by first | rfl | (simp; done) | (simp [*]; done)), H', ⟨by have := HK1.out; omega⟩, ⟨by (with_reducible repeat (first | apply Kd.R_alloc | apply Kd.R_drewN | apply Kd.R_drew)); exact Kd.R_mono HO227.out (fun _ hk => trivial)⟩, ⟨by repeat (first | (with_reducible first | exact HB.out | apply below_alloc | apply pw_below_drewN | apply below_drew1 | refine below_set ?_ GE224.out) | exact HB.out)⟩⟩
            · rw [if_neg c6] at H
              exact absurd H (by simp)
          · rw [if_neg c5] at H
            exact absurd H (by simp)
        · rw [if_neg c4] at H
          exact absurd H (by simp)
      · rw [if_neg c3] at H
        have c3b0 : decide (x10_1 < (l0.length : Int)) = false := decide_eq_false c3
        clear c3
        obtain rfl := Option.some.inj H
        go_wp2
        go_ret
        exact ⟨_, by first | rfl | (simp [errW_none, errW_some] <;> rfl) | (simp [*, errW_none, errW_some] <;> rfl), by (with_reducible repeat (first | apply Kd.R_alloc | apply Kd.R_drewN | apply Kd.R_drew)); exact HO_5.out, by repeat (first | (with_reducible first | exact HB.out | apply below_alloc | apply pw_below_drewN | apply below_drew1) | exact HB.out)⟩

/-! ### spec_SameNodes: function 24 -/
def spec_SameNodes.l0 : Nat → List (S27) → List (S27) → Int → Int → Option (Bool)
  | 0, _, _, _, _ => none
  | k + 1, x0, x1, x12, x13 => if x13 < x12 then (if 0 ≤ x13 then (if x13 < (x0.length : Int) then (if x13 < (x1.length : Int) then (if (!(((rd_T27 x0 x13).f0) == ((rd_T27 x1 x13).f0)) || (!(((rd_T27 x0 x13).f1) == ((rd_T27 x1 x13).f1)))) = true then (some false) else (spec_SameNodes.l0 k x0 x1 x12 (wrap64 (x13 + 1)))) else (none)) else (none)) else (none)) else (some true)
def spec_SameNodes.f (k : Nat) (l0 : List (S27)) (l1 : List (S27)) : Option (Bool) := if (l0.length : Int) = (l1.length : Int) then (spec_SameNodes.l0 k l0 l1 (l0.length : Int) 0) else (some false)
theorem spec_SameNodes.mono_l : ∀ k, (∀ y0 y1 y2 y3, LeO (spec_SameNodes.l0 k y0 y1 y2 y3) (spec_SameNodes.l0 (k + 1) y0 y1 y2 y3))
  | 0 => fun _ _ _ _ r h => by simp [spec_SameNodes.l0] at h
  | k + 1 => by
    have ih0 := spec_SameNodes.mono_l k
    · intro y0 y1 y2 y3
      unfold spec_SameNodes.l0
      repeat' first
      | (with_reducible exact ih0 _ _ _ _)
      | (with_reducible exact LeO.refl _)
      | (with_reducible exact LeO.none _)
      | (with_reducible refine LeO.ite ?_ ?_)
      | (with_reducible refine LeO.bind ?_ (fun _ => ?_))
      | exact ih0 _ _ _ _
      | exact LeO.none _
      | refine LeO.ite ?_ ?_
      | refine LeO.bind ?_ (fun _ => ?_)
theorem spec_SameNodes.mono : ∀ a0 a1 k, LeO (spec_SameNodes.f k a0 a1) (spec_SameNodes.f (k + 1) a0 a1) := by
  intro a0 a1 k
  have ih0 := spec_SameNodes.mono_l k
  unfold spec_SameNodes.f
  repeat' first
      | (with_reducible exact ih0 _ _ _ _)
      | (with_reducible exact LeO.refl _)
      | (with_reducible exact LeO.none _)
      | (with_reducible refine LeO.ite ?_ ?_)
      | (with_reducible refine LeO.bind ?_ (fun _ => ?_))
      | exact ih0 _ _ _ _
      | exact LeO.none _
      | refine LeO.ite ?_ ?_
      | refine LeO.bind ?_ (fun _ => ?_)
set_option maxHeartbeats 8000000 in
set_option maxRecDepth 100000 in
theorem spec_SameNodes.calls (k : Nat) (A0 : Option Addr) (c0 : Nat) (l0 : List (S27)) (A1 : Option Addr) (c1 : Nat) (l1 : List (S27)) (r : Bool) (w : World) (hr0 : Kd.C k27 w A0 l0.length l0) (hc0 : l0.length ≤ c0) (hr1 : Kd.C k27 w A1 l1.length l1) (hc1 : l1.length ≤ c1) (h : spec_SameNodes.f k l0 l1 = some r) :
    Calls Tryd.prog 24 #[.slice A0 l0.length c0, .slice A1 l1.length c1] w fun e w' => e = .returned (.bool r) ∧ Drawn0 w w' := by
  have hu27 := Tryd.underlying27
  have HR0 := Aside0.mk hr0
  have HC0 := Aside0.mk hc0
  clear hr0 hc0
  have HR1 := Aside0.mk hr1
  have HC1 := Aside0.mk hc1
  clear hr1 hc1
  have H : (if (l0.length : Int) = (l1.length : Int) then (spec_SameNodes.l0 k l0 l1 (l0.length : Int) 0) else (some false)) = some r := h
  clear h
  by_cases c3 : (l0.length : Int) = (l1.length : Int)
  · rw [if_pos c3] at H
    have c3b0 : ((l0.length : Int) == (l1.length : Int)) = true := beq_iff_eq.mpr c3
    have c3b1 : ((l0.length : Int) != (l1.length : Int)) = false := bne_eq_false_iff_eq.mpr c3
    have c3b2 : (l0.length == l1.length) = true := by first | simpa using c3 | (simp at c3 ⊢; omega)
    clear c3
    have H' := Aside0.mk H
    clear H
    go_enter Tryd.func24, Tryd.ntmps24
    go_wp2
    repeat (go_quiet (fail); try go_wp2)
    (try simp only [Act.put, List.setIfInBounds_toArray, List.set_cons_zero, List.set_cons_succ])
    go_loopg [13] k (fun kq v13 w' => ∃ (x13_1 : Int), v13 = .int .i64 x13_1 ∧ Aside0 (spec_SameNodes.l0 kq l0 l1 (l0.length : Int) x13_1 = some r) ∧ Aside0 (kq ≤ k) ∧ Drawn0 w w')
    case atStart => exact ⟨(0), (by first | rfl | (simp; done) | (simp [*]; done)), H', ⟨Nat.le_refl _⟩, by repeat (first | exact Drawn0.refl _ | apply Drawn0.step)⟩
    case round =>
      clear H'
      try clear c1
      try clear c2
      try clear p2
      try clear c3
      try clear c3b0
      try clear c3b1
      try clear c3b2
      obtain ⟨x13_1, rfl, HA, HK1, ⟨m1, rfl⟩⟩ := hrel
      cases gk with
      | zero => exact absurd HA.out (by simp [spec_SameNodes.l0])
      | succ k1 =>
        have H := HA.out
        clear HA
        simp only [spec_SameNodes.l0] at H
        by_cases c4 : x13_1 < (l0.length : Int)
        · rw [if_pos c4] at H
          have c4b0 : decide (x13_1 < (l0.length : Int)) = true := decide_eq_true c4
          clear c4
          by_cases c5 : 0 ≤ x13_1
          · rw [if_pos c5] at H
            have c5b0 : decide (0 ≤ x13_1) = true := decide_eq_true c5
            clear c5
            by_cases c6 : x13_1 < (l0.length : Int)
            · rw [if_pos c6] at H
              have c6b0 : decide (x13_1 < (l0.length : Int)) = true := decide_eq_true c6
              clear c6
              by_cases c7 : x13_1 < (l1.length : Int)
              · rw [if_pos c7] at H
                have c7b0 : decide (x13_1 < (l1.length : Int)) = true := decide_eq_true c7
                clear c7
                by_cases c8 : (!(((rd_T27 l0 x13_1).f0) == ((rd_T27 l1 x13_1).f0)) || (!(((rd_T27 l0 x13_1).f1) == ((rd_T27 l1 x13_1).f1)))) = true
                · rw [if_pos c8] at H
                  have c8b0 : (!(((rd_T27 l0 x13_1).f0) == ((rd_T27 l1 x13_1).f0)) || (!(((rd_T27 l0 x13_1).f1) == ((rd_T27 l1 x13_1).f1)))) = true := c8
                  clear c8
                  obtain rfl := Option.some.inj H
                  have p228 : 0 ≤ (x13_1 : Int) := of_decide_eq_true (by first | (with_reducible assumption) | assumption)
                  have q228 : x13_1 < (l0.length : Int) := of_decide_eq_true (by first | (with_reducible assumption) | assumption)
                  obtain ⟨ad228, e228, hx228_0, hx228_1⟩ := at_T27 HR0.out x13_1 p228 q228
                  cases e228
                  replace p228 := eq_true p228
                  replace q228 := eq_true q228
                  have p229 : 0 ≤ (x13_1 : Int) := of_decide_eq_true (by first | (with_reducible assumption) | assumption)
                  have q229 : x13_1 < (l1.length : Int) := of_decide_eq_true (by first | (with_reducible assumption) | assumption)
                  obtain ⟨ad229, e229, hx229_0, hx229_1⟩ := at_T27 HR1.out x13_1 p229 q229
                  cases e229
                  replace p229 := eq_true p229
                  replace q229 := eq_true q229
                  go_wp2
                  repeat (go_quiet (fail); try go_wp2)
                  go_ret
                  exact ⟨by first | rfl | (simp; done) | (simp [*]; done), by repeat (first | exact Drawn0.refl _ | apply Drawn0.step)⟩
                · rw [if_neg c8] at H
                  have c8b0 : (!(((rd_T27 l0 x13_1).f0) == ((rd_T27 l1 x13_1).f0)) || (!(((rd_T27 l0 x13_1).f1) == ((rd_T27 l1 x13_1).f1)))) = false := by simpa using c8
                  clear c8
                  have H' := Aside0.mk H
                  clear H
                  have p228 : 0 ≤ (x13_1 : Int) := of_decide_eq_true (by first | (with_reducible assumption) | assumption)
                  have q228 : x13_1 < (l0.length : Int) := of_decide_eq_true (by first | (with_reducible assumption) | assumption)
                  obtain ⟨ad228, e228, hx228_0, hx228_1⟩ := at_T27 HR0.out x13_1 p228 q228
                  cases e228
                  replace p228 := eq_true p228
                  replace q228 := eq_true q228
                  have p229 : 0 ≤ (x13_1 : Int) := of_decide_eq_true (by first | (with_reducible assumption) | assumption)
                  have q229 : x13_1 < (l1.length : Int) := of_decide_eq_true (by first | (with_reducible assumption) | assumption)
                  obtain ⟨ad229, e229, hx229_0, hx229_1⟩ := at_T27 HR1.out x13_1 p229 q229
                  cases e229
                  replace p229 := eq_true p229
                  replace q229 := eq_true q229
                  go_wp2
                  repeat (go_quiet (fail); try go_wp2)
                  go_roundg k1
                  case measure => have := HK1.out; omega
                  case rel => exact ⟨(wrap64 (x13_1 + 1)), (by first | rfl | (simp; done) | (simp [*]; done)), H', ⟨by have := HK1.out; omega⟩, by repeat (first | exact Drawn0.refl _ | apply Drawn0.step)⟩
              · rw [if_neg c7] at H
                exact absurd H (by simp)
            · rw [if_neg c6] at H
              exact absurd H (by simp)
          · rw [if_neg c5] at H
            exact absurd H (by simp)
        · rw [if_neg c4] at H
          have c4b0 : decide (x13_1 < (l0.length : Int)) = false := decide_eq_false c4
          clear c4
          obtain rfl := Option.some.inj H
          go_wp2
          repeat (go_quiet (fail); try go_wp2)
          go_ret
          exact ⟨by first | rfl | (simp; done) | (simp [*]; done), by repeat (first | exact Drawn0.refl _ | apply Drawn0.step)⟩
  · rw [if_neg c3] at H
    have c3b0 : ((l0.length : Int) == (l1.length : Int)) = false := beq_eq_false_iff_ne.mpr c3
    have c3b1 : ((l0.length : Int) != (l1.length : Int)) = true := bne_iff_ne.mpr c3
    have c3b2 : (l0.length == l1.length) = false := by first | simpa using c3 | (simp at c3 ⊢; omega)
    obtain rfl := Option.some.inj H
    go_enter Tryd.func24, Tryd.ntmps24
    go_wp2
    repeat (go_quiet (fail); try go_wp2)
    go_ret
    exact ⟨by first | rfl | (simp; done) | (simp [*]; done), by repeat (first | exact Drawn0.refl _ | apply Drawn0.step)⟩

/-! ### spec_SameProof: function 14 -/
def spec_SameProof.f (k : Nat) (l0_0 : List (S27)) (a0_1 : Int) (a0_2 : Int) (a0_3 : Int) (a0_4 : Int) (l1_0 : List (S27)) (a1_1 : Int) (a1_2 : Int) (a1_3 : Int) (a1_4 : Int) : Option (Bool) := (spec_SameNodes.f k l0_0 l1_0).bind fun t232 => (if t232 = true then (if (a0_1 == a1_1 && (a0_2 == a1_2)) = true then (if a0_3 = a1_3 then (some (a0_4 == a1_4)) else (some false)) else (some false)) else (some false))
theorem spec_SameProof.mono : ∀ a0 a1 a2 a3 a4 a5 a6 a7 a8 a9 k, LeO (spec_SameProof.f k a0 a1 a2 a3 a4 a5 a6 a7 a8 a9) (spec_SameProof.f (k + 1) a0 a1 a2 a3 a4 a5 a6 a7 a8 a9) := by
  intro a0 a1 a2 a3 a4 a5 a6 a7 a8 a9 k
  unfold spec_SameProof.f
  repeat' first
      | (with_reducible exact spec_SameNodes.mono _ _ _)
      | (with_reducible exact LeO.refl _)
      | (with_reducible exact LeO.none _)
      | (with_reducible refine LeO.ite ?_ ?_)
      | (with_reducible refine LeO.bind ?_ (fun _ => ?_))
      | exact spec_SameNodes.mono _ _ _
      | exact LeO.none _
      | refine LeO.ite ?_ ?_
      | refine LeO.bind ?_ (fun _ => ?_)
set_option maxHeartbeats 8000000 in
set_option maxRecDepth 100000 in
theorem spec_SameProof.calls (k : Nat) (A0_0 : Option Addr) (c0_0 : Nat) (l0_0 : List (S27)) (a0_1 : Int) (a0_2 : Int) (a0_3 : Int) (a0_4 : Int) (A1_0 : Option Addr) (c1_0 : Nat) (l1_0 : List (S27)) (a1_1 : Int) (a1_2 : Int) (a1_3 : Int) (a1_4 : Int) (r : Bool) (w : World) (hr0_0 : Kd.C k27 w A0_0 l0_0.length l0_0) (hc0_0 : l0_0.length ≤ c0_0) (hr1_0 : Kd.C k27 w A1_0 l1_0.length l1_0) (hc1_0 : l1_0.length ≤ c1_0) (h : spec_SameProof.f k l0_0 a0_1 a0_2 a0_3 a0_4 l1_0 a1_1 a1_2 a1_3 a1_4 = some r) :
    Calls Tryd.prog 14 #[.agg #[.slice A0_0 l0_0.length c0_0, .int .u64 a0_1, .int .u64 a0_2, .int .i64 a0_3, .int .i64 a0_4], .agg #[.slice A1_0 l1_0.length c1_0, .int .u64 a1_1, .int .u64 a1_2, .int .i64 a1_3, .int .i64 a1_4]] w fun e w' => e = .returned (.bool r) ∧ Below w.heap.size w w' := by
  have hu36 := Tryd.underlying36
  have hu27 := Tryd.underlying27
  have HR0_0 := Aside0.mk hr0_0
  have HC0_0 := Aside0.mk hc0_0
  clear hr0_0 hc0_0
  have HR1_0 := Aside0.mk hr1_0
  have HC1_0 := Aside0.mk hc1_0
  clear hr1_0 hc1_0
  have HB := Aside0.mk (Below.refl w.heap.size w)
  have H : ((spec_SameNodes.f k l0_0 l1_0).bind fun t232 => (if t232 = true then (if (a0_1 == a1_1 && (a0_2 == a1_2)) = true then (if a0_3 = a1_3 then (some (a0_4 == a1_4)) else (some false)) else (some false)) else (some false))) = some r := h
  clear h
  replace H := Option.bind_eq_some_iff.mp H
  obtain ⟨t232, A30, H⟩ := H
  replace H : (if t232 = true then (if (a0_1 == a1_1 && (a0_2 == a1_2)) = true then (if a0_3 = a1_3 then (some (a0_4 == a1_4)) else (some false)) else (some false)) else (some false)) = some r := H
  have A3 := Aside0.mk A30
  clear A30
  by_cases c4 : t232 = true
  · subst c4
    have H1 : (if (a0_1 == a1_1 && (a0_2 == a1_2)) = true then (if a0_3 = a1_3 then (some (a0_4 == a1_4)) else (some false)) else (some false)) = some r := by rw [if_pos rfl] at H; exact H
    clear H
    have H := H1
    clear H1
    by_cases c5 : (a0_1 == a1_1 && (a0_2 == a1_2)) = true
    · rw [if_pos c5] at H
      have c5b0 : (a0_1 == a1_1 && (a0_2 == a1_2)) = true := c5
      (try (have c5b1 : decide (a0_1 = a1_1 && (a0_2 == a1_2)) = true := by simpa using c5))
      (try (have c5b2 : (a0_1 == a1_1 && (a0_2 == a1_2)) = true := by simpa using c5))
      clear c5
      by_cases c6 : a0_3 = a1_3
      · rw [if_pos c6] at H
        have c6b0 : (a0_3 == a1_3) = true := beq_iff_eq.mpr c6
        have c6b1 : (a0_3 != a1_3) = false := bne_eq_false_iff_eq.mpr c6
        clear c6
        obtain rfl := Option.some.inj H
        go_enter Tryd.func14, Tryd.ntmps14
        go_wp2_with (first | ((with_reducible refine gate_dst (N := 2) rfl ?_); refine box_event ?hg (N := 2) ?hd (cs := #[.slice A0_0 l0_0.length c0_0, .int .u64 a0_1, .int .u64 a0_2, .int .i64 a0_3, .int .i64 a0_4]) (t := 36) ?hr ?_; (case hd => rfl); (case hg => rfl); (case hr => first | (go_simp; done) | (go_simp; rfl)); intro gb230 hg w7 hbox hb; have n0_ := Aside0.mk (below_step (by repeat (first | (with_reducible first | exact HB.out | apply below_alloc | apply pw_below_drewN | apply below_drew1) | exact HB.out)) hb); have n1_ := Aside0.mk (hbox); have n2_ := Aside0.mk ((by rw [hg]; exact (below_size (by repeat (first | (with_reducible first | exact HB.out | apply below_alloc | apply pw_below_drewN | apply below_drew1) | exact HB.out))) : w.heap.size ≤ gb230)); have n3_ := Aside0.mk ((by rw [hg]; exact (below_size (by repeat (first | (with_reducible first | exact HB.out | apply below_alloc | apply pw_below_drewN | apply below_drew1) | exact HB.out))) : w.heap.size ≤ gb230)); clear HB; have HB := n0_; have BK230 := n1_; have GW230 := n2_; have GE230 := n3_; clear n0_ n1_ n2_ n3_; clear hb hbox hg) | ((with_reducible refine gate_dst (N := 3) rfl ?_); refine box_event ?hg (N := 3) ?hd (cs := #[.slice A1_0 l1_0.length c1_0, .int .u64 a1_1, .int .u64 a1_2, .int .i64 a1_3, .int .i64 a1_4]) (t := 36) ?hr ?_; (case hd => rfl); (case hg => rfl); (case hr => first | (go_simp; done) | (go_simp; rfl)); intro gb231 hg w8 hbox hb; have n0_ := Aside0.mk (blk_below (g := gb230) (o := .cells #[.slice A0_0 l0_0.length c0_0, .int .u64 a0_1, .int .u64 a0_2, .int .i64 a0_3, .int .i64 a0_4] 36 (0, 0)) (by (with_reducible repeat (first | refine blk_drewN ?_ _ | refine blk_drew ?_ | refine blk_alloc ?_ _)); exact BK230.out) hb); have n1_ := Aside0.mk (below_step (by repeat (first | (with_reducible first | exact HB.out | apply below_alloc | apply pw_below_drewN | apply below_drew1 | refine below_set ?_ GE230.out) | exact HB.out)) hb); have n2_ := Aside0.mk (hbox); have n3_ := Aside0.mk ((by rw [hg]; exact (below_size (by repeat (first | (with_reducible first | exact HB.out | apply below_alloc | apply pw_below_drewN | apply below_drew1 | refine below_set ?_ GE230.out) | exact HB.out))) : w.heap.size ≤ gb231)); have n4_ := Aside0.mk ((by rw [hg]; exact (below_size (by repeat (first | (with_reducible first | exact HB.out | apply below_alloc | apply pw_below_drewN | apply below_drew1 | refine below_set ?_ GE230.out) | exact HB.out))) : w.heap.size ≤ gb231)); have n5_ := Aside0.mk ((by rw [hg]; exact Nat.ne_of_lt (blk_lt (g := gb230) (o := .cells #[.slice A0_0 l0_0.length c0_0, .int .u64 a0_1, .int .u64 a0_2, .int .i64 a0_3, .int .i64 a0_4] 36 (0, 0)) (by (with_reducible repeat (first | refine blk_drewN ?_ _ | refine blk_drew ?_ | refine blk_alloc ?_ _)); exact BK230.out)) : gb230 ≠ gb231)); have n6_ := Aside0.mk ((by rw [hg]; exact Nat.ne_of_gt (blk_lt (g := gb230) (o := .cells #[.slice A0_0 l0_0.length c0_0, .int .u64 a0_1, .int .u64 a0_2, .int .i64 a0_3, .int .i64 a0_4] 36 (0, 0)) (by (with_reducible repeat (first | refine blk_drewN ?_ _ | refine blk_drew ?_ | refine blk_alloc ?_ _)); exact BK230.out)) : gb231 ≠ gb230)); clear BK230; clear HB; have BK230 := n0_; have HB := n1_; have BK231 := n2_; have GW231 := n3_; have GE231 := n4_; have NB230_231 := n5_; have NB231_230 := n6_; clear n0_ n1_ n2_ n3_ n4_ n5_ n6_; clear hb hbox hg; have hnb9 := NB230_231.out; have hnc9 := NB231_230.out; have hcz10_0 : w8.cell? ⟨gb230, 0, none⟩ = some (.slice A0_0 l0_0.length c0_0) := (blk_cell BK230.out 0).trans rfl; have hcz10_1 : w8.cell? ⟨gb230, 1, none⟩ = some (.int .u64 a0_1) := (blk_cell BK230.out 1).trans rfl; have hcz10_2 : w8.cell? ⟨gb230, 2, none⟩ = some (.int .u64 a0_2) := (blk_cell BK230.out 2).trans rfl; have hcz10_3 : w8.cell? ⟨gb230, 3, none⟩ = some (.int .i64 a0_3) := (blk_cell BK230.out 3).trans rfl; have hcz10_4 : w8.cell? ⟨gb230, 4, none⟩ = some (.int .i64 a0_4) := (blk_cell BK230.out 4).trans rfl; have hfz10_0 := blk_frozen BK230.out 0; have hfz10_1 := blk_frozen BK230.out 1; have hfz10_2 := blk_frozen BK230.out 2; have hfz10_3 := blk_frozen BK230.out 3; have hfz10_4 := blk_frozen BK230.out 4; have hcz11_0 : w8.cell? ⟨gb231, 0, none⟩ = some (.slice A1_0 l1_0.length c1_0) := (blk_cell BK231.out 0).trans rfl; have hcz11_1 : w8.cell? ⟨gb231, 1, none⟩ = some (.int .u64 a1_1) := (blk_cell BK231.out 1).trans rfl; have hcz11_2 : w8.cell? ⟨gb231, 2, none⟩ = some (.int .u64 a1_2) := (blk_cell BK231.out 2).trans rfl; have hcz11_3 : w8.cell? ⟨gb231, 3, none⟩ = some (.int .i64 a1_3) := (blk_cell BK231.out 3).trans rfl; have hcz11_4 : w8.cell? ⟨gb231, 4, none⟩ = some (.int .i64 a1_4) := (blk_cell BK231.out 4).trans rfl; have hfz11_0 := blk_frozen BK231.out 0; have hfz11_1 := blk_frozen BK231.out 1; have hfz11_2 := blk_frozen BK231.out 2; have hfz11_3 := blk_frozen BK231.out 3; have hfz11_4 := blk_frozen BK231.out 4) | ((with_reducible refine gate_callee (f := 24) rfl ?_); refine goesL_ (some 9) rfl rfl Tryd.func24 (by kernel_rfl) rfl #[.slice A0_0 l0_0.length c0_0, .slice A1_0 l1_0.length c1_0] rfl (by (try simp only [List.map_toArray, List.map_cons, List.map_nil]); first | done | rfl | (simp only [List.length_drop, List.length_take]; rfl)) ?_; (with_reducible refine (spec_SameNodes.calls k _ _ l0_0 _ _ l1_0 true _ ?side1 ?side2 ?side3 ?side4 A3.out).mono ?_); (case side1 => repeat (first | exact (Kd.C_below HR0_0.out HB.out) | (with_reducible refine Kd.C_alloc ?_ _) | (with_reducible refine Kd.C_drewN ?_ _) | (with_reducible refine Kd.C_drew ?_))); (case side2 => exact HC0_0.out); (case side3 => repeat (first | exact (Kd.C_below HR1_0.out HB.out) | (with_reducible refine Kd.C_alloc ?_ _) | (with_reducible refine Kd.C_drewN ?_ _) | (with_reducible refine Kd.C_drew ?_))); (case side4 => exact HC1_0.out); rintro e w' ⟨rfl, ⟨nd, rfl⟩⟩; refine ⟨_, rfl, ?_⟩))
        go_ret
        exact ⟨by first | rfl | (simp [errW_none, errW_some] <;> rfl) | (simp [*, errW_none, errW_some] <;> rfl), by repeat (first | (with_reducible first | exact HB.out | apply below_alloc | apply pw_below_drewN | apply below_drew1 | refine below_set ?_ GE230.out | refine below_set ?_ GE231.out) | exact HB.out)⟩
      · rw [if_neg c6] at H
        have c6b0 : (a0_3 == a1_3) = false := beq_eq_false_iff_ne.mpr c6
        have c6b1 : (a0_3 != a1_3) = true := bne_iff_ne.mpr c6
        obtain rfl := Option.some.inj H
        go_enter Tryd.func14, Tryd.ntmps14
        go_wp2_with (first | ((with_reducible refine gate_dst (N := 2) rfl ?_); refine box_event ?hg (N := 2) ?hd (cs := #[.slice A0_0 l0_0.length c0_0, .int .u64 a0_1, .int .u64 a0_2, .int .i64 a0_3, .int .i64 a0_4]) (t := 36) ?hr ?_; (case hd => rfl); (case hg => rfl); (case hr => first | (go_simp; done) | (go_simp; rfl)); intro gb230 hg w12 hbox hb; have n0_ := Aside0.mk (below_step (by repeat (first | (with_reducible first | exact HB.out | apply below_alloc | apply pw_below_drewN | apply below_drew1) | exact HB.out)) hb); have n1_ := Aside0.mk (hbox); have n2_ := Aside0.mk ((by rw [hg]; exact (below_size (by repeat (first | (with_reducible first | exact HB.out | apply below_alloc | apply pw_below_drewN | apply below_drew1) | exact HB.out))) : w.heap.size ≤ gb230)); have n3_ := Aside0.mk ((by rw [hg]; exact (below_size (by repeat (first | (with_reducible first | exact HB.out | apply below_alloc | apply pw_below_drewN | apply below_drew1) | exact HB.out))) : w.heap.size ≤ gb230)); clear HB; have HB := n0_; have BK230 := n1_; have GW230 := n2_; have GE230 := n3_; clear n0_ n1_ n2_ n3_; clear hb hbox hg) | ((with_reducible refine gate_dst (N := 3) rfl ?_); refine box_event ?hg (N := 3) ?hd (cs := #[.slice A1_0 l1_0.length c1_0, .int .u64 a1_1, .int .u64 a1_2, .int .i64 a1_3, .int .i64 a1_4]) (t := 36) ?hr ?_; (case hd => rfl); (case hg => rfl); (case hr => first | (go_simp; done) | (go_simp; rfl)); intro gb231 hg w13 hbox hb; have n0_ := Aside0.mk (blk_below (g := gb230) (o := .cells #[.slice A0_0 l0_0.length c0_0, .int .u64 a0_1, .int .u64 a0_2, .int .i64 a0_3, .int .i64 a0_4] 36 (0, 0)) (by (with_reducible repeat (first | refine blk_drewN ?_ _ | refine blk_drew ?_ | refine blk_alloc ?_ _)); exact BK230.out) hb); have n1_ := Aside0.mk (below_step (by repeat (first | (with_reducible first | exact HB.out | apply below_alloc | apply pw_below_drewN | apply below_drew1 | refine below_set ?_ GE230.out) | exact HB.out)) hb); have n2_ := Aside0.mk (hbox); have n3_ := Aside0.mk ((by rw [hg]; exact (below_size (by repeat (first | (with_reducible first | exact HB.out | apply below_alloc | apply pw_below_drewN | apply below_drew1 | refine below_set ?_ GE230.out) | exact HB.out))) : w.heap.size ≤ gb231)); have n4_ := Aside0.mk ((by rw [hg]; exact (below_size (by repeat (first | (with_reducible first | exact HB.out | apply below_alloc | apply pw_below_drewN | apply below_drew1 | refine below_set ?_ GE230.out) | exact HB.out))) : w.heap.size ≤ gb231)); have n5_ := Aside0.mk ((by rw [hg]; exact Nat.ne_of_lt (blk_lt (g := gb230) (o := .cells #[.slice A0_0 l0_0.length c0_0, .int .u64 a0_1, .int .u64 a0_2, .int .i64 a0_3, .int .i64 a0_4] 36 (0, 0)) (by (with_reducible repeat (first | refine blk_drewN ?_ _ | refine blk_drew ?_ | refine blk_alloc ?_ _)); exact BK230.out)) : gb230 ≠ gb231)); have n6_ := Aside0.mk ((by rw [hg]; exact Nat.ne_of_gt (blk_lt (g := gb230) (o := .cells #[.slice A0_0 l0_0.length c0_0, .int .u64 a0_1, .int .u64 a0_2, .int .i64 a0_3, .int .i64 a0_4] 36 (0, 0)) (by (with_reducible repeat (first | refine blk_drewN ?_ _ | refine blk_drew ?_ | refine blk_alloc ?_ _)); exact BK230.out)) : gb231 ≠ gb230)); clear BK230; clear HB; have BK230 := n0_; have HB := n1_; have BK231 := n2_; have GW231 := n3_; have GE231 := n4_; have NB230_231 := n5_; have NB231_230 := n6_; clear n0_ n1_ n2_ n3_ n4_ n5_ n6_; clear hb hbox hg; have hnb14 := NB230_231.out; have hnc14 := NB231_230.out; have hcz15_0 : w13.cell? ⟨gb230, 0, none⟩ = some (.slice A0_0 l0_0.length c0_0) := (blk_cell BK230.out 0).trans rfl; have hcz15_1 : w13.cell? ⟨gb230, 1, none⟩ = some (.int .u64 a0_1) := (blk_cell BK230.out 1).trans rfl; have hcz15_2 : w13.cell? ⟨gb230, 2, none⟩ = some (.int .u64 a0_2) := (blk_cell BK230.out 2).trans rfl; have hcz15_3 : w13.cell? ⟨gb230, 3, none⟩ = some (.int .i64 a0_3) := (blk_cell BK230.out 3).trans rfl; have hcz15_4 : w13.cell? ⟨gb230, 4, none⟩ = some (.int .i64 a0_4) := (blk_cell BK230.out 4).trans rfl; have hfz15_0 := blk_frozen BK230.out 0; have hfz15_1 := blk_frozen BK230.out 1; have hfz15_2 := blk_frozen BK230.out 2; have hfz15_3 := blk_frozen BK230.out 3; have hfz15_4 := blk_frozen BK230.out 4; have hcz16_0 : w13.cell? ⟨gb231, 0, none⟩ = some (.slice A1_0 l1_0.length c1_0) := (blk_cell BK231.out 0).trans rfl; have hcz16_1 : w13.cell? ⟨gb231, 1, none⟩ = some (.int .u64 a1_1) := (blk_cell BK231.out 1).trans rfl; have hcz16_2 : w13.cell? ⟨gb231, 2, none⟩ = some (.int .u64 a1_2) := (blk_cell BK231.out 2).trans rfl; have hcz16_3 : w13.cell? ⟨gb231, 3, none⟩ = some (.int .i64 a1_3) := (blk_cell BK231.out 3).trans rfl; have hcz16_4 : w13.cell? ⟨gb231, 4, none⟩ = some (.int .i64 a1_4) := (blk_cell BK231.out 4).trans rfl; have hfz16_0 := blk_frozen BK231.out 0; have hfz16_1 := blk_frozen BK231.out 1; have hfz16_2 := blk_frozen BK231.out 2; have hfz16_3 := blk_frozen BK231.out 3; have hfz16_4 := blk_frozen BK231.out 4) | ((with_reducible refine gate_callee (f := 24) rfl ?_); refine goesL_ (some 9) rfl rfl Tryd.func24 (by kernel_rfl) rfl #[.slice A0_0 l0_0.length c0_0, .slice A1_0 l1_0.length c1_0] rfl (by (try simp only [List.map_toArray, List.map_cons, List.map_nil]); first | done | rfl | (simp only [List.length_drop, List.length_take]; rfl)) ?_; (with_reducible refine (spec_SameNodes.calls k _ _ l0_0 _ _ l1_0 true _ ?side1 ?side2 ?side3 ?side4 A3.out).mono ?_); (case side1 => repeat (first | exact (Kd.C_below HR0_0.out HB.out) | (with_reducible refine Kd.C_alloc ?_ _) | (with_reducible refine Kd.C_drewN ?_ _) | (with_reducible refine Kd.C_drew ?_))); (case side2 => exact HC0_0.out); (case side3 => repeat (first | exact (Kd.C_below HR1_0.out HB.out) | (with_reducible refine Kd.C_alloc ?_ _) | (with_reducible refine Kd.C_drewN ?_ _) | (with_reducible refine Kd.C_drew ?_))); (case side4 => exact HC1_0.out); rintro e w' ⟨rfl, ⟨nd, rfl⟩⟩; refine ⟨_, rfl, ?_⟩))
        go_ret
        exact ⟨by first | rfl | (simp [errW_none, errW_some] <;> rfl) | (simp [*, errW_none, errW_some] <;> rfl), by repeat (first | (with_reducible first | exact HB.out | apply below_alloc | apply pw_below_drewN | apply below_drew1 | refine below_set ?_ GE230.out | refine below_set ?_ GE231.out) | exact HB.out)⟩
    · rw [if_neg c5] at H
      have c5b0 : (a0_1 == a1_1 && (a0_2 == a1_2)) = false := by simpa using c5
      (try (have c5b1 : decide (a0_1 = a1_1 && (a0_2 == a1_2)) = false := by simpa using c5))
      (try (have c5b2 : (a0_1 == a1_1 && (a0_2 == a1_2)) = false := by simpa using c5))
      (try (have c5b3 : ¬ (a0_1 = a1_1 && (a0_2 == a1_2)) := by simpa using c5))
      clear c5
      obtain rfl := Option.some.inj H
      go_enter Tryd.func14, Tryd.ntmps14
      go_wp2_with (first | ((with_reducible refine gate_dst (N := 2) rfl ?_); refine box_event ?hg (N := 2) ?hd (cs := #[.slice A0_0 l0_0.length c0_0, .int .u64 a0_1, .int .u64 a0_2, .int .i64 a0_3, .int .i64 a0_4]) (t := 36) ?hr ?_; (case hd => rfl); (case hg => rfl); (case hr => first | (go_simp; done) | (go_simp; rfl)); intro gb230 hg w17 hbox hb; have n0_ := Aside0.mk (below_step (by repeat (first | (with_reducible first | exact HB.out | apply below_alloc | apply pw_below_drewN | apply below_drew1) | exact HB.out)) hb); have n1_ := Aside0.mk (hbox); have n2_ := Aside0.mk ((by rw [hg]; exact (below_size (by repeat (first | (with_reducible first | exact HB.out | apply below_alloc | apply pw_below_drewN | apply below_drew1) | exact HB.out))) : w.heap.size ≤ gb230)); have n3_ := Aside0.mk ((by rw [hg]; exact (below_size (by repeat (first | (with_reducible first | exact HB.out | apply below_alloc | apply pw_below_drewN | apply below_drew1) | exact HB.out))) : w.heap.size ≤ gb230)); clear HB; have HB := n0_; have BK230 := n1_; have GW230 := n2_; have GE230 := n3_; clear n0_ n1_ n2_ n3_; clear hb hbox hg) | ((with_reducible refine gate_dst (N := 3) rfl ?_); refine box_event ?hg (N := 3) ?hd (cs := #[.slice A1_0 l1_0.length c1_0, .int .u64 a1_1, .int .u64 a1_2, .int .i64 a1_3, .int .i64 a1_4]) (t := 36) ?hr ?_; (case hd => rfl); (case hg => rfl); (case hr => first | (go_simp; done) | (go_simp; rfl)); intro gb231 hg w18 hbox hb; have n0_ := Aside0.mk (blk_below (g := gb230) (o := .cells #[.slice A0_0 l0_0.length c0_0, .int .u64 a0_1, .int .u64 a0_2, .int .i64 a0_3, .int .i64 a0_4] 36 (0, 0)) (by (with_reducible repeat (first | refine blk_drewN ?_ _ | refine blk_drew ?_ | refine blk_alloc ?_ _)); exact BK230.out) hb); have n1_ := Aside0.mk (below_step (by repeat (first | (with_reducible first | exact HB.out | apply below_alloc | apply pw_below_drewN | apply below_drew1 | refine below_set ?_ GE230.out) | exact HB.out)) hb); have n2_ := Aside0.mk (hbox); have n3_ := Aside0.mk ((by rw [hg]; exact (below_size (by repeat (first | (with_reducible first | exact HB.out | apply below_alloc | apply pw_below_drewN | apply below_drew1 | refine below_set ?_ GE230.out) | exact HB.out))) : w.heap.size ≤ gb231)); have n4_ := Aside0.mk ((by rw [hg]; exact (below_size (by repeat (first | (with_reducible first | exact HB.out | apply below_alloc | apply pw_below_drewN | apply below_drew1 | refine below_set ?_ GE230.out) | exact HB.out))) : w.heap.size ≤ gb231)); have n5_ := Aside0.mk ((by rw [hg]; exact Nat.ne_of_lt (blk_lt (g := gb230) (o := .cells #[.slice A0_0 l0_0.length c0_0, .int .u64 a0_1, .int .u64 a0_2, .int .i64 a0_3, .int .i64 a0_4] 36 (0, 0)) (by (with_reducible repeat (first | refine blk_drewN ?_ _ | refine blk_drew ?_ | refine blk_alloc ?_ _)); exact BK230.out)) : gb230 ≠ gb231)); have n6_ := Aside0.mk ((by rw [hg]; exact Nat.ne_of_gt (blk_lt (g := gb230) (o := .cells #[.slice A0_0 l0_0.length c0_0, .int .u64 a0_1, .int .u64 a0_2, .int .i64 a0_3, .int .i64 a0_4] 36 (0, 0)) (by (with_reducible repeat (first | refine blk_drewN ?_ _ | refine blk_drew ?_ | refine blk_alloc ?_ _)); exact BK230.out)) : gb231 ≠ gb230)); clear BK230; clear HB; have BK230 := n0_; have HB := n1_; have BK231 := n2_; have GW231 := n3_; have GE231 := n4_; have NB230_231 := n5_; have NB231_230 := n6_; clear n0_ n1_ n2_ n3_ n4_ n5_ n6_; clear hb hbox hg; have hnb19 := NB230_231.out; have hnc19 := NB231_230.out; have hcz20_0 : w18.cell? ⟨gb230, 0, none⟩ = some (.slice A0_0 l0_0.length c0_0) := (blk_cell BK230.out 0).trans rfl; have hcz20_1 : w18.cell? ⟨gb230, 1, none⟩ = some (.int .u64 a0_1) := (blk_cell BK230.out 1).trans rfl; have hcz20_2 : w18.cell? ⟨gb230, 2, none⟩ = some (.int .u64 a0_2) := (blk_cell BK230.out 2).trans rfl; have hcz20_3 : w18.cell? ⟨gb230, 3, none⟩ = some (.int .i64 a0_3) := (blk_cell BK230.out 3).trans rfl; have hcz20_4 : w18.cell? ⟨gb230, 4, none⟩ = some (.int .i64 a0_4) := (blk_cell BK230.out 4).trans rfl; have hfz20_0 := blk_frozen BK230.out 0; have hfz20_1 := blk_frozen BK230.out 1; have hfz20_2 := blk_frozen BK230.out 2; have hfz20_3 := blk_frozen BK230.out 3; have hfz20_4 := blk_frozen BK230.out 4; have hcz21_0 : w18.cell? ⟨gb231, 0, none⟩ = some (.slice A1_0 l1_0.length c1_0) := (blk_cell BK231.out 0).trans rfl; have hcz21_1 : w18.cell? ⟨gb231, 1, none⟩ = some (.int .u64 a1_1) := (blk_cell BK231.out 1).trans rfl; have hcz21_2 : w18.cell? ⟨gb231, 2, none⟩ = some (.int .u64 a1_2) := (blk_cell BK231.out 2).trans rfl; have hcz21_3 : w18.cell? ⟨gb231, 3, none⟩ = some (.int .i64 a1_3) := (blk_cell BK231.out 3).trans rfl; have hcz21_4 : w18.cell? ⟨gb231, 4, none⟩ = some (.int .i64 a1_4) := (blk_cell BK231.out 4).trans rfl; have hfz21_0 := blk_frozen BK231.out 0; have hfz21_1 := blk_frozen BK231.out 1; have hfz21_2 := blk_frozen BK231.out 2; have hfz21_3 := blk_frozen BK231.out 3; have hfz21_4 := blk_frozen BK231.out 4) | ((with_reducible refine gate_callee (f := 24) rfl ?_); refine goesL_ (some 9) rfl rfl Tryd.func24 (by kernel_rfl) rfl #[.slice A0_0 l0_0.length c0_0, .slice A1_0 l1_0.length c1_0] rfl (by (try simp only [List.map_toArray, List.map_cons, List.map_nil]); first | done | rfl | (simp only [List.length_drop, List.length_take]; rfl)) ?_; (with_reducible refine (spec_SameNodes.calls k _ _ l0_0 _ _ l1_0 true _ ?side1 ?side2 ?side3 ?side4 A3.out).mono ?_); (case side1 => repeat (first | exact (Kd.C_below HR0_0.out HB.out) | (with_reducible refine Kd.C_alloc ?_ _) | (with_reducible refine Kd.C_drewN ?_ _) | (with_reducible refine Kd.C_drew ?_))); (case side2 => exact HC0_0.out); (case side3 => repeat (first | exact (Kd.C_below HR1_0.out HB.out) | (with_reducible refine Kd.C_alloc ?_ _) | (with_reducible refine Kd.C_drewN ?_ _) | (with_reducible refine Kd.C_drew ?_))); (case side4 => exact HC1_0.out); rintro e w' ⟨rfl, ⟨nd, rfl⟩⟩; refine ⟨_, rfl, ?_⟩))
      go_ret
      exact ⟨by first | rfl | (simp [errW_none, errW_some] <;> rfl) | (simp [*, errW_none, errW_some] <;> rfl), by repeat (first | (with_reducible first | exact HB.out | apply below_alloc | apply pw_below_drewN | apply below_drew1 | refine below_set ?_ GE230.out | refine below_set ?_ GE231.out) | exact HB.out)⟩
  · replace c4 := Bool.eq_false_iff.mpr c4
    subst c4
    have H1 : (some false) = some r := by rw [if_neg (show ¬ (false = true) by decide)] at H; exact H
    clear H
    have H := H1
    clear H1
    obtain rfl := Option.some.inj H
    go_enter Tryd.func14, Tryd.ntmps14
    go_wp2_with (first | ((with_reducible refine gate_dst (N := 2) rfl ?_); refine box_event ?hg (N := 2) ?hd (cs := #[.slice A0_0 l0_0.length c0_0, .int .u64 a0_1, .int .u64 a0_2, .int .i64 a0_3, .int .i64 a0_4]) (t := 36) ?hr ?_; (case hd => rfl); (case hg => rfl); (case hr => first | (go_simp; done) | (go_simp; rfl)); intro gb230 hg w22 hbox hb; have n0_ := Aside0.mk (below_step (by repeat (first | (with_reducible first | exact HB.out | apply below_alloc | apply pw_below_drewN | apply below_drew1) | exact HB.out)) hb); have n1_ := Aside0.mk (hbox); have n2_ := Aside0.mk ((by rw [hg]; exact (below_size (by repeat (first | (with_reducible first | exact HB.out | apply below_alloc | apply pw_below_drewN | apply below_drew1) | exact HB.out))) : w.heap.size ≤ gb230)); have n3_ := Aside0.mk ((by rw [hg]; exact (below_size (by repeat (first | (with_reducible first | exact HB.out | apply below_alloc | apply pw_below_drewN | apply below_drew1) | exact HB.out))) : w.heap.size ≤ gb230)); clear HB; have HB := n0_; have BK230 := n1_; have GW230 := n2_; have GE230 := n3_; clear n0_ n1_ n2_ n3_; clear hb hbox hg) | ((with_reducible refine gate_dst (N := 3) rfl ?_); refine box_event ?hg (N := 3) ?hd (cs := #[.slice A1_0 l1_0.length c1_0, .int .u64 a1_1, .int .u64 a1_2, .int .i64 a1_3, .int .i64 a1_4]) (t := 36) ?hr ?_; (case hd => rfl); (case hg => rfl); (case hr => first | (go_simp; done) | (go_simp; rfl)); intro gb231 hg w23 hbox hb; have n0_ := Aside0.mk (blk_below (g := gb230) (o := .cells #[.slice A0_0 l0_0.length c0_0, .int .u64 a0_1, .int .u64 a0_2, .int .i64 a0_3, .int .i64 a0_4] 36 (0, 0)) (by (with_reducible repeat (first | refine blk_drewN ?_ _ | refine blk_drew ?_ | refine blk_alloc ?_ _)); exact BK230.out) hb); have n1_ := Aside0.mk (below_step (by repeat (first | (with_reducible first | exact HB.out | apply below_alloc | apply pw_below_drewN | apply below_drew1 | refine below_set ?_ GE230.out) | exact HB.out)) hb); have n2_ := Aside0.mk (hbox); have n3_ := Aside0.mk ((by rw [hg]; exact (below_size (by repeat (first | (with_reducible first | exact HB.out | apply below_alloc | apply pw_below_drewN | apply below_drew1 | refine below_set ?_ GE230.out) | exact HB.out))) : w.heap.size ≤ gb231)); have n4_ := Aside0.mk ((by rw [hg]; exact (below_size (by repeat (first | (with_reducible first | exact HB.out | apply below_alloc | apply pw_below_drewN | apply below_drew1 | refine below_set ?_ GE230.out) | exact HB.out))) : w.heap.size ≤ gb231)); have n5_ := Aside0.mk ((by rw [hg]; exact Nat.ne_of_lt (blk_lt (g := gb230) (o := .cells #[.slice A0_0 l0_0.length c0_0, .int .u64 a0_1, .int .u64 a0_2, .int .i64 a0_3, .int .i64 a0_4] 36 (0, 0)) (by (with_reducible repeat (first | refine blk_drewN ?_ _ | refine blk_drew ?_ | refine blk_alloc ?_ _)); exact BK230.out)) : gb230 ≠ gb231)); have n6_ := Aside0.mk ((by rw [hg]; exact Nat.ne_of_gt (blk_lt (g := gb230) (o := .cells #[.slice A0_0 l0_0.length c0_0, .int .u64 a0_1, .int .u64 a0_2, .int .i64 a0_3, .int .i64 a0_4] 36 (0, 0)) (by (with_reducible repeat (first | refine blk_drewN ?_ _ | refine blk_drew ?_ | refine blk_alloc ?_ _)); exact BK230.out)) : gb231 ≠ gb230)); clear BK230; clear HB; have BK230 := n0_; have HB := n1_; have BK231 := n2_; have GW231 := n3_; have GE231 := n4_; have NB230_231 := n5_; have NB231_230 := n6_; clear n0_ n1_ n2_ n3_ n4_ n5_ n6_; clear hb hbox hg; have hnb24 := NB230_231.out; have hnc24 := NB231_230.out; have hcz25_0 : w23.cell? ⟨gb230, 0, none⟩ = some (.slice A0_0 l0_0.length c0_0) := (blk_cell BK230.out 0).trans rfl; have hcz25_1 : w23.cell? ⟨gb230, 1, none⟩ = some (.int .u64 a0_1) := (blk_cell BK230.out 1).trans rfl; have hcz25_2 : w23.cell? ⟨gb230, 2, none⟩ = some (.int .u64 a0_2) := (blk_cell BK230.out 2).trans rfl; have hcz25_3 : w23.cell? ⟨gb230, 3, none⟩ = some (.int .i64 a0_3) := (blk_cell BK230.out 3).trans rfl; have hcz25_4 : w23.cell? ⟨gb230, 4, none⟩ = some (.int .i64 a0_4) := (blk_cell BK230.out 4).trans rfl; have hfz25_0 := blk_frozen BK230.out 0; have hfz25_1 := blk_frozen BK230.out 1; have hfz25_2 := blk_frozen BK230.out 2; have hfz25_3 := blk_frozen BK230.out 3; have hfz25_4 := blk_frozen BK230.out 4; have hcz26_0 : w23.cell? ⟨gb231, 0, none⟩ = some (.slice A1_0 l1_0.length c1_0) := (blk_cell BK231.out 0).trans rfl; have hcz26_1 : w23.cell? ⟨gb231, 1, none⟩ = some (.int .u64 a1_1) := (blk_cell BK231.out 1).trans rfl; have hcz26_2 : w23.cell? ⟨gb231, 2, none⟩ = some (.int .u64 a1_2) := (blk_cell BK231.out 2).trans rfl; have hcz26_3 : w23.cell? ⟨gb231, 3, none⟩ = some (.int .i64 a1_3) := (blk_cell BK231.out 3).trans rfl; have hcz26_4 : w23.cell? ⟨gb231, 4, none⟩ = some (.int .i64 a1_4) := (blk_cell BK231.out 4).trans rfl; have hfz26_0 := blk_frozen BK231.out 0; have hfz26_1 := blk_frozen BK231.out 1; have hfz26_2 := blk_frozen BK231.out 2; have hfz26_3 := blk_frozen BK231.out 3; have hfz26_4 := blk_frozen BK231.out 4) | ((with_reducible refine gate_callee (f := 24) rfl ?_); refine goesL_ (some 9) rfl rfl Tryd.func24 (by kernel_rfl) rfl #[.slice A0_0 l0_0.length c0_0, .slice A1_0 l1_0.length c1_0] rfl (by (try simp only [List.map_toArray, List.map_cons, List.map_nil]); first | done | rfl | (simp only [List.length_drop, List.length_take]; rfl)) ?_; (with_reducible refine (spec_SameNodes.calls k _ _ l0_0 _ _ l1_0 false _ ?side1 ?side2 ?side3 ?side4 A3.out).mono ?_); (case side1 => repeat (first | exact (Kd.C_below HR0_0.out HB.out) | (with_reducible refine Kd.C_alloc ?_ _) | (with_reducible refine Kd.C_drewN ?_ _) | (with_reducible refine Kd.C_drew ?_))); (case side2 => exact HC0_0.out); (case side3 => repeat (first | exact (Kd.C_below HR1_0.out HB.out) | (with_reducible refine Kd.C_alloc ?_ _) | (with_reducible refine Kd.C_drewN ?_ _) | (with_reducible refine Kd.C_drew ?_))); (case side4 => exact HC1_0.out); rintro e w' ⟨rfl, ⟨nd, rfl⟩⟩; refine ⟨_, rfl, ?_⟩))
    go_ret
    exact ⟨by first | rfl | (simp [errW_none, errW_some] <;> rfl) | (simp [*, errW_none, errW_some] <;> rfl), by repeat (first | (with_reducible first | exact HB.out | apply below_alloc | apply pw_below_drewN | apply below_drew1 | refine below_set ?_ GE230.out | refine below_set ?_ GE231.out) | exact HB.out)⟩

end Go.Proofs.YtmcelgfekffinaaDoor.Qt
