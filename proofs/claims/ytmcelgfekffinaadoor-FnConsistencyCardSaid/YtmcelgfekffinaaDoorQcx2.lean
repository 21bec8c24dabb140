-- Written by wip/tools/myprint.py for this seat (the kit's print with changes); Lean checks it.
import Derived.Test.YtmcelgfekffinaaDoorQcx0
import Derived.Test.YtmcelgfekffinaaDoorQcx1
namespace Go.Proofs.YtmcelgfekffinaaDoor.Qc
open Go.RowKit Go.Proofs.YtmcelgfekffinaaDoorW.PrintWords Go.Proofs.YtmcelgfekffinaaDoorW.PrintLast Go.Proofs.YtmcelgfekffinaaDoorW.PrintMore
attribute [local go_sem] max2_int min2_int max_two min_two max_three min_three max_four min_four   -- for this text's walks alone
set_option linter.unusedVariables false
set_option linter.unusedSimpArgs false

attribute [local go_sem high] eqA27
/-! ### spec_SameNodes: function 24 -/
def spec_SameNodes.l0 : Nat → List (S27) → List (S27) → Int → Int → Option (Bool)
  | 0, _, _, _, _ => none
  | k + 1, x0, x1, x12, x13 => if x13 < x12 then (if 0 ≤ x13 then (if x13 < (x0.length : Int) then (if x13 < (x1.length : Int) then (if (!(((rd_T27 x0 x13).f0) == ((rd_T27 x1 x13).f0)) || (!(((rd_T27 x0 x13).f1) == ((rd_T27 x1 x13).f1)))) = true then (some false) else (spec_SameNodes.l0 k x0 x1 x12 (wrap64 (x13 + 1)))) else (none)) else (none)) else (none)) else (some true)
def spec_SameNodes.f (k : Nat) (l0 : List (S27)) (l1 : List (S27)) : Option (Bool) := if (l0.length : Int) = (l1.length : Int) then (spec_SameNodes.l0 k l0 l1 (l0.length : Int) 0) else (some false)
theorem spec_SameNodes.mono_l : ∀ k, (∀ y0 y1 y2 y3, LeO (spec_SameNodes.l0 k y0 y1 y2 y3) (spec_SameNodes.l0 (k + 1) y0 y1 y2 y3))
  | 0 => fun _ _ _ _ r h => by simp [spec_SameNodes.l0] at h
  | k + 1 => by
    have ih0 := spec_SameNodes.mono_l k
    · intro y0 y1 y2 y3
      unfold spec_SameNodes.l0
      repeat' first
      | (with_reducible exact ih0 _ _ _ _)
      | (with_reducible exact LeO.refl _)
      | (with_reducible exact LeO.none _)
      | (with_reducible refine LeO.ite ?_ ?_)
      | (with_reducible refine LeO.bind ?_ (fun _ => ?_))
      | exact ih0 _ _ _ _
      | exact LeO.none _
      | refine LeO.ite ?_ ?_
      | refine LeO.bind ?_ (fun _ => ?_)
theorem spec_SameNodes.mono : ∀ a0 a1 k, LeO (spec_SameNodes.f k a0 a1) (spec_SameNodes.f (k + 1) a0 a1) := by
  intro a0 a1 k
  have ih0 := spec_SameNodes.mono_l k
  unfold spec_SameNodes.f
  repeat' first
      | (with_reducible exact ih0 _ _ _ _)
      | (with_reducible exact LeO.refl _)
      | (with_reducible exact LeO.none _)
      | (with_reducible refine LeO.ite ?_ ?_)
      | (with_reducible refine LeO.bind ?_ (fun _ => ?_))
      | exact ih0 _ _ _ _
      | exact LeO.none _
      | refine LeO.ite ?_ ?_
      | refine LeO.bind ?_ (fun _ => ?_)
set_option maxHeartbeats 8000000 in
set_option maxRecDepth 100000 in
theorem spec_SameNodes.calls (k : Nat) (A0 : Option Addr) (c0 : Nat) (l0 : List (S27)) (A1 : Option Addr) (c1 : Nat) (l1 : List (S27)) (r : Bool) (w : World) (hr0 : Kd.C k27 w A0 l0.length l0) (hc0 : l0.length ≤ c0) (hr1 : Kd.C k27 w A1 l1.length l1) (hc1 : l1.length ≤ c1) (h : spec_SameNodes.f k l0 l1 = some r) :
    Calls Tryd.prog 24 #[.slice A0 l0.length c0, .slice A1 l1.length c1] w fun e w' => e = .returned (.bool r) ∧ Drawn0 w w' := by
  have hu27 := Tryd.underlying27
  have HR0 := Aside0.mk hr0
  have HC0 := Aside0.mk hc0
  clear hr0 hc0
  have HR1 := Aside0.mk hr1
  have HC1 := Aside0.mk hc1
  clear hr1 hc1
  have H : (if (l0.length : Int) = (l1.length : Int) then (spec_SameNodes.l0 k l0 l1 (l0.length : Int) 0) else (some false)) = some r := h
  clear h
  by_cases c3 : (l0.length : Int) = (l1.length : Int)
  · rw [if_pos c3] at H
    have c3b0 : ((l0.length : Int) == (l1.length : Int)) = true := beq_iff_eq.mpr c3
    have c3b1 : ((l0.length : Int) != (l1.length : Int)) = false := bne_eq_false_iff_eq.mpr c3
    have c3b2 : (l0.length == l1.length) = true := by first | simpa using c3 | (simp at c3 ⊢; omega)
    clear c3
    have H' := Aside0.mk H
    clear H
    go_enter Tryd.func24, Tryd.ntmps24
    go_wp2
    repeat (go_quiet (fail); try go_wp2)
    (try simp only [Act.put, List.setIfInBounds_toArray, List.set_cons_zero, List.set_cons_succ])
    go_loopg [13] k (fun kq v13 w' => ∃ (x13_1 : Int), v13 = .int .i64 x13_1 ∧ Aside0 (spec_SameNodes.l0 kq l0 l1 (l0.length : Int) x13_1 = some r) ∧ Aside0 (kq ≤ k) ∧ Drawn0 w w')
    case atStart => exact ⟨(0), (by first | rfl | (simp; done) | (simp [*]; done)), H', ⟨Nat.le_refl _⟩, by repeat (first | exact Drawn0.refl _ | apply Drawn0.step)⟩
    case round =>
      clear H'
      try clear c1
      try clear c2
      try clear p2
      try clear c3
      try clear c3b0
      try clear c3b1
      try clear c3b2
      obtain ⟨x13_1, rfl, HA, HK1, ⟨m1, rfl⟩⟩ := hrel
      cases gk with
      | zero => exact absurd HA.out (by simp [spec_SameNodes.l0])
      | succ k1 =>
        have H := HA.out
        clear HA
        simp only [spec_SameNodes.l0] at H
        by_cases c4 : x13_1 < (l0.length : Int)
        · rw [if_pos c4] at H
          have c4b0 : decide (x13_1 < (l0.length : Int)) = true := decide_eq_true c4
          clear c4
          by_cases c5 : 0 ≤ x13_1
          · rw [if_pos c5] at H
            have c5b0 : decide (0 ≤ x13_1) = true := decide_eq_true c5
            clear c5
            by_cases c6 : x13_1 < (l0.length : Int)
            · rw [if_pos c6] at H
              have c6b0 : decide (x13_1 < (l0.length : Int)) = true := decide_eq_true c6
              clear c6
              by_cases c7 : x13_1 < (l1.length : Int)
              · rw [if_pos c7] at H
                have c7b0 : decide (x13_1 < (l1.length : Int)) = true := decide_eq_true c7
                clear c7
                by_cases c8 : (!(((rd_T27 l0 x13_1).f0) == ((rd_T27 l1 x13_1).f0)) || (!(((rd_T27 l0 x13_1).f1) == ((rd_T27 l1 x13_1).f1)))) = true
                · rw [if_pos c8] at H
                  have c8b0 : (!(((rd_T27 l0 x13_1).f0) == ((rd_T27 l1 x13_1).f0)) || (!(((rd_T27 l0 x13_1).f1) == ((rd_T27 l1 x13_1).f1)))) = true := c8
                  clear c8
                  obtain rfl := Option.some.inj H
                  have p101 : 0 ≤ (x13_1 : Int) := of_decide_eq_true (by first | (with_reducible assumption) | assumption)
                  have q101 : x13_1 < (l0.length : Int) := of_decide_eq_true (by first | (with_reducible assumption) | assumption)
                  obtain ⟨ad101, e101, hx101_0, hx101_1⟩ := at_T27 HR0.out x13_1 p101 q101
                  cases e101
                  replace p101 := eq_true p101
                  replace q101 := eq_true q101
                  have p102 : 0 ≤ (x13_1 : Int) := of_decide_eq_true (by first | (with_reducible assumption) | assumption)
                  have q102 : x13_1 < (l1.length : Int) := of_decide_eq_true (by first | (with_reducible assumption) | assumption)
                  obtain ⟨ad102, e102, hx102_0, hx102_1⟩ := at_T27 HR1.out x13_1 p102 q102
                  cases e102
                  replace p102 := eq_true p102
                  replace q102 := eq_true q102
                  go_wp2
                  repeat (go_quiet (fail); try go_wp2)
                  go_ret
                  exact ⟨by first | rfl | (simp; done) | (simp [*]; done), by repeat (first | exact Drawn0.refl _ | apply Drawn0.step)⟩
                · rw [if_neg c8] at H
                  have c8b0 : (!(((rd_T27 l0 x13_1).f0) == ((rd_T27 l1 x13_1).f0)) || (!(((rd_T27 l0 x13_1).f1) == ((rd_T27 l1 x13_1).f1)))) = false := by simpa using c8
                  clear c8
                  have H' := Aside0.mk H
                  clear H
                  have p101 : 0 ≤ (x13_1 : Int) := of_decide_eq_true (by first | (with_reducible assumption) | assumption)
                  have q101 : x13_1 < (l0.length : Int) := of_decide_eq_true (by first | (with_reducible assumption) | assumption)
                  obtain ⟨ad101, e101, hx101_0, hx101_1⟩ := at_T27 HR0.out x13_1 p101 q101
                  cases e101
                  replace p101 := eq_true p101
                  replace q101 := eq_true q101
                  have p102 : 0 ≤ (x13_1 : Int) := of_decide_eq_true (by first | (with_reducible assumption) | assumption)
                  have q102 : x13_1 < (l1.length : Int) := of_decide_eq_true (by first | (with_reducible assumption) | assumption)
                  obtain ⟨ad102, e102, hx102_0, hx102_1⟩ := at_T27 HR1.out x13_1 p102 q102
                  cases e102
                  replace p102 := eq_true p102
                  replace q102 := eq_true q102
                  go_wp2
                  repeat (go_quiet (fail); try go_wp2)
                  go_roundg k1
                  case measure => have := HK1.out; omega
                  case rel => exact ⟨(wrap64 (x13_1 + 1)), (by first | rfl | (simp; done) | (simp [*]; done)), H', ⟨by have := HK1.out; omega⟩, by repeat (first | exact Drawn0.refl _ | apply Drawn0.step)⟩
              · rw [if_neg c7] at H
                exact absurd H (by simp)
            · rw [if_neg c6] at H
              exact absurd H (by simp)
          · rw [if_neg c5] at H
            exact absurd H (by simp)
        · rw [if_neg c4] at H
          have c4b0 : decide (x13_1 < (l0.length : Int)) = false := decide_eq_false c4
          clear c4
          obtain rfl := Option.some.inj H
          go_wp2
          repeat (go_quiet (fail); try go_wp2)
          go_ret
          exact ⟨by first | rfl | (simp; done) | (simp [*]; done), by repeat (first | exact Drawn0.refl _ | apply Drawn0.step)⟩
  · rw [if_neg c3] at H
    have c3b0 : ((l0.length : Int) == (l1.length : Int)) = false := beq_eq_false_iff_ne.mpr c3
    have c3b1 : ((l0.length : Int) != (l1.length : Int)) = true := bne_iff_ne.mpr c3
    have c3b2 : (l0.length == l1.length) = false := by first | simpa using c3 | (simp at c3 ⊢; omega)
    obtain rfl := Option.some.inj H
    go_enter Tryd.func24, Tryd.ntmps24
    go_wp2
    repeat (go_quiet (fail); try go_wp2)
    go_ret
    exact ⟨by first | rfl | (simp; done) | (simp [*]; done), by repeat (first | exact Drawn0.refl _ | apply Drawn0.step)⟩

/-! ### spec_SameProof: function 14 -/
def spec_SameProof.f (k : Nat) (l0_0 : List (S27)) (a0_1 : Int) (a0_2 : Int) (a0_3 : Int) (a0_4 : Int) (l1_0 : List (S27)) (a1_1 : Int) (a1_2 : Int) (a1_3 : Int) (a1_4 : Int) : Option (Bool) := (spec_SameNodes.f k l0_0 l1_0).bind fun t105 => (if t105 = true then (if (a0_1 == a1_1 && (a0_2 == a1_2)) = true then (if a0_3 = a1_3 then (some (a0_4 == a1_4)) else (some false)) else (some false)) else (some false))
theorem spec_SameProof.mono : ∀ a0 a1 a2 a3 a4 a5 a6 a7 a8 a9 k, LeO (spec_SameProof.f k a0 a1 a2 a3 a4 a5 a6 a7 a8 a9) (spec_SameProof.f (k + 1) a0 a1 a2 a3 a4 a5 a6 a7 a8 a9) := by
  intro a0 a1 a2 a3 a4 a5 a6 a7 a8 a9 k
  unfold spec_SameProof.f
  repeat' first
      | (with_reducible exact spec_SameNodes.mono _ _ _)
      | (with_reducible exact LeO.refl _)
      | (with_reducible exact LeO.none _)
      | (with_reducible refine LeO.ite ?_ ?_)
      | (with_reducible refine LeO.bind ?_ (fun _ => ?_))
      | exact spec_SameNodes.mono _ _ _
      | exact LeO.none _
      | refine LeO.ite ?_ ?_
      | refine LeO.bind ?_ (fun _ => ?_)
set_option maxHeartbeats 8000000 in
set_option maxRecDepth 100000 in
theorem spec_SameProof.calls (k : Nat) (A0_0 : Option Addr) (c0_0 : Nat) (l0_0 : List (S27)) (a0_1 : Int) (a0_2 : Int) (a0_3 : Int) (a0_4 : Int) (A1_0 : Option Addr) (c1_0 : Nat) (l1_0 : List (S27)) (a1_1 : Int) (a1_2 : Int) (a1_3 : Int) (a1_4 : Int) (r : Bool) (w : World) (hr0_0 : Kd.C k27 w A0_0 l0_0.length l0_0) (hc0_0 : l0_0.length ≤ c0_0) (hr1_0 : Kd.C k27 w A1_0 l1_0.length l1_0) (hc1_0 : l1_0.length ≤ c1_0) (h : spec_SameProof.f k l0_0 a0_1 a0_2 a0_3 a0_4 l1_0 a1_1 a1_2 a1_3 a1_4 = some r) :
    Calls Tryd.prog 14 #[.agg #[.slice A0_0 l0_0.length c0_0, .int .u64 a0_1, .int .u64 a0_2, .int .i64 a0_3, .int .i64 a0_4], .agg #[.slice A1_0 l1_0.length c1_0, .int .u64 a1_1, .int .u64 a1_2, .int .i64 a1_3, .int .i64 a1_4]] w fun e w' => e = .returned (.bool r) ∧ Below w.heap.size w w' := by
  have hu36 := Tryd.underlying36
  have hu27 := Tryd.underlying27
  have HR0_0 := Aside0.mk hr0_0
  have HC0_0 := Aside0.mk hc0_0
  clear hr0_0 hc0_0
  have HR1_0 := Aside0.mk hr1_0
  have HC1_0 := Aside0.mk hc1_0
  clear hr1_0 hc1_0
  have HB := Aside0.mk (Below.refl w.heap.size w)
  have H : ((spec_SameNodes.f k l0_0 l1_0).bind fun t105 => (if t105 = true then (if (a0_1 == a1_1 && (a0_2 == a1_2)) = true then (if a0_3 = a1_3 then (some (a0_4 == a1_4)) else (some false)) else (some false)) else (some false))) = some r := h
  clear h
  replace H := Option.bind_eq_some_iff.mp H
  obtain ⟨t105, A30, H⟩ := H
  replace H : (if t105 = true then (if (a0_1 == a1_1 && (a0_2 == a1_2)) = true then (if a0_3 = a1_3 then (some (a0_4 == a1_4)) else (some false)) else (some false)) else (some false)) = some r := H
  have A3 := Aside0.mk A30
  clear A30
  by_cases c4 : t105 = true
  · subst c4
    have H1 : (if (a0_1 == a1_1 && (a0_2 == a1_2)) = true then (if a0_3 = a1_3 then (some (a0_4 == a1_4)) else (some false)) else (some false)) = some r := by rw [if_pos rfl] at H; exact H
    clear H
    have H := H1
    clear H1
    by_cases c5 : (a0_1 == a1_1 && (a0_2 == a1_2)) = true
    · rw [if_pos c5] at H
      have c5b0 : (a0_1 == a1_1 && (a0_2 == a1_2)) = true := c5
      (try (have c5b1 : decide (a0_1 = a1_1 && (a0_2 == a1_2)) = true := by simpa using c5))
      (try (have c5b2 : (a0_1 == a1_1 && (a0_2 == a1_2)) = true := by simpa using c5))
      clear c5
      by_cases c6 : a0_3 = a1_3
      · rw [if_pos c6] at H
        have c6b0 : (a0_3 == a1_3) = true := beq_iff_eq.mpr c6
        have c6b1 : (a0_3 != a1_3) = false := bne_eq_false_iff_eq.mpr c6
        clear c6
        obtain rfl := Option.some.inj H
        go_enter Tryd.func14, Tryd.ntmps14
        go_wp2_with (first | ((with_reducible refine gate_dst (N := 2) rfl ?_); refine box_event ?hg (N := 2) ?hd (cs := #[.slice A0_0 l0_0.length c0_0, .int .u64 a0_1, .int .u64 a0_2, .int .i64 a0_3, .int .i64 a0_4]) (t := 36) ?hr ?_; (case hd => rfl); (case hg => rfl); (case hr => first | (go_simp; done) | (go_simp; rfl)); intro gb103 hg w7 hbox hb; have n0_ := Aside0.mk (below_step (by repeat (first | (with_reducible first | exact HB.out | apply below_alloc | apply pw_below_drewN | apply below_drew1) | exact HB.out)) hb); have n1_ := Aside0.mk (hbox); have n2_ := Aside0.mk ((by rw [hg]; exact (below_size (by repeat (first | (with_reducible first | exact HB.out | apply below_alloc | apply pw_below_drewN | apply below_drew1) | exact HB.out))) : w.heap.size ≤ gb103)); have n3_ := Aside0.mk ((by rw [hg]; exact (below_size (by repeat (first | (with_reducible first | exact HB.out | apply below_alloc | apply pw_below_drewN | apply below_drew1) | exact HB.out))) : w.heap.size ≤ gb103)); clear HB; have HB := n0_; have BK103 := n1_; have GW103 := n2_; have GE103 := n3_; clear n0_ n1_ n2_ n3_; clear hb hbox hg) | ((with_reducible refine gate_dst (N := 3) rfl ?_); refine box_event ?hg (N := 3) ?hd (cs := #[.slice A1_0 l1_0.length c1_0, .int .u64 a1_1, .int .u64 a1_2, .int .i64 a1_3, .int .i64 a1_4]) (t := 36) ?hr ?_; (case hd => rfl); (case hg => rfl); (case hr => first | (go_simp; done) | (go_simp; rfl)); intro gb104 hg w8 hbox hb; have n0_ := Aside0.mk (blk_below (g := gb103) (o := .cells #[.slice A0_0 l0_0.length c0_0, .int .u64 a0_1, .int .u64 a0_2, .int .i64 a0_3, .int .i64 a0_4] 36 (0, 0)) (by (with_reducible repeat (first | refine blk_drewN ?_ _ | refine blk_drew ?_ | refine blk_alloc ?_ _)); exact BK103.out) hb); have n1_ := Aside0.mk (below_step (by repeat (first | (with_reducible first | exact HB.out | apply below_alloc | apply pw_below_drewN | apply below_drew1 | refine below_set ?_ GE103.out) | exact HB.out)) hb); have n2_ := Aside0.mk (hbox); have n3_ := Aside0.mk ((by rw [hg]; exact (below_size (by repeat (first | (with_reducible first | exact HB.out | apply below_alloc | apply pw_below_drewN | apply below_drew1 | refine below_set ?_ GE103.out) | exact HB.out))) : w.heap.size ≤ gb104)); have n4_ := Aside0.mk ((by rw [hg]; exact (below_size (by repeat (first | (with_reducible first | exact HB.out | apply below_alloc | apply pw_below_drewN | apply below_drew1 | refine below_set ?_ GE103.out) | exact HB.out))) : w.heap.size ≤ gb104)); have n5_ := Aside0.mk ((by rw [hg]; exact Nat.ne_of_lt (blk_lt (g := gb103) (o := .cells #[.slice A0_0 l0_0.length c0_0, .int .u64 a0_1, .int .u64 a0_2, .int .i64 a0_3, .int .i64 a0_4] 36 (0, 0)) (by (with_reducible repeat (first | refine blk_drewN ?_ _ | refine blk_drew ?_ | refine blk_alloc ?_ _)); exact BK103.out)) : gb103 ≠ gb104)); have n6_ := Aside0.mk ((by rw [hg]; exact Nat.ne_of_gt (blk_lt (g := gb103) (o := .cells #[.slice A0_0 l0_0.length c0_0, .int .u64 a0_1, .int .u64 a0_2, .int .i64 a0_3, .int .i64 a0_4] 36 (0, 0)) (by (with_reducible repeat (first | refine blk_drewN ?_ _ | refine blk_drew ?_ | refine blk_alloc ?_ _)); exact BK103.out)) : gb104 ≠ gb103)); clear BK103; clear HB; have BK103 := n0_; have HB := n1_; have BK104 := n2_; have GW104 := n3_; have GE104 := n4_; have NB103_104 := n5_; have NB104_103 := n6_; clear n0_ n1_ n2_ n3_ n4_ n5_ n6_; clear hb hbox hg; have hnb9 := NB103_104.out; have hnc9 := NB104_103.out; have hcz10_0 : w8.cell? ⟨gb103, 0, none⟩ = some (.slice A0_0 l0_0.length c0_0) := (blk_cell BK103.out 0).trans rfl; have hcz10_1 : w8.cell? ⟨gb103, 1, none⟩ = some (.int .u64 a0_1) := (blk_cell BK103.out 1).trans rfl; have hcz10_2 : w8.cell? ⟨gb103, 2, none⟩ = some (.int .u64 a0_2) := (blk_cell BK103.out 2).trans rfl; have hcz10_3 : w8.cell? ⟨gb103, 3, none⟩ = some (.int .i64 a0_3) := (blk_cell BK103.out 3).trans rfl; have hcz10_4 : w8.cell? ⟨gb103, 4, none⟩ = some (.int .i64 a0_4) := (blk_cell BK103.out 4).trans rfl; have hfz10_0 := blk_frozen BK103.out 0; have hfz10_1 := blk_frozen BK103.out 1; have hfz10_2 := blk_frozen BK103.out 2; have hfz10_3 := blk_frozen BK103.out 3; have hfz10_4 := blk_frozen BK103.out 4; have hcz11_0 : w8.cell? ⟨gb104, 0, none⟩ = some (.slice A1_0 l1_0.length c1_0) := (blk_cell BK104.out 0).trans rfl; have hcz11_1 : w8.cell? ⟨gb104, 1, none⟩ = some (.int .u64 a1_1) := (blk_cell BK104.out 1).trans rfl; have hcz11_2 : w8.cell? ⟨gb104, 2, none⟩ = some (.int .u64 a1_2) := (blk_cell BK104.out 2).trans rfl; have hcz11_3 : w8.cell? ⟨gb104, 3, none⟩ = some (.int .i64 a1_3) := (blk_cell BK104.out 3).trans rfl; have hcz11_4 : w8.cell? ⟨gb104, 4, none⟩ = some (.int .i64 a1_4) := (blk_cell BK104.out 4).trans rfl; have hfz11_0 := blk_frozen BK104.out 0; have hfz11_1 := blk_frozen BK104.out 1; have hfz11_2 := blk_frozen BK104.out 2; have hfz11_3 := blk_frozen BK104.out 3; have hfz11_4 := blk_frozen BK104.out 4) | ((with_reducible refine gate_callee (f := 24) rfl ?_); refine goesL_ (some 9) rfl rfl Tryd.func24 (by kernel_rfl) rfl #[.slice A0_0 l0_0.length c0_0, .slice A1_0 l1_0.length c1_0] rfl (by (try simp only [List.map_toArray, List.map_cons, List.map_nil]); first | done | rfl | (simp only [List.length_drop, List.length_take]; rfl)) ?_; (with_reducible refine (spec_SameNodes.calls k _ _ l0_0 _ _ l1_0 true _ ?side1 ?side2 ?side3 ?side4 A3.out).mono ?_); (case side1 => repeat (first | exact (Kd.C_below HR0_0.out HB.out) | (with_reducible refine Kd.C_alloc ?_ _) | (with_reducible refine Kd.C_drewN ?_ _) | (with_reducible refine Kd.C_drew ?_))); (case side2 => exact HC0_0.out); (case side3 => repeat (first | exact (Kd.C_below HR1_0.out HB.out) | (with_reducible refine Kd.C_alloc ?_ _) | (with_reducible refine Kd.C_drewN ?_ _) | (with_reducible refine Kd.C_drew ?_))); (case side4 => exact HC1_0.out); rintro e w' ⟨rfl, ⟨nd, rfl⟩⟩; refine ⟨_, rfl, ?_⟩))
        go_ret
        exact ⟨by first | rfl | (simp [errW_none, errW_some] <;> rfl) | (simp [*, errW_none, errW_some] <;> rfl), by repeat (first | (with_reducible first | exact HB.out | apply below_alloc | apply pw_below_drewN | apply below_drew1 | refine below_set ?_ GE103.out | refine below_set ?_ GE104.out) | exact HB.out)⟩
      · rw [if_neg c6] at H
        have c6b0 : (a0_3 == a1_3) = false := beq_eq_false_iff_ne.mpr c6
        have c6b1 : (a0_3 != a1_3) = true := bne_iff_ne.mpr c6
        obtain rfl := Option.some.inj H
        go_enter Tryd.func14, Tryd.ntmps14
        go_wp2_with (first | ((with_reducible refine gate_dst (N := 2) rfl ?_); refine box_event ?hg (N := 2) ?hd (cs := #[.slice A0_0 l0_0.length c0_0, .int .u64 a0_1, .int .u64 a0_2, .int .i64 a0_3, .int .i64 a0_4]) (t := 36) ?hr ?_; (case hd => rfl); (case hg => rfl); (case hr => first | (go_simp; done) | (go_simp; rfl)); intro gb103 hg w12 hbox hb; have n0_ := Aside0.mk (below_step (by repeat (first | (with_reducible first | exact HB.out | apply below_alloc | apply pw_below_drewN | apply below_drew1) | exact HB.out)) hb); have n1_ := Aside0.mk (hbox); have n2_ := Aside0.mk ((by rw [hg]; exact (below_size (by repeat (first | (with_reducible first | exact HB.out | apply below_alloc | apply pw_below_drewN | apply below_drew1) | exact HB.out))) : w.heap.size ≤ gb103)); have n3_ := Aside0.mk ((by rw [hg]; exact (below_size (by repeat (first | (with_reducible first | exact HB.out | apply below_alloc | apply pw_below_drewN | apply below_drew1) | exact HB.out))) : w.heap.size ≤ gb103)); clear HB; have HB := n0_; have BK103 := n1_; have GW103 := n2_; have GE103 := n3_; clear n0_ n1_ n2_ n3_; clear hb hbox hg) | ((with_reducible refine gate_dst (N := 3) rfl ?_); refine box_event ?hg (N := 3) ?hd (cs := #[.slice A1_0 l1_0.length c1_0, .int .u64 a1_1, .int .u64 a1_2, .int .i64 a1_3, .int .i64 a1_4]) (t := 36) ?hr ?_; (case hd => rfl); (case hg => rfl); (case hr => first | (go_simp; done) | (go_simp; rfl)); intro gb104 hg w13 hbox hb; have n0_ := Aside0.mk (blk_below (g := gb103) (o := .cells #[.slice A0_0 l0_0.length c0_0, .int .u64 a0_1, .int .u64 a0_2, .int .i64 a0_3, .int .i64 a0_4] 36 (0, 0)) (by (with_reducible repeat (first | refine blk_drewN ?_ _ | refine blk_drew ?_ | refine blk_alloc ?_ _)); exact BK103.out) hb); have n1_ := Aside0.mk (below_step (by repeat (first | (with_reducible first | exact HB.out | apply below_alloc | apply pw_below_drewN | apply below_drew1 | refine below_set ?_ GE103.out) | exact HB.out)) hb); have n2_ := Aside0.mk (hbox); have n3_ := Aside0.mk ((by rw [hg]; exact (below_size (by repeat (first | (with_reducible first | exact HB.out | apply below_alloc | apply pw_below_drewN | apply below_drew1 | refine below_set ?_ GE103.out) | exact HB.out))) : w.heap.size ≤ gb104)); have n4_ := Aside0.mk ((by rw [hg]; exact (below_size (by repeat (first | (with_reducible first | exact HB.out | apply below_alloc | apply pw_below_drewN | apply below_drew1 | refine below_set ?_ GE103.out) | exact HB.out))) : w.heap.size ≤ gb104)); have n5_ := Aside0.mk ((by rw [hg]; exact Nat.ne_of_lt (blk_lt (g := gb103) (o := .cells #[.slice A0_0 l0_0.length c0_0, .int .u64 a0_1, .int .u64 a0_2, .int .i64 a0_3, .int .i64 a0_4] 36 (0, 0)) (by (with_reducible repeat (first | refine blk_drewN ?_ _ | refine blk_drew ?_ | refine blk_alloc ?_ _)); exact BK103.out)) : gb103 ≠ gb104)); have n6_ := Aside0.mk ((by rw [hg]; exact Nat.ne_of_gt (blk_lt (g := gb103) (o := .cells #[.slice A0_0 l0_0.length c0_0, .int .u64 a0_1, .int .u64 a0_2, .int .i64 a0_3, .int .i64 a0_4] 36 (0, 0)) (by (with_reducible repeat (first | refine blk_drewN ?_ _ | refine blk_drew ?_ | refine blk_alloc ?_ _)); exact BK103.out)) : gb104 ≠ gb103)); clear BK103; clear HB; have BK103 := n0_; have HB := n1_; have BK104 := n2_; have GW104 := n3_; have GE104 := n4_; have NB103_104 := n5_; have NB104_103 := n6_; clear n0_ n1_ n2_ n3_ n4_ n5_ n6_; clear hb hbox hg; have hnb14 := NB103_104.out; have hnc14 := NB104_103.out; have hcz15_0 : w13.cell? ⟨gb103, 0, none⟩ = some (.slice A0_0 l0_0.length c0_0) := (blk_cell BK103.out 0).trans rfl; have hcz15_1 : w13.cell? ⟨gb103, 1, none⟩ = some (.int .u64 a0_1) := (blk_cell BK103.out 1).trans rfl; have hcz15_2 : w13.cell? ⟨gb103, 2, none⟩ = some (.int .u64 a0_2) := (blk_cell BK103.out 2).trans rfl; have hcz15_3 : w13.cell? ⟨gb103, 3, none⟩ = some (.int .i64 a0_3) := (blk_cell BK103.out 3).trans rfl; have hcz15_4 : w13.cell? ⟨gb103, 4, none⟩ = some (.int .i64 a0_4) := (blk_cell BK103.out 4).trans rfl; have hfz15_0 := blk_frozen BK103.out 0; have hfz15_1 := blk_frozen BK103.out 1; have hfz15_2 := blk_frozen BK103.out 2; have hfz15_3 := blk_frozen BK103.out 3; have hfz15_4 := blk_frozen BK103.out 4; have hcz16_0 : w13.cell? ⟨gb104, 0, none⟩ = some (.slice A1_0 l1_0.length c1_0) := (blk_cell BK104.out 0).trans rfl; have hcz16_1 : w13.cell? ⟨gb104, 1, none⟩ = some (.int .u64 a1_1) := (blk_cell BK104.out 1).trans rfl; have hcz16_2 : w13.cell? ⟨gb104, 2, none⟩ = some (.int .u64 a1_2) := (blk_cell BK104.out 2).trans rfl; have hcz16_3 : w13.cell? ⟨gb104, 3, none⟩ = some (.int .i64 a1_3) := (blk_cell BK104.out 3).trans rfl; have hcz16_4 : w13.cell? ⟨gb104, 4, none⟩ = some (.int .i64 a1_4) := (blk_cell BK104.out 4).trans rfl; have hfz16_0 := blk_frozen BK104.out 0; have hfz16_1 := blk_frozen BK104.out 1; have hfz16_2 := blk_frozen BK104.out 2; have hfz16_3 := blk_frozen BK104.out 3; have hfz16_4 := blk_frozen BK104.out 4) | ((with_reducible refine gate_callee (f := 24) rfl ?_); refine goesL_ (some 9) rfl rfl Tryd.func24 (by kernel_rfl) rfl #[.slice A0_0 l0_0.length c0_0, .slice A1_0 l1_0.length c1_0] rfl (by (try simp only [List.map_toArray, List.map_cons, List.map_nil]); first | done | rfl | (simp only [List.length_drop, List.length_take]; rfl)) ?_; (with_reducible refine (spec_SameNodes.calls k _ _ l0_0 _ _ l1_0 true _ ?side1 ?side2 ?side3 ?side4 A3.out).mono ?_); (case side1 => repeat (first | exact (Kd.C_below HR0_0.out HB.out) | (with_reducible refine Kd.C_alloc ?_ _) | (with_reducible refine Kd.C_drewN ?_ _) | (with_reducible refine Kd.C_drew ?_))); (case side2 => exact HC0_0.out); (case side3 => repeat (first | exact (Kd.C_below HR1_0.out HB.out) | (with_reducible refine Kd.C_alloc ?_ _) | (with_reducible refine Kd.C_drewN ?_ _) | (with_reducible refine Kd.C_drew ?_))); (case side4 => exact HC1_0.out); rintro e w' ⟨rfl, ⟨nd, rfl⟩⟩; refine ⟨_, rfl, ?_⟩))
        go_ret
        exact ⟨by first | rfl | (simp [errW_none, errW_some] <;> rfl) | (simp [*, errW_none, errW_some] <;> rfl), by repeat (first | (with_reducible first | exact HB.out | apply below_alloc | apply pw_below_drewN | apply below_drew1 | refine below_set ?_ GE103.out | refine below_set ?_ GE104.out) | exact HB.out)⟩
    · rw [if_neg c5] at H
      have c5b0 : (a0_1 == a1_1 && (a0_2 == a1_2)) = false := by simpa using c5
      (try (have c5b1 : decide (a0_1 = a1_1 && (a0_2 == a1_2)) = false := by simpa using c5))
      (try (have c5b2 : (a0_1 == a1_1 && (a0_2 == a1_2)) = false := by simpa using c5))
      (try (have c5b3 : ¬ (a0_1 = a1_1 && (a0_2 == a1_2)) := by simpa using c5))
      clear c5
      obtain rfl := Option.some.inj H
      go_enter Tryd.func14, Tryd.ntmps14
      go_wp2_with (first | ((with_reducible refine gate_dst (N := 2) rfl ?_); refine box_event ?hg (N := 2) ?hd (cs := #[.slice A0_0 l0_0.length c0_0, .int .u64 a0_1, .int .u64 a0_2, .int .i64 a0_3, .int .i64 a0_4]) (t := 36) ?hr ?_; (case hd => rfl); (case hg => rfl); (case hr => first | (go_simp; done) | (go_simp; rfl)); intro gb103 hg w17 hbox hb; have n0_ := Aside0.mk (below_step (by repeat (first | (with_reducible first | exact HB.out | apply below_alloc | apply pw_below_drewN | apply below_drew1) | exact HB.out)) hb); have n1_ := Aside0.mk (hbox); have n2_ := Aside0.mk ((by rw [hg]; exact (below_size (by repeat (first | (with_reducible first | exact HB.out | apply below_alloc | apply pw_below_drewN | apply below_drew1) | exact HB.out))) : w.heap.size ≤ gb103)); have n3_ := Aside0.mk ((by rw [hg]; exact (below_size (by repeat (first | (with_reducible first | exact HB.out | apply below_alloc | apply pw_below_drewN | apply below_drew1) | exact HB.out))) : w.heap.size ≤ gb103)); clear HB; have HB := n0_; have BK103 := n1_; have GW103 := n2_; have GE103 := n3_; clear n0_ n1_ n2_ n3_; clear hb hbox hg) | ((with_reducible refine gate_dst (N := 3) rfl ?_); refine box_event ?hg (N := 3) ?hd (cs := #[.slice A1_0 l1_0.length c1_0, .int .u64 a1_1, .int .u64 a1_2, .int .i64 a1_3, .int .i64 a1_4]) (t := 36) ?hr ?_; (case hd => rfl); (case hg => rfl); (case hr => first | (go_simp; done) | (go_simp; rfl)); intro gb104 hg w18 hbox hb; have n0_ := Aside0.mk (blk_below (g := gb103) (o := .cells #[.slice A0_0 l0_0.length c0_0, .int .u64 a0_1, .int .u64 a0_2, .int .i64 a0_3, .int .i64 a0_4] 36 (0, 0)) (by (with_reducible repeat (first | refine blk_drewN ?_ _ | refine blk_drew ?_ | refine blk_alloc ?_ _)); exact BK103.out) hb); have n1_ := Aside0.mk (below_step (by repeat (first | (with_reducible first | exact HB.out | apply below_alloc | apply pw_below_drewN | apply below_drew1 | refine below_set ?_ GE103.out) | exact HB.out)) hb); have n2_ := Aside0.mk (hbox); have n3_ := Aside0.mk ((by rw [hg]; exact (below_size (by repeat (first | (with_reducible first | exact HB.out | apply below_alloc | apply pw_below_drewN | apply below_drew1 | refine below_set ?_ GE103.out) | exact HB.out))) : w.heap.size ≤ gb104)); have n4_ := Aside0.mk ((by rw [hg]; exact (below_size (by repeat (first | (with_reducible first | exact HB.out | apply below_alloc | apply pw_below_drewN | apply below_drew1 | refine below_set ?_ GE103.out) | exact HB.out))) : w.heap.size ≤ gb104)); have n5_ := Aside0.mk ((by rw [hg]; exact Nat.ne_of_lt (blk_lt (g := gb103) (o := .cells #[.slice A0_0 l0_0.length c0_0, .int .u64 a0_1, .int .u64 a0_2, .int .i64 a0_3, .int .i64 a0_4] 36 (0, 0)) (by (with_reducible repeat (first | refine blk_drewN ?_ _ | refine blk_drew ?_ | refine blk_alloc ?_ _)); exact BK103.out)) : gb103 ≠ gb104)); have n6_ := Aside0.mk ((by rw [hg]; exact Nat.ne_of_gt (blk_lt (g := gb103) (o := .cells #[.slice A0_0 l0_0.length c0_0, .int .u64 a0_1, .int .u64 a0_2, .int .i64 a0_3, .int .i64 a0_4] 36 (0, 0)) (by (with_reducible repeat (first | refine blk_drewN ?_ _ | refine blk_drew ?_ | refine blk_alloc ?_ _)); exact BK103.out)) : gb104 ≠ gb103)); clear BK103; clear HB; have BK103 := n0_; have HB := n1_; have BK104 := n2_; have GW104 := n3_; have GE104 := n4_; have NB103_104 := n5_; have NB104_103 := n6_; clear n0_ n1_ n2_ n3_ n4_ n5_ n6_; clear hb hbox hg; have hnb19 := NB103_104.out; have hnc19 := NB104_103.out; have hcz20_0 : w18.cell? ⟨gb103, 0, none⟩ = some (.slice A0_0 l0_0.length c0_0) := (blk_cell BK103.out 0).trans rfl; have hcz20_1 : w18.cell? ⟨gb103, 1, none⟩ = some (.int .u64 a0_1) := (blk_cell BK103.out 1).trans rfl; have hcz20_2 : w18.cell? ⟨gb103, 2, none⟩ = some (.int .u64 a0_2) := (blk_cell BK103.out 2).trans rfl; have hcz20_3 : w18.cell? ⟨gb103, 3, none⟩ = some (.int .i64 a0_3) := (blk_cell BK103.out 3).trans rfl; have hcz20_4 : w18.cell? ⟨gb103, 4, none⟩ = some (.int .i64 a0_4) := (blk_cell BK103.out 4).trans rfl; have hfz20_0 := blk_frozen BK103.out 0; have hfz20_1 := blk_frozen BK103.out 1; have hfz20_2 := blk_frozen BK103.out 2; have hfz20_3 := blk_frozen BK103.out 3; have hfz20_4 := blk_frozen BK103.out 4; have hcz21_0 : w18.cell? ⟨gb104, 0, none⟩ = some (.slice A1_0 l1_0.length c1_0) := (blk_cell BK104.out 0).trans rfl; have hcz21_1 : w18.cell? ⟨gb104, 1, none⟩ = some (.int .u64 a1_1) := (blk_cell BK104.out 1).trans rfl; have hcz21_2 : w18.cell? ⟨gb104, 2, none⟩ = some (.int .u64 a1_2) := (blk_cell BK104.out 2).trans rfl; have hcz21_3 : w18.cell? ⟨gb104, 3, none⟩ = some (.int .i64 a1_3) := (blk_cell BK104.out 3).trans rfl; have hcz21_4 : w18.cell? ⟨gb104, 4, none⟩ = some (.int .i64 a1_4) := (blk_cell BK104.out 4).trans rfl; have hfz21_0 := blk_frozen BK104.out 0; have hfz21_1 := blk_frozen BK104.out 1; have hfz21_2 := blk_frozen BK104.out 2; have hfz21_3 := blk_frozen BK104.out 3; have hfz21_4 := blk_frozen BK104.out 4) | ((with_reducible refine gate_callee (f := 24) rfl ?_); refine goesL_ (some 9) rfl rfl Tryd.func24 (by kernel_rfl) rfl #[.slice A0_0 l0_0.length c0_0, .slice A1_0 l1_0.length c1_0] rfl (by (try simp only [List.map_toArray, List.map_cons, List.map_nil]); first | done | rfl | (simp only [List.length_drop, List.length_take]; rfl)) ?_; (with_reducible refine (spec_SameNodes.calls k _ _ l0_0 _ _ l1_0 true _ ?side1 ?side2 ?side3 ?side4 A3.out).mono ?_); (case side1 => repeat (first | exact (Kd.C_below HR0_0.out HB.out) | (with_reducible refine Kd.C_alloc ?_ _) | (with_reducible refine Kd.C_drewN ?_ _) | (with_reducible refine Kd.C_drew ?_))); (case side2 => exact HC0_0.out); (case side3 => repeat (first | exact (Kd.C_below HR1_0.out HB.out) | (with_reducible refine Kd.C_alloc ?_ _) | (with_reducible refine Kd.C_drewN ?_ _) | (with_reducible refine Kd.C_drew ?_))); (case side4 => exact HC1_0.out); rintro e w' ⟨rfl, ⟨nd, rfl⟩⟩; refine ⟨_, rfl, ?_⟩))
      go_ret
      exact ⟨by first | rfl | (simp [errW_none, errW_some] <;> rfl) | (simp [*, errW_none, errW_some] <;> rfl), by repeat (first | (with_reducible first | exact HB.out | apply below_alloc | apply pw_below_drewN | apply below_drew1 | refine below_set ?_ GE103.out | refine below_set ?_ GE104.out) | exact HB.out)⟩
  · replace c4 := Bool.eq_false_iff.mpr c4
    subst c4
    have H1 : (some false) = some r := by rw [if_neg (show ¬ (false = true) by decide)] at H; exact H
    clear H
    have H := H1
    clear H1
    obtain rfl := Option.some.inj H
    go_enter Tryd.func14, Tryd.ntmps14
    go_wp2_with (first | ((with_reducible refine gate_dst (N := 2) rfl ?_); refine box_event ?hg (N := 2) ?hd (cs := #[.slice A0_0 l0_0.length c0_0, .int .u64 a0_1, .int .u64 a0_2, .int .i64 a0_3, .int .i64 a0_4]) (t := 36) ?hr ?_; (case hd => rfl); (case hg => rfl); (case hr => first | (go_simp; done) | (go_simp; rfl)); intro gb103 hg w22 hbox hb; have n0_ := Aside0.mk (below_step (by repeat (first | (with_reducible first | exact HB.out | apply below_alloc | apply pw_below_drewN | apply below_drew1) | exact HB.out)) hb); have n1_ := Aside0.mk (hbox); have n2_ := Aside0.mk ((by rw [hg]; exact (below_size (by repeat (first | (with_reducible first | exact HB.out | apply below_alloc | apply pw_below_drewN | apply below_drew1) | exact HB.out))) : w.heap.size ≤ gb103)); have n3_ := Aside0.mk ((by rw [hg]; exact (below_size (by repeat (first | (with_reducible first | exact HB.out | apply below_alloc | apply pw_below_drewN | apply below_drew1) | exact HB.out))) : w.heap.size ≤ gb103)); clear HB; have HB := n0_; have BK103 := n1_; have GW103 := n2_; have GE103 := n3_; clear n0_ n1_ n2_ n3_; clear hb hbox hg) | ((with_reducible refine gate_dst (N := 3) rfl ?_); refine box_event ?hg (N := 3) ?hd (cs := #[.slice A1_0 l1_0.length c1_0, .int .u64 a1_1, .int .u64 a1_2, .int .i64 a1_3, .int .i64 a1_4]) (t := 36) ?hr ?_; (case hd => rfl); (case hg => rfl); (case hr => first | (go_simp; done) | (go_simp; rfl)); intro gb104 hg w23 hbox hb; have n0_ := Aside0.mk (blk_below (g := gb103) (o := .cells #[.slice A0_0 l0_0.length c0_0, .int .u64 a0_1, .int .u64 a0_2, .int .i64 a0_3, .int .i64 a0_4] 36 (0, 0)) (by (with_reducible repeat (first | refine blk_drewN ?_ _ | refine blk_drew ?_ | refine blk_alloc ?_ _)); exact BK103.out) hb); have n1_ := Aside0.mk (below_step (by repeat (first | (with_reducible first | exact HB.out | apply below_alloc | apply pw_below_drewN | apply below_drew1 | refine below_set ?_ GE103.out) | exact HB.out)) hb); have n2_ := Aside0.mk (hbox); have n3_ := Aside0.mk ((by rw [hg]; exact (below_size (by repeat (first | (with_reducible first | exact HB.out | apply below_alloc | apply pw_below_drewN | apply below_drew1 | refine below_set ?_ GE103.out) | exact HB.out))) : w.heap.size ≤ gb104)); have n4_ := Aside0.mk ((by rw [hg]; exact (below_size (by repeat (first | (with_reducible first | exact HB.out | apply below_alloc | apply pw_below_drewN | apply below_drew1 | refine below_set ?_ GE103.out) | exact HB.out))) : w.heap.size ≤ gb104)); have n5_ := Aside0.mk ((by rw [hg]; exact Nat.ne_of_lt (blk_lt (g := gb103) (o := .cells #[.slice A0_0 l0_0.length c0_0, .int .u64 a0_1, .int .u64 a0_2, .int .i64 a0_3, .int .i64 a0_4] 36 (0, 0)) (by (with_reducible repeat (first | refine blk_drewN ?_ _ | refine blk_drew ?_ | refine blk_alloc ?_ _)); exact BK103.out)) : gb103 ≠ gb104)); have n6_ := Aside0.mk ((by rw [hg]; exact Nat.ne_of_gt (blk_lt (g := gb103) (o := .cells #[.slice A0_0 l0_0.length c0_0, .int .u64 a0_1, .int .u64 a0_2, .int .i64 a0_3, .int .i64 a0_4] 36 (0, 0)) (by (with_reducible repeat (first | refine blk_drewN ?_ _ | refine blk_drew ?_ | refine blk_alloc ?_ _)); exact BK103.out)) : gb104 ≠ gb103)); clear BK103; clear HB; have BK103 := n0_; have HB := n1_; have BK104 := n2_; have GW104 := n3_; have GE104 := n4_; have NB103_104 := n5_; have NB104_103 := n6_; clear n0_ n1_ n2_ n3_ n4_ n5_ n6_; clear hb hbox hg; have hnb24 := NB103_104.out; have hnc24 := NB104_103.out; have hcz25_0 : w23.cell? ⟨gb103, 0, none⟩ = some (.slice A0_0 l0_0.length c0_0) := (blk_cell BK103.out 0).trans rfl; have hcz25_1 : w23.cell? ⟨gb103, 1, none⟩ = some (.int .u64 a0_1) := (blk_cell BK103.out 1).trans rfl; have hcz25_2 : w23.cell? ⟨gb103, 2, none⟩ = some (.int .u64 a0_2) := (blk_cell BK103.out 2).trans rfl; have hcz25_3 : w23.cell? ⟨gb103, 3, none⟩ = some (.int .i64 a0_3) := (blk_cell BK103.out 3).trans rfl; have hcz25_4 : w23.cell? ⟨gb103, 4, none⟩ = some (.int .i64 a0_4) := (blk_cell BK103.out 4).trans rfl; have hfz25_0 := blk_frozen BK103.out 0; have hfz25_1 := blk_frozen BK103.out 1; have hfz25_2 := blk_frozen BK103.out 2; have hfz25_3 := blk_frozen BK103.out 3; have hfz25_4 := blk_frozen BK103.out 4; have hcz26_0 : w23.cell? ⟨gb104, 0, none⟩ = some (.slice A1_0 l1_0.length c1_0) := (blk_cell BK104.out 0).trans rfl; have hcz26_1 : w23.cell? ⟨gb104, 1, none⟩ = some (.int .u64 a1_1) := (blk_cell BK104.out 1).trans rfl; have hcz26_2 : w23.cell? ⟨gb104, 2, none⟩ = some (.int .u64 a1_2) := (blk_cell BK104.out 2).trans rfl; have hcz26_3 : w23.cell? ⟨gb104, 3, none⟩ = some (.int .i64 a1_3) := (blk_cell BK104.out 3).trans rfl; have hcz26_4 : w23.cell? ⟨gb104, 4, none⟩ = some (.int .i64 a1_4) := (blk_cell BK104.out 4).trans rfl; have hfz26_0 := blk_frozen BK104.out 0; have hfz26_1 := blk_frozen BK104.out 1; have hfz26_2 := blk_frozen BK104.out 2; have hfz26_3 := blk_frozen BK104.out 3; have hfz26_4 := blk_frozen BK104.out 4) | ((with_reducible refine gate_callee (f := 24) rfl ?_); refine goesL_ (some 9) rfl rfl Tryd.func24 (by kernel_rfl) rfl #[.slice A0_0 l0_0.length c0_0, .slice A1_0 l1_0.length c1_0] rfl (by (try simp only [List.map_toArray, List.map_cons, List.map_nil]); first | done | rfl | (simp only [List.length_drop, List.length_take]; rfl)) ?_; (with_reducible refine (spec_SameNodes.calls k _ _ l0_0 _ _ l1_0 false _ ?side1 ?side2 ?side3 ?side4 A3.out).mono ?_); (case side1 => repeat (first | exact (Kd.C_below HR0_0.out HB.out) | (with_reducible refine Kd.C_alloc ?_ _) | (with_reducible refine Kd.C_drewN ?_ _) | (with_reducible refine Kd.C_drew ?_))); (case side2 => exact HC0_0.out); (case side3 => repeat (first | exact (Kd.C_below HR1_0.out HB.out) | (with_reducible refine Kd.C_alloc ?_ _) | (with_reducible refine Kd.C_drewN ?_ _) | (with_reducible refine Kd.C_drew ?_))); (case side4 => exact HC1_0.out); rintro e w' ⟨rfl, ⟨nd, rfl⟩⟩; refine ⟨_, rfl, ?_⟩))
    go_ret
    exact ⟨by first | rfl | (simp [errW_none, errW_some] <;> rfl) | (simp [*, errW_none, errW_some] <;> rfl), by repeat (first | (with_reducible first | exact HB.out | apply below_alloc | apply pw_below_drewN | apply below_drew1 | refine below_set ?_ GE103.out | refine below_set ?_ GE104.out) | exact HB.out)⟩

/-! ### impl_fromNode: function 33 -/
def impl_fromNode.f (a0_0 : Int) (a0_1 : Int) : Option (Int × Int) := some (a0_0, a0_1)
set_option maxHeartbeats 8000000 in
set_option maxRecDepth 100000 in
theorem impl_fromNode.calls (a0_0 : Int) (a0_1 : Int) (r1 : Int) (r2 : Int) (w : World) (h : impl_fromNode.f a0_0 a0_1 = some (r1, r2)) :
    Calls Tryd.prog 33 #[.agg #[.int .u64 a0_0, .int .u64 a0_1]] w fun e w' => e = .returned (.agg #[.int .u64 r1, .int .u64 r2]) ∧ Below w.heap.size w w' := by
  have hu46 := Tryd.underlying46
  have hu27 := Tryd.underlying27
  have HB := Aside0.mk (Below.refl w.heap.size w)
  have H : (some (a0_0, a0_1)) = some (r1, r2) := h
  clear h
  simp only [Option.some.injEq, Prod.mk.injEq] at H
  obtain ⟨rfl, rfl⟩ := H
  go_enter Tryd.func33, Tryd.ntmps33
  go_wp2_with (first | ((with_reducible refine gate_dst (N := 1) rfl ?_); refine box_event ?hg (N := 1) ?hd (cs := #[.int .u64 a0_0, .int .u64 a0_1]) (t := 46) ?hr ?_; (case hd => rfl); (case hg => rfl); (case hr => first | (go_simp; done) | (go_simp; rfl)); intro gb106 hg w2 hbox hb; have n0_ := Aside0.mk (below_step (by repeat (first | (with_reducible first | exact HB.out | apply below_alloc | apply pw_below_drewN | apply below_drew1) | exact HB.out)) hb); have n1_ := Aside0.mk (hbox); have n2_ := Aside0.mk ((by rw [hg]; exact (below_size (by repeat (first | (with_reducible first | exact HB.out | apply below_alloc | apply pw_below_drewN | apply below_drew1) | exact HB.out))) : w.heap.size ≤ gb106)); have n3_ := Aside0.mk ((by rw [hg]; exact (below_size (by repeat (first | (with_reducible first | exact HB.out | apply below_alloc | apply pw_below_drewN | apply below_drew1) | exact HB.out))) : w.heap.size ≤ gb106)); clear HB; have HB := n0_; have BK106 := n1_; have GW106 := n2_; have GE106 := n3_; clear n0_ n1_ n2_ n3_; clear hb hbox hg) | ((with_reducible refine gate_dst (N := 2) rfl ?_); refine box_event ?hg (N := 2) ?hd (cs := #[.int .u64 0, .int .u64 0]) (t := 27) ?hr ?_; (case hd => rfl); (case hg => rfl); (case hr => first | (go_simp; done) | (go_simp; rfl)); intro gb107 hg w3 hbox hb; have n0_ := Aside0.mk (blk_below (g := gb106) (o := .cells #[.int .u64 a0_0, .int .u64 a0_1] 46 (0, 0)) (by (with_reducible repeat (first | refine blk_drewN ?_ _ | refine blk_drew ?_ | refine blk_alloc ?_ _)); exact BK106.out) hb); have n1_ := Aside0.mk (below_step (by repeat (first | (with_reducible first | exact HB.out | apply below_alloc | apply pw_below_drewN | apply below_drew1 | refine below_set ?_ GE106.out) | exact HB.out)) hb); have n2_ := Aside0.mk (hbox); have n3_ := Aside0.mk ((by rw [hg]; exact (below_size (by repeat (first | (with_reducible first | exact HB.out | apply below_alloc | apply pw_below_drewN | apply below_drew1 | refine below_set ?_ GE106.out) | exact HB.out))) : w.heap.size ≤ gb107)); have n4_ := Aside0.mk ((by rw [hg]; exact (below_size (by repeat (first | (with_reducible first | exact HB.out | apply below_alloc | apply pw_below_drewN | apply below_drew1 | refine below_set ?_ GE106.out) | exact HB.out))) : w.heap.size ≤ gb107)); have n5_ := Aside0.mk ((by rw [hg]; exact Nat.ne_of_lt (blk_lt (g := gb106) (o := .cells #[.int .u64 a0_0, .int .u64 a0_1] 46 (0, 0)) (by (with_reducible repeat (first | refine blk_drewN ?_ _ | refine blk_drew ?_ | refine blk_alloc ?_ _)); exact BK106.out)) : gb106 ≠ gb107)); have n6_ := Aside0.mk ((by rw [hg]; exact Nat.ne_of_gt (blk_lt (g := gb106) (o := .cells #[.int .u64 a0_0, .int .u64 a0_1] 46 (0, 0)) (by (with_reducible repeat (first | refine blk_drewN ?_ _ | refine blk_drew ?_ | refine blk_alloc ?_ _)); exact BK106.out)) : gb107 ≠ gb106)); clear BK106; clear HB; have BK106 := n0_; have HB := n1_; have BK107 := n2_; have GW107 := n3_; have GE107 := n4_; have NB106_107 := n5_; have NB107_106 := n6_; clear n0_ n1_ n2_ n3_ n4_ n5_ n6_; clear hb hbox hg; have hnb4 := NB106_107.out; have hnc4 := NB107_106.out; have hcz5_0 : w3.cell? ⟨gb106, 0, none⟩ = some (.int .u64 a0_0) := (blk_cell BK106.out 0).trans rfl; have hcz5_1 : w3.cell? ⟨gb106, 1, none⟩ = some (.int .u64 a0_1) := (blk_cell BK106.out 1).trans rfl; have hfz5_0 := blk_frozen BK106.out 0; have hfz5_1 := blk_frozen BK106.out 1; have hcz6_0 : w3.cell? ⟨gb107, 0, none⟩ = some (.int .u64 0) := (blk_cell BK107.out 0).trans rfl; have hcz6_1 : w3.cell? ⟨gb107, 1, none⟩ = some (.int .u64 0) := (blk_cell BK107.out 1).trans rfl; have hfz6_0 := blk_frozen BK107.out 0; have hfz6_1 := blk_frozen BK107.out 1))
  refine bodyPost_ret (results_cell_row rfl _ _ gb107 27 #[.int .u64 a0_0, .int .u64 a0_1] (0, 0) _ rfl (by (with_reducible repeat (first | refine blk_drewN ?_ _ | refine blk_drew ?_ | refine blk_alloc ?_ _)); refine blk_put (cs := #[.int .u64 a0_0, .int .u64 0]) ?_ 1 _ rfl; (with_reducible repeat (first | refine blk_drewN ?_ _ | refine blk_drew ?_ | refine blk_alloc ?_ _)); refine blk_put (cs := #[.int .u64 0, .int .u64 0]) ?_ 0 _ rfl; (with_reducible repeat (first | refine blk_drewN ?_ _ | refine blk_drew ?_ | refine blk_alloc ?_ _)); exact BK107.out) Tryd.underlying27 rfl (by kernel_rfl)) rfl ?_
  exact ⟨by first | rfl | (simp [errW_none, errW_some] <;> rfl) | (simp [*, errW_none, errW_some] <;> rfl), by repeat (first | (with_reducible first | exact HB.out | apply below_alloc | apply pw_below_drewN | apply below_drew1 | refine below_set ?_ GE106.out | refine below_set ?_ GE107.out) | exact HB.out)⟩

/-! ### impl_fromNodes: function 19 -/
def impl_fromNodes.l0 : Nat → List (S27) → List (S46) → Int → Int → Option ((List (S27)))
  | 0, _, _, _, _ => none
  | k + 1, x3, x6, x7, x8 => if x8 < x7 then (if 0 ≤ x8 then (if x8 < (x6.length : Int) then ((impl_fromNode.f ((rd_T46 x6 x8).f0) ((rd_T46 x6 x8).f1)).bind fun bt110 => (if x3.length < 8796093022208 then (impl_fromNodes.l0 k (x3 ++ [(⟨bt110.1, bt110.2⟩ : S27)]) x6 x7 (wrap64 (x8 + 1))) else (none))) else (none)) else (none)) else (some x3)
def impl_fromNodes.f (k : Nat) (l0 : List (S46)) : Option ((List (S27))) := impl_fromNodes.l0 k ([] : List (S27)) l0 (l0.length : Int) 0
theorem impl_fromNodes.mono_l : ∀ k, (∀ y0 y1 y2 y3, LeO (impl_fromNodes.l0 k y0 y1 y2 y3) (impl_fromNodes.l0 (k + 1) y0 y1 y2 y3))
  | 0 => fun _ _ _ _ r h => by simp [impl_fromNodes.l0] at h
  | k + 1 => by
    have ih0 := impl_fromNodes.mono_l k
    · intro y0 y1 y2 y3
      unfold impl_fromNodes.l0
      repeat' first
      | (with_reducible exact ih0 _ _ _ _)
      | (with_reducible exact LeO.refl _)
      | (with_reducible exact LeO.none _)
      | (with_reducible refine LeO.ite ?_ ?_)
      | (with_reducible refine LeO.bind ?_ (fun _ => ?_))
      | exact ih0 _ _ _ _
      | exact LeO.none _
      | refine LeO.ite ?_ ?_
      | refine LeO.bind ?_ (fun _ => ?_)
theorem impl_fromNodes.mono : ∀ a0 k, LeO (impl_fromNodes.f k a0) (impl_fromNodes.f (k + 1) a0) := by
  intro a0 k
  have ih0 := impl_fromNodes.mono_l k
  unfold impl_fromNodes.f
  repeat' first
      | (with_reducible exact ih0 _ _ _ _)
      | (with_reducible exact LeO.refl _)
      | (with_reducible exact LeO.none _)
      | (with_reducible refine LeO.ite ?_ ?_)
      | (with_reducible refine LeO.bind ?_ (fun _ => ?_))
      | exact ih0 _ _ _ _
      | exact LeO.none _
      | refine LeO.ite ?_ ?_
      | refine LeO.bind ?_ (fun _ => ?_)
set_option maxHeartbeats 8000000 in
set_option maxRecDepth 100000 in
theorem impl_fromNodes.calls (k : Nat) (A0 : Option Addr) (c0 : Nat) (l0 : List (S46)) (r : List (S27)) (w : World) (hr0 : Kd.C k46 w A0 l0.length l0) (hc0 : l0.length ≤ c0) (h : impl_fromNodes.f k l0 = some r) :
    Calls Tryd.prog 19 #[.slice A0 l0.length c0] w fun e w' => ∃ v0_ : Value, e = .returned (v0_) ∧ Kd.R k27 27 w' w.heap.size (fun _ => True) v0_ r ∧ Below w.heap.size w w' := by
  have hu46 := Tryd.underlying46
  have HR0 := Aside0.mk hr0
  have HC0 := Aside0.mk hc0
  clear hr0 hc0
  have HB := Aside0.mk (Below.refl w.heap.size w)
  have H : (impl_fromNodes.l0 k ([] : List (S27)) l0 (l0.length : Int) 0) = some r := h
  clear h
  have H' := Aside0.mk H
  clear H
  go_enter Tryd.func19, Tryd.ntmps19
  go_wp2
  (try simp only [Act.put, List.setIfInBounds_toArray, List.set_cons_zero, List.set_cons_succ])
  go_loopg [3, 8] k (fun kq v3 v8 w' => ∃ (x3_1 : List (S27)) (x8_1 : Int), v8 = .int .i64 x8_1 ∧ Aside0 (impl_fromNodes.l0 kq x3_1 l0 (l0.length : Int) x8_1 = some r) ∧ Aside0 (kq ≤ k) ∧ Aside0 (Kd.R k27 27 w' w.heap.size (fun _ => True) v3 x3_1) ∧ Aside0 (Below w.heap.size w w'))
  case atStart => exact ⟨(([] : List (S27))), (0), (by first | rfl | (simp; done) | (simp [*]; done)), H', ⟨Nat.le_refl _⟩, ⟨by first | exact Kd.R_nil _ _ _ _ _ | exact Kd.N_nil _ _ _ _ _ | exact Kd.V_nil _ _ _ _ _ | exact Kd.Q_nil _ _ _ _ _ | exact Kd.S_nil _ _ _ _ _⟩, ⟨by repeat (first | (with_reducible first | exact HB.out | apply below_alloc | apply pw_below_drewN | apply below_drew1) | exact HB.out)⟩⟩
  case round =>
    clear H'
    try clear c1
    obtain ⟨x3_1, x8_1, rfl, HA, HK1, HO_3, HB⟩ := hrel
    cases gk with
    | zero => exact absurd HA.out (by simp [impl_fromNodes.l0])
    | succ k1 =>
      have H := HA.out
      clear HA
      simp only [impl_fromNodes.l0] at H
      by_cases c2 : x8_1 < (l0.length : Int)
      · rw [if_pos c2] at H
        have c2b0 : decide (x8_1 < (l0.length : Int)) = true := decide_eq_true c2
        clear c2
        by_cases c3 : 0 ≤ x8_1
        · rw [if_pos c3] at H
          have c3b0 : decide (0 ≤ x8_1) = true := decide_eq_true c3
          clear c3
          by_cases c4 : x8_1 < (l0.length : Int)
          · rw [if_pos c4] at H
            have c4b0 : decide (x8_1 < (l0.length : Int)) = true := decide_eq_true c4
            clear c4
            replace H := Option.bind_eq_some_iff.mp H
            obtain ⟨⟨t110, t111⟩, A50, H⟩ := H
            replace H : (if x3_1.length < 8796093022208 then (impl_fromNodes.l0 k1 (x3_1 ++ [(⟨t110, t111⟩ : S27)]) l0 (l0.length : Int) (wrap64 (x8_1 + 1))) else (none)) = some r := H
            have A5 := Aside0.mk A50
            clear A50
            by_cases c6 : x3_1.length < 8796093022208
            · rw [if_pos c6] at H
              have LMc6 := Aside0.mk c6
              clear c6
              obtain ⟨y112, hy112⟩ : ∃ y_ : List (S27), y_ = (x3_1 ++ [(⟨t110, t111⟩ : S27)]) := ⟨_, rfl⟩
              replace H : (impl_fromNodes.l0 k1 y112 l0 (l0.length : Int) (wrap64 (x8_1 + 1))) = some r := by first | (rw [hy112]; with_reducible exact H) | (have H2_ := (Option.bind_some _ _).symm.trans H; rw [hy112]; with_reducible exact H2_) | (have H2_ := (Option.bind_some _ _).symm.trans H; with_reducible exact H2_) | with_reducible exact H | (rw [hy112]; exact H) | exact H
              have Ny112 := Aside0.mk hy112
              clear hy112
              have H' := Aside0.mk H
              clear H
              have p108 : 0 ≤ (x8_1 : Int) := of_decide_eq_true (by first | (with_reducible assumption) | assumption)
              have q108 : x8_1 < (l0.length : Int) := of_decide_eq_true (by first | (with_reducible assumption) | assumption)
              obtain ⟨ad108, e108, hx108_0, hx108_1⟩ := at_T46 HR0.out x8_1 p108 q108
              cases e108
              replace hx108_0 := (HB.out.cell (World.block_lt_of_cell? w _ hx108_0)).trans hx108_0
              replace hx108_1 := (HB.out.cell (World.block_lt_of_cell? w _ hx108_1)).trans hx108_1
              replace p108 := eq_true p108
              replace q108 := eq_true q108
              go_wp2_with (first | ((with_reducible refine gate_dst (N := 5) rfl ?_); refine box_event ?hg (N := 5) ?hd (cs := #[.int .u64 0, .int .u64 0]) (t := 46) ?hr ?_; (case hd => rfl); (case hg => rfl); (case hr => first | (go_simp; done) | (go_simp; rfl)); intro gb109 hg w7 hbox hb; have n0_ := Aside0.mk (Kd.R_below (by (with_reducible repeat (first | apply Kd.R_alloc | apply Kd.R_drewN | apply Kd.R_drew)); exact HO_3.out) hb); have n1_ := Aside0.mk (below_step (by repeat (first | (with_reducible first | exact HB.out | apply below_alloc | apply pw_below_drewN | apply below_drew1) | exact HB.out)) hb); have n2_ := Aside0.mk (hbox); have n3_ := Aside0.mk ((by rw [hg]; exact (below_size (by repeat (first | (with_reducible first | exact HB.out | apply below_alloc | apply pw_below_drewN | apply below_drew1) | exact HB.out))) : w.heap.size ≤ gb109)); have n4_ := Aside0.mk ((by rw [hg]; exact (below_size (by repeat (first | (with_reducible first | exact HB.out | apply below_alloc | apply pw_below_drewN | apply below_drew1) | exact HB.out))) : w.heap.size ≤ gb109)); clear HO_3; clear HB; have HO_3 := n0_; have HB := n1_; have BK109 := n2_; have GW109 := n3_; have GE109 := n4_; clear n0_ n1_ n2_ n3_ n4_; clear hb hbox hg; have hcz8_0 : w7.cell? ⟨gb109, 0, none⟩ = some (.int .u64 0) := (blk_cell BK109.out 0).trans rfl; have hcz8_1 : w7.cell? ⟨gb109, 1, none⟩ = some (.int .u64 0) := (blk_cell BK109.out 1).trans rfl; have hfz8_0 := blk_frozen BK109.out 0; have hfz8_1 := blk_frozen BK109.out 1) | ((with_reducible refine gate_callee (f := 33) rfl ?_); refine goesL_ (some 14) rfl rfl Tryd.func33 (by kernel_rfl) rfl #[.agg #[.int .u64 ((rd_T46 l0 x8_1).f0), .int .u64 ((rd_T46 l0 x8_1).f1)]] rfl (by (try simp only [List.map_toArray, List.map_cons, List.map_nil]); first | done | rfl | (simp only [List.length_drop, List.length_take]; rfl)) ?_; (with_reducible refine (impl_fromNode.calls ((rd_T46 l0 x8_1).f0) ((rd_T46 l0 x8_1).f1) t110 t111 _ A5.out).mono ?_); rintro e w9 ⟨rfl, hb⟩; refine ⟨_, rfl, ?_⟩; have n0_ := Aside0.mk (Kd.R_below (by (with_reducible repeat (first | apply Kd.R_alloc | apply Kd.R_drewN | apply Kd.R_drew)); exact (Kd.R_mono (Kd.R_far (p := ⟨gb109, 1, none⟩) (Kd.R_far (p := ⟨gb109, 0, none⟩) (Kd.R_types HO_3.out BK109.out (by decide)) (fun _ hk => hk.2) (.int .u64 ((rd_T46 l0 x8_1).f0))) (fun _ hk => hk.2) (.int .u64 ((rd_T46 l0 x8_1).f1))) (fun _ h_ => h_.1))) hb); have n1_ := Aside0.mk (blk_below (g := gb109) (o := .cells #[.int .u64 ((rd_T46 l0 x8_1).f0), .int .u64 ((rd_T46 l0 x8_1).f1)] 46 (0, 0)) (by (with_reducible repeat (first | refine blk_drewN ?_ _ | refine blk_drew ?_ | refine blk_alloc ?_ _)); refine blk_put (cs := #[.int .u64 ((rd_T46 l0 x8_1).f0), .int .u64 0]) ?_ 1 _ rfl; (with_reducible repeat (first | refine blk_drewN ?_ _ | refine blk_drew ?_ | refine blk_alloc ?_ _)); refine blk_put (cs := #[.int .u64 0, .int .u64 0]) ?_ 0 _ rfl; (with_reducible repeat (first | refine blk_drewN ?_ _ | refine blk_drew ?_ | refine blk_alloc ?_ _)); exact BK109.out) hb); have n2_ := Aside0.mk (below_step (by repeat (first | (with_reducible first | exact HB.out | apply below_alloc | apply pw_below_drewN | apply below_drew1 | refine below_set ?_ GE109.out) | exact HB.out)) hb); clear HO_3; clear BK109; clear HB; have HO_3 := n0_; have BK109 := n1_; have HB := n2_; clear n0_ n1_ n2_; (try clear hb); (try clear hb2); (try clear hk); (try clear hi)) | ((with_reducible refine gate_builtin (b := .append) (xs := #[.tmp 12, .tmp 15]) rfl ?_); at_builtin; refine Kd.R_append k27 (w0 := w) w.heap.size rfl (.tmp 12) (.tmp 15) 23 27 (.agg #[(.int .u64 0), (.int .u64 0)]) 16 rfl Tryd.underlying23 info27 rfl (by decide) (by omega) u3 x3_1 (⟨t110, t111⟩ : S27) [.int .u64 t110, .int .u64 t111] (fun _ => True) (fun _ => False) rfl rfl ?aP (fun _ hk => hk.elim) ?aF ?aO ?aB ?aS ?aL ?_; (case aP => exact k27_mkM _ _ _ (⟨t110, t111⟩ : S27)); (case aB => exact (by repeat (first | (with_reducible first | exact HB.out | apply below_alloc | apply pw_below_drewN | apply below_drew1 | refine below_set ?_ GE109.out) | exact HB.out))); (case aF => exact (fun _ _ => trivial)); (case aO => exact (by (with_reducible repeat (first | apply Kd.R_alloc | apply Kd.R_drewN | apply Kd.R_drew)); exact HO_3.out)); (case aS => exact (below_size (by repeat (first | (with_reducible first | exact HB.out | apply below_alloc | apply pw_below_drewN | apply below_drew1 | refine below_set ?_ GE109.out) | exact HB.out)))); (case aL => have := LMc6.out; omega); intro v113 w10 ho hb hg hat; rw [← Ny112.out] at ho; have n0_ := Aside0.mk (blk_grown (g := gb109) (o := .cells #[.int .u64 ((rd_T46 l0 x8_1).f0), .int .u64 ((rd_T46 l0 x8_1).f1)] 46 (0, 0)) (by (with_reducible repeat (first | refine blk_drewN ?_ _ | refine blk_drew ?_ | refine blk_alloc ?_ _)); exact BK109.out) hg (Kd.R_ne HO_3.out BK109.out (by decide))); have n1_ := Aside0.mk (hb); have n2_ := Aside0.mk (ho); clear BK109; clear HB; clear HO_3; have BK109 := n0_; have HB := n1_; have HO114 := n2_; clear n0_ n1_ n2_; clear ho hb hg hat))
              go_roundg k1
              case measure => have := HK1.out; omega
              case rel => exact ⟨(y112), (wrap64 (x8_1 + 1)), (by first | rfl | (simp; done) | (simp [*]; done)), H', ⟨by have := HK1.out; omega⟩, ⟨by (with_reducible repeat (first | apply Kd.R_alloc | apply Kd.R_drewN | apply Kd.R_drew)); exact HO114.out⟩, ⟨by repeat (first | (with_reducible first | exact HB.out | apply below_alloc | apply pw_below_drewN | apply below_drew1 | refine below_set ?_ GE109.out) | exact HB.out)⟩⟩
            · rw [if_neg c6] at H
              exact absurd H (by simp)
          · rw [if_neg c4] at H
            exact absurd H (by simp)
        · rw [if_neg c3] at H
          exact absurd H (by simp)
      · rw [if_neg c2] at H
        have c2b0 : decide (x8_1 < (l0.length : Int)) = false := decide_eq_false c2
        clear c2
        obtain rfl := Option.some.inj H
        go_wp2
        go_ret
        exact ⟨_, by first | rfl | (simp [errW_none, errW_some] <;> rfl) | (simp [*, errW_none, errW_some] <;> rfl), by (with_reducible repeat (first | apply Kd.R_alloc | apply Kd.R_drewN | apply Kd.R_drew)); exact HO_3.out, by repeat (first | (with_reducible first | exact HB.out | apply below_alloc | apply pw_below_drewN | apply below_drew1) | exact HB.out)⟩

/-! ### proof_Nodes_Ephem: function 38 -/
def proof_Nodes_Ephem.f (l0_0 : List (S46)) (a0_1 : Int) (a0_2 : Int) (a0_3 : Int) (a0_4 : Int) : Option (Int × Int × Int × Int) := some (a0_3, a0_4, a0_1, a0_2)
def proof_Nodes_Ephem.T1 : Bool × List (List Nat × List Nat) := (true, [([], []), ([0], [0]), ([], []), ([2], [2]), ([], []), ([4], [4]), ([1, 0, 1], [1]), ([3, 6, 0, 1, 2, 3, 6], [3]), ([5, 7, 0, 1, 2, 3, 4, 5, 6, 7], [5])])
def proof_Nodes_Ephem.B1 : List Nat := [0, 1, 0, 4, 0, 16, 3, 79, 255]
theorem proof_Nodes_Ephem.tab1 : rtab .any (opsOf Tryd.f38 1) = proof_Nodes_Ephem.T1 := by kernel_rfl
theorem proof_Nodes_Ephem.bits1 : waitsOk proof_Nodes_Ephem.T1.2 proof_Nodes_Ephem.B1 = true := by kernel_rfl
set_option maxHeartbeats 8000000 in
set_option maxRecDepth 100000 in
theorem proof_Nodes_Ephem.calls (A0_0 : Option Addr) (c0_0 : Nat) (l0_0 : List (S46)) (a0_1 : Int) (a0_2 : Int) (a0_3 : Int) (a0_4 : Int) (r1 : Int) (r2 : Int) (r3 : Int) (r4 : Int) (w : World) (hr0_0 : Kd.C k46 w A0_0 l0_0.length l0_0) (hc0_0 : l0_0.length ≤ c0_0) (h : proof_Nodes_Ephem.f l0_0 a0_1 a0_2 a0_3 a0_4 = some (r1, r2, r3, r4)) :
    Calls Tryd.prog 38 #[.agg #[.slice A0_0 l0_0.length c0_0, .int .i64 a0_1, .int .i64 a0_2, .int .u64 a0_3, .int .u64 a0_4]] w fun e w' => e = .returned (.tuple #[.agg #[.int .u64 r1, .int .u64 r2], .int .i64 r3, .int .i64 r4]) ∧ Below w.heap.size w w' := by
  have hu52 := Tryd.underlying52
  have hu46 := Tryd.underlying46
  have HR0_0 := Aside0.mk hr0_0
  have HC0_0 := Aside0.mk hc0_0
  clear hr0_0 hc0_0
  have HB := Aside0.mk (Below.refl w.heap.size w)
  have H : (some (a0_3, a0_4, a0_1, a0_2)) = some (r1, r2, r3, r4) := h
  clear h
  simp only [Option.some.injEq, Prod.mk.injEq] at H
  obtain ⟨rfl, rfl, rfl, rfl⟩ := H
  go_enter Tryd.func38, Tryd.ntmps38
  try go_wp2_with (first | ((with_reducible refine gate_dst (N := 1) rfl ?_); refine box_event ?hg (N := 1) ?hd (cs := #[.slice A0_0 l0_0.length c0_0, .int .i64 a0_1, .int .i64 a0_2, .int .u64 a0_3, .int .u64 a0_4]) (t := 52) ?hr ?_; (case hd => rfl); (case hg => rfl); (case hr => first | (go_simp; done) | (go_simp; rfl)); intro gb115 hg w2 hbox hb; have n0_ := Aside0.mk (below_step (by repeat (first | (with_reducible first | exact HB.out | apply below_alloc | apply pw_below_drewN | apply below_drew1) | exact HB.out)) hb); have n1_ := Aside0.mk (hbox); have n2_ := Aside0.mk ((by rw [hg]; exact (below_size (by repeat (first | (with_reducible first | exact HB.out | apply below_alloc | apply pw_below_drewN | apply below_drew1) | exact HB.out))) : w.heap.size ≤ gb115)); have n3_ := Aside0.mk ((by rw [hg]; exact (below_size (by repeat (first | (with_reducible first | exact HB.out | apply below_alloc | apply pw_below_drewN | apply below_drew1) | exact HB.out))) : w.heap.size ≤ gb115)); clear HB; have HB := n0_; have BK115 := n1_; have GW115 := n2_; have GE115 := n3_; clear n0_ n1_ n2_ n3_; clear hb hbox hg) | ((with_reducible refine gate_dst (N := 2) rfl ?_); refine box_event ?hg (N := 2) ?hd (cs := #[.int .u64 0, .int .u64 0]) (t := 46) ?hr ?_; (case hd => rfl); (case hg => rfl); (case hr => first | (go_simp; done) | (go_simp; rfl)); intro gb116 hg w3 hbox hb; have n0_ := Aside0.mk (blk_below (g := gb115) (o := .cells #[.slice A0_0 l0_0.length c0_0, .int .i64 a0_1, .int .i64 a0_2, .int .u64 a0_3, .int .u64 a0_4] 52 (0, 0)) (by (with_reducible repeat (first | refine blk_drewN ?_ _ | refine blk_drew ?_ | refine blk_alloc ?_ _)); exact BK115.out) hb); have n1_ := Aside0.mk (below_step (by repeat (first | (with_reducible first | exact HB.out | apply below_alloc | apply pw_below_drewN | apply below_drew1 | refine below_set ?_ GE115.out) | exact HB.out)) hb); have n2_ := Aside0.mk (hbox); have n3_ := Aside0.mk ((by rw [hg]; exact (below_size (by repeat (first | (with_reducible first | exact HB.out | apply below_alloc | apply pw_below_drewN | apply below_drew1 | refine below_set ?_ GE115.out) | exact HB.out))) : w.heap.size ≤ gb116)); have n4_ := Aside0.mk ((by rw [hg]; exact (below_size (by repeat (first | (with_reducible first | exact HB.out | apply below_alloc | apply pw_below_drewN | apply below_drew1 | refine below_set ?_ GE115.out) | exact HB.out))) : w.heap.size ≤ gb116)); have n5_ := Aside0.mk ((by rw [hg]; exact Nat.ne_of_lt (blk_lt (g := gb115) (o := .cells #[.slice A0_0 l0_0.length c0_0, .int .i64 a0_1, .int .i64 a0_2, .int .u64 a0_3, .int .u64 a0_4] 52 (0, 0)) (by (with_reducible repeat (first | refine blk_drewN ?_ _ | refine blk_drew ?_ | refine blk_alloc ?_ _)); exact BK115.out)) : gb115 ≠ gb116)); have n6_ := Aside0.mk ((by rw [hg]; exact Nat.ne_of_gt (blk_lt (g := gb115) (o := .cells #[.slice A0_0 l0_0.length c0_0, .int .i64 a0_1, .int .i64 a0_2, .int .u64 a0_3, .int .u64 a0_4] 52 (0, 0)) (by (with_reducible repeat (first | refine blk_drewN ?_ _ | refine blk_drew ?_ | refine blk_alloc ?_ _)); exact BK115.out)) : gb116 ≠ gb115)); clear BK115; clear HB; have BK115 := n0_; have HB := n1_; have BK116 := n2_; have GW116 := n3_; have GE116 := n4_; have NB115_116 := n5_; have NB116_115 := n6_; clear n0_ n1_ n2_ n3_ n4_ n5_ n6_; clear hb hbox hg))
  have n0_ := Aside0.mk (blk_drew BK115.out)
  have n1_ := Aside0.mk (blk_drew BK116.out)
  have n2_ := Aside0.mk (below_drew1 HB.out)
  clear BK115
  clear BK116
  clear HB
  have BK115 := n0_
  have BK116 := n1_
  have HB := n2_
  clear n0_ n1_ n2_
  refine start_ (n := 9) (S := fun w' => w'.cell? ⟨gb115, 0, none⟩ = some (.slice A0_0 l0_0.length c0_0) ∧ w'.cell? ⟨gb115, 1, none⟩ = some (.int .i64 a0_1) ∧ w'.cell? ⟨gb115, 2, none⟩ = some (.int .i64 a0_2) ∧ w'.cell? ⟨gb115, 3, none⟩ = some (.int .u64 a0_3) ∧ w'.cell? ⟨gb115, 4, none⟩ = some (.int .u64 a0_4)) (ds := []) #[false, false, false, false, false, false, false, false, false] (by kernel_rfl) rfl rfl ⟨(blk_cell BK115.out 0).trans rfl, (blk_cell BK115.out 1).trans rfl, (blk_cell BK115.out 2).trans rfl, (blk_cell BK115.out 3).trans rfl, (blk_cell BK115.out 4).trans rfl⟩ (fun hHeld => ?_); refine with_tabW proof_Nodes_Ephem.tab1 proof_Nodes_Ephem.bits1 (fun HT_ HW_ => ?_)
  generalize w3.drew = w4 at BK115 BK116 HB hHeld ⊢
  refine pure_ (i := 0) (N := some 5) (v := ?_) (a' := ?_) #[true, false, false, false, false, false, false, false, false] rfl rfl (any_of HT_.out (by kernel_rfl)) (fun _ _ _ h => h) (Or.inl ⟨by rfl, ?_⟩) ?_ ?_
  rotate_left
  · intro w'
    go_simp
    with_reducible rfl
  rotate_left
  · simp only [Act.put, List.setIfInBounds_toArray, List.set_cons_zero, List.set_cons_succ, i64_w, i32_w]
    rfl
  refine pure_ (i := 2) (N := some 7) (v := ?_) (a' := ?_) #[true, false, true, false, false, false, false, false, false] rfl rfl (any_of HT_.out (by kernel_rfl)) (fun _ _ _ h => h) (Or.inl ⟨by rfl, ?_⟩) ?_ ?_
  rotate_left
  · intro w'
    go_simp
    with_reducible rfl
  rotate_left
  · simp only [Act.put, List.setIfInBounds_toArray, List.set_cons_zero, List.set_cons_succ, i64_w, i32_w]
    rfl
  refine pure_ (i := 4) (N := some 9) (v := ?_) (a' := ?_) #[true, false, true, false, true, false, false, false, false] rfl rfl (any_of HT_.out (by kernel_rfl)) (fun _ _ _ h => h) (Or.inl ⟨by rfl, ?_⟩) ?_ ?_
  rotate_left
  · intro w'
    go_simp
    with_reducible rfl
  rotate_left
  · simp only [Act.put, List.setIfInBounds_toArray, List.set_cons_zero, List.set_cons_succ, i64_w, i32_w]
    rfl
  refine take_ (i := 1) (N := some 6) (v := ?_) (a' := ?_) #[true, true, true, false, true, false, false, false, false] rfl rfl (take_ofW HT_.out HW_.out (by kernel_rfl)) (fun _ _ _ h => h) (Or.inl ⟨by rfl, ?_⟩) hHeld ?_ ?_
  rotate_left
  · rintro w' ⟨s0, s1, s2, s3, s4⟩
    go_simp
    with_reducible rfl
  rotate_left
  · simp only [Act.put, List.setIfInBounds_toArray, List.set_cons_zero, List.set_cons_succ, i64_w, i32_w]
    rfl
  refine take_ (i := 3) (N := some 8) (v := ?_) (a' := ?_) #[true, true, true, true, true, false, false, false, false] rfl rfl (take_ofW HT_.out HW_.out (by kernel_rfl)) (fun _ _ _ h => h) (Or.inl ⟨by rfl, ?_⟩) hHeld ?_ ?_
  rotate_left
  · rintro w' ⟨s0, s1, s2, s3, s4⟩
    go_simp
    with_reducible rfl
  rotate_left
  · simp only [Act.put, List.setIfInBounds_toArray, List.set_cons_zero, List.set_cons_succ, i64_w, i32_w]
    rfl
  refine take_ (i := 5) (N := some 10) (v := ?_) (a' := ?_) #[true, true, true, true, true, true, false, false, false] rfl rfl (take_ofW HT_.out HW_.out (by kernel_rfl)) (fun _ _ _ h => h) (Or.inl ⟨by rfl, ?_⟩) hHeld ?_ ?_
  rotate_left
  · rintro w' ⟨s0, s1, s2, s3, s4⟩
    go_simp
    with_reducible rfl
  rotate_left
  · simp only [Act.put, List.setIfInBounds_toArray, List.set_cons_zero, List.set_cons_succ, i64_w, i32_w]
    rfl
  refine one_ (i := 6) (N := none) #[true, true, true, true, true, true, true, false, false] rfl rfl (one_of HT_.out (by kernel_rfl)) (by decide) (fun K hK => ?_)
  have hs5 : w4.cell? ⟨gb116, 0, none⟩ = some (.int .u64 0) := (blk_cell BK116.out 0).trans rfl
  have hfs5 := blk_frozen BK116.out 0
  have hns5_0 := NB115_116.out
  have hms5_0 := NB116_115.out
  have hs6 : w4.cell? ⟨gb116, 1, none⟩ = some (.int .u64 0) := (blk_cell BK116.out 1).trans rfl
  have hfs6 := blk_frozen BK116.out 1
  have hns6_0 := NB115_116.out
  have hms6_0 := NB116_115.out
  refine skip_ (w1 := ?_) (by rfl) rfl ?_ ?_
  rotate_left
  · go_simp
    rfl
  refine hK.out _ _ ⟨((cell_far (p := ⟨gb116, _, none⟩) NB115_116.out _).trans (((cell_far (p := ⟨gb116, _, none⟩) NB115_116.out _).trans (hHeld.1)))), ((cell_far (p := ⟨gb116, _, none⟩) NB115_116.out _).trans (((cell_far (p := ⟨gb116, _, none⟩) NB115_116.out _).trans (hHeld.2.1)))), ((cell_far (p := ⟨gb116, _, none⟩) NB115_116.out _).trans (((cell_far (p := ⟨gb116, _, none⟩) NB115_116.out _).trans (hHeld.2.2.1)))), ((cell_far (p := ⟨gb116, _, none⟩) NB115_116.out _).trans (((cell_far (p := ⟨gb116, _, none⟩) NB115_116.out _).trans (hHeld.2.2.2.1)))), ((cell_far (p := ⟨gb116, _, none⟩) NB115_116.out _).trans (((cell_far (p := ⟨gb116, _, none⟩) NB115_116.out _).trans (hHeld.2.2.2.2))))⟩ (fun hHeld => ?_)
  clear hK K
  refine pure_ (i := 7) (N := some 3) (v := ?_) (a' := ?_) #[true, true, true, true, true, true, true, true, false] rfl rfl (any_of HT_.out (by kernel_rfl)) (fun _ _ _ h => h) (Or.inl ⟨by rfl, ?_⟩) ?_ ?_
  rotate_left
  · intro w'
    go_simp
    with_reducible rfl
  rotate_left
  · simp only [Act.put, List.setIfInBounds_toArray, List.set_cons_zero, List.set_cons_succ, i64_w, i32_w]
    rfl
  refine pure_ (i := 8) (N := some 4) (v := ?_) (a' := ?_) #[true, true, true, true, true, true, true, true, true] rfl rfl (any_of HT_.out (by kernel_rfl)) (fun _ _ _ h => h) (Or.inl ⟨by rfl, ?_⟩) ?_ ?_
  rotate_left
  · intro w'
    go_simp
    with_reducible rfl
  rotate_left
  · simp only [Act.put, List.setIfInBounds_toArray, List.set_cons_zero, List.set_cons_succ, i64_w, i32_w]
    rfl
  refine done_ (done_of HT_.out (by kernel_rfl)) ?_
  try go_wp2
  refine bodyPost_ret (results_ctt rfl _ _ gb116 46 #[.int .u64 a0_3, .int .u64 a0_4] (0, 0) _ rfl (by (with_reducible repeat (first | refine blk_drewN ?_ _ | refine blk_drew ?_ | refine blk_alloc ?_ _)); refine blk_put (cs := #[.int .u64 a0_3, .int .u64 0]) ?_ 1 _ rfl; (with_reducible repeat (first | refine blk_drewN ?_ _ | refine blk_drew ?_ | refine blk_alloc ?_ _)); refine blk_put (cs := #[.int .u64 0, .int .u64 0]) ?_ 0 _ rfl; (with_reducible repeat (first | refine blk_drewN ?_ _ | refine blk_drew ?_ | refine blk_alloc ?_ _)); exact BK116.out) Tryd.underlying46 rfl (by kernel_rfl)) rfl ?_
  exact ⟨by first | rfl | (simp [errW_none, errW_some] <;> rfl) | (simp [*, errW_none, errW_some] <;> rfl), by repeat (first | (with_reducible first | exact HB.out | apply below_alloc | apply pw_below_drewN | apply below_drew1 | refine below_set ?_ GE115.out | refine below_set ?_ GE116.out) | exact HB.out)⟩

/-! ### impl_fromProof: function 22 -/
def impl_fromProof.f (k : Nat) (l0_0 : List (S46)) (a0_1 : Int) (a0_2 : Int) (a0_3 : Int) (a0_4 : Int) : Option ((List (S27)) × Int × Int × Int × Int) := (proof_Nodes_Ephem.f l0_0 a0_1 a0_2 a0_3 a0_4).bind fun bt119 => ((impl_fromNodes.f k l0_0).bind fun t124 => ((impl_fromNode.f bt119.1 bt119.2.1).bind fun bt127 => (some (t124, bt127.1, bt127.2, bt119.2.2.1, bt119.2.2.2))))
theorem impl_fromProof.mono : ∀ a0 a1 a2 a3 a4 k, LeO (impl_fromProof.f k a0 a1 a2 a3 a4) (impl_fromProof.f (k + 1) a0 a1 a2 a3 a4) := by
  intro a0 a1 a2 a3 a4 k
  unfold impl_fromProof.f
  repeat' first
      | (with_reducible exact impl_fromNodes.mono _ _)
      | (with_reducible exact LeO.refl _)
      | (with_reducible exact LeO.none _)
      | (with_reducible refine LeO.ite ?_ ?_)
      | (with_reducible refine LeO.bind ?_ (fun _ => ?_))
      | exact impl_fromNodes.mono _ _
      | exact LeO.none _
      | refine LeO.ite ?_ ?_
      | refine LeO.bind ?_ (fun _ => ?_)
def impl_fromProof.T2 : Bool × List (List Nat × List Nat) := (true, [([], []), ([0], [0]), ([1], [1]), ([], []), ([3, 2], [3]), ([], []), ([], []), ([2, 4, 5, 6], [2, 4, 5, 6]), ([7, 4, 0, 1, 2, 3, 4, 5, 6, 7], [7])])
def impl_fromProof.B2 : List Nat := [0, 1, 3, 0, 15, 0, 0, 127, 255]
theorem impl_fromProof.tab2 : rtab .any (opsOf Tryd.f22 2) = impl_fromProof.T2 := by kernel_rfl
theorem impl_fromProof.bits2 : waitsOk impl_fromProof.T2.2 impl_fromProof.B2 = true := by kernel_rfl
set_option maxHeartbeats 8000000 in
set_option maxRecDepth 100000 in
theorem impl_fromProof.calls (k : Nat) (A0_0 : Option Addr) (c0_0 : Nat) (l0_0 : List (S46)) (a0_1 : Int) (a0_2 : Int) (a0_3 : Int) (a0_4 : Int) (r1 : List (S27)) (r2 : Int) (r3 : Int) (r4 : Int) (r5 : Int) (w : World) (hr0_0 : Kd.C k46 w A0_0 l0_0.length l0_0) (hc0_0 : l0_0.length ≤ c0_0) (h : impl_fromProof.f k l0_0 a0_1 a0_2 a0_3 a0_4 = some (r1, r2, r3, r4, r5)) :
    Calls Tryd.prog 22 #[.agg #[.slice A0_0 l0_0.length c0_0, .int .i64 a0_1, .int .i64 a0_2, .int .u64 a0_3, .int .u64 a0_4]] w fun e w' => ∃ v0_ : Value, e = .returned (.agg #[v0_, .int .u64 r2, .int .u64 r3, .int .i64 r4, .int .i64 r5]) ∧ Kd.R k27 27 w' w.heap.size (fun _ => True) v0_ r1 ∧ Below w.heap.size w w' := by
  have hu52 := Tryd.underlying52
  have hu36 := Tryd.underlying36
  have hu46 := Tryd.underlying46
  have HR0_0 := Aside0.mk hr0_0
  have HC0_0 := Aside0.mk hc0_0
  clear hr0_0 hc0_0
  have HB := Aside0.mk (Below.refl w.heap.size w)
  have H : ((proof_Nodes_Ephem.f l0_0 a0_1 a0_2 a0_3 a0_4).bind fun bt119 => ((impl_fromNodes.f k l0_0).bind fun t124 => ((impl_fromNode.f bt119.1 bt119.2.1).bind fun bt127 => (some (t124, bt127.1, bt127.2, bt119.2.2.1, bt119.2.2.2))))) = some (r1, r2, r3, r4, r5) := h
  clear h
  replace H := Option.bind_eq_some_iff.mp H
  obtain ⟨⟨t119, t120, t121, t122⟩, A20, H⟩ := H
  replace H : ((impl_fromNodes.f k l0_0).bind fun t124 => ((impl_fromNode.f t119 t120).bind fun bt127 => (some (t124, bt127.1, bt127.2, t121, t122)))) = some (r1, r2, r3, r4, r5) := H
  have A2 := Aside0.mk A20
  clear A20
  replace H := Option.bind_eq_some_iff.mp H
  obtain ⟨t124, A30, H⟩ := H
  replace H : ((impl_fromNode.f t119 t120).bind fun bt127 => (some (t124, bt127.1, bt127.2, t121, t122))) = some (r1, r2, r3, r4, r5) := H
  have A3 := Aside0.mk A30
  clear A30
  replace H := Option.bind_eq_some_iff.mp H
  obtain ⟨⟨t127, t128⟩, A40, H⟩ := H
  replace H : (some (t124, t127, t128, t121, t122)) = some (r1, r2, r3, r4, r5) := H
  have A4 := Aside0.mk A40
  clear A40
  simp only [Option.some.injEq, Prod.mk.injEq] at H
  obtain ⟨rfl, rfl, rfl, rfl, rfl⟩ := H
  go_enter Tryd.func22, Tryd.ntmps22
  try go_wp2_with (first | ((with_reducible refine gate_dst (N := 1) rfl ?_); refine box_event ?hg (N := 1) ?hd (cs := #[.slice A0_0 l0_0.length c0_0, .int .i64 a0_1, .int .i64 a0_2, .int .u64 a0_3, .int .u64 a0_4]) (t := 52) ?hr ?_; (case hd => rfl); (case hg => rfl); (case hr => first | (go_simp; done) | (go_simp; rfl)); intro gb117 hg w5 hbox hb; have n0_ := Aside0.mk (below_step (by repeat (first | (with_reducible first | exact HB.out | apply below_alloc | apply pw_below_drewN | apply below_drew1) | exact HB.out)) hb); have n1_ := Aside0.mk (hbox); have n2_ := Aside0.mk ((by rw [hg]; exact (below_size (by repeat (first | (with_reducible first | exact HB.out | apply below_alloc | apply pw_below_drewN | apply below_drew1) | exact HB.out))) : w.heap.size ≤ gb117)); have n3_ := Aside0.mk ((by rw [hg]; exact (below_size (by repeat (first | (with_reducible first | exact HB.out | apply below_alloc | apply pw_below_drewN | apply below_drew1) | exact HB.out))) : w.heap.size ≤ gb117)); clear HB; have HB := n0_; have BK117 := n1_; have GW117 := n2_; have GE117 := n3_; clear n0_ n1_ n2_ n3_; clear hb hbox hg) | ((with_reducible refine gate_dst (N := 2) rfl ?_); refine box_event ?hg (N := 2) ?hd (cs := #[.slice none 0 0, .int .u64 0, .int .u64 0, .int .i64 0, .int .i64 0]) (t := 36) ?hr ?_; (case hd => rfl); (case hg => rfl); (case hr => first | (go_simp; done) | (go_simp; rfl)); intro gb118 hg w6 hbox hb; have n0_ := Aside0.mk (blk_below (g := gb117) (o := .cells #[.slice A0_0 l0_0.length c0_0, .int .i64 a0_1, .int .i64 a0_2, .int .u64 a0_3, .int .u64 a0_4] 52 (0, 0)) (by (with_reducible repeat (first | refine blk_drewN ?_ _ | refine blk_drew ?_ | refine blk_alloc ?_ _)); exact BK117.out) hb); have n1_ := Aside0.mk (below_step (by repeat (first | (with_reducible first | exact HB.out | apply below_alloc | apply pw_below_drewN | apply below_drew1 | refine below_set ?_ GE117.out) | exact HB.out)) hb); have n2_ := Aside0.mk (hbox); have n3_ := Aside0.mk ((by rw [hg]; exact (below_size (by repeat (first | (with_reducible first | exact HB.out | apply below_alloc | apply pw_below_drewN | apply below_drew1 | refine below_set ?_ GE117.out) | exact HB.out))) : w.heap.size ≤ gb118)); have n4_ := Aside0.mk ((by rw [hg]; exact (below_size (by repeat (first | (with_reducible first | exact HB.out | apply below_alloc | apply pw_below_drewN | apply below_drew1 | refine below_set ?_ GE117.out) | exact HB.out))) : w.heap.size ≤ gb118)); have n5_ := Aside0.mk ((by rw [hg]; exact Nat.ne_of_lt (blk_lt (g := gb117) (o := .cells #[.slice A0_0 l0_0.length c0_0, .int .i64 a0_1, .int .i64 a0_2, .int .u64 a0_3, .int .u64 a0_4] 52 (0, 0)) (by (with_reducible repeat (first | refine blk_drewN ?_ _ | refine blk_drew ?_ | refine blk_alloc ?_ _)); exact BK117.out)) : gb117 ≠ gb118)); have n6_ := Aside0.mk ((by rw [hg]; exact Nat.ne_of_gt (blk_lt (g := gb117) (o := .cells #[.slice A0_0 l0_0.length c0_0, .int .i64 a0_1, .int .i64 a0_2, .int .u64 a0_3, .int .u64 a0_4] 52 (0, 0)) (by (with_reducible repeat (first | refine blk_drewN ?_ _ | refine blk_drew ?_ | refine blk_alloc ?_ _)); exact BK117.out)) : gb118 ≠ gb117)); clear BK117; clear HB; have BK117 := n0_; have HB := n1_; have BK118 := n2_; have GW118 := n3_; have GE118 := n4_; have NB117_118 := n5_; have NB118_117 := n6_; clear n0_ n1_ n2_ n3_ n4_ n5_ n6_; clear hb hbox hg; have hnb7 := NB117_118.out; have hnc7 := NB118_117.out; have hcz8_0 : w6.cell? ⟨gb117, 0, none⟩ = some (.slice A0_0 l0_0.length c0_0) := (blk_cell BK117.out 0).trans rfl; have hcz8_1 : w6.cell? ⟨gb117, 1, none⟩ = some (.int .i64 a0_1) := (blk_cell BK117.out 1).trans rfl; have hcz8_2 : w6.cell? ⟨gb117, 2, none⟩ = some (.int .i64 a0_2) := (blk_cell BK117.out 2).trans rfl; have hcz8_3 : w6.cell? ⟨gb117, 3, none⟩ = some (.int .u64 a0_3) := (blk_cell BK117.out 3).trans rfl; have hcz8_4 : w6.cell? ⟨gb117, 4, none⟩ = some (.int .u64 a0_4) := (blk_cell BK117.out 4).trans rfl; have hfz8_0 := blk_frozen BK117.out 0; have hfz8_1 := blk_frozen BK117.out 1; have hfz8_2 := blk_frozen BK117.out 2; have hfz8_3 := blk_frozen BK117.out 3; have hfz8_4 := blk_frozen BK117.out 4) | ((with_reducible refine gate_callee (f := 38) rfl ?_); refine goesL_ (some 8) rfl rfl Tryd.func38 (by kernel_rfl) rfl #[.agg #[.slice A0_0 l0_0.length c0_0, .int .i64 a0_1, .int .i64 a0_2, .int .u64 a0_3, .int .u64 a0_4]] rfl (by (try simp only [List.map_toArray, List.map_cons, List.map_nil]); first | done | rfl | (simp only [List.length_drop, List.length_take]; rfl)) ?_; (with_reducible refine (proof_Nodes_Ephem.calls _ _ l0_0 a0_1 a0_2 a0_3 a0_4 t119 t120 t121 t122 _ ?side1 ?side2 A2.out).mono ?_); (case side1 => repeat (first | exact (Kd.C_below HR0_0.out HB.out) | (with_reducible refine Kd.C_alloc ?_ _) | (with_reducible refine Kd.C_drewN ?_ _) | (with_reducible refine Kd.C_drew ?_))); (case side2 => exact HC0_0.out); rintro e w9 ⟨rfl, hb⟩; refine ⟨_, rfl, ?_⟩; have n0_ := Aside0.mk (blk_below (g := gb117) (o := .cells #[.slice A0_0 l0_0.length c0_0, .int .i64 a0_1, .int .i64 a0_2, .int .u64 a0_3, .int .u64 a0_4] 52 (0, 0)) (by (with_reducible repeat (first | refine blk_drewN ?_ _ | refine blk_drew ?_ | refine blk_alloc ?_ _)); exact BK117.out) hb); have n1_ := Aside0.mk (blk_below (g := gb118) (o := .cells #[.slice none 0 0, .int .u64 0, .int .u64 0, .int .i64 0, .int .i64 0] 36 (0, 0)) (by (with_reducible repeat (first | refine blk_drewN ?_ _ | refine blk_drew ?_ | refine blk_alloc ?_ _)); exact BK118.out) hb); have n2_ := Aside0.mk (below_step (by repeat (first | (with_reducible first | exact HB.out | apply below_alloc | apply pw_below_drewN | apply below_drew1 | refine below_set ?_ GE117.out | refine below_set ?_ GE118.out) | exact HB.out)) hb); clear BK117; clear BK118; clear HB; have BK117 := n0_; have BK118 := n1_; have HB := n2_; clear n0_ n1_ n2_; (try clear hb); (try clear hb2); (try clear hk); (try clear hi)) | ((with_reducible refine gate_dst (N := 3) rfl ?_); refine box_event ?hg (N := 3) ?hd (cs := #[.int .u64 0, .int .u64 0]) (t := 46) ?hr ?_; (case hd => rfl); (case hg => rfl); (case hr => first | (go_simp; done) | (go_simp; rfl)); intro gb123 hg w10 hbox hb; have n0_ := Aside0.mk (blk_below (g := gb117) (o := .cells #[.slice A0_0 l0_0.length c0_0, .int .i64 a0_1, .int .i64 a0_2, .int .u64 a0_3, .int .u64 a0_4] 52 (0, 0)) (by (with_reducible repeat (first | refine blk_drewN ?_ _ | refine blk_drew ?_ | refine blk_alloc ?_ _)); exact BK117.out) hb); have n1_ := Aside0.mk (blk_below (g := gb118) (o := .cells #[.slice none 0 0, .int .u64 0, .int .u64 0, .int .i64 0, .int .i64 0] 36 (0, 0)) (by (with_reducible repeat (first | refine blk_drewN ?_ _ | refine blk_drew ?_ | refine blk_alloc ?_ _)); exact BK118.out) hb); have n2_ := Aside0.mk (below_step (by repeat (first | (with_reducible first | exact HB.out | apply below_alloc | apply pw_below_drewN | apply below_drew1 | refine below_set ?_ GE117.out | refine below_set ?_ GE118.out) | exact HB.out)) hb); have n3_ := Aside0.mk (hbox); have n4_ := Aside0.mk ((by rw [hg]; exact (below_size (by repeat (first | (with_reducible first | exact HB.out | apply below_alloc | apply pw_below_drewN | apply below_drew1 | refine below_set ?_ GE117.out | refine below_set ?_ GE118.out) | exact HB.out))) : w.heap.size ≤ gb123)); have n5_ := Aside0.mk ((by rw [hg]; exact (below_size (by repeat (first | (with_reducible first | exact HB.out | apply below_alloc | apply pw_below_drewN | apply below_drew1 | refine below_set ?_ GE117.out | refine below_set ?_ GE118.out) | exact HB.out))) : w.heap.size ≤ gb123)); have n6_ := Aside0.mk ((by rw [hg]; exact Nat.ne_of_lt (blk_lt (g := gb117) (o := .cells #[.slice A0_0 l0_0.length c0_0, .int .i64 a0_1, .int .i64 a0_2, .int .u64 a0_3, .int .u64 a0_4] 52 (0, 0)) (by (with_reducible repeat (first | refine blk_drewN ?_ _ | refine blk_drew ?_ | refine blk_alloc ?_ _)); exact BK117.out)) : gb117 ≠ gb123)); have n7_ := Aside0.mk ((by rw [hg]; exact Nat.ne_of_gt (blk_lt (g := gb117) (o := .cells #[.slice A0_0 l0_0.length c0_0, .int .i64 a0_1, .int .i64 a0_2, .int .u64 a0_3, .int .u64 a0_4] 52 (0, 0)) (by (with_reducible repeat (first | refine blk_drewN ?_ _ | refine blk_drew ?_ | refine blk_alloc ?_ _)); exact BK117.out)) : gb123 ≠ gb117)); have n8_ := Aside0.mk ((by rw [hg]; exact Nat.ne_of_lt (blk_lt (g := gb118) (o := .cells #[.slice none 0 0, .int .u64 0, .int .u64 0, .int .i64 0, .int .i64 0] 36 (0, 0)) (by (with_reducible repeat (first | refine blk_drewN ?_ _ | refine blk_drew ?_ | refine blk_alloc ?_ _)); exact BK118.out)) : gb118 ≠ gb123)); have n9_ := Aside0.mk ((by rw [hg]; exact Nat.ne_of_gt (blk_lt (g := gb118) (o := .cells #[.slice none 0 0, .int .u64 0, .int .u64 0, .int .i64 0, .int .i64 0] 36 (0, 0)) (by (with_reducible repeat (first | refine blk_drewN ?_ _ | refine blk_drew ?_ | refine blk_alloc ?_ _)); exact BK118.out)) : gb123 ≠ gb118)); clear BK117; clear BK118; clear HB; have BK117 := n0_; have BK118 := n1_; have HB := n2_; have BK123 := n3_; have GW123 := n4_; have GE123 := n5_; have NB117_123 := n6_; have NB123_117 := n7_; have NB118_123 := n8_; have NB123_118 := n9_; clear n0_ n1_ n2_ n3_ n4_ n5_ n6_ n7_ n8_ n9_; clear hb hbox hg; have hnb11 := NB123_117.out; have hnc11 := NB117_123.out; have hnb12 := NB123_118.out; have hnc12 := NB118_123.out; have hcz13_0 : w10.cell? ⟨gb123, 0, none⟩ = some (.int .u64 0) := (blk_cell BK123.out 0).trans rfl; have hcz13_1 : w10.cell? ⟨gb123, 1, none⟩ = some (.int .u64 0) := (blk_cell BK123.out 1).trans rfl; have hfz13_0 := blk_frozen BK123.out 0; have hfz13_1 := blk_frozen BK123.out 1))
  have n0_ : Aside0 (((w10.setCell ⟨gb123, 0, none⟩ (.int .u64 t119)).setCell ⟨gb123, 1, none⟩ (.int .u64 t120)).heap[gb117]? = some (.cells #[.slice A0_0 l0_0.length c0_0, .int .i64 a0_1, .int .i64 a0_2, .int .u64 a0_3, .int .u64 a0_4] 52 (0, 0))) := ⟨by (with_reducible repeat (first | refine blk_drewN ?_ _ | refine blk_drew ?_ | refine blk_alloc ?_ _)); refine blk_far ?_ NB117_123.out _; (with_reducible repeat (first | refine blk_drewN ?_ _ | refine blk_drew ?_ | refine blk_alloc ?_ _)); refine blk_far ?_ NB117_123.out _; (with_reducible repeat (first | refine blk_drewN ?_ _ | refine blk_drew ?_ | refine blk_alloc ?_ _)); exact BK117.out⟩
  have n1_ : Aside0 (((w10.setCell ⟨gb123, 0, none⟩ (.int .u64 t119)).setCell ⟨gb123, 1, none⟩ (.int .u64 t120)).heap[gb118]? = some (.cells #[.slice none 0 0, .int .u64 0, .int .u64 0, .int .i64 0, .int .i64 0] 36 (0, 0))) := ⟨by (with_reducible repeat (first | refine blk_drewN ?_ _ | refine blk_drew ?_ | refine blk_alloc ?_ _)); refine blk_far ?_ NB118_123.out _; (with_reducible repeat (first | refine blk_drewN ?_ _ | refine blk_drew ?_ | refine blk_alloc ?_ _)); refine blk_far ?_ NB118_123.out _; (with_reducible repeat (first | refine blk_drewN ?_ _ | refine blk_drew ?_ | refine blk_alloc ?_ _)); exact BK118.out⟩
  have n2_ : Aside0 (((w10.setCell ⟨gb123, 0, none⟩ (.int .u64 t119)).setCell ⟨gb123, 1, none⟩ (.int .u64 t120)).heap[gb123]? = some (.cells #[.int .u64 t119, .int .u64 t120] 46 (0, 0))) := ⟨by (with_reducible repeat (first | refine blk_drewN ?_ _ | refine blk_drew ?_ | refine blk_alloc ?_ _)); refine blk_put (cs := #[.int .u64 t119, .int .u64 0]) ?_ 1 _ rfl; (with_reducible repeat (first | refine blk_drewN ?_ _ | refine blk_drew ?_ | refine blk_alloc ?_ _)); refine blk_put (cs := #[.int .u64 0, .int .u64 0]) ?_ 0 _ rfl; (with_reducible repeat (first | refine blk_drewN ?_ _ | refine blk_drew ?_ | refine blk_alloc ?_ _)); exact BK123.out⟩
  have n3_ : Aside0 (Below w.heap.size w ((w10.setCell ⟨gb123, 0, none⟩ (.int .u64 t119)).setCell ⟨gb123, 1, none⟩ (.int .u64 t120))) := ⟨by repeat (first | (with_reducible first | exact HB.out | apply below_alloc | apply pw_below_drewN | apply below_drew1 | refine below_set ?_ GE117.out | refine below_set ?_ GE118.out | refine below_set ?_ GE123.out) | exact HB.out)⟩
  (try clear BK117)
  (try clear BK118)
  (try clear BK123)
  (try clear HB)
  generalize ((w10.setCell ⟨gb123, 0, none⟩ (.int .u64 t119)).setCell ⟨gb123, 1, none⟩ (.int .u64 t120)) = w14 at n0_ n1_ n2_ n3_ ⊢
  have BK117 := n0_
  have BK118 := n1_
  have BK123 := n2_
  have HB := n3_
  clear n0_ n1_ n2_ n3_
  have n0_ := Aside0.mk (blk_drew BK117.out)
  have n1_ := Aside0.mk (blk_drew BK118.out)
  have n2_ := Aside0.mk (blk_drew BK123.out)
  have n3_ := Aside0.mk (below_drew1 HB.out)
  clear BK117
  clear BK118
  clear BK123
  clear HB
  have BK117 := n0_
  have BK118 := n1_
  have BK123 := n2_
  have HB := n3_
  clear n0_ n1_ n2_ n3_
  refine start_ (n := 9) (S := fun w' => w'.cell? ⟨gb117, 0, none⟩ = some (.slice A0_0 l0_0.length c0_0) ∧ w'.cell? ⟨gb117, 1, none⟩ = some (.int .i64 a0_1) ∧ w'.cell? ⟨gb117, 2, none⟩ = some (.int .i64 a0_2) ∧ w'.cell? ⟨gb117, 3, none⟩ = some (.int .u64 a0_3) ∧ w'.cell? ⟨gb117, 4, none⟩ = some (.int .u64 a0_4) ∧ w'.cell? ⟨gb123, 0, none⟩ = some (.int .u64 t119) ∧ w'.cell? ⟨gb123, 1, none⟩ = some (.int .u64 t120)) (ds := []) #[false, false, false, false, false, false, false, false, false] (by kernel_rfl) rfl rfl ⟨(blk_cell BK117.out 0).trans rfl, (blk_cell BK117.out 1).trans rfl, (blk_cell BK117.out 2).trans rfl, (blk_cell BK117.out 3).trans rfl, (blk_cell BK117.out 4).trans rfl, (blk_cell BK123.out 0).trans rfl, (blk_cell BK123.out 1).trans rfl⟩ (fun hHeld => ?_); refine with_tabW impl_fromProof.tab2 impl_fromProof.bits2 (fun HT_ HW_ => ?_)
  generalize w14.drew = w15 at BK117 BK118 BK123 HB hHeld ⊢
  refine pure_ (i := 0) (N := some 12) (v := ?_) (a' := ?_) #[true, false, false, false, false, false, false, false, false] rfl rfl (any_of HT_.out (by kernel_rfl)) (fun _ _ _ h => h) (Or.inl ⟨by rfl, ?_⟩) ?_ ?_
  rotate_left
  · intro w'
    go_simp
    with_reducible rfl
  rotate_left
  · simp only [Act.put, List.setIfInBounds_toArray, List.set_cons_zero, List.set_cons_succ, i64_w, i32_w]
    rfl
  refine pure_ (i := 5) (N := some 17) (v := ?_) (a' := ?_) #[true, false, false, false, false, true, false, false, false] rfl rfl (any_of HT_.out (by kernel_rfl)) (fun _ _ _ h => h) (Or.inl ⟨by rfl, ?_⟩) ?_ ?_
  rotate_left
  · intro w'
    go_simp
    with_reducible rfl
  rotate_left
  · simp only [Act.put, List.setIfInBounds_toArray, List.set_cons_zero, List.set_cons_succ, i64_w, i32_w]
    rfl
  refine pure_ (i := 6) (N := some 18) (v := ?_) (a' := ?_) #[true, false, false, false, false, true, true, false, false] rfl rfl (any_of HT_.out (by kernel_rfl)) (fun _ _ _ h => h) (Or.inl ⟨by rfl, ?_⟩) ?_ ?_
  rotate_left
  · intro w'
    go_simp
    with_reducible rfl
  rotate_left
  · simp only [Act.put, List.setIfInBounds_toArray, List.set_cons_zero, List.set_cons_succ, i64_w, i32_w]
    rfl
  refine take_ (i := 1) (N := some 13) (v := ?_) (a' := ?_) #[true, true, false, false, false, true, true, false, false] rfl rfl (take_ofW HT_.out HW_.out (by kernel_rfl)) (fun _ _ _ h => h) (Or.inl ⟨by rfl, ?_⟩) hHeld ?_ ?_
  rotate_left
  · rintro w' ⟨s0, s1, s2, s3, s4, s5, s6⟩
    go_simp
    with_reducible rfl
  rotate_left
  · simp only [Act.put, List.setIfInBounds_toArray, List.set_cons_zero, List.set_cons_succ, i64_w, i32_w]
    rfl
  refine take_ (i := 3) (N := some 15) (v := ?_) (a' := ?_) #[true, true, false, true, false, true, true, false, false] rfl rfl (take_ofW HT_.out HW_.out (by kernel_rfl)) (fun _ _ _ h => h) (Or.inl ⟨by rfl, ?_⟩) hHeld ?_ ?_
  rotate_left
  · rintro w' ⟨s0, s1, s2, s3, s4, s5, s6⟩
    go_simp
    with_reducible rfl
  rotate_left
  · simp only [Act.put, List.setIfInBounds_toArray, List.set_cons_zero, List.set_cons_succ, i64_w, i32_w]
    rfl
  refine one_ (i := 2) (N := some 14) #[true, true, true, true, false, true, true, false, false] rfl rfl (one_of HT_.out (by kernel_rfl)) (by decide) (fun K hK => ?_)
  refine goes_ Tryd.func19 (by kernel_rfl) rfl #[.slice A0_0 l0_0.length c0_0] (by rfl) rfl rfl (by (try simp only [List.map_toArray, List.map_cons, List.map_nil]); first | done | rfl | (simp only [List.length_drop, List.length_take]; rfl)) ?_
  with_reducible refine (impl_fromNodes.calls k _ _ l0_0 t124 _ ?side1 ?side2 A3.out).mono ?_
  (case side1 => repeat (first | exact (Kd.C_below HR0_0.out HB.out) | (with_reducible refine Kd.C_alloc ?_ _) | (with_reducible refine Kd.C_drewN ?_ _) | (with_reducible refine Kd.C_drew ?_)))
  (case side2 => exact HC0_0.out)
  rintro e w16 ⟨v125, rfl, ho0, hb⟩
  refine ⟨_, rfl, ?_⟩
  have n0_ := Aside0.mk (Kd.R_lower ho0 (below_size (by repeat (first | (with_reducible first | exact HB.out | apply below_alloc | apply pw_below_drewN | apply below_drew1 | refine below_set ?_ GE117.out | refine below_set ?_ GE118.out | refine below_set ?_ GE123.out) | exact HB.out))))
  have n1_ := Aside0.mk (blk_below (g := gb117) (o := .cells #[.slice A0_0 l0_0.length c0_0, .int .i64 a0_1, .int .i64 a0_2, .int .u64 a0_3, .int .u64 a0_4] 52 (0, 0)) (by (with_reducible repeat (first | refine blk_drewN ?_ _ | refine blk_drew ?_ | refine blk_alloc ?_ _)); exact BK117.out) hb)
  have n2_ := Aside0.mk (blk_below (g := gb118) (o := .cells #[.slice none 0 0, .int .u64 0, .int .u64 0, .int .i64 0, .int .i64 0] 36 (0, 0)) (by (with_reducible repeat (first | refine blk_drewN ?_ _ | refine blk_drew ?_ | refine blk_alloc ?_ _)); exact BK118.out) hb)
  have n3_ := Aside0.mk (blk_below (g := gb123) (o := .cells #[.int .u64 t119, .int .u64 t120] 46 (0, 0)) (by (with_reducible repeat (first | refine blk_drewN ?_ _ | refine blk_drew ?_ | refine blk_alloc ?_ _)); exact BK123.out) hb)
  have n4_ := Aside0.mk (below_step (by repeat (first | (with_reducible first | exact HB.out | apply below_alloc | apply pw_below_drewN | apply below_drew1 | refine below_set ?_ GE117.out | refine below_set ?_ GE118.out | refine below_set ?_ GE123.out) | exact HB.out)) hb)
  clear BK117
  clear BK118
  clear BK123
  clear HB
  have HO126 := n0_
  have BK117 := n1_
  have BK118 := n2_
  have BK123 := n3_
  have HB := n4_
  clear n0_ n1_ n2_ n3_ n4_
  (try clear hb)
  (try clear hb2)
  (try clear hk)
  (try clear hi)
  (try clear ho0)
  refine hK.out _ _ ⟨(blk_cell BK117.out 0).trans rfl, (blk_cell BK117.out 1).trans rfl, (blk_cell BK117.out 2).trans rfl, (blk_cell BK117.out 3).trans rfl, (blk_cell BK117.out 4).trans rfl, (blk_cell BK123.out 0).trans rfl, (blk_cell BK123.out 1).trans rfl⟩ (fun hHeld => ?_)
  clear hK K
  refine norm_ (a' := ?_) ?_ ?_
  rotate_left
  · show Act.put _ (some 14) _ = _
    simp only [Act.put, List.setIfInBounds_toArray, List.set_cons_zero, List.set_cons_succ, i64_w, i32_w]
    rfl
  refine one_ (i := 4) (N := some 16) #[true, true, true, true, true, true, true, false, false] rfl rfl (one_of HT_.out (by kernel_rfl)) (by decide) (fun K hK => ?_)
  refine goes_ Tryd.func33 (by kernel_rfl) rfl #[.agg #[.int .u64 t119, .int .u64 t120]] (by rfl) rfl rfl (by (try simp only [List.map_toArray, List.map_cons, List.map_nil]); first | done | rfl | (simp only [List.length_drop, List.length_take]; rfl)) ?_
  with_reducible refine (impl_fromNode.calls t119 t120 t127 t128 _ A4.out).mono ?_
  rintro e w17 ⟨rfl, hb⟩
  refine ⟨_, rfl, ?_⟩
  have n0_ := Aside0.mk (Kd.R_below (by (with_reducible repeat (first | apply Kd.R_alloc | apply Kd.R_drewN | apply Kd.R_drew)); exact HO126.out) hb)
  have n1_ := Aside0.mk (blk_below (g := gb117) (o := .cells #[.slice A0_0 l0_0.length c0_0, .int .i64 a0_1, .int .i64 a0_2, .int .u64 a0_3, .int .u64 a0_4] 52 (0, 0)) (by (with_reducible repeat (first | refine blk_drewN ?_ _ | refine blk_drew ?_ | refine blk_alloc ?_ _)); exact BK117.out) hb)
  have n2_ := Aside0.mk (blk_below (g := gb118) (o := .cells #[.slice none 0 0, .int .u64 0, .int .u64 0, .int .i64 0, .int .i64 0] 36 (0, 0)) (by (with_reducible repeat (first | refine blk_drewN ?_ _ | refine blk_drew ?_ | refine blk_alloc ?_ _)); exact BK118.out) hb)
  have n3_ := Aside0.mk (blk_below (g := gb123) (o := .cells #[.int .u64 t119, .int .u64 t120] 46 (0, 0)) (by (with_reducible repeat (first | refine blk_drewN ?_ _ | refine blk_drew ?_ | refine blk_alloc ?_ _)); exact BK123.out) hb)
  have n4_ := Aside0.mk (below_step (by repeat (first | (with_reducible first | exact HB.out | apply below_alloc | apply pw_below_drewN | apply below_drew1 | refine below_set ?_ GE117.out | refine below_set ?_ GE118.out | refine below_set ?_ GE123.out) | exact HB.out)) hb)
  clear HO126
  clear BK117
  clear BK118
  clear BK123
  clear HB
  have HO126 := n0_
  have BK117 := n1_
  have BK118 := n2_
  have BK123 := n3_
  have HB := n4_
  clear n0_ n1_ n2_ n3_ n4_
  (try clear hb)
  (try clear hb2)
  (try clear hk)
  (try clear hi)
  obtain ⟨Ao18, co18, eo18⟩ := Kd.R_slice HO126.out
  (first | subst eo18 | (injection eo18 with f1_ f2_ f3_; have f4_ := f1_.symm; have f5_ := f3_.symm; clear f1_ f2_ f3_; subst f4_; subst f5_))
  refine hK.out _ _ ⟨(blk_cell BK117.out 0).trans rfl, (blk_cell BK117.out 1).trans rfl, (blk_cell BK117.out 2).trans rfl, (blk_cell BK117.out 3).trans rfl, (blk_cell BK117.out 4).trans rfl, (blk_cell BK123.out 0).trans rfl, (blk_cell BK123.out 1).trans rfl⟩ (fun hHeld => ?_)
  clear hK K
  refine norm_ (a' := ?_) ?_ ?_
  rotate_left
  · show Act.put _ (some 16) _ = _
    simp only [Act.put, List.setIfInBounds_toArray, List.set_cons_zero, List.set_cons_succ, i64_w, i32_w]
    rfl
  refine pure_ (i := 7) (N := some 19) (v := ?_) (a' := ?_) #[true, true, true, true, true, true, true, true, false] rfl rfl (any_of HT_.out (by kernel_rfl)) (fun _ _ _ h => h) (Or.inl ⟨by rfl, ?_⟩) ?_ ?_
  rotate_left
  · intro w'
    go_simp
    with_reducible rfl
  rotate_left
  · simp only [Act.put, List.setIfInBounds_toArray, List.set_cons_zero, List.set_cons_succ, i64_w, i32_w]
    rfl
  refine one_ (i := 8) (N := none) #[true, true, true, true, true, true, true, true, true] rfl rfl (one_of HT_.out (by kernel_rfl)) (by decide) (fun K hK => ?_)
  have hs19 : w17.cell? ⟨gb118, 0, none⟩ = some (.slice none 0 0) := (blk_cell BK118.out 0).trans rfl
  have hfs19 := blk_frozen BK118.out 0
  have hns19_0 := NB117_118.out
  have hns19_2 := NB123_118.out
  have hms19_0 := NB118_117.out
  have hms19_2 := NB118_123.out
  have hs20 : w17.cell? ⟨gb118, 1, none⟩ = some (.int .u64 0) := (blk_cell BK118.out 1).trans rfl
  have hfs20 := blk_frozen BK118.out 1
  have hns20_0 := NB117_118.out
  have hns20_2 := NB123_118.out
  have hms20_0 := NB118_117.out
  have hms20_2 := NB118_123.out
  have hs21 : w17.cell? ⟨gb118, 2, none⟩ = some (.int .u64 0) := (blk_cell BK118.out 2).trans rfl
  have hfs21 := blk_frozen BK118.out 2
  have hns21_0 := NB117_118.out
  have hns21_2 := NB123_118.out
  have hms21_0 := NB118_117.out
  have hms21_2 := NB118_123.out
  have hs22 : w17.cell? ⟨gb118, 3, none⟩ = some (.int .i64 0) := (blk_cell BK118.out 3).trans rfl
  have hfs22 := blk_frozen BK118.out 3
  have hns22_0 := NB117_118.out
  have hns22_2 := NB123_118.out
  have hms22_0 := NB118_117.out
  have hms22_2 := NB118_123.out
  have hs23 : w17.cell? ⟨gb118, 4, none⟩ = some (.int .i64 0) := (blk_cell BK118.out 4).trans rfl
  have hfs23 := blk_frozen BK118.out 4
  have hns23_0 := NB117_118.out
  have hns23_2 := NB123_118.out
  have hms23_0 := NB118_117.out
  have hms23_2 := NB118_123.out
  refine skip_ (w1 := ?_) (by rfl) rfl ?_ ?_
  rotate_left
  · go_simp
    rfl
  refine hK.out _ _ ⟨((cell_far (p := ⟨gb118, _, none⟩) NB117_118.out _).trans (((cell_far (p := ⟨gb118, _, none⟩) NB117_118.out _).trans (((cell_far (p := ⟨gb118, _, none⟩) NB117_118.out _).trans (((cell_far (p := ⟨gb118, _, none⟩) NB117_118.out _).trans (((cell_far (p := ⟨gb118, _, none⟩) NB117_118.out _).trans (hHeld.1)))))))))), ((cell_far (p := ⟨gb118, _, none⟩) NB117_118.out _).trans (((cell_far (p := ⟨gb118, _, none⟩) NB117_118.out _).trans (((cell_far (p := ⟨gb118, _, none⟩) NB117_118.out _).trans (((cell_far (p := ⟨gb118, _, none⟩) NB117_118.out _).trans (((cell_far (p := ⟨gb118, _, none⟩) NB117_118.out _).trans (hHeld.2.1)))))))))), ((cell_far (p := ⟨gb118, _, none⟩) NB117_118.out _).trans (((cell_far (p := ⟨gb118, _, none⟩) NB117_118.out _).trans (((cell_far (p := ⟨gb118, _, none⟩) NB117_118.out _).trans (((cell_far (p := ⟨gb118, _, none⟩) NB117_118.out _).trans (((cell_far (p := ⟨gb118, _, none⟩) NB117_118.out _).trans (hHeld.2.2.1)))))))))), ((cell_far (p := ⟨gb118, _, none⟩) NB117_118.out _).trans (((cell_far (p := ⟨gb118, _, none⟩) NB117_118.out _).trans (((cell_far (p := ⟨gb118, _, none⟩) NB117_118.out _).trans (((cell_far (p := ⟨gb118, _, none⟩) NB117_118.out _).trans (((cell_far (p := ⟨gb118, _, none⟩) NB117_118.out _).trans (hHeld.2.2.2.1)))))))))), ((cell_far (p := ⟨gb118, _, none⟩) NB117_118.out _).trans (((cell_far (p := ⟨gb118, _, none⟩) NB117_118.out _).trans (((cell_far (p := ⟨gb118, _, none⟩) NB117_118.out _).trans (((cell_far (p := ⟨gb118, _, none⟩) NB117_118.out _).trans (((cell_far (p := ⟨gb118, _, none⟩) NB117_118.out _).trans (hHeld.2.2.2.2.1)))))))))), ((cell_far (p := ⟨gb118, _, none⟩) NB123_118.out _).trans (((cell_far (p := ⟨gb118, _, none⟩) NB123_118.out _).trans (((cell_far (p := ⟨gb118, _, none⟩) NB123_118.out _).trans (((cell_far (p := ⟨gb118, _, none⟩) NB123_118.out _).trans (((cell_far (p := ⟨gb118, _, none⟩) NB123_118.out _).trans (hHeld.2.2.2.2.2.1)))))))))), ((cell_far (p := ⟨gb118, _, none⟩) NB123_118.out _).trans (((cell_far (p := ⟨gb118, _, none⟩) NB123_118.out _).trans (((cell_far (p := ⟨gb118, _, none⟩) NB123_118.out _).trans (((cell_far (p := ⟨gb118, _, none⟩) NB123_118.out _).trans (((cell_far (p := ⟨gb118, _, none⟩) NB123_118.out _).trans (hHeld.2.2.2.2.2.2))))))))))⟩ (fun hHeld => ?_)
  clear hK K
  refine done_ (done_of HT_.out (by kernel_rfl)) ?_
  try go_wp2
  refine bodyPost_ret (results_cell_row rfl _ _ gb118 36 #[.slice Ao18 t124.length co18, .int .u64 t127, .int .u64 t128, .int .i64 t121, .int .i64 t122] (0, 0) _ rfl (by (with_reducible repeat (first | refine blk_drewN ?_ _ | refine blk_drew ?_ | refine blk_alloc ?_ _)); refine blk_put (cs := #[.slice Ao18 t124.length co18, .int .u64 t127, .int .u64 t128, .int .i64 t121, .int .i64 0]) ?_ 4 _ rfl; (with_reducible repeat (first | refine blk_drewN ?_ _ | refine blk_drew ?_ | refine blk_alloc ?_ _)); refine blk_put (cs := #[.slice Ao18 t124.length co18, .int .u64 t127, .int .u64 t128, .int .i64 0, .int .i64 0]) ?_ 3 _ rfl; (with_reducible repeat (first | refine blk_drewN ?_ _ | refine blk_drew ?_ | refine blk_alloc ?_ _)); refine blk_put (cs := #[.slice Ao18 t124.length co18, .int .u64 t127, .int .u64 0, .int .i64 0, .int .i64 0]) ?_ 2 _ rfl; (with_reducible repeat (first | refine blk_drewN ?_ _ | refine blk_drew ?_ | refine blk_alloc ?_ _)); refine blk_put (cs := #[.slice Ao18 t124.length co18, .int .u64 0, .int .u64 0, .int .i64 0, .int .i64 0]) ?_ 1 _ rfl; (with_reducible repeat (first | refine blk_drewN ?_ _ | refine blk_drew ?_ | refine blk_alloc ?_ _)); refine blk_put (cs := #[.slice none 0 0, .int .u64 0, .int .u64 0, .int .i64 0, .int .i64 0]) ?_ 0 _ rfl; (with_reducible repeat (first | refine blk_drewN ?_ _ | refine blk_drew ?_ | refine blk_alloc ?_ _)); exact BK118.out) Tryd.underlying36 rfl (by kernel_rfl)) rfl ?_
  exact ⟨_, by first | rfl | (simp [errW_none, errW_some] <;> rfl) | (simp [*, errW_none, errW_some] <;> rfl), by (with_reducible repeat (first | apply Kd.R_alloc | apply Kd.R_drewN | apply Kd.R_drew)); exact Kd.R_mono (Kd.R_far (p := ⟨gb118, 4, none⟩) (Kd.R_far (p := ⟨gb118, 3, none⟩) (Kd.R_far (p := ⟨gb118, 2, none⟩) (Kd.R_far (p := ⟨gb118, 1, none⟩) (Kd.R_far (p := ⟨gb118, 0, none⟩) (Kd.R_types HO126.out BK118.out (by decide)) (fun _ hk => hk.2) (.slice Ao18 t124.length co18)) (fun _ hk => hk.2) (.int .u64 t127)) (fun _ hk => hk.2) (.int .u64 t128)) (fun _ hk => hk.2) (.int .i64 t121)) (fun _ hk => hk.2) (.int .i64 t122)) (fun _ hk => trivial), by repeat (first | (with_reducible first | exact HB.out | apply below_alloc | apply pw_below_drewN | apply below_drew1 | refine below_set ?_ GE117.out | refine below_set ?_ GE118.out | refine below_set ?_ GE123.out) | exact HB.out)⟩

/-! ### bits_TrailingZeros64: function 35, by the shelf's contract -/
def bits_TrailingZeros64.f (a0 : Int) : Option (Int) := if 0 ≤ a0 then (if a0 ≤ 18446744073709551615 then some ((Lib.ctz 64 a0.toNat : Nat) : Int) else none) else none
theorem bits_TrailingZeros64.calls (a0 : Int) (r : Int) (w : World) (HG_ : Glob w) (h : bits_TrailingZeros64.f a0 = some r) :
    Calls Tryd.prog 35 #[.int .u64 a0] w fun e w' => e = .returned (.int .i64 r) ∧ Drawn0 w w' := by
  unfold bits_TrailingZeros64.f at h
  by_cases c0 : 0 ≤ a0
  · rw [if_pos c0] at h
    by_cases c1 : a0 ≤ 18446744073709551615
    · rw [if_pos c1] at h
      obtain rfl := Option.some.inj h
      obtain ⟨n, rfl⟩ := Int.eq_ofNat_of_zero_le c0
      rw [Int.toNat_natCast]
      refine (Tryd.bits_TrailingZeros64 n (by omega) w (fun _ => HG_)).mono ?_
      rintro e w' ⟨rfl, rfl⟩
      exact ⟨rfl, Drawn0.refl _⟩
    · rw [if_neg c1] at h; exact absurd h (by simp)
  · rw [if_neg c0] at h; exact absurd h (by simp)

/-! ### compact_NewNodeID: function 32 -/
def compact_NewNodeID.f (a0 : Int) (a1 : Int) : Option (Int × Int) := some (a0, a1)
set_option maxHeartbeats 8000000 in
set_option maxRecDepth 100000 in
theorem compact_NewNodeID.calls (a0 : Int) (a1 : Int) (r1 : Int) (r2 : Int) (w : World) (h : compact_NewNodeID.f a0 a1 = some (r1, r2)) :
    Calls Tryd.prog 32 #[.int .u64 a0, .int .u64 a1] w fun e w' => e = .returned (.agg #[.int .u64 r1, .int .u64 r2]) ∧ Below w.heap.size w w' := by
  have hu46 := Tryd.underlying46
  have HB := Aside0.mk (Below.refl w.heap.size w)
  have H : (some (a0, a1)) = some (r1, r2) := h
  clear h
  simp only [Option.some.injEq, Prod.mk.injEq] at H
  obtain ⟨rfl, rfl⟩ := H
  go_enter Tryd.func32, Tryd.ntmps32
  go_wp2_with (first | ((with_reducible refine gate_dst (N := 4) rfl ?_); refine box_event ?hg (N := 4) ?hd (cs := #[.int .u64 0, .int .u64 0]) (t := 46) ?hr ?_; (case hd => rfl); (case hg => rfl); (case hr => first | (go_simp; done) | (go_simp; rfl)); intro gb129 hg w3 hbox hb; have n0_ := Aside0.mk (below_step (by repeat (first | (with_reducible first | exact HB.out | apply below_alloc | apply pw_below_drewN | apply below_drew1) | exact HB.out)) hb); have n1_ := Aside0.mk (hbox); have n2_ := Aside0.mk ((by rw [hg]; exact (below_size (by repeat (first | (with_reducible first | exact HB.out | apply below_alloc | apply pw_below_drewN | apply below_drew1) | exact HB.out))) : w.heap.size ≤ gb129)); have n3_ := Aside0.mk ((by rw [hg]; exact (below_size (by repeat (first | (with_reducible first | exact HB.out | apply below_alloc | apply pw_below_drewN | apply below_drew1) | exact HB.out))) : w.heap.size ≤ gb129)); clear HB; have HB := n0_; have BK129 := n1_; have GW129 := n2_; have GE129 := n3_; clear n0_ n1_ n2_ n3_; clear hb hbox hg; have hcz4_0 : w3.cell? ⟨gb129, 0, none⟩ = some (.int .u64 0) := (blk_cell BK129.out 0).trans rfl; have hcz4_1 : w3.cell? ⟨gb129, 1, none⟩ = some (.int .u64 0) := (blk_cell BK129.out 1).trans rfl; have hfz4_0 := blk_frozen BK129.out 0; have hfz4_1 := blk_frozen BK129.out 1))
  refine bodyPost_ret (results_cell_row rfl _ _ gb129 46 #[.int .u64 a0, .int .u64 a1] (0, 0) _ rfl (by (with_reducible repeat (first | refine blk_drewN ?_ _ | refine blk_drew ?_ | refine blk_alloc ?_ _)); refine blk_put (cs := #[.int .u64 a0, .int .u64 0]) ?_ 1 _ rfl; (with_reducible repeat (first | refine blk_drewN ?_ _ | refine blk_drew ?_ | refine blk_alloc ?_ _)); refine blk_put (cs := #[.int .u64 0, .int .u64 0]) ?_ 0 _ rfl; (with_reducible repeat (first | refine blk_drewN ?_ _ | refine blk_drew ?_ | refine blk_alloc ?_ _)); exact BK129.out) Tryd.underlying46 rfl (by kernel_rfl)) rfl ?_
  exact ⟨by first | rfl | (simp [errW_none, errW_some] <;> rfl) | (simp [*, errW_none, errW_some] <;> rfl), by repeat (first | (with_reducible first | exact HB.out | apply below_alloc | apply pw_below_drewN | apply below_drew1 | refine below_set ?_ GE129.out) | exact HB.out)⟩

/-! ### bits_Len64: function 36, by the shelf's contract -/
def bits_Len64.f (a0 : Int) : Option (Int) := if 0 ≤ a0 then (if a0 ≤ 18446744073709551615 then some ((Lib.bitLen a0.toNat : Nat) : Int) else none) else none
theorem bits_Len64.calls (a0 : Int) (r : Int) (w : World) (h : bits_Len64.f a0 = some r) :
    Calls Tryd.prog 36 #[.int .u64 a0] w fun e w' => e = .returned (.int .i64 r) ∧ Drawn0 w w' := by
  unfold bits_Len64.f at h
  by_cases c0 : 0 ≤ a0
  · rw [if_pos c0] at h
    by_cases c1 : a0 ≤ 18446744073709551615
    · rw [if_pos c1] at h
      obtain rfl := Option.some.inj h
      refine (Tryd.bits_Len64 a0 w c0 c1).mono ?_
      rintro e w' ⟨rfl, rfl⟩
      exact ⟨rfl, Drawn0.refl _⟩
    · rw [if_neg c1] at h; exact absurd h (by simp)
  · rw [if_neg c0] at h; exact absurd h (by simp)

/-! ### compact_Decompose: function 34 -/
def compact_Decompose.f (a0 : Int) (a1 : Int) : Option (Int × Int) := if a0 = 0 then (some (0, a1)) else ((bits_Len64.f (Go.bits .xor .u64 (IntKind.u64.wrap (a0 - 1)) a1)).bind fun t130 => (if 0 ≤ (IntKind.u64.wrap (wrap64 (t130 - 1))) then (some (Go.bits .and .u64 (Go.bits .xor .u64 18446744073709551615 (IntKind.u64.wrap (a0 - 1))) (IntKind.u64.wrap ((shl .u64 1 (IntKind.u64.wrap (wrap64 (t130 - 1)))) - 1)), Go.bits .and .u64 a1 (IntKind.u64.wrap ((shl .u64 1 (IntKind.u64.wrap (wrap64 (t130 - 1)))) - 1)))) else (none)))
set_option maxHeartbeats 8000000 in
set_option maxRecDepth 100000 in
theorem compact_Decompose.calls (a0 : Int) (a1 : Int) (r1 : Int) (r2 : Int) (w : World) (h : compact_Decompose.f a0 a1 = some (r1, r2)) :
    Calls Tryd.prog 34 #[.int .u64 a0, .int .u64 a1] w fun e w' => e = .returned (.tuple #[.int .u64 r1, .int .u64 r2]) ∧ Drawn0 w w' := by
  have H : (if a0 = 0 then (some (0, a1)) else ((bits_Len64.f (Go.bits .xor .u64 (IntKind.u64.wrap (a0 - 1)) a1)).bind fun t130 => (if 0 ≤ (IntKind.u64.wrap (wrap64 (t130 - 1))) then (some (Go.bits .and .u64 (Go.bits .xor .u64 18446744073709551615 (IntKind.u64.wrap (a0 - 1))) (IntKind.u64.wrap ((shl .u64 1 (IntKind.u64.wrap (wrap64 (t130 - 1)))) - 1)), Go.bits .and .u64 a1 (IntKind.u64.wrap ((shl .u64 1 (IntKind.u64.wrap (wrap64 (t130 - 1)))) - 1)))) else (none)))) = some (r1, r2) := h
  clear h
  by_cases c3 : a0 = 0
  · rw [if_pos c3] at H
    have c3b0 : (a0 == 0) = true := beq_iff_eq.mpr c3
    have c3b1 : (a0 != 0) = false := bne_eq_false_iff_eq.mpr c3
    clear c3
    simp only [Option.some.injEq, Prod.mk.injEq] at H
    obtain ⟨rfl, rfl⟩ := H
    go_enter Tryd.func34, Tryd.ntmps34
    go_wp2
    go_ret2
    exact ⟨by first | rfl | (simp; done) | (simp [*]; done), by repeat (first | exact Drawn0.refl _ | apply Drawn0.step)⟩
  · rw [if_neg c3] at H
    have c3b0 : (a0 == 0) = false := beq_eq_false_iff_ne.mpr c3
    have c3b1 : (a0 != 0) = true := bne_iff_ne.mpr c3
    replace H := Option.bind_eq_some_iff.mp H
    obtain ⟨t130, A40, H⟩ := H
    replace H : (if 0 ≤ (IntKind.u64.wrap (wrap64 (t130 - 1))) then (some (Go.bits .and .u64 (Go.bits .xor .u64 18446744073709551615 (IntKind.u64.wrap (a0 - 1))) (IntKind.u64.wrap ((shl .u64 1 (IntKind.u64.wrap (wrap64 (t130 - 1)))) - 1)), Go.bits .and .u64 a1 (IntKind.u64.wrap ((shl .u64 1 (IntKind.u64.wrap (wrap64 (t130 - 1)))) - 1)))) else (none)) = some (r1, r2) := H
    have A4 := Aside0.mk A40
    clear A40
    obtain ⟨ji5, hji5⟩ : ∃ j_ : Int, (IntKind.u64.wrap (wrap64 (t130 - 1))) = j_ := ⟨_, rfl⟩
    replace H : (if 0 ≤ (ji5) then (some (Go.bits .and .u64 (Go.bits .xor .u64 18446744073709551615 (IntKind.u64.wrap (a0 - 1))) (IntKind.u64.wrap ((shl .u64 1 (ji5)) - 1)), Go.bits .and .u64 a1 (IntKind.u64.wrap ((shl .u64 1 (ji5)) - 1)))) else (none)) = some (r1, r2) := by first | (rw [hji5] at H; exact H) | (simp only [hji5] at H ⊢; exact H)
    (try rw [hji5] at A4)
    by_cases c6 : 0 ≤ (ji5)
    · rw [if_pos c6] at H
      have c6b0 := eq_true c6
      have c6b1 : decide (0 ≤ (ji5)) = true := decide_eq_true c6
      clear c6
      obtain ⟨ji7, hji7⟩ : ∃ j_ : Int, (shl .u64 1 (ji5)) = j_ := ⟨_, rfl⟩
      replace H : (some (Go.bits .and .u64 (Go.bits .xor .u64 18446744073709551615 (IntKind.u64.wrap (a0 - 1))) (IntKind.u64.wrap ((ji7) - 1)), Go.bits .and .u64 a1 (IntKind.u64.wrap ((ji7) - 1)))) = some (r1, r2) := by first | (rw [hji7] at H; exact H) | (simp only [hji7] at H ⊢; exact H)
      (try rw [hji7] at A4)
      have hji7_ : (IntKind.u64.wrap (1 * 2 ^ min (ji5).toNat 64)) = ji7 := hji7
      have hji7z : (ji5) ≤ 64 → (IntKind.u64.wrap (1 * 2 ^ (ji5).toNat)) = ji7 := shl_small hji7
      have hji7u : (IntKind.u64.wrap (2 ^ min (ji5).toNat 64)) = ji7 := by have h_ := hji7_; rw [Int.one_mul] at h_; exact h_
      have hji7v : (ji5) ≤ 64 → (IntKind.u64.wrap (2 ^ (ji5).toNat)) = ji7 := fun hle_ => by have h_ := hji7z hle_; rw [Int.one_mul] at h_; exact h_
      simp only [Option.some.injEq, Prod.mk.injEq] at H
      obtain ⟨rfl, rfl⟩ := H
      go_enter Tryd.func34, Tryd.ntmps34
      go_wp2_with (first | ((with_reducible refine gate_callee (f := 36) rfl ?_); refine goesL_ (some 17) rfl rfl Tryd.func36 (by kernel_rfl) rfl #[.int .u64 (Go.bits .xor .u64 (IntKind.u64.wrap (a0 - 1)) a1)] rfl (by (try simp only [List.map_toArray, List.map_cons, List.map_nil]); first | done | rfl | (simp only [List.length_drop, List.length_take]; rfl)) ?_; (with_reducible refine (bits_Len64.calls (Go.bits .xor .u64 (IntKind.u64.wrap (a0 - 1)) a1) t130 _ A4.out).mono ?_); rintro e w' ⟨rfl, ⟨nd, rfl⟩⟩; refine ⟨_, rfl, ?_⟩))
      go_ret2
      exact ⟨by first | rfl | (simp; done) | (simp only [← hji5, ← hji7] <;> (first | rfl | simp)) | (simp [*]; done), by repeat (first | exact Drawn0.refl _ | apply Drawn0.step)⟩
    · rw [if_neg c6] at H
      exact absurd H (by simp)

end Go.Proofs.YtmcelgfekffinaaDoor.Qc
