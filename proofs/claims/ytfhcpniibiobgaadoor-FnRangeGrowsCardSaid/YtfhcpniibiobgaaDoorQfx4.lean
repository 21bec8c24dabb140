-- Written by wip/tools/myprint.py for this seat (the kit's print with changes); Lean checks it.
import Derived.Test.YtfhcpniibiobgaaDoorQfx0
import Derived.Test.YtfhcpniibiobgaaDoorQfx2
import Derived.Test.YtfhcpniibiobgaaDoorQfx3
namespace Go.Proofs.YtfhcpniibiobgaaDoor.Qf
open Go.RowKit Go.Proofs.YtfhcpniibiobgaaDoorW.PrintWords Go.Proofs.YtfhcpniibiobgaaDoorW.PrintLast Go.Proofs.YtfhcpniibiobgaaDoorW.PrintMore
attribute [local go_sem] max2_int min2_int max_two min_two max_three min_three max_four min_four   -- for this text's walks alone
set_option linter.unusedVariables false
set_option linter.unusedSimpArgs false

/-! ### spec_Root: function 37 -/
def spec_Root.f : Nat → Int → Int → Int → Int → Int → Int → List (List Int) → Option (List Int)
  | 0, _, _, _, _, _, _, _ => none
  | k + 1, a0_0, a0_1, a0_2, a0_3, a0_4, a0_5, l1 => if (l1.length : Int) = 0 then ((spec_EmptyRoot.f k a0_0 a0_1 a0_2 a0_3 a0_4 a0_5).bind fun t183 => (some t183)) else (if (l1.length : Int) = 1 then (if 0 < (l1.length : Int) then (some (rd_L1 l1 0)) else (none)) else ((spec_split.f k (IntKind.u64.wrap ((l1.length : Int)))).bind fun t187 => (if 0 ≤ t187 then (if t187 ≤ (l1.length : Int) then ((spec_Root.f k a0_0 a0_1 a0_2 a0_3 a0_4 a0_5 (l1.take (t187 : Int).toNat)).bind fun t193 => ((spec_Root.f k a0_0 a0_1 a0_2 a0_3 a0_4 a0_5 (l1.drop (t187 : Int).toNat)).bind fun t201 => ((spec_HashChildren.f k a0_0 a0_1 a0_2 a0_3 a0_4 a0_5 t193 t201).bind fun t204 => (some t204)))) else (none)) else (none))))
theorem spec_Root.mono_l : ∀ k, (∀ y0 y1 y2 y3 y4 y5 y6, LeO (spec_Root.f k y0 y1 y2 y3 y4 y5 y6) (spec_Root.f (k + 1) y0 y1 y2 y3 y4 y5 y6))
  | 0 => fun _ _ _ _ _ _ _ r h => by simp [spec_Root.f] at h
  | k + 1 => by
    have ih0 := spec_Root.mono_l k
    · intro y0 y1 y2 y3 y4 y5 y6
      unfold spec_Root.f
      repeat' first
      | (with_reducible exact ih0 _ _ _ _ _ _ _)
      | (with_reducible exact spec_EmptyRoot.mono _ _ _ _ _ _ _)
      | (with_reducible exact spec_HashChildren.mono _ _ _ _ _ _ _ _ _)
      | (with_reducible exact spec_split.mono _ _)
      | (with_reducible exact LeO.refl _)
      | (with_reducible exact LeO.none _)
      | (with_reducible refine LeO.ite ?_ ?_)
      | (with_reducible refine LeO.bind ?_ (fun _ => ?_))
      | exact ih0 _ _ _ _ _ _ _
      | exact spec_EmptyRoot.mono _ _ _ _ _ _ _
      | exact spec_HashChildren.mono _ _ _ _ _ _ _ _ _
      | exact spec_split.mono _ _
      | exact LeO.none _
      | refine LeO.ite ?_ ?_
      | refine LeO.bind ?_ (fun _ => ?_)
theorem spec_Root.mono : ∀ a0 a1 a2 a3 a4 a5 a6 k, LeO (spec_Root.f k a0 a1 a2 a3 a4 a5 a6) (spec_Root.f (k + 1) a0 a1 a2 a3 a4 a5 a6) := by
  intro a0 a1 a2 a3 a4 a5 a6 k
  have ih0 := spec_Root.mono_l k
  exact ih0 a0 a1 a2 a3 a4 a5 a6
def spec_Root.T7 : Bool × List (List Nat × List Nat) := (true, [([], []), ([], []), ([], []), ([], []), ([2, 3], [2, 3]), ([1, 4], [1, 4]), ([], []), ([], []), ([], []), ([7, 8], [7, 8]), ([6, 9, 5], [6, 9]), ([0, 5, 10, 10], [0, 5, 10]), ([11, 11, 0, 1, 2, 3, 4, 5, 6, 7, 8, 9, 10, 11], [11])])
def spec_Root.B7 : List Nat := [0, 0, 0, 0, 12, 30, 0, 0, 0, 384, 1022, 2047, 4095]
theorem spec_Root.tab7 : rtab .any (opsOf Tryd.f37 7) = spec_Root.T7 := by kernel_rfl
theorem spec_Root.bits7 : waitsOk spec_Root.T7.2 spec_Root.B7 = true := by kernel_rfl
set_option maxHeartbeats 8000000 in
set_option maxRecDepth 100000 in
theorem spec_Root.calls (k : Nat) : ∀ (a0_0 : Int) (a0_1 : Int) (a0_2 : Int) (a0_3 : Int) (a0_4 : Int) (a0_5 : Int) (P1_ : Nat → Prop) (A1 : Option Addr) (c1 : Nat) (l1 : List (List Int)) (r : List Int) (w : World) (hs1 : Kd.V (Kd.slice 5 (Kd.int .u8)) 28 w w.heap.size (fun k_ => P1_ k_) (.slice A1 l1.length c1) l1) (h : spec_Root.f k a0_0 a0_1 a0_2 a0_3 a0_4 a0_5 l1 = some r),
    Calls Tryd.prog 37 #[.agg #[.int .i64 a0_0, .int .i64 a0_1, .int .i64 a0_2, .int .u64 a0_3, .int .u64 a0_4, .int .u64 a0_5], .slice A1 l1.length c1] w fun e w' => ∃ v0_ : Value, e = .returned (v0_) ∧ Kd.V (Kd.int .u8) 5 w' w.heap.size (fun k_ => (P1_ k_ ∨ w.heap.size ≤ k_)) v0_ r ∧ Below w.heap.size w w' := by
  induction k using Nat.strongRecOn with
  | _ k ih =>
  intro a0_0 a0_1 a0_2 a0_3 a0_4 a0_5 P1_ A1 c1 l1 r w hs1 h
  cases k with
  | zero => exact absurd h (by simp [spec_Root.f])
  | succ k =>
  simp only [spec_Root.f] at h
  have hu24 := Tryd.underlying24
  have HO1 := Aside0.mk (show Kd.V (Kd.slice 5 (Kd.int .u8)) 28 w w.heap.size (fun k_ => (P1_ k_ ∨ w.heap.size ≤ k_)) (.slice A1 l1.length c1) l1 from Kd.V_mono hs1 (fun k_ hk => .inl hk))
  have HB := Aside0.mk (Below.refl w.heap.size w)
  have H : (if (l1.length : Int) = 0 then ((spec_EmptyRoot.f k a0_0 a0_1 a0_2 a0_3 a0_4 a0_5).bind fun t183 => (some t183)) else (if (l1.length : Int) = 1 then (if 0 < (l1.length : Int) then (some (rd_L1 l1 0)) else (none)) else ((spec_split.f k (IntKind.u64.wrap ((l1.length : Int)))).bind fun t187 => (if 0 ≤ t187 then (if t187 ≤ (l1.length : Int) then ((spec_Root.f k a0_0 a0_1 a0_2 a0_3 a0_4 a0_5 (l1.take (t187 : Int).toNat)).bind fun t193 => ((spec_Root.f k a0_0 a0_1 a0_2 a0_3 a0_4 a0_5 (l1.drop (t187 : Int).toNat)).bind fun t201 => ((spec_HashChildren.f k a0_0 a0_1 a0_2 a0_3 a0_4 a0_5 t193 t201).bind fun t204 => (some t204)))) else (none)) else (none))))) = some r := h
  clear h
  by_cases c3 : (l1.length : Int) = 0
  · rw [if_pos c3] at H
    have c3b0 : ((l1.length : Int) == 0) = true := beq_iff_eq.mpr c3
    have c3b1 : ((l1.length : Int) != 0) = false := bne_eq_false_iff_eq.mpr c3
    clear c3
    replace H := Option.bind_eq_some_iff.mp H
    obtain ⟨t183, A40, H⟩ := H
    replace H : (some t183) = some r := H
    have A4 := Aside0.mk A40
    clear A40
    obtain rfl := Option.some.inj H
    go_enter Tryd.func37, Tryd.ntmps37
    go_wp2_with (first | ((with_reducible refine gate_dst (N := 2) rfl ?_); refine box_event ?hg (N := 2) ?hd (cs := #[.int .i64 a0_0, .int .i64 a0_1, .int .i64 a0_2, .int .u64 a0_3, .int .u64 a0_4, .int .u64 a0_5]) (t := 24) ?hr ?_; (case hd => rfl); (case hg => rfl); (case hr => first | (go_simp; done) | (go_simp; rfl)); intro gb182 hg w5 hbox hb; have n0_ := Aside0.mk (Kd.V_below (Kd.V_elderB (by (with_reducible repeat (first | apply Kd.V_alloc | apply Kd.V_drewN | apply Kd.V_drew)); exact HO1.out) gb182 (Nat.le_of_eq hg.symm)) hb); have n1_ := Aside0.mk (below_step (by repeat (first | (with_reducible first | exact HB.out | apply below_alloc | apply pw_below_drewN | apply below_drew1) | exact HB.out)) hb); have n2_ := Aside0.mk (hbox); have n3_ := Aside0.mk ((by rw [hg]; exact (below_size (by repeat (first | (with_reducible first | exact HB.out | apply below_alloc | apply pw_below_drewN | apply below_drew1) | exact HB.out))) : w.heap.size ≤ gb182)); have n4_ := Aside0.mk ((by rw [hg]; exact (below_size (by repeat (first | (with_reducible first | exact HB.out | apply below_alloc | apply pw_below_drewN | apply below_drew1) | exact HB.out))) : w.heap.size ≤ gb182)); clear HO1; clear HB; have HO1 := n0_; have HB := n1_; have BK182 := n2_; have GW182 := n3_; have GE182 := n4_; clear n0_ n1_ n2_ n3_ n4_; clear hb hbox hg; have hcz6_0 : w5.cell? ⟨gb182, 0, none⟩ = some (.int .i64 a0_0) := (blk_cell BK182.out 0).trans rfl; have hcz6_1 : w5.cell? ⟨gb182, 1, none⟩ = some (.int .i64 a0_1) := (blk_cell BK182.out 1).trans rfl; have hcz6_2 : w5.cell? ⟨gb182, 2, none⟩ = some (.int .i64 a0_2) := (blk_cell BK182.out 2).trans rfl; have hcz6_3 : w5.cell? ⟨gb182, 3, none⟩ = some (.int .u64 a0_3) := (blk_cell BK182.out 3).trans rfl; have hcz6_4 : w5.cell? ⟨gb182, 4, none⟩ = some (.int .u64 a0_4) := (blk_cell BK182.out 4).trans rfl; have hcz6_5 : w5.cell? ⟨gb182, 5, none⟩ = some (.int .u64 a0_5) := (blk_cell BK182.out 5).trans rfl; have hfz6_0 := blk_frozen BK182.out 0; have hfz6_1 := blk_frozen BK182.out 1; have hfz6_2 := blk_frozen BK182.out 2; have hfz6_3 := blk_frozen BK182.out 3; have hfz6_4 := blk_frozen BK182.out 4; have hfz6_5 := blk_frozen BK182.out 5) | ((with_reducible refine gate_callee (f := 75) rfl ?_); refine goesL_ (some 11) rfl rfl Tryd.func75 (by kernel_rfl) rfl #[.agg #[.int .i64 a0_0, .int .i64 a0_1, .int .i64 a0_2, .int .u64 a0_3, .int .u64 a0_4, .int .u64 a0_5]] rfl (by (try simp only [List.map_toArray, List.map_cons, List.map_nil]); first | done | rfl | (simp only [List.length_drop, List.length_take]; rfl)) ?_; (with_reducible refine (spec_EmptyRoot.calls k a0_0 a0_1 a0_2 a0_3 a0_4 a0_5 t183 _ A4.out).mono ?_); rintro e w7 ⟨v184, rfl, ho0, hb⟩; refine ⟨_, rfl, ?_⟩; have n0_ := Aside0.mk (Kd.V_elder' (by (with_reducible repeat (first | apply Kd.V_alloc | apply Kd.V_drewN | apply Kd.V_drew)); exact HO1.out) (Kd.R_base ho0) hb); have n1_ := Aside0.mk (Kd.R_lower (Kd.R_newM (M := fun k_ => (w.heap.size ≤ k_)) ho0 (below_size (by repeat (first | (with_reducible first | exact HB.out | apply below_alloc | apply pw_below_drewN | apply below_drew1 | refine below_set ?_ GE182.out) | exact HB.out))) (fun k_ h_ => h_)) (below_size (by repeat (first | (with_reducible first | exact HB.out | apply below_alloc | apply pw_below_drewN | apply below_drew1 | refine below_set ?_ GE182.out) | exact HB.out)))); have n2_ := Aside0.mk (blk_below (g := gb182) (o := .cells #[.int .i64 a0_0, .int .i64 a0_1, .int .i64 a0_2, .int .u64 a0_3, .int .u64 a0_4, .int .u64 a0_5] 24 (0, 0)) (by (with_reducible repeat (first | refine blk_drewN ?_ _ | refine blk_drew ?_ | refine blk_alloc ?_ _)); exact BK182.out) hb); have n3_ := Aside0.mk (below_step (by repeat (first | (with_reducible first | exact HB.out | apply below_alloc | apply pw_below_drewN | apply below_drew1 | refine below_set ?_ GE182.out) | exact HB.out)) hb); clear HO1; clear BK182; clear HB; have HO1 := n0_; have HO185 := n1_; have BK182 := n2_; have HB := n3_; clear n0_ n1_ n2_ n3_; (try clear hb); (try clear hb2); (try clear hk); (try clear hi); (try clear ho0)))
    go_ret
    exact ⟨_, by first | rfl | (simp [errW_none, errW_some] <;> rfl) | (simp [*, errW_none, errW_some] <;> rfl), Kd.V_mono (Kd.R_V (by (with_reducible repeat (first | apply Kd.R_alloc | apply Kd.R_drewN | apply Kd.R_drew)); exact Kd.R_mono HO185.out (fun _ hk => hk.1))) (fun k_ hk => by first | exact ⟨(.inr (hk.1)), hk.2⟩ | exact (.inr (hk))), by repeat (first | (with_reducible first | exact HB.out | apply below_alloc | apply pw_below_drewN | apply below_drew1 | refine below_set ?_ GE182.out) | exact HB.out)⟩
  · rw [if_neg c3] at H
    have c3b0 : ((l1.length : Int) == 0) = false := beq_eq_false_iff_ne.mpr c3
    have c3b1 : ((l1.length : Int) != 0) = true := bne_iff_ne.mpr c3
    have c3b2 : ¬ (l1 = []) := fun h_ => c3 (by rw [h_]; rfl)
    by_cases c8 : (l1.length : Int) = 1
    · rw [if_pos c8] at H
      have c8b0 : ((l1.length : Int) == 1) = true := beq_iff_eq.mpr c8
      have c8b1 : ((l1.length : Int) != 1) = false := bne_eq_false_iff_eq.mpr c8
      clear c8
      by_cases c9 : 0 < (l1.length : Int)
      · rw [if_pos c9] at H
        have c9b0 : decide (0 < (l1.length : Int)) = true := decide_eq_true c9
        have c9b1 : decide (0 < l1.length) = true := decide_eq_true (by omega)
        clear c9
        obtain rfl := Option.some.inj H
        go_enter Tryd.func37, Tryd.ntmps37
        go_wp2_with (first | ((with_reducible refine gate_dst (N := 2) rfl ?_); refine box_event ?hg (N := 2) ?hd (cs := #[.int .i64 a0_0, .int .i64 a0_1, .int .i64 a0_2, .int .u64 a0_3, .int .u64 a0_4, .int .u64 a0_5]) (t := 24) ?hr ?_; (case hd => rfl); (case hg => rfl); (case hr => first | (go_simp; done) | (go_simp; rfl)); intro gb182 hg w10 hbox hb; have n0_ := Aside0.mk (Kd.V_below (Kd.V_elderB (by (with_reducible repeat (first | apply Kd.V_alloc | apply Kd.V_drewN | apply Kd.V_drew)); exact HO1.out) gb182 (Nat.le_of_eq hg.symm)) hb); have n1_ := Aside0.mk (below_step (by repeat (first | (with_reducible first | exact HB.out | apply below_alloc | apply pw_below_drewN | apply below_drew1) | exact HB.out)) hb); have n2_ := Aside0.mk (hbox); have n3_ := Aside0.mk ((by rw [hg]; exact (below_size (by repeat (first | (with_reducible first | exact HB.out | apply below_alloc | apply pw_below_drewN | apply below_drew1) | exact HB.out))) : w.heap.size ≤ gb182)); have n4_ := Aside0.mk ((by rw [hg]; exact (below_size (by repeat (first | (with_reducible first | exact HB.out | apply below_alloc | apply pw_below_drewN | apply below_drew1) | exact HB.out))) : w.heap.size ≤ gb182)); clear HO1; clear HB; have HO1 := n0_; have HB := n1_; have BK182 := n2_; have GW182 := n3_; have GE182 := n4_; clear n0_ n1_ n2_ n3_ n4_; clear hb hbox hg; have p186 : 0 ≤ (0 : Int) := (by omega); have q186 : 0 < (l1.length : Int) := of_decide_eq_true (by first | (with_reducible assumption) | assumption); obtain ⟨ad186, A186_0, c186_0, e186, hx186_0, hl186_0, hi186_0⟩ := at_L1 (Kd.V_reads' HO1.out).2.2 0 p186 q186; cases e186; obtain ⟨ce186, hce186, hMe186, hcc186⟩ := Kd.V_get HO1.out [] 0 p186 (by first | exact q186 | exact of_decide_eq_true (by first | (with_reducible assumption) | assumption) | (have e_ := (Kd.V_reads' HO1.out).1; omega)); obtain ⟨ua186_0, uc186_0, rfl, ul186_0, ge186_0⟩ := Kd.FK_slice_open hMe186; have hv186_0 := hcc186 0 _ rfl; rw [Nat.add_zero, show ((Kd.slice 5 (Kd.int .u8))).sz = 1 from rfl, Nat.mul_one] at hv186_0; replace hv186_0 := Option.some.inj (hv186_0.symm.trans hx186_0); injection hv186_0 with hva_ hvn_ hvc_; rw [hva_] at ge186_0; rw [hvc_] at ul186_0; have HL186_0 := Aside0.mk (show Kd.V (Kd.int .u8) 5 _ w.heap.size _ _ (rd_L1 l1 0) from Kd.V_mk ul186_0 ge186_0); clear hva_ hvn_ hvc_ ge186_0 ul186_0; clear hcc186 hce186; have qi186 : (0 < l1.length) = True := eq_true (by omega); (try rw [show ((0 : Int)).toNat = 0 from rfl] at hx186_0); (try rw [Addr.add_zero'] at hx186_0); have HR186_0 := Aside0.mk hi186_0; have HC186_0 := Aside0.mk hl186_0; clear hi186_0 hl186_0; replace p186 := eq_true p186; replace q186 := eq_true q186))
        go_ret
        exact ⟨_, by first | rfl | (simp [errW_none, errW_some] <;> rfl) | (simp [*, errW_none, errW_some] <;> rfl), by (with_reducible repeat (first | apply Kd.V_alloc | apply Kd.V_drewN | apply Kd.V_drew)); exact Kd.V_mono HL186_0.out (fun _ hk => hk.1), by repeat (first | (with_reducible first | exact HB.out | apply below_alloc | apply pw_below_drewN | apply below_drew1 | refine below_set ?_ GE182.out) | exact HB.out)⟩
      · rw [if_neg c9] at H
        exact absurd H (by simp)
    · rw [if_neg c8] at H
      have c8b0 : ((l1.length : Int) == 1) = false := beq_eq_false_iff_ne.mpr c8
      have c8b1 : ((l1.length : Int) != 1) = true := bne_iff_ne.mpr c8
      replace H := Option.bind_eq_some_iff.mp H
      obtain ⟨t187, A110, H⟩ := H
      replace H : (if 0 ≤ t187 then (if t187 ≤ (l1.length : Int) then ((spec_Root.f k a0_0 a0_1 a0_2 a0_3 a0_4 a0_5 (l1.take (t187 : Int).toNat)).bind fun t193 => ((spec_Root.f k a0_0 a0_1 a0_2 a0_3 a0_4 a0_5 (l1.drop (t187 : Int).toNat)).bind fun t201 => ((spec_HashChildren.f k a0_0 a0_1 a0_2 a0_3 a0_4 a0_5 t193 t201).bind fun t204 => (some t204)))) else (none)) else (none)) = some r := H
      have A11 := Aside0.mk A110
      clear A110
      by_cases c12 : 0 ≤ t187
      · rw [if_pos c12] at H
        have c12b0 := eq_true c12
        have c12b1 : decide (0 ≤ t187) = true := decide_eq_true c12
        clear c12
        by_cases c13 : t187 ≤ (l1.length : Int)
        · rw [if_pos c13] at H
          have c13b0 := eq_true c13
          have c13b1 : decide (t187 ≤ (l1.length : Int)) = true := decide_eq_true c13
          clear c13
          obtain ⟨y188, hy188⟩ : ∃ y_ : List (List Int), y_ = (l1.take (t187 : Int).toNat) := ⟨_, rfl⟩
          replace H : ((spec_Root.f k a0_0 a0_1 a0_2 a0_3 a0_4 a0_5 y188).bind fun t193 => ((spec_Root.f k a0_0 a0_1 a0_2 a0_3 a0_4 a0_5 (l1.drop (t187 : Int).toNat)).bind fun t201 => ((spec_HashChildren.f k a0_0 a0_1 a0_2 a0_3 a0_4 a0_5 t193 t201).bind fun t204 => (some t204)))) = some r := by first | (rw [hy188]; with_reducible exact H) | (have H2_ := (Option.bind_some _ _).symm.trans H; rw [hy188]; with_reducible exact H2_) | (have H2_ := (Option.bind_some _ _).symm.trans H; with_reducible exact H2_) | with_reducible exact H | (rw [hy188]; exact H) | exact H
          have Ny188 := Aside0.mk hy188
          clear hy188
          replace H := Option.bind_eq_some_iff.mp H
          obtain ⟨t193, A140, H⟩ := H
          replace H : ((spec_Root.f k a0_0 a0_1 a0_2 a0_3 a0_4 a0_5 (l1.drop (t187 : Int).toNat)).bind fun t201 => ((spec_HashChildren.f k a0_0 a0_1 a0_2 a0_3 a0_4 a0_5 t193 t201).bind fun t204 => (some t204))) = some r := H
          have A14 := Aside0.mk A140
          clear A140
          have c15b0 := eq_true (of_decide_eq_true (by first | (with_reducible assumption) | assumption) : 0 ≤ t187)
          have c16b0 := eq_true (of_decide_eq_true (by first | (with_reducible assumption) | assumption) : t187 ≤ (l1.length : Int))
          obtain ⟨y196, hy196⟩ : ∃ y_ : List (List Int), y_ = (l1.drop (t187 : Int).toNat) := ⟨_, rfl⟩
          replace H : ((spec_Root.f k a0_0 a0_1 a0_2 a0_3 a0_4 a0_5 y196).bind fun t201 => ((spec_HashChildren.f k a0_0 a0_1 a0_2 a0_3 a0_4 a0_5 t193 t201).bind fun t204 => (some t204))) = some r := by first | (rw [hy196]; with_reducible exact H) | (have H2_ := (Option.bind_some _ _).symm.trans H; rw [hy196]; with_reducible exact H2_) | (have H2_ := (Option.bind_some _ _).symm.trans H; with_reducible exact H2_) | with_reducible exact H | (rw [hy196]; exact H) | exact H
          have Ny196 := Aside0.mk hy196
          clear hy196
          replace H := Option.bind_eq_some_iff.mp H
          obtain ⟨t201, A170, H⟩ := H
          replace H : ((spec_HashChildren.f k a0_0 a0_1 a0_2 a0_3 a0_4 a0_5 t193 t201).bind fun t204 => (some t204)) = some r := H
          have A17 := Aside0.mk A170
          clear A170
          replace H := Option.bind_eq_some_iff.mp H
          obtain ⟨t204, A180, H⟩ := H
          replace H : (some t204) = some r := H
          have A18 := Aside0.mk A180
          clear A180
          obtain rfl := Option.some.inj H
          go_enter Tryd.func37, Tryd.ntmps37
          try go_wp2_with (first | ((with_reducible refine gate_dst (N := 2) rfl ?_); refine box_event ?hg (N := 2) ?hd (cs := #[.int .i64 a0_0, .int .i64 a0_1, .int .i64 a0_2, .int .u64 a0_3, .int .u64 a0_4, .int .u64 a0_5]) (t := 24) ?hr ?_; (case hd => rfl); (case hg => rfl); (case hr => first | (go_simp; done) | (go_simp; rfl)); intro gb182 hg w19 hbox hb; have n0_ := Aside0.mk (Kd.V_below (Kd.V_elderB (by (with_reducible repeat (first | apply Kd.V_alloc | apply Kd.V_drewN | apply Kd.V_drew)); exact HO1.out) gb182 (Nat.le_of_eq hg.symm)) hb); have n1_ := Aside0.mk (below_step (by repeat (first | (with_reducible first | exact HB.out | apply below_alloc | apply pw_below_drewN | apply below_drew1) | exact HB.out)) hb); have n2_ := Aside0.mk (hbox); have n3_ := Aside0.mk ((by rw [hg]; exact (below_size (by repeat (first | (with_reducible first | exact HB.out | apply below_alloc | apply pw_below_drewN | apply below_drew1) | exact HB.out))) : w.heap.size ≤ gb182)); have n4_ := Aside0.mk ((by rw [hg]; exact (below_size (by repeat (first | (with_reducible first | exact HB.out | apply below_alloc | apply pw_below_drewN | apply below_drew1) | exact HB.out))) : w.heap.size ≤ gb182)); clear HO1; clear HB; have HO1 := n0_; have HB := n1_; have BK182 := n2_; have GW182 := n3_; have GE182 := n4_; clear n0_ n1_ n2_ n3_ n4_; clear hb hbox hg) | ((with_reducible refine gate_callee (f := 76) rfl ?_); refine goesL_ (some 20) rfl rfl Tryd.func76 (by kernel_rfl) rfl #[.int .u64 (IntKind.u64.wrap ((l1.length : Int)))] rfl (by (try simp only [List.map_toArray, List.map_cons, List.map_nil]); first | done | rfl | (simp only [List.length_drop, List.length_take]; rfl)) ?_; (with_reducible refine (spec_split.calls k (IntKind.u64.wrap ((l1.length : Int))) t187 _ A11.out).mono ?_); rintro e w' ⟨rfl, ⟨nd, rfl⟩⟩; refine ⟨_, rfl, ?_⟩))
          (try (rw [drewN_self w19]; generalize hq_ : World.drewN w19 _ = w19; have n0_ : Aside0 (Kd.V (Kd.slice 5 (Kd.int .u8)) 28 w19 w.heap.size (fun k_ => (P1_ k_ ∨ w.heap.size ≤ k_) ∧ k_ ≠ gb182) (.slice A1 l1.length c1) l1) := ⟨by rw [← hq_]; exact (by (with_reducible repeat (first | apply Kd.V_alloc | apply Kd.V_drewN | apply Kd.V_drew)); exact HO1.out)⟩; have n1_ : Aside0 (w19.heap[gb182]? = some (.cells #[.int .i64 a0_0, .int .i64 a0_1, .int .i64 a0_2, .int .u64 a0_3, .int .u64 a0_4, .int .u64 a0_5] 24 (0, 0))) := ⟨by rw [← hq_]; exact (by (with_reducible repeat (first | refine blk_drewN ?_ _ | refine blk_drew ?_ | refine blk_alloc ?_ _)); exact BK182.out)⟩; have n2_ : Aside0 (Below w.heap.size w w19) := ⟨by rw [← hq_]; exact (by repeat (first | (with_reducible first | exact HB.out | apply below_alloc | apply pw_below_drewN | apply below_drew1 | refine below_set ?_ GE182.out) | exact HB.out))⟩; clear HO1 BK182 HB hq_; have HO1 := n0_; have BK182 := n1_; have HB := n2_; clear n0_ n1_ n2_))
          have n0_ := Aside0.mk (Kd.V_drew HO1.out)
          have n1_ := Aside0.mk (blk_drew BK182.out)
          have n2_ := Aside0.mk (below_drew1 HB.out)
          clear HO1
          clear BK182
          clear HB
          have HO1 := n0_
          have BK182 := n1_
          have HB := n2_
          clear n0_ n1_ n2_
          have q21 : (t187 : Int) ≤ ((l1.length : Int) : Int) := of_decide_eq_true (by first | (with_reducible assumption) | assumption)
          obtain ⟨i021, hi021, _, hsz21, _⟩ := info_parts info28
          have hroom21 : l1.length ≤ c1 := (Kd.V_reads' HO1.out).2.1
          have hC21 : Kd.F (Kd.slice 5 (Kd.int .u8)) _ _ A1 l1.length l1 := (Kd.V_at (base := w.heap.size) HO1.out).2.2
          have hcut21 := cut_to (P := Tryd.prog) 25 28 .u64 Tryd.underlying25 hi021 A1 l1.length c1 t187 (of_decide_eq_true (by first | (with_reducible assumption) | assumption)) q21 hroom21
          have hr21 := Kd.F_take (m := (t187 : Int).toNat) hC21 (by omega)
          have hy21 : y188.length = (t187 : Int).toNat := (by rw [Ny188.out, List.length_take]; omega)
          rw [← Ny188.out] at hr21
          rw [← hy21] at hcut21
          have HO192 := Aside0.mk (show Kd.V (Kd.slice 5 (Kd.int .u8)) 28 _ w.heap.size _ (.slice A1 y188.length c1) y188 from Kd.V_mk (by omega) hr21)
          have HC192 := Aside0.mk (show y188.length ≤ c1 from by omega)
          clear hr21 hC21 hroom21 hi021 hsz21
          have KY21 := Aside0.mk hy21
          clear hy21
          replace q21 := eq_true q21
          have q22 : (t187 : Int) ≤ ((l1.length : Int) : Int) := of_decide_eq_true (by first | (with_reducible assumption) | assumption)
          obtain ⟨i022, hi022, _, hsz22, _⟩ := info_parts info28
          have hroom22 : l1.length ≤ c1 := (Kd.V_reads' HO1.out).2.1
          have hC22 : Kd.F (Kd.slice 5 (Kd.int .u8)) _ _ A1 l1.length l1 := (Kd.V_at (base := w.heap.size) HO1.out).2.2
          have q022 : (0 : Int) ≤ (t187 : Int) := of_decide_eq_true (by first | (with_reducible assumption) | assumption)
          have hcut22 := cut_from (P := Tryd.prog) 25 28 .u64 Tryd.underlying25 hi022 1 hsz22 A1 l1.length c1 t187 q022 q22
          have hr22 := Kd.F_cut (m := (t187 : Int).toNat) (c := c1) hC22 (by omega) hroom22
          obtain ⟨A22, hA22⟩ : ∃ Aq_, Aq_ = (if c1 = (t187 : Int).toNat then A1 else (A1 : Option Addr).map (·.add ((t187 : Int).toNat * 1))) := ⟨_, rfl⟩
          obtain ⟨c22, hc22⟩ : ∃ cq_, cq_ = c1 - (t187 : Int).toNat := ⟨_, rfl⟩
          have hy22 : y196.length = l1.length - (t187 : Int).toNat := (by rw [Ny196.out, List.length_drop] <;> omega)
          rw [show (l1).drop (t187 : Int).toNat = y196 from Ny196.out.symm] at hr22
          replace hr22 : Kd.F (Kd.slice 5 (Kd.int .u8)) _ _ A22 y196.length y196 := (by rw [hA22]; exact hr22)
          rw [← hy22, ← hA22, ← hc22] at hcut22
          have HO200 := Aside0.mk (show Kd.V (Kd.slice 5 (Kd.int .u8)) 28 _ w.heap.size _ (.slice A22 y196.length c22) y196 from Kd.V_mk (by rw [hy22, hc22]; exact Nat.sub_le_sub_right hroom22 _) hr22)
          have HC200 := Aside0.mk (show y196.length ≤ c22 from by rw [hy22, hc22]; exact Nat.sub_le_sub_right hroom22 _)
          clear hr22 hC22 hroom22 hi022 hsz22 hc22
          have KY22 := Aside0.mk hy22
          have KA22 := Aside0.mk hA22
          clear hy22 hA22
          replace q22 := eq_true q22
          refine start_ (n := 13) (S := fun w' => w'.cell? ⟨gb182, 0, none⟩ = some (.int .i64 a0_0) ∧ w'.cell? ⟨gb182, 1, none⟩ = some (.int .i64 a0_1) ∧ w'.cell? ⟨gb182, 2, none⟩ = some (.int .i64 a0_2) ∧ w'.cell? ⟨gb182, 3, none⟩ = some (.int .u64 a0_3) ∧ w'.cell? ⟨gb182, 4, none⟩ = some (.int .u64 a0_4) ∧ w'.cell? ⟨gb182, 5, none⟩ = some (.int .u64 a0_5)) (ds := []) #[false, false, false, false, false, false, false, false, false, false, false, false, false] (by kernel_rfl) rfl rfl ⟨(blk_cell BK182.out 0).trans rfl, (blk_cell BK182.out 1).trans rfl, (blk_cell BK182.out 2).trans rfl, (blk_cell BK182.out 3).trans rfl, (blk_cell BK182.out 4).trans rfl, (blk_cell BK182.out 5).trans rfl⟩ (fun hHeld => ?_); refine with_tabW spec_Root.tab7 spec_Root.bits7 (fun HT_ HW_ => ?_)
          generalize w19.drew = w20 at HO1 BK182 HB HO192 HO200 hHeld ⊢
          refine pure_ (i := 2) (N := some 23) (v := ?_) (a' := ?_) #[false, false, true, false, false, false, false, false, false, false, false, false, false] rfl rfl (any_of HT_.out (by kernel_rfl)) (fun _ _ _ h => h) (Or.inl ⟨by rfl, ?_⟩) ?_ ?_
          rotate_left
          · intro w'
            go_simp
            with_reducible rfl
          rotate_left
          · simp only [Act.put, List.setIfInBounds_toArray, List.set_cons_zero, List.set_cons_succ, i64_w, i32_w]
            rfl
          refine pure_ (i := 3) (N := some 24) (v := ?_) (a' := ?_) #[false, false, true, true, false, false, false, false, false, false, false, false, false] rfl rfl (any_of HT_.out (by kernel_rfl)) (fun _ _ _ h => h) (Or.inl ⟨by rfl, ?_⟩) ?_ ?_
          rotate_left
          · intro w'
            go_simp
            with_reducible rfl
          rotate_left
          · simp only [Act.put, List.setIfInBounds_toArray, List.set_cons_zero, List.set_cons_succ, i64_w, i32_w]
            rfl
          refine pure_ (i := 4) (N := some 25) (v := ?_) (a' := ?_) #[false, false, true, true, true, false, false, false, false, false, false, false, false] rfl rfl (any_of HT_.out (by kernel_rfl)) (fun _ _ _ h => h) (Or.inl ⟨by rfl, ?_⟩) ?_ ?_
          rotate_left
          · intro w'
            go_simp
            with_reducible rfl
          rotate_left
          · simp only [Act.put, List.setIfInBounds_toArray, List.set_cons_zero, List.set_cons_succ, i64_w, i32_w]
            rfl
          refine pure_ (i := 7) (N := some 28) (v := ?_) (a' := ?_) #[false, false, true, true, true, false, false, true, false, false, false, false, false] rfl rfl (any_of HT_.out (by kernel_rfl)) (fun _ _ _ h => h) (Or.inl ⟨by rfl, ?_⟩) ?_ ?_
          rotate_left
          · intro w'
            go_simp
            with_reducible rfl
          rotate_left
          · simp only [Act.put, List.setIfInBounds_toArray, List.set_cons_zero, List.set_cons_succ, i64_w, i32_w]
            rfl
          refine pure_ (i := 8) (N := some 29) (v := ?_) (a' := ?_) #[false, false, true, true, true, false, false, true, true, false, false, false, false] rfl rfl (any_of HT_.out (by kernel_rfl)) (fun _ _ _ h => h) (Or.inl ⟨by rfl, ?_⟩) ?_ ?_
          rotate_left
          · intro w'
            go_simp
            with_reducible rfl
          rotate_left
          · simp only [Act.put, List.setIfInBounds_toArray, List.set_cons_zero, List.set_cons_succ, i64_w, i32_w]
            rfl
          refine pure_ (i := 9) (N := some 30) (v := ?_) (a' := ?_) #[false, false, true, true, true, false, false, true, true, true, false, false, false] rfl rfl (any_of HT_.out (by kernel_rfl)) (fun _ _ _ h => h) (Or.inl ⟨by rfl, ?_⟩) ?_ ?_
          rotate_left
          · intro w'
            go_simp
            with_reducible rfl
          rotate_left
          · simp only [Act.put, List.setIfInBounds_toArray, List.set_cons_zero, List.set_cons_succ, i64_w, i32_w]
            rfl
          refine take_ (i := 0) (N := some 21) (v := ?_) (a' := ?_) #[true, false, true, true, true, false, false, true, true, true, false, false, false] rfl rfl (take_ofW HT_.out HW_.out (by kernel_rfl)) (fun _ _ _ h => h) (Or.inl ⟨by rfl, ?_⟩) hHeld ?_ ?_
          rotate_left
          · rintro w' ⟨s0, s1, s2, s3, s4, s5⟩
            go_simp
            with_reducible rfl
          rotate_left
          · simp only [Act.put, List.setIfInBounds_toArray, List.set_cons_zero, List.set_cons_succ, i64_w, i32_w]
            rfl
          refine take_ (i := 1) (N := some 22) (v := ?_) (a' := ?_) #[true, true, true, true, true, false, false, true, true, true, false, false, false] rfl rfl (take_ofW HT_.out HW_.out (by kernel_rfl)) (fun _ _ _ h => h) (Or.inl ⟨by rfl, ?_⟩) hHeld ?_ ?_
          rotate_left
          · rintro w' ⟨s0, s1, s2, s3, s4, s5⟩
            go_simp
            with_reducible rfl
          rotate_left
          · simp only [Act.put, List.setIfInBounds_toArray, List.set_cons_zero, List.set_cons_succ, i64_w, i32_w]
            rfl
          refine take_ (i := 6) (N := some 27) (v := ?_) (a' := ?_) #[true, true, true, true, true, false, true, true, true, true, false, false, false] rfl rfl (take_ofW HT_.out HW_.out (by kernel_rfl)) (fun _ _ _ h => h) (Or.inl ⟨by rfl, ?_⟩) hHeld ?_ ?_
          rotate_left
          · rintro w' ⟨s0, s1, s2, s3, s4, s5⟩
            go_simp
            with_reducible rfl
          rotate_left
          · simp only [Act.put, List.setIfInBounds_toArray, List.set_cons_zero, List.set_cons_succ, i64_w, i32_w]
            rfl
          refine one_ (i := 5) (N := some 26) #[true, true, true, true, true, true, true, true, true, true, false, false, false] rfl rfl (one_of HT_.out (by kernel_rfl)) (by decide) (fun K hK => ?_)
          refine goes_ Tryd.func37 (by kernel_rfl) rfl #[.agg #[.int .i64 a0_0, .int .i64 a0_1, .int .i64 a0_2, .int .u64 a0_3, .int .u64 a0_4, .int .u64 a0_5], .slice A1 y188.length c1] (by rfl) rfl rfl (by (try simp only [List.map_toArray, List.map_cons, List.map_nil]); first | done | rfl | (simp only [List.length_drop, List.length_take]; rfl)) ?_
          with_reducible refine (ih k (by omega) a0_0 a0_1 a0_2 a0_3 a0_4 a0_5 (fun k_ => ((P1_ k_ ∨ w.heap.size ≤ k_) ∧ k_ ≠ gb182)) _ _ y188 t193 _ ?side1 A14.out).mono ?_
          (case side1 => exact HO192.out)
          rintro e w23 ⟨v194, rfl, ho0, hb⟩
          refine ⟨_, rfl, ?_⟩
          have n0_ := Aside0.mk (Kd.V_below (by (with_reducible repeat (first | apply Kd.V_alloc | apply Kd.V_drewN | apply Kd.V_drew)); exact HO1.out) hb)
          have n1_ := Aside0.mk (Kd.V_below (by (with_reducible repeat (first | apply Kd.V_alloc | apply Kd.V_drewN | apply Kd.V_drew)); exact HO192.out) hb)
          have n2_ := Aside0.mk (Kd.V_below (by (with_reducible repeat (first | apply Kd.V_alloc | apply Kd.V_drewN | apply Kd.V_drew)); exact HO200.out) hb)
          have n3_ := Aside0.mk (Kd.V_lower (Kd.V_mono (ok' := fun k_ => (P1_ k_ ∨ w.heap.size ≤ k_) ∧ k_ ≠ gb182) ho0 (fun k_ hk_ => ⟨Or.elim hk_ (fun hs_ => hs_.1) (fun hn_ => (.inr (Nat.le_trans (below_size (by repeat (first | (with_reducible first | exact HB.out | apply below_alloc | apply pw_below_drewN | apply below_drew1 | refine below_set ?_ GE182.out) | exact HB.out))) hn_))), Or.elim hk_ (fun hs_ => hs_.2) (fun hn_ => (Kd.freshB (g := gb182) (o := .cells #[.int .i64 a0_0, .int .i64 a0_1, .int .i64 a0_2, .int .u64 a0_3, .int .u64 a0_4, .int .u64 a0_5] 24 (0, 0)) (by (with_reducible repeat (first | refine blk_drewN ?_ _ | refine blk_drew ?_ | refine blk_alloc ?_ _)); exact BK182.out) k_ hn_))⟩)) (below_size (by repeat (first | (with_reducible first | exact HB.out | apply below_alloc | apply pw_below_drewN | apply below_drew1 | refine below_set ?_ GE182.out) | exact HB.out))))
          have n4_ := Aside0.mk (blk_below (g := gb182) (o := .cells #[.int .i64 a0_0, .int .i64 a0_1, .int .i64 a0_2, .int .u64 a0_3, .int .u64 a0_4, .int .u64 a0_5] 24 (0, 0)) (by (with_reducible repeat (first | refine blk_drewN ?_ _ | refine blk_drew ?_ | refine blk_alloc ?_ _)); exact BK182.out) hb)
          have n5_ := Aside0.mk (below_step (by repeat (first | (with_reducible first | exact HB.out | apply below_alloc | apply pw_below_drewN | apply below_drew1 | refine below_set ?_ GE182.out) | exact HB.out)) hb)
          clear HO1
          clear HO192
          clear HO200
          clear BK182
          clear HB
          have HO1 := n0_
          have HO192 := n1_
          have HO200 := n2_
          have HO195 := n3_
          have BK182 := n4_
          have HB := n5_
          clear n0_ n1_ n2_ n3_ n4_ n5_
          (try clear hb)
          (try clear hb2)
          (try clear hk)
          (try clear hi)
          (try clear ho0)
          refine hK.out _ _ ⟨(blk_cell BK182.out 0).trans rfl, (blk_cell BK182.out 1).trans rfl, (blk_cell BK182.out 2).trans rfl, (blk_cell BK182.out 3).trans rfl, (blk_cell BK182.out 4).trans rfl, (blk_cell BK182.out 5).trans rfl⟩ (fun hHeld => ?_)
          clear hK K
          refine norm_ (a' := ?_) ?_ ?_
          rotate_left
          · show Act.put _ (some 26) _ = _
            simp only [Act.put, List.setIfInBounds_toArray, List.set_cons_zero, List.set_cons_succ, i64_w, i32_w]
            rfl
          refine one_ (i := 10) (N := some 31) #[true, true, true, true, true, true, true, true, true, true, true, false, false] rfl rfl (one_of HT_.out (by kernel_rfl)) (by decide) (fun K hK => ?_)
          refine goes_ Tryd.func37 (by kernel_rfl) rfl #[.agg #[.int .i64 a0_0, .int .i64 a0_1, .int .i64 a0_2, .int .u64 a0_3, .int .u64 a0_4, .int .u64 a0_5], .slice A22 y196.length c22] (by rfl) rfl rfl (by (try simp only [List.map_toArray, List.map_cons, List.map_nil]); first | done | rfl | (simp only [List.length_drop, List.length_take]; rfl)) ?_
          with_reducible refine (ih k (by omega) a0_0 a0_1 a0_2 a0_3 a0_4 a0_5 (fun k_ => ((P1_ k_ ∨ w.heap.size ≤ k_) ∧ k_ ≠ gb182)) _ _ y196 t201 _ ?side1 A17.out).mono ?_
          (case side1 => exact HO200.out)
          rintro e w24 ⟨v202, rfl, ho0, hb⟩
          refine ⟨_, rfl, ?_⟩
          have n0_ := Aside0.mk (Kd.V_below (by (with_reducible repeat (first | apply Kd.V_alloc | apply Kd.V_drewN | apply Kd.V_drew)); exact HO1.out) hb)
          have n1_ := Aside0.mk (Kd.V_below (by (with_reducible repeat (first | apply Kd.V_alloc | apply Kd.V_drewN | apply Kd.V_drew)); exact HO192.out) hb)
          have n2_ := Aside0.mk (Kd.V_below (by (with_reducible repeat (first | apply Kd.V_alloc | apply Kd.V_drewN | apply Kd.V_drew)); exact HO200.out) hb)
          have n3_ := Aside0.mk (Kd.V_below (by (with_reducible repeat (first | apply Kd.V_alloc | apply Kd.V_drewN | apply Kd.V_drew)); exact HO195.out) hb)
          have n4_ := Aside0.mk (Kd.V_lower (Kd.V_mono (ok' := fun k_ => (P1_ k_ ∨ w.heap.size ≤ k_) ∧ k_ ≠ gb182) ho0 (fun k_ hk_ => ⟨Or.elim hk_ (fun hs_ => hs_.1) (fun hn_ => (.inr (Nat.le_trans (below_size (by repeat (first | (with_reducible first | exact HB.out | apply below_alloc | apply pw_below_drewN | apply below_drew1 | refine below_set ?_ GE182.out) | exact HB.out))) hn_))), Or.elim hk_ (fun hs_ => hs_.2) (fun hn_ => (Kd.freshB (g := gb182) (o := .cells #[.int .i64 a0_0, .int .i64 a0_1, .int .i64 a0_2, .int .u64 a0_3, .int .u64 a0_4, .int .u64 a0_5] 24 (0, 0)) (by (with_reducible repeat (first | refine blk_drewN ?_ _ | refine blk_drew ?_ | refine blk_alloc ?_ _)); exact BK182.out) k_ hn_))⟩)) (below_size (by repeat (first | (with_reducible first | exact HB.out | apply below_alloc | apply pw_below_drewN | apply below_drew1 | refine below_set ?_ GE182.out) | exact HB.out))))
          have n5_ := Aside0.mk (blk_below (g := gb182) (o := .cells #[.int .i64 a0_0, .int .i64 a0_1, .int .i64 a0_2, .int .u64 a0_3, .int .u64 a0_4, .int .u64 a0_5] 24 (0, 0)) (by (with_reducible repeat (first | refine blk_drewN ?_ _ | refine blk_drew ?_ | refine blk_alloc ?_ _)); exact BK182.out) hb)
          have n6_ := Aside0.mk (below_step (by repeat (first | (with_reducible first | exact HB.out | apply below_alloc | apply pw_below_drewN | apply below_drew1 | refine below_set ?_ GE182.out) | exact HB.out)) hb)
          clear HO1
          clear HO192
          clear HO200
          clear HO195
          clear BK182
          clear HB
          have HO1 := n0_
          have HO192 := n1_
          have HO200 := n2_
          have HO195 := n3_
          have HO203 := n4_
          have BK182 := n5_
          have HB := n6_
          clear n0_ n1_ n2_ n3_ n4_ n5_ n6_
          (try clear hb)
          (try clear hb2)
          (try clear hk)
          (try clear hi)
          (try clear ho0)
          obtain ⟨Ao25, co25, eo25⟩ := Kd.V_slice HO195.out
          (first | subst eo25 | (injection eo25 with f1_ f2_ f3_; have f4_ := f1_.symm; have f5_ := f3_.symm; clear f1_ f2_ f3_; subst f4_; subst f5_))
          obtain ⟨Ao26, co26, eo26⟩ := Kd.V_slice HO203.out
          (first | subst eo26 | (injection eo26 with f1_ f2_ f3_; have f4_ := f1_.symm; have f5_ := f3_.symm; clear f1_ f2_ f3_; subst f4_; subst f5_))
          refine hK.out _ _ ⟨(blk_cell BK182.out 0).trans rfl, (blk_cell BK182.out 1).trans rfl, (blk_cell BK182.out 2).trans rfl, (blk_cell BK182.out 3).trans rfl, (blk_cell BK182.out 4).trans rfl, (blk_cell BK182.out 5).trans rfl⟩ (fun hHeld => ?_)
          clear hK K
          refine norm_ (a' := ?_) ?_ ?_
          rotate_left
          · show Act.put _ (some 31) _ = _
            simp only [Act.put, List.setIfInBounds_toArray, List.set_cons_zero, List.set_cons_succ, i64_w, i32_w]
            rfl
          refine one_ (i := 11) (N := some 32) #[true, true, true, true, true, true, true, true, true, true, true, true, false] rfl rfl (one_of HT_.out (by kernel_rfl)) (by decide) (fun K hK => ?_)
          refine goes_ Tryd.func77 (by kernel_rfl) rfl #[.agg #[.int .i64 a0_0, .int .i64 a0_1, .int .i64 a0_2, .int .u64 a0_3, .int .u64 a0_4, .int .u64 a0_5], .slice Ao25 t193.length co25, .slice Ao26 t201.length co26] (by rfl) rfl rfl (by (try simp only [List.map_toArray, List.map_cons, List.map_nil]); first | done | rfl | (simp only [List.length_drop, List.length_take]; rfl)) ?_
          with_reducible refine (spec_HashChildren.calls k a0_0 a0_1 a0_2 a0_3 a0_4 a0_5 _ _ t193 _ _ t201 t204 _ ?side1 ?side2 ?side3 ?side4 A18.out).mono ?_
          (case side1 => repeat (first | exact (Kd.V_reads' HO195.out).2.2 | (with_reducible refine Kd.C_alloc ?_ _) | (with_reducible refine Kd.C_drewN ?_ _) | (with_reducible refine Kd.C_drew ?_)))
          (case side2 => exact (Kd.V_reads' HO195.out).2.1)
          (case side3 => repeat (first | exact (Kd.V_reads' HO203.out).2.2 | (with_reducible refine Kd.C_alloc ?_ _) | (with_reducible refine Kd.C_drewN ?_ _) | (with_reducible refine Kd.C_drew ?_)))
          (case side4 => exact (Kd.V_reads' HO203.out).2.1)
          rintro e w27 ⟨v205, rfl, ho0, hb⟩
          refine ⟨_, rfl, ?_⟩
          have n0_ := Aside0.mk (Kd.V_elder' (by (with_reducible repeat (first | apply Kd.V_alloc | apply Kd.V_drewN | apply Kd.V_drew)); exact HO1.out) (Kd.R_base ho0) hb)
          have n1_ := Aside0.mk (Kd.V_elder' (by (with_reducible repeat (first | apply Kd.V_alloc | apply Kd.V_drewN | apply Kd.V_drew)); exact HO192.out) (Kd.R_base ho0) hb)
          have n2_ := Aside0.mk (Kd.V_elder' (by (with_reducible repeat (first | apply Kd.V_alloc | apply Kd.V_drewN | apply Kd.V_drew)); exact HO200.out) (Kd.R_base ho0) hb)
          have n3_ := Aside0.mk (Kd.V_elder' (by (with_reducible repeat (first | apply Kd.V_alloc | apply Kd.V_drewN | apply Kd.V_drew)); exact HO195.out) (Kd.R_base ho0) hb)
          have n4_ := Aside0.mk (Kd.V_elder' (by (with_reducible repeat (first | apply Kd.V_alloc | apply Kd.V_drewN | apply Kd.V_drew)); exact HO203.out) (Kd.R_base ho0) hb)
          have n5_ := Aside0.mk (Kd.R_lower (Kd.R_newM (M := fun k_ => (w.heap.size ≤ k_)) ho0 (below_size (by repeat (first | (with_reducible first | exact HB.out | apply below_alloc | apply pw_below_drewN | apply below_drew1 | refine below_set ?_ GE182.out) | exact HB.out))) (fun k_ h_ => h_)) (below_size (by repeat (first | (with_reducible first | exact HB.out | apply below_alloc | apply pw_below_drewN | apply below_drew1 | refine below_set ?_ GE182.out) | exact HB.out))))
          have n6_ := Aside0.mk (blk_below (g := gb182) (o := .cells #[.int .i64 a0_0, .int .i64 a0_1, .int .i64 a0_2, .int .u64 a0_3, .int .u64 a0_4, .int .u64 a0_5] 24 (0, 0)) (by (with_reducible repeat (first | refine blk_drewN ?_ _ | refine blk_drew ?_ | refine blk_alloc ?_ _)); exact BK182.out) hb)
          have n7_ := Aside0.mk (below_step (by repeat (first | (with_reducible first | exact HB.out | apply below_alloc | apply pw_below_drewN | apply below_drew1 | refine below_set ?_ GE182.out) | exact HB.out)) hb)
          clear HO1
          clear HO192
          clear HO200
          clear HO195
          clear HO203
          clear BK182
          clear HB
          have HO1 := n0_
          have HO192 := n1_
          have HO200 := n2_
          have HO195 := n3_
          have HO203 := n4_
          have HO206 := n5_
          have BK182 := n6_
          have HB := n7_
          clear n0_ n1_ n2_ n3_ n4_ n5_ n6_ n7_
          (try clear hb)
          (try clear hb2)
          (try clear hk)
          (try clear hi)
          (try clear ho0)
          refine hK.out _ _ ⟨(blk_cell BK182.out 0).trans rfl, (blk_cell BK182.out 1).trans rfl, (blk_cell BK182.out 2).trans rfl, (blk_cell BK182.out 3).trans rfl, (blk_cell BK182.out 4).trans rfl, (blk_cell BK182.out 5).trans rfl⟩ (fun hHeld => ?_)
          clear hK K
          refine norm_ (a' := ?_) ?_ ?_
          rotate_left
          · show Act.put _ (some 32) _ = _
            simp only [Act.put, List.setIfInBounds_toArray, List.set_cons_zero, List.set_cons_succ, i64_w, i32_w]
            rfl
          refine pure_ (i := 12) (N := some 4) (v := ?_) (a' := ?_) #[true, true, true, true, true, true, true, true, true, true, true, true, true] rfl rfl (any_of HT_.out (by kernel_rfl)) (fun _ _ _ h => h) (Or.inl ⟨by rfl, ?_⟩) ?_ ?_
          rotate_left
          · intro w'
            go_simp
            with_reducible rfl
          rotate_left
          · simp only [Act.put, List.setIfInBounds_toArray, List.set_cons_zero, List.set_cons_succ, i64_w, i32_w]
            rfl
          refine done_ (done_of HT_.out (by kernel_rfl)) ?_
          try go_wp2
          go_ret
          exact ⟨_, by first | rfl | (simp [errW_none, errW_some] <;> rfl) | (simp [*, errW_none, errW_some] <;> rfl), Kd.V_mono (Kd.R_V (by (with_reducible repeat (first | apply Kd.R_alloc | apply Kd.R_drewN | apply Kd.R_drew)); exact Kd.R_mono HO206.out (fun _ hk => hk.1))) (fun k_ hk => by first | exact ⟨(.inr (hk.1)), hk.2⟩ | exact (.inr (hk))), by repeat (first | (with_reducible first | exact HB.out | apply below_alloc | apply pw_below_drewN | apply below_drew1 | refine below_set ?_ GE182.out) | exact HB.out)⟩
        · rw [if_neg c13] at H
          exact absurd H (by simp)
      · rw [if_neg c12] at H
        exact absurd H (by simp)

/-! ### spec_Nodes: function 66 -/
mutual
def spec_Nodes.l0 : Nat → List (S52) → Int → Int → Option ((List (S52)))
  | 0, _, _, _ => none
  | k + 1, x3, x208000, x208001 => if x208000 < x208001 then (spec_Nodes.l1 k x3 0 x208000 x208001) else (some x3)
def spec_Nodes.l1 : Nat → List (S52) → Int → Int → Int → Option ((List (S52)))
  | 0, _, _, _, _ => none
  | k + 1, x3, x4, x208000, x208001 => if x4 < 63 then (if 0 ≤ x4 then (if (Go.bits .and .u64 (shr .u64 x208000 x4) 1) = 0 then (if 0 ≤ (IntKind.u64.wrap (x4 + 1)) then (if (shl .u64 1 (IntKind.u64.wrap (x4 + 1))) ≤ (IntKind.u64.wrap (x208001 - x208000)) then (spec_Nodes.l1 k x3 (IntKind.u64.wrap (x4 + 1)) x208000 x208001) else (if x3.length < 8796093022208 then (spec_Nodes.l0 k (x3 ++ [(⟨x4, shr .u64 x208000 x4⟩ : S52)]) (IntKind.u64.wrap (x208000 + (shl .u64 1 x4))) x208001) else (none))) else (none)) else (if x3.length < 8796093022208 then (spec_Nodes.l0 k (x3 ++ [(⟨x4, shr .u64 x208000 x4⟩ : S52)]) (IntKind.u64.wrap (x208000 + (shl .u64 1 x4))) x208001) else (none))) else (none)) else (if 0 ≤ x4 then (if x3.length < 8796093022208 then (spec_Nodes.l0 k (x3 ++ [(⟨x4, shr .u64 x208000 x4⟩ : S52)]) (IntKind.u64.wrap (x208000 + (shl .u64 1 x4))) x208001) else (none)) else (none))
end
def spec_Nodes.f (k : Nat) (a0_0 : Int) (a0_1 : Int) : Option ((List (S52))) := spec_Nodes.l0 k ([] : List (S52)) a0_0 a0_1
theorem spec_Nodes.mono_l : ∀ k, (∀ y0 y1 y2, LeO (spec_Nodes.l0 k y0 y1 y2) (spec_Nodes.l0 (k + 1) y0 y1 y2)) ∧ (∀ y0 y1 y2 y3, LeO (spec_Nodes.l1 k y0 y1 y2 y3) (spec_Nodes.l1 (k + 1) y0 y1 y2 y3))
  | 0 => ⟨fun _ _ _ r h => by simp [spec_Nodes.l0] at h, fun _ _ _ _ r h => by simp [spec_Nodes.l1] at h⟩
  | k + 1 => by
    obtain ⟨ih0, ih1⟩ := spec_Nodes.mono_l k
    refine ⟨?_, ?_⟩
    · intro y0 y1 y2
      unfold spec_Nodes.l0
      repeat' first
      | (with_reducible exact ih0 _ _ _)
      | (with_reducible exact ih1 _ _ _ _)
      | (with_reducible exact LeO.refl _)
      | (with_reducible exact LeO.none _)
      | (with_reducible refine LeO.ite ?_ ?_)
      | (with_reducible refine LeO.bind ?_ (fun _ => ?_))
      | exact ih0 _ _ _
      | exact ih1 _ _ _ _
      | exact LeO.none _
      | refine LeO.ite ?_ ?_
      | refine LeO.bind ?_ (fun _ => ?_)
    · intro y0 y1 y2 y3
      unfold spec_Nodes.l1
      repeat' first
      | (with_reducible exact ih0 _ _ _)
      | (with_reducible exact ih1 _ _ _ _)
      | (with_reducible exact LeO.refl _)
      | (with_reducible exact LeO.none _)
      | (with_reducible refine LeO.ite ?_ ?_)
      | (with_reducible refine LeO.bind ?_ (fun _ => ?_))
      | exact ih0 _ _ _
      | exact ih1 _ _ _ _
      | exact LeO.none _
      | refine LeO.ite ?_ ?_
      | refine LeO.bind ?_ (fun _ => ?_)
theorem spec_Nodes.mono : ∀ a0 a1 k, LeO (spec_Nodes.f k a0 a1) (spec_Nodes.f (k + 1) a0 a1) := by
  intro a0 a1 k
  obtain ⟨ih0, ih1⟩ := spec_Nodes.mono_l k
  unfold spec_Nodes.f
  repeat' first
      | (with_reducible exact ih0 _ _ _)
      | (with_reducible exact ih1 _ _ _ _)
      | (with_reducible exact LeO.refl _)
      | (with_reducible exact LeO.none _)
      | (with_reducible refine LeO.ite ?_ ?_)
      | (with_reducible refine LeO.bind ?_ (fun _ => ?_))
      | exact ih0 _ _ _
      | exact ih1 _ _ _ _
      | exact LeO.none _
      | refine LeO.ite ?_ ?_
      | refine LeO.bind ?_ (fun _ => ?_)
set_option maxHeartbeats 8000000 in
set_option maxRecDepth 100000 in
theorem spec_Nodes.calls (k : Nat) (a0_0 : Int) (a0_1 : Int) (r : List (S52)) (w : World) (h : spec_Nodes.f k a0_0 a0_1 = some r) :
    Calls Tryd.prog 66 #[.agg #[.int .u64 a0_0, .int .u64 a0_1]] w fun e w' => ∃ v0_ : Value, e = .returned (v0_) ∧ Kd.R k52 52 w' w.heap.size (fun _ => True) v0_ r ∧ Below w.heap.size w w' := by
  have hu55 := Tryd.underlying55
  have hu52 := Tryd.underlying52
  have HB := Aside0.mk (Below.refl w.heap.size w)
  have H : (spec_Nodes.l0 k ([] : List (S52)) a0_0 a0_1) = some r := h
  clear h
  have H' := Aside0.mk H
  clear H
  go_enter Tryd.func66, Tryd.ntmps66
  go_wp2_with (first | ((with_reducible refine gate_dst (N := 1) rfl ?_); refine box_event ?hg (N := 1) ?hd (cs := #[.int .u64 a0_0, .int .u64 a0_1]) (t := 55) ?hr ?_; (case hd => rfl); (case hg => rfl); (case hr => first | (go_simp; done) | (go_simp; rfl)); intro gb207 hg w2 hbox hb; have n0_ := Aside0.mk (below_step (by repeat (first | (with_reducible first | exact HB.out | apply below_alloc | apply pw_below_drewN | apply below_drew1) | exact HB.out)) hb); have n1_ := Aside0.mk (hbox); have n2_ := Aside0.mk ((by rw [hg]; exact (below_size (by repeat (first | (with_reducible first | exact HB.out | apply below_alloc | apply pw_below_drewN | apply below_drew1) | exact HB.out))) : w.heap.size ≤ gb207)); have n3_ := Aside0.mk ((by rw [hg]; exact (below_size (by repeat (first | (with_reducible first | exact HB.out | apply below_alloc | apply pw_below_drewN | apply below_drew1) | exact HB.out))) : w.heap.size ≤ gb207)); clear HB; have HB := n0_; have BK207 := n1_; have GW207 := n2_; have GE207 := n3_; clear n0_ n1_ n2_ n3_; clear hb hbox hg))
  (try simp only [Act.put, List.setIfInBounds_toArray, List.set_cons_zero, List.set_cons_succ])
  go_loopg [3] k (fun kq v3 w' => ∃ (x3_1 : List (S52)) (x208000_1 : Int), Aside0 (spec_Nodes.l0 kq x3_1 x208000_1 a0_1 = some r) ∧ Aside0 (kq ≤ k) ∧ Aside0 (Kd.R k52 52 w' w.heap.size (fun _ => True) v3 x3_1) ∧ Aside0 (w'.heap[gb207]? = some (.cells #[.int .u64 x208000_1, .int .u64 a0_1] 55 (0, 0))) ∧ Aside0 (Below w.heap.size w w'))
  case atStart => exact ⟨(([] : List (S52))), (a0_0), H', ⟨Nat.le_refl _⟩, ⟨by first | exact Kd.R_nil _ _ _ _ _ | exact Kd.N_nil _ _ _ _ _ | exact Kd.V_nil _ _ _ _ _ | exact Kd.Q_nil _ _ _ _ _ | exact Kd.S_nil _ _ _ _ _⟩, ⟨by (with_reducible repeat (first | refine blk_drewN ?_ _ | refine blk_drew ?_ | refine blk_alloc ?_ _)); exact BK207.out⟩, ⟨by repeat (first | (with_reducible first | exact HB.out | apply below_alloc | apply pw_below_drewN | apply below_drew1 | refine below_set ?_ GE207.out) | exact HB.out)⟩⟩
  case round =>
    clear H'
    try clear p2
    obtain ⟨x3_1, x208000_1, HA, HK1, HO_3, BK207, HB⟩ := hrel
    cases gk with
    | zero => exact absurd HA.out (by simp [spec_Nodes.l0])
    | succ k1 =>
      have H := HA.out
      clear HA
      simp only [spec_Nodes.l0] at H
      by_cases c3 : x208000_1 < a0_1
      · rw [if_pos c3] at H
        have c3b0 : decide (x208000_1 < a0_1) = true := decide_eq_true c3
        clear c3
        have H' := Aside0.mk H
        clear H
        have hcz4_0 : wr.cell? ⟨gb207, 0, none⟩ = some (.int .u64 x208000_1) := (blk_cell BK207.out 0).trans rfl
        have hcz4_1 : wr.cell? ⟨gb207, 1, none⟩ = some (.int .u64 a0_1) := (blk_cell BK207.out 1).trans rfl
        have hfz4_0 := blk_frozen BK207.out 0
        have hfz4_1 := blk_frozen BK207.out 1
        go_wp2
        (try simp only [Act.put, List.setIfInBounds_toArray, List.set_cons_zero, List.set_cons_succ])
        go_loopg [4] k1 (fun kq v4 w' => ∃ (x4_2 : Int), v4 = .int .u64 x4_2 ∧ Aside0 (spec_Nodes.l1 kq x3_1 x4_2 x208000_1 a0_1 = some r) ∧ Aside0 (kq ≤ k1) ∧ Aside0 (Kd.R k52 52 w' w.heap.size (fun _ => True) u3 x3_1) ∧ Aside0 (w'.heap[gb207]? = some (.cells #[.int .u64 x208000_1, .int .u64 a0_1] 55 (0, 0))) ∧ Aside0 (Below w.heap.size w w'))
        case atStart => exact ⟨(0), (by first | rfl | (simp; done) | (simp [*]; done)), H', ⟨Nat.le_refl _⟩, ⟨by (with_reducible repeat (first | apply Kd.R_alloc | apply Kd.R_drewN | apply Kd.R_drew)); exact HO_3.out⟩, ⟨by (with_reducible repeat (first | refine blk_drewN ?_ _ | refine blk_drew ?_ | refine blk_alloc ?_ _)); exact BK207.out⟩, ⟨by repeat (first | (with_reducible first | exact HB.out | apply below_alloc | apply pw_below_drewN | apply below_drew1 | refine below_set ?_ GE207.out) | exact HB.out)⟩⟩
        case round =>
          clear H'
          try clear p2
          try clear c3
          try clear c3b0
          try clear hcz4_0
          try clear hcz4_1
          try clear hfz4_0
          try clear hfz4_1
          try clear p2
          obtain ⟨x4_2, rfl, HA, HK2, HO_3, BK207, HB⟩ := hrel
          cases gk with
          | zero => exact absurd HA.out (by simp [spec_Nodes.l1])
          | succ k2 =>
            have H := HA.out
            clear HA
            simp only [spec_Nodes.l1] at H
            by_cases c5 : x4_2 < 63
            · rw [if_pos c5] at H
              have c5b0 : decide (x4_2 < 63) = true := decide_eq_true c5
              clear c5
              by_cases c6 : 0 ≤ x4_2
              · rw [if_pos c6] at H
                have c6b0 := eq_true c6
                have c6b1 : decide (0 ≤ x4_2) = true := decide_eq_true c6
                clear c6
                obtain ⟨ji7, hji7⟩ : ∃ j_ : Int, (shr .u64 x208000_1 x4_2) = j_ := ⟨_, rfl⟩
                replace H : (if (Go.bits .and .u64 (ji7) 1) = 0 then (if 0 ≤ (IntKind.u64.wrap (x4_2 + 1)) then (if (shl .u64 1 (IntKind.u64.wrap (x4_2 + 1))) ≤ (IntKind.u64.wrap (a0_1 - x208000_1)) then (spec_Nodes.l1 k2 x3_1 (IntKind.u64.wrap (x4_2 + 1)) x208000_1 a0_1) else (if x3_1.length < 8796093022208 then (spec_Nodes.l0 k2 (x3_1 ++ [(⟨x4_2, ji7⟩ : S52)]) (IntKind.u64.wrap (x208000_1 + (shl .u64 1 x4_2))) a0_1) else (none))) else (none)) else (if x3_1.length < 8796093022208 then (spec_Nodes.l0 k2 (x3_1 ++ [(⟨x4_2, ji7⟩ : S52)]) (IntKind.u64.wrap (x208000_1 + (shl .u64 1 x4_2))) a0_1) else (none))) = some r := by first | (rw [hji7] at H; exact H) | (simp only [hji7] at H ⊢; exact H)
                have hji7_ : (x208000_1 / 2 ^ min x4_2.toNat 64) = ji7 := hji7
                have hji7z : x4_2 ≤ 64 → (x208000_1 / 2 ^ x4_2.toNat) = ji7 := shr_small hji7
                by_cases c8 : (Go.bits .and .u64 (ji7) 1) = 0
                · rw [if_pos c8] at H
                  have c8b0 : ((Go.bits .and .u64 (ji7) 1) == 0) = true := beq_iff_eq.mpr c8
                  have c8b1 : ((Go.bits .and .u64 (ji7) 1) != 0) = false := bne_eq_false_iff_eq.mpr c8
                  clear c8
                  obtain ⟨ji9, hji9⟩ : ∃ j_ : Int, (IntKind.u64.wrap (x4_2 + 1)) = j_ := ⟨_, rfl⟩
                  replace H : (if 0 ≤ (ji9) then (if (shl .u64 1 (ji9)) ≤ (IntKind.u64.wrap (a0_1 - x208000_1)) then (spec_Nodes.l1 k2 x3_1 ji9 x208000_1 a0_1) else (if x3_1.length < 8796093022208 then (spec_Nodes.l0 k2 (x3_1 ++ [(⟨x4_2, ji7⟩ : S52)]) (IntKind.u64.wrap (x208000_1 + (shl .u64 1 x4_2))) a0_1) else (none))) else (none)) = some r := by first | (rw [hji9] at H; exact H) | (simp only [hji9] at H ⊢; exact H)
                  by_cases c10 : 0 ≤ (ji9)
                  · rw [if_pos c10] at H
                    have c10b0 := eq_true c10
                    have c10b1 : decide (0 ≤ (ji9)) = true := decide_eq_true c10
                    clear c10
                    obtain ⟨ji11, hji11⟩ : ∃ j_ : Int, (shl .u64 1 (ji9)) = j_ := ⟨_, rfl⟩
                    replace H : (if (ji11) ≤ (IntKind.u64.wrap (a0_1 - x208000_1)) then (spec_Nodes.l1 k2 x3_1 ji9 x208000_1 a0_1) else (if x3_1.length < 8796093022208 then (spec_Nodes.l0 k2 (x3_1 ++ [(⟨x4_2, ji7⟩ : S52)]) (IntKind.u64.wrap (x208000_1 + (shl .u64 1 x4_2))) a0_1) else (none))) = some r := by first | (rw [hji11] at H; exact H) | (simp only [hji11] at H ⊢; exact H)
                    have hji11_ : (IntKind.u64.wrap (1 * 2 ^ min (ji9).toNat 64)) = ji11 := hji11
                    have hji11z : (ji9) ≤ 64 → (IntKind.u64.wrap (1 * 2 ^ (ji9).toNat)) = ji11 := shl_small hji11
                    have hji11u : (IntKind.u64.wrap (2 ^ min (ji9).toNat 64)) = ji11 := by have h_ := hji11_; rw [Int.one_mul] at h_; exact h_
                    have hji11v : (ji9) ≤ 64 → (IntKind.u64.wrap (2 ^ (ji9).toNat)) = ji11 := fun hle_ => by have h_ := hji11z hle_; rw [Int.one_mul] at h_; exact h_
                    by_cases c12 : (ji11) ≤ (IntKind.u64.wrap (a0_1 - x208000_1))
                    · rw [if_pos c12] at H
                      have c12b0 : decide ((ji11) ≤ (IntKind.u64.wrap (a0_1 - x208000_1))) = true := decide_eq_true c12
                      clear c12
                      have H' := Aside0.mk H
                      clear H
                      have hcz13_0 : wr.cell? ⟨gb207, 0, none⟩ = some (.int .u64 x208000_1) := (blk_cell BK207.out 0).trans rfl
                      have hcz13_1 : wr.cell? ⟨gb207, 1, none⟩ = some (.int .u64 a0_1) := (blk_cell BK207.out 1).trans rfl
                      have hfz13_0 := blk_frozen BK207.out 0
                      have hfz13_1 := blk_frozen BK207.out 1
                      go_wp2
                      go_roundg k2
                      case measure => have := HK1.out; have := HK2.out; omega
                      case rel => exact ⟨(ji9), (by first | rfl | (simp; done) | (simp only [← hji9] <;> (first | rfl | simp)) | (simp [*]; done)), H', ⟨by have := HK1.out; have := HK2.out; omega⟩, ⟨by (with_reducible repeat (first | apply Kd.R_alloc | apply Kd.R_drewN | apply Kd.R_drew)); exact HO_3.out⟩, ⟨by (with_reducible repeat (first | refine blk_drewN ?_ _ | refine blk_drew ?_ | refine blk_alloc ?_ _)); exact BK207.out⟩, ⟨by repeat (first | (with_reducible first | exact HB.out | apply below_alloc | apply pw_below_drewN | apply below_drew1 | refine below_set ?_ GE207.out) | exact HB.out)⟩⟩
                    · rw [if_neg c12] at H
                      have c12b0 : decide ((ji11) ≤ (IntKind.u64.wrap (a0_1 - x208000_1))) = false := decide_eq_false c12
                      clear c12
                      have c14b0 := eq_true (of_decide_eq_true (by first | (with_reducible assumption) | assumption) : 0 ≤ x4_2)
                      by_cases c15 : x3_1.length < 8796093022208
                      · rw [if_pos c15] at H
                        have LMc15 := Aside0.mk c15
                        clear c15
                        obtain ⟨y208, hy208⟩ : ∃ y_ : List (S52), y_ = (x3_1 ++ [(⟨x4_2, ji7⟩ : S52)]) := ⟨_, rfl⟩
                        replace H : (spec_Nodes.l0 k2 y208 (IntKind.u64.wrap (x208000_1 + (shl .u64 1 x4_2))) a0_1) = some r := by first | (rw [hy208]; with_reducible exact H) | (have H2_ := (Option.bind_some _ _).symm.trans H; rw [hy208]; with_reducible exact H2_) | (have H2_ := (Option.bind_some _ _).symm.trans H; with_reducible exact H2_) | with_reducible exact H | (rw [hy208]; exact H) | exact H
                        have Ny208 := Aside0.mk hy208
                        clear hy208
                        have c16b0 := eq_true (of_decide_eq_true (by first | (with_reducible assumption) | assumption) : 0 ≤ x4_2)
                        obtain ⟨ji17, hji17⟩ : ∃ j_ : Int, (shl .u64 1 x4_2) = j_ := ⟨_, rfl⟩
                        replace H : (spec_Nodes.l0 k2 y208 (IntKind.u64.wrap (x208000_1 + (ji17))) a0_1) = some r := by first | (rw [hji17] at H; exact H) | (simp only [hji17] at H ⊢; exact H)
                        have hji17_ : (IntKind.u64.wrap (1 * 2 ^ min x4_2.toNat 64)) = ji17 := hji17
                        have hji17z : x4_2 ≤ 64 → (IntKind.u64.wrap (1 * 2 ^ x4_2.toNat)) = ji17 := shl_small hji17
                        have hji17u : (IntKind.u64.wrap (2 ^ min x4_2.toNat 64)) = ji17 := by have h_ := hji17_; rw [Int.one_mul] at h_; exact h_
                        have hji17v : x4_2 ≤ 64 → (IntKind.u64.wrap (2 ^ x4_2.toNat)) = ji17 := fun hle_ => by have h_ := hji17z hle_; rw [Int.one_mul] at h_; exact h_
                        have H' := Aside0.mk H
                        clear H
                        have hcz18_0 : wr.cell? ⟨gb207, 0, none⟩ = some (.int .u64 x208000_1) := (blk_cell BK207.out 0).trans rfl
                        have hcz18_1 : wr.cell? ⟨gb207, 1, none⟩ = some (.int .u64 a0_1) := (blk_cell BK207.out 1).trans rfl
                        have hfz18_0 := blk_frozen BK207.out 0
                        have hfz18_1 := blk_frozen BK207.out 1
                        go_wp2_with (first | ((with_reducible refine gate_builtin (b := .append) (xs := #[.tmp 33, .tmp 40]) rfl ?_); at_builtin; refine Kd.R_append k52 (w0 := w) w.heap.size rfl (.tmp 33) (.tmp 40) 77 52 (.agg #[(.int .u64 0), (.int .u64 0)]) 16 rfl Tryd.underlying77 info52 rfl (by decide) (by omega) u3 x3_1 (⟨x4_2, ji7⟩ : S52) [.int .u64 x4_2, .int .u64 ji7] (fun _ => True) (fun _ => False) rfl rfl ?aP (fun _ hk => hk.elim) ?aF ?aO ?aB ?aS ?aL ?_; (case aP => exact k52_mkM _ _ _ (⟨x4_2, ji7⟩ : S52)); (case aB => exact (by repeat (first | (with_reducible first | exact HB.out | apply below_alloc | apply pw_below_drewN | apply below_drew1 | refine below_set ?_ GE207.out) | exact HB.out))); (case aF => exact (fun _ _ => trivial)); (case aO => exact (by (with_reducible repeat (first | apply Kd.R_alloc | apply Kd.R_drewN | apply Kd.R_drew)); exact HO_3.out)); (case aS => exact (below_size (by repeat (first | (with_reducible first | exact HB.out | apply below_alloc | apply pw_below_drewN | apply below_drew1 | refine below_set ?_ GE207.out) | exact HB.out)))); (case aL => have := LMc15.out; omega); intro v209 w19 ho hb hg hat; rw [← Ny208.out] at ho; have n0_ := Aside0.mk (blk_grown (g := gb207) (o := .cells #[.int .u64 x208000_1, .int .u64 a0_1] 55 (0, 0)) (by (with_reducible repeat (first | refine blk_drewN ?_ _ | refine blk_drew ?_ | refine blk_alloc ?_ _)); exact BK207.out) hg (Kd.R_ne HO_3.out BK207.out (by decide))); have n1_ := Aside0.mk (hb); have n2_ := Aside0.mk (ho); clear BK207; clear HB; clear HO_3; have BK207 := n0_; have HB := n1_; have HO210 := n2_; clear n0_ n1_ n2_; clear ho hb hg hat; have hcz20_0 : w19.cell? ⟨gb207, 0, none⟩ = some (.int .u64 x208000_1) := (blk_cell BK207.out 0).trans rfl; have hcz20_1 : w19.cell? ⟨gb207, 1, none⟩ = some (.int .u64 a0_1) := (blk_cell BK207.out 1).trans rfl; have hfz20_0 := blk_frozen BK207.out 0; have hfz20_1 := blk_frozen BK207.out 1))
                        go_roundg k2
                        case measure => have := HK1.out; have := HK2.out; omega
                        case rel => exact ⟨(y208), (IntKind.u64.wrap (x208000_1 + (ji17))), H', ⟨by have := HK1.out; have := HK2.out; omega⟩, ⟨by (with_reducible repeat (first | apply Kd.R_alloc | apply Kd.R_drewN | apply Kd.R_drew)); exact Kd.R_mono (Kd.R_far (p := ⟨gb207, 0, none⟩) (Kd.R_types HO210.out BK207.out (by decide)) (fun _ hk => hk.2) (.int .u64 (IntKind.u64.wrap (x208000_1 + (ji17))))) (fun _ hk => trivial)⟩, ⟨by (with_reducible repeat (first | refine blk_drewN ?_ _ | refine blk_drew ?_ | refine blk_alloc ?_ _)); refine blk_put (cs := #[.int .u64 x208000_1, .int .u64 a0_1]) ?_ 0 _ rfl; (with_reducible repeat (first | refine blk_drewN ?_ _ | refine blk_drew ?_ | refine blk_alloc ?_ _)); exact BK207.out⟩, ⟨by repeat (first | (with_reducible first | exact HB.out | apply below_alloc | apply pw_below_drewN | apply below_drew1 | refine below_set ?_ GE207.out) | exact HB.out)⟩⟩
                      · rw [if_neg c15] at H
                        exact absurd H (by simp)
                  · rw [if_neg c10] at H
                    exact absurd H (by simp)
                · rw [if_neg c8] at H
                  have c8b0 : ((Go.bits .and .u64 (ji7) 1) == 0) = false := beq_eq_false_iff_ne.mpr c8
                  have c8b1 : ((Go.bits .and .u64 (ji7) 1) != 0) = true := bne_iff_ne.mpr c8
                  have c21b0 := eq_true (of_decide_eq_true (by first | (with_reducible assumption) | assumption) : 0 ≤ x4_2)
                  by_cases c22 : x3_1.length < 8796093022208
                  · rw [if_pos c22] at H
                    have LMc22 := Aside0.mk c22
                    clear c22
                    obtain ⟨y211, hy211⟩ : ∃ y_ : List (S52), y_ = (x3_1 ++ [(⟨x4_2, ji7⟩ : S52)]) := ⟨_, rfl⟩
                    replace H : (spec_Nodes.l0 k2 y211 (IntKind.u64.wrap (x208000_1 + (shl .u64 1 x4_2))) a0_1) = some r := by first | (rw [hy211]; with_reducible exact H) | (have H2_ := (Option.bind_some _ _).symm.trans H; rw [hy211]; with_reducible exact H2_) | (have H2_ := (Option.bind_some _ _).symm.trans H; with_reducible exact H2_) | with_reducible exact H | (rw [hy211]; exact H) | exact H
                    have Ny211 := Aside0.mk hy211
                    clear hy211
                    have c23b0 := eq_true (of_decide_eq_true (by first | (with_reducible assumption) | assumption) : 0 ≤ x4_2)
                    obtain ⟨ji24, hji24⟩ : ∃ j_ : Int, (shl .u64 1 x4_2) = j_ := ⟨_, rfl⟩
                    replace H : (spec_Nodes.l0 k2 y211 (IntKind.u64.wrap (x208000_1 + (ji24))) a0_1) = some r := by first | (rw [hji24] at H; exact H) | (simp only [hji24] at H ⊢; exact H)
                    have hji24_ : (IntKind.u64.wrap (1 * 2 ^ min x4_2.toNat 64)) = ji24 := hji24
                    have hji24z : x4_2 ≤ 64 → (IntKind.u64.wrap (1 * 2 ^ x4_2.toNat)) = ji24 := shl_small hji24
                    have hji24u : (IntKind.u64.wrap (2 ^ min x4_2.toNat 64)) = ji24 := by have h_ := hji24_; rw [Int.one_mul] at h_; exact h_
                    have hji24v : x4_2 ≤ 64 → (IntKind.u64.wrap (2 ^ x4_2.toNat)) = ji24 := fun hle_ => by have h_ := hji24z hle_; rw [Int.one_mul] at h_; exact h_
                    have H' := Aside0.mk H
                    clear H
                    have hcz25_0 : wr.cell? ⟨gb207, 0, none⟩ = some (.int .u64 x208000_1) := (blk_cell BK207.out 0).trans rfl
                    have hcz25_1 : wr.cell? ⟨gb207, 1, none⟩ = some (.int .u64 a0_1) := (blk_cell BK207.out 1).trans rfl
                    have hfz25_0 := blk_frozen BK207.out 0
                    have hfz25_1 := blk_frozen BK207.out 1
                    go_wp2_with (first | ((with_reducible refine gate_builtin (b := .append) (xs := #[.tmp 33, .tmp 40]) rfl ?_); at_builtin; refine Kd.R_append k52 (w0 := w) w.heap.size rfl (.tmp 33) (.tmp 40) 77 52 (.agg #[(.int .u64 0), (.int .u64 0)]) 16 rfl Tryd.underlying77 info52 rfl (by decide) (by omega) u3 x3_1 (⟨x4_2, ji7⟩ : S52) [.int .u64 x4_2, .int .u64 ji7] (fun _ => True) (fun _ => False) rfl rfl ?aP (fun _ hk => hk.elim) ?aF ?aO ?aB ?aS ?aL ?_; (case aP => exact k52_mkM _ _ _ (⟨x4_2, ji7⟩ : S52)); (case aB => exact (by repeat (first | (with_reducible first | exact HB.out | apply below_alloc | apply pw_below_drewN | apply below_drew1 | refine below_set ?_ GE207.out) | exact HB.out))); (case aF => exact (fun _ _ => trivial)); (case aO => exact (by (with_reducible repeat (first | apply Kd.R_alloc | apply Kd.R_drewN | apply Kd.R_drew)); exact HO_3.out)); (case aS => exact (below_size (by repeat (first | (with_reducible first | exact HB.out | apply below_alloc | apply pw_below_drewN | apply below_drew1 | refine below_set ?_ GE207.out) | exact HB.out)))); (case aL => have := LMc22.out; omega); intro v212 w26 ho hb hg hat; rw [← Ny211.out] at ho; have n0_ := Aside0.mk (blk_grown (g := gb207) (o := .cells #[.int .u64 x208000_1, .int .u64 a0_1] 55 (0, 0)) (by (with_reducible repeat (first | refine blk_drewN ?_ _ | refine blk_drew ?_ | refine blk_alloc ?_ _)); exact BK207.out) hg (Kd.R_ne HO_3.out BK207.out (by decide))); have n1_ := Aside0.mk (hb); have n2_ := Aside0.mk (ho); clear BK207; clear HB; clear HO_3; have BK207 := n0_; have HB := n1_; have HO213 := n2_; clear n0_ n1_ n2_; clear ho hb hg hat; have hcz27_0 : w26.cell? ⟨gb207, 0, none⟩ = some (.int .u64 x208000_1) := (blk_cell BK207.out 0).trans rfl; have hcz27_1 : w26.cell? ⟨gb207, 1, none⟩ = some (.int .u64 a0_1) := (blk_cell BK207.out 1).trans rfl; have hfz27_0 := blk_frozen BK207.out 0; have hfz27_1 := blk_frozen BK207.out 1))
                    go_roundg k2
                    case measure => have := HK1.out; have := HK2.out; omega
                    case rel => exact ⟨(y211), (IntKind.u64.wrap (x208000_1 + (ji24))), H', ⟨by have := HK1.out; have := HK2.out; omega⟩, ⟨by (with_reducible repeat (first | apply Kd.R_alloc | apply Kd.R_drewN | apply Kd.R_drew)); exact Kd.R_mono (Kd.R_far (p := ⟨gb207, 0, none⟩) (Kd.R_types HO213.out BK207.out (by decide)) (fun _ hk => hk.2) (.int .u64 (IntKind.u64.wrap (x208000_1 + (ji24))))) (fun _ hk => trivial)⟩, ⟨by (with_reducible repeat (first | refine blk_drewN ?_ _ | refine blk_drew ?_ | refine blk_alloc ?_ _)); refine blk_put (cs := #[.int .u64 x208000_1, .int .u64 a0_1]) ?_ 0 _ rfl; (with_reducible repeat (first | refine blk_drewN ?_ _ | refine blk_drew ?_ | refine blk_alloc ?_ _)); exact BK207.out⟩, ⟨by repeat (first | (with_reducible first | exact HB.out | apply below_alloc | apply pw_below_drewN | apply below_drew1 | refine below_set ?_ GE207.out) | exact HB.out)⟩⟩
                  · rw [if_neg c22] at H
                    exact absurd H (by simp)
              · rw [if_neg c6] at H
                exact absurd H (by simp)
            · rw [if_neg c5] at H
              have c5b0 : decide (x4_2 < 63) = false := decide_eq_false c5
              clear c5
              by_cases c28 : 0 ≤ x4_2
              · rw [if_pos c28] at H
                have c28b0 := eq_true c28
                have c28b1 : decide (0 ≤ x4_2) = true := decide_eq_true c28
                clear c28
                obtain ⟨ji29, hji29⟩ : ∃ j_ : Int, (shr .u64 x208000_1 x4_2) = j_ := ⟨_, rfl⟩
                replace H : (if x3_1.length < 8796093022208 then (spec_Nodes.l0 k2 (x3_1 ++ [(⟨x4_2, ji29⟩ : S52)]) (IntKind.u64.wrap (x208000_1 + (shl .u64 1 x4_2))) a0_1) else (none)) = some r := by first | (rw [hji29] at H; exact H) | (simp only [hji29] at H ⊢; exact H)
                have hji29_ : (x208000_1 / 2 ^ min x4_2.toNat 64) = ji29 := hji29
                have hji29z : x4_2 ≤ 64 → (x208000_1 / 2 ^ x4_2.toNat) = ji29 := shr_small hji29
                by_cases c30 : x3_1.length < 8796093022208
                · rw [if_pos c30] at H
                  have LMc30 := Aside0.mk c30
                  clear c30
                  obtain ⟨y214, hy214⟩ : ∃ y_ : List (S52), y_ = (x3_1 ++ [(⟨x4_2, ji29⟩ : S52)]) := ⟨_, rfl⟩
                  replace H : (spec_Nodes.l0 k2 y214 (IntKind.u64.wrap (x208000_1 + (shl .u64 1 x4_2))) a0_1) = some r := by first | (rw [hy214]; with_reducible exact H) | (have H2_ := (Option.bind_some _ _).symm.trans H; rw [hy214]; with_reducible exact H2_) | (have H2_ := (Option.bind_some _ _).symm.trans H; with_reducible exact H2_) | with_reducible exact H | (rw [hy214]; exact H) | exact H
                  have Ny214 := Aside0.mk hy214
                  clear hy214
                  have c31b0 := eq_true (of_decide_eq_true (by first | (with_reducible assumption) | assumption) : 0 ≤ x4_2)
                  obtain ⟨ji32, hji32⟩ : ∃ j_ : Int, (shl .u64 1 x4_2) = j_ := ⟨_, rfl⟩
                  replace H : (spec_Nodes.l0 k2 y214 (IntKind.u64.wrap (x208000_1 + (ji32))) a0_1) = some r := by first | (rw [hji32] at H; exact H) | (simp only [hji32] at H ⊢; exact H)
                  have hji32_ : (IntKind.u64.wrap (1 * 2 ^ min x4_2.toNat 64)) = ji32 := hji32
                  have hji32z : x4_2 ≤ 64 → (IntKind.u64.wrap (1 * 2 ^ x4_2.toNat)) = ji32 := shl_small hji32
                  have hji32u : (IntKind.u64.wrap (2 ^ min x4_2.toNat 64)) = ji32 := by have h_ := hji32_; rw [Int.one_mul] at h_; exact h_
                  have hji32v : x4_2 ≤ 64 → (IntKind.u64.wrap (2 ^ x4_2.toNat)) = ji32 := fun hle_ => by have h_ := hji32z hle_; rw [Int.one_mul] at h_; exact h_
                  have H' := Aside0.mk H
                  clear H
                  have hcz33_0 : wr.cell? ⟨gb207, 0, none⟩ = some (.int .u64 x208000_1) := (blk_cell BK207.out 0).trans rfl
                  have hcz33_1 : wr.cell? ⟨gb207, 1, none⟩ = some (.int .u64 a0_1) := (blk_cell BK207.out 1).trans rfl
                  have hfz33_0 := blk_frozen BK207.out 0
                  have hfz33_1 := blk_frozen BK207.out 1
                  go_wp2_with (first | ((with_reducible refine gate_builtin (b := .append) (xs := #[.tmp 33, .tmp 40]) rfl ?_); at_builtin; refine Kd.R_append k52 (w0 := w) w.heap.size rfl (.tmp 33) (.tmp 40) 77 52 (.agg #[(.int .u64 0), (.int .u64 0)]) 16 rfl Tryd.underlying77 info52 rfl (by decide) (by omega) u3 x3_1 (⟨x4_2, ji29⟩ : S52) [.int .u64 x4_2, .int .u64 ji29] (fun _ => True) (fun _ => False) rfl rfl ?aP (fun _ hk => hk.elim) ?aF ?aO ?aB ?aS ?aL ?_; (case aP => exact k52_mkM _ _ _ (⟨x4_2, ji29⟩ : S52)); (case aB => exact (by repeat (first | (with_reducible first | exact HB.out | apply below_alloc | apply pw_below_drewN | apply below_drew1 | refine below_set ?_ GE207.out) | exact HB.out))); (case aF => exact (fun _ _ => trivial)); (case aO => exact (by (with_reducible repeat (first | apply Kd.R_alloc | apply Kd.R_drewN | apply Kd.R_drew)); exact HO_3.out)); (case aS => exact (below_size (by repeat (first | (with_reducible first | exact HB.out | apply below_alloc | apply pw_below_drewN | apply below_drew1 | refine below_set ?_ GE207.out) | exact HB.out)))); (case aL => have := LMc30.out; omega); intro v215 w34 ho hb hg hat; rw [← Ny214.out] at ho; have n0_ := Aside0.mk (blk_grown (g := gb207) (o := .cells #[.int .u64 x208000_1, .int .u64 a0_1] 55 (0, 0)) (by (with_reducible repeat (first | refine blk_drewN ?_ _ | refine blk_drew ?_ | refine blk_alloc ?_ _)); exact BK207.out) hg (Kd.R_ne HO_3.out BK207.out (by decide))); have n1_ := Aside0.mk (hb); have n2_ := Aside0.mk (ho); clear BK207; clear HB; clear HO_3; have BK207 := n0_; have HB := n1_; have HO216 := n2_; clear n0_ n1_ n2_; clear ho hb hg hat; have hcz35_0 : w34.cell? ⟨gb207, 0, none⟩ = some (.int .u64 x208000_1) := (blk_cell BK207.out 0).trans rfl; have hcz35_1 : w34.cell? ⟨gb207, 1, none⟩ = some (.int .u64 a0_1) := (blk_cell BK207.out 1).trans rfl; have hfz35_0 := blk_frozen BK207.out 0; have hfz35_1 := blk_frozen BK207.out 1))
                  go_roundg k2
                  case measure => have := HK1.out; have := HK2.out; omega
                  case rel => exact ⟨(y214), (IntKind.u64.wrap (x208000_1 + (ji32))), H', ⟨by have := HK1.out; have := HK2.out; omega⟩, ⟨by (with_reducible repeat (first | apply Kd.R_alloc | apply Kd.R_drewN | apply Kd.R_drew)); exact Kd.R_mono (Kd.R_far (p := ⟨gb207, 0, none⟩) (Kd.R_types HO216.out BK207.out (by decide)) (fun _ hk => hk.2) (.int .u64 (IntKind.u64.wrap (x208000_1 + (ji32))))) (fun _ hk => trivial)⟩, ⟨by (with_reducible repeat (first | refine blk_drewN ?_ _ | refine blk_drew ?_ | refine blk_alloc ?_ _)); refine blk_put (cs := #[.int .u64 x208000_1, .int .u64 a0_1]) ?_ 0 _ rfl; (with_reducible repeat (first | refine blk_drewN ?_ _ | refine blk_drew ?_ | refine blk_alloc ?_ _)); exact BK207.out⟩, ⟨by repeat (first | (with_reducible first | exact HB.out | apply below_alloc | apply pw_below_drewN | apply below_drew1 | refine below_set ?_ GE207.out) | exact HB.out)⟩⟩
                · rw [if_neg c30] at H
                  exact absurd H (by simp)
              · rw [if_neg c28] at H
                exact absurd H (by simp)
      · rw [if_neg c3] at H
        have c3b0 : decide (x208000_1 < a0_1) = false := decide_eq_false c3
        clear c3
        obtain rfl := Option.some.inj H
        have hcz36_0 : wr.cell? ⟨gb207, 0, none⟩ = some (.int .u64 x208000_1) := (blk_cell BK207.out 0).trans rfl
        have hcz36_1 : wr.cell? ⟨gb207, 1, none⟩ = some (.int .u64 a0_1) := (blk_cell BK207.out 1).trans rfl
        have hfz36_0 := blk_frozen BK207.out 0
        have hfz36_1 := blk_frozen BK207.out 1
        go_wp2
        go_ret
        exact ⟨_, by first | rfl | (simp [errW_none, errW_some] <;> rfl) | (simp [*, errW_none, errW_some] <;> rfl), by (with_reducible repeat (first | apply Kd.R_alloc | apply Kd.R_drewN | apply Kd.R_drew)); exact HO_3.out, by repeat (first | (with_reducible first | exact HB.out | apply below_alloc | apply pw_below_drewN | apply below_drew1 | refine below_set ?_ GE207.out) | exact HB.out)⟩

end Go.Proofs.YtfhcpniibiobgaaDoor.Qf
