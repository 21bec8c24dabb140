-- Written by wip/tools/myprint.py for this seat (the kit's print with changes); Lean checks it.
import Derived.Test.YtfhcpniibiobgaaDoorQfx0
import Derived.Test.YtfhcpniibiobgaaDoorQfx2
import Derived.Test.YtfhcpniibiobgaaDoorQfx3
namespace Go.Proofs.YtfhcpniibiobgaaDoor.Qf
open Go.RowKit Go.Proofs.YtfhcpniibiobgaaDoorW.PrintWords Go.Proofs.YtfhcpniibiobgaaDoorW.PrintLast Go.Proofs.YtfhcpniibiobgaaDoorW.PrintMore
attribute [local go_sem] max2_int min2_int max_two min_two max_three min_three max_four min_four   -- for this text's walks alone
set_option linter.unusedVariables false
set_option linter.unusedSimpArgs false

/-! ### spec_Root: function 37 -/
def spec_Root.f : Nat → Int → Int → Int → Int → Int → Int → List (List Int) → Option (List Int)
  | 0, _, _, _, _, _, _, _ => none
  | k + 1, a0_0, a0_1, a0_2, a0_3, a0_4, a0_5, l1 => if (l1.length : Int) = 0 then ((spec_EmptyRoot.f k a0_0 a0_1 a0_2 a0_3 a0_4 a0_5).bind fun t187 => (some t187)) else (if (l1.length : Int) = 1 then (if 0 < (l1.length : Int) then (some (rd_L1 l1 0)) else (none)) else ((spec_split.f k (IntKind.u64.wrap ((l1.length : Int)))).bind fun t191 => (if 0 ≤ t191 then (if t191 ≤ (l1.length : Int) then ((spec_Root.f k a0_0 a0_1 a0_2 a0_3 a0_4 a0_5 (l1.take (t191 : Int).toNat)).bind fun t197 => ((spec_Root.f k a0_0 a0_1 a0_2 a0_3 a0_4 a0_5 (l1.drop (t191 : Int).toNat)).bind fun t205 => ((spec_HashChildren.f k a0_0 a0_1 a0_2 a0_3 a0_4 a0_5 t197 t205).bind fun t208 => (some t208)))) else (none)) else (none))))
theorem spec_Root.mono_l : ∀ k, (∀ y0 y1 y2 y3 y4 y5 y6, LeO (spec_Root.f k y0 y1 y2 y3 y4 y5 y6) (spec_Root.f (k + 1) y0 y1 y2 y3 y4 y5 y6))
  | 0 => fun _ _ _ _ _ _ _ r h => by simp [spec_Root.f] at h
  | k + 1 => by
    have ih0 := spec_Root.mono_l k
    · intro y0 y1 y2 y3 y4 y5 y6
      unfold spec_Root.f
      repeat' first
      | (with_reducible exact ih0 _ _ _ _ _ _ _)
      | (with_reducible exact spec_EmptyRoot.mono _ _ _ _ _ _ _)
      | (with_reducible exact spec_HashChildren.mono _ _ _ _ _ _ _ _ _)
      | (with_reducible exact spec_split.mono _ _)
      | (with_reducible exact LeO.refl _)
      | (with_reducible exact LeO.none _)
      | (with_reducible refine LeO.ite ?_ ?_)
      | (with_reducible refine LeO.bind ?_ (fun _ => ?_))
      | exact ih0 _ _ _ _ _ _ _
      | exact spec_EmptyRoot.mono _ _ _ _ _ _ _
      | exact spec_HashChildren.mono _ _ _ _ _ _ _ _ _
      | exact spec_split.mono _ _
      | exact LeO.none _
      | refine LeO.ite ?_ ?_
      | refine LeO.bind ?_ (fun _ => ?_)
theorem spec_Root.mono : ∀ a0 a1 a2 a3 a4 a5 a6 k, LeO (spec_Root.f k a0 a1 a2 a3 a4 a5 a6) (spec_Root.f (k + 1) a0 a1 a2 a3 a4 a5 a6) := by
  intro a0 a1 a2 a3 a4 a5 a6 k
  have ih0 := spec_Root.mono_l k
  exact ih0 a0 a1 a2 a3 a4 a5 a6
def spec_Root.T7 : Bool × List (List Nat × List Nat) := (true, [([], []), ([], []), ([], []), ([], []), ([2, 3], [2, 3]), ([1, 4], [1, 4]), ([], []), ([], []), ([], []), ([7, 8], [7, 8]), ([6, 9, 5], [6, 9]), ([0, 5, 10, 10], [0, 5, 10]), ([11, 11, 0, 1, 2, 3, 4, 5, 6, 7, 8, 9, 10, 11], [11])])
def spec_Root.B7 : List Nat := [0, 0, 0, 0, 12, 30, 0, 0, 0, 384, 1022, 2047, 4095]
theorem spec_Root.tab7 : rtab .any (opsOf Tryd.f37 7) = spec_Root.T7 := by kernel_rfl
theorem spec_Root.bits7 : waitsOk spec_Root.T7.2 spec_Root.B7 = true := by kernel_rfl
set_option maxHeartbeats 8000000 in
set_option maxRecDepth 100000 in
theorem spec_Root.calls (k : Nat) : ∀ (a0_0 : Int) (a0_1 : Int) (a0_2 : Int) (a0_3 : Int) (a0_4 : Int) (a0_5 : Int) (P1_ : Nat → Prop) (A1 : Option Addr) (c1 : Nat) (l1 : List (List Int)) (r : List Int) (w : World) (hs1 : Kd.V (Kd.slice 5 (Kd.int .u8)) 28 w w.heap.size (fun k_ => P1_ k_) (.slice A1 l1.length c1) l1) (h : spec_Root.f k a0_0 a0_1 a0_2 a0_3 a0_4 a0_5 l1 = some r),
    Calls Tryd.prog 37 #[.agg #[.int .i64 a0_0, .int .i64 a0_1, .int .i64 a0_2, .int .u64 a0_3, .int .u64 a0_4, .int .u64 a0_5], .slice A1 l1.length c1] w fun e w' => ∃ v0_ : Value, e = .returned (v0_) ∧ Kd.V (Kd.int .u8) 5 w' w.heap.size (fun k_ => (P1_ k_ ∨ w.heap.size ≤ k_)) v0_ r ∧ Below w.heap.size w w' := by
  induction k using Nat.strongRecOn with
  | _ k ih =>
  intro a0_0 a0_1 a0_2 a0_3 a0_4 a0_5 P1_ A1 c1 l1 r w hs1 h
  cases k with
  | zero => exact absurd h (by simp [spec_Root.f])
  | succ k =>
  simp only [spec_Root.f] at h
  have hu24 := Tryd.underlying24
  have HO1 := Aside0.mk (show Kd.V (Kd.slice 5 (Kd.int .u8)) 28 w w.heap.size (fun k_ => (P1_ k_ ∨ w.heap.size ≤ k_)) (.slice A1 l1.length c1) l1 from Kd.V_mono hs1 (fun k_ hk => .inl hk))
  have HB := Aside0.mk (Below.refl w.heap.size w)
  have H : (if (l1.length : Int) = 0 then ((spec_EmptyRoot.f k a0_0 a0_1 a0_2 a0_3 a0_4 a0_5).bind fun t187 => (some t187)) else (if (l1.length : Int) = 1 then (if 0 < (l1.length : Int) then (some (rd_L1 l1 0)) else (none)) else ((spec_split.f k (IntKind.u64.wrap ((l1.length : Int)))).bind fun t191 => (if 0 ≤ t191 then (if t191 ≤ (l1.length : Int) then ((spec_Root.f k a0_0 a0_1 a0_2 a0_3 a0_4 a0_5 (l1.take (t191 : Int).toNat)).bind fun t197 => ((spec_Root.f k a0_0 a0_1 a0_2 a0_3 a0_4 a0_5 (l1.drop (t191 : Int).toNat)).bind fun t205 => ((spec_HashChildren.f k a0_0 a0_1 a0_2 a0_3 a0_4 a0_5 t197 t205).bind fun t208 => (some t208)))) else (none)) else (none))))) = some r := h
  clear h
  by_cases c3 : (l1.length : Int) = 0
  · rw [if_pos c3] at H
    have c3b0 : ((l1.length : Int) == 0) = true := beq_iff_eq.mpr c3
    have c3b1 : ((l1.length : Int) != 0) = false := bne_eq_false_iff_eq.mpr c3
    clear c3
    replace H := Option.bind_eq_some_iff.mp H
    obtain ⟨t187, A40, H⟩ := H
    replace H : (some t187) = some r := H
    have A4 := Aside0.mk A40
    clear A40
    obtain rfl := Option.some.inj H
    go_enter Tryd.func37, Tryd.ntmps37
    go_wp2_with (first | ((with_reducible refine gate_dst (N := 2) rfl ?_); refine box_event ?hg (N := 2) ?hd (cs := #[.int .i64 a0_0, .int .i64 a0_1, .int .i64 a0_2, .int .u64 a0_3, .int .u64 a0_4, .int .u64 a0_5]) (t := 24) ?hr ?_; (case hd => rfl); (case hg => rfl); (case hr => first | (go_simp; done) | (go_simp; rfl)); intro gb186 hg w5 hbox hb; have n0_ := Aside0.mk (Kd.V_below (Kd.V_elderB (by (with_reducible repeat (first | apply Kd.V_alloc | apply Kd.V_drewN | apply Kd.V_drew)); exact HO1.out) gb186 (Nat.le_of_eq hg.symm)) hb); have n1_ := Aside0.mk (below_step (by repeat (first | (with_reducible first | exact HB.out | apply below_alloc | apply pw_below_drewN | apply below_drew1) | exact HB.out)) hb); have n2_ := Aside0.mk (hbox); have n3_ := Aside0.mk ((by rw [hg]; exact (below_size (by repeat (first | (with_reducible first | exact HB.out | apply below_alloc | apply pw_below_drewN | apply below_drew1) | exact HB.out))) : w.heap.size ≤ gb186)); have n4_ := Aside0.mk ((by rw [hg]; exact (below_size (by repeat (first | (with_reducible first | exact HB.out | apply below_alloc | apply pw_below_drewN | apply below_drew1) | exact HB.out))) : w.heap.size ≤ gb186)); clear HO1; clear HB; have HO1 := n0_; have HB := n1_; have BK186 := n2_; have GW186 := n3_; have GE186 := n4_; clear n0_ n1_ n2_ n3_ n4_; clear hb hbox hg; have hcz6_0 : w5.cell? ⟨gb186, 0, none⟩ = some (.int .i64 a0_0) := (blk_cell BK186.out 0).trans rfl; have hcz6_1 : w5.cell? ⟨gb186, 1, none⟩ = some (.int .i64 a0_1) := (blk_cell BK186.out 1).trans rfl; have hcz6_2 : w5.cell? ⟨gb186, 2, none⟩ = some (.int .i64 a0_2) := (blk_cell BK186.out 2).trans rfl; have hcz6_3 : w5.cell? ⟨gb186, 3, none⟩ = some (.int .u64 a0_3) := (blk_cell BK186.out 3).trans rfl; have hcz6_4 : w5.cell? ⟨gb186, 4, none⟩ = some (.int .u64 a0_4) := (blk_cell BK186.out 4).trans rfl; have hcz6_5 : w5.cell? ⟨gb186, 5, none⟩ = some (.int .u64 a0_5) := (blk_cell BK186.out 5).trans rfl; have hfz6_0 := blk_frozen BK186.out 0; have hfz6_1 := blk_frozen BK186.out 1; have hfz6_2 := blk_frozen BK186.out 2; have hfz6_3 := blk_frozen BK186.out 3; have hfz6_4 := blk_frozen BK186.out 4; have hfz6_5 := blk_frozen BK186.out 5) | ((with_reducible refine gate_callee (f := 75) rfl ?_); refine goesL_ (some 11) rfl rfl Tryd.func75 (by kernel_rfl) rfl #[.agg #[.int .i64 a0_0, .int .i64 a0_1, .int .i64 a0_2, .int .u64 a0_3, .int .u64 a0_4, .int .u64 a0_5]] rfl (by (try simp only [List.map_toArray, List.map_cons, List.map_nil]); first | done | rfl | (simp only [List.length_drop, List.length_take]; rfl)) ?_; (with_reducible refine (spec_EmptyRoot.calls k a0_0 a0_1 a0_2 a0_3 a0_4 a0_5 t187 _ A4.out).mono ?_); rintro e w7 ⟨v188, rfl, ho0, hb⟩; refine ⟨_, rfl, ?_⟩; have n0_ := Aside0.mk (Kd.V_elder' (by (with_reducible repeat (first | apply Kd.V_alloc | apply Kd.V_drewN | apply Kd.V_drew)); exact HO1.out) (Kd.R_base ho0) hb); have n1_ := Aside0.mk (Kd.R_lower (Kd.R_newM (M := fun k_ => (w.heap.size ≤ k_)) ho0 (below_size (by repeat (first | (with_reducible first | exact HB.out | apply below_alloc | apply pw_below_drewN | apply below_drew1 | refine below_set ?_ GE186.out) | exact HB.out))) (fun k_ h_ => h_)) (below_size (by repeat (first | (with_reducible first | exact HB.out | apply below_alloc | apply pw_below_drewN | apply below_drew1 | refine below_set ?_ GE186.out) | exact HB.out)))); have n2_ := Aside0.mk (blk_below (g := gb186) (o := .cells #[.int .i64 a0_0, .int .i64 a0_1, .int .i64 a0_2, .int .u64 a0_3, .int .u64 a0_4, .int .u64 a0_5] 24 (0, 0)) (by (with_reducible repeat (first | refine blk_drewN ?_ _ | refine blk_drew ?_ | refine blk_alloc ?_ _)); exact BK186.out) hb); have n3_ := Aside0.mk (below_step (by repeat (first | (with_reducible first | exact HB.out | apply below_alloc | apply pw_below_drewN | apply below_drew1 | refine below_set ?_ GE186.out) | exact HB.out)) hb); clear HO1; clear BK186; clear HB; have HO1 := n0_; have HO189 := n1_; have BK186 := n2_; have HB := n3_; clear n0_ n1_ n2_ n3_; (try clear hb); (try clear hb2); (try clear hk); (try clear hi); (try clear ho0)))
    go_ret
    exact ⟨_, by first | rfl | (simp [errW_none, errW_some] <;> rfl) | (simp [*, errW_none, errW_some] <;> rfl), Kd.V_mono (Kd.R_V (by (with_reducible repeat (first | apply Kd.R_alloc | apply Kd.R_drewN | apply Kd.R_drew)); exact Kd.R_mono HO189.out (fun _ hk => hk.1))) (fun k_ hk => by first | exact ⟨(.inr (hk.1)), hk.2⟩ | exact (.inr (hk))), by repeat (first | (with_reducible first | exact HB.out | apply below_alloc | apply pw_below_drewN | apply below_drew1 | refine below_set ?_ GE186.out) | exact HB.out)⟩
  · rw [if_neg c3] at H
    have c3b0 : ((l1.length : Int) == 0) = false := beq_eq_false_iff_ne.mpr c3
    have c3b1 : ((l1.length : Int) != 0) = true := bne_iff_ne.mpr c3
    have c3b2 : ¬ (l1 = []) := fun h_ => c3 (by rw [h_]; rfl)
    by_cases c8 : (l1.length : Int) = 1
    · rw [if_pos c8] at H
      have c8b0 : ((l1.length : Int) == 1) = true := beq_iff_eq.mpr c8
      have c8b1 : ((l1.length : Int) != 1) = false := bne_eq_false_iff_eq.mpr c8
      clear c8
      by_cases c9 : 0 < (l1.length : Int)
      · rw [if_pos c9] at H
        have c9b0 : decide (0 < (l1.length : Int)) = true := decide_eq_true c9
        have c9b1 : decide (0 < l1.length) = true := decide_eq_true (by omega)
        clear c9
        obtain rfl := Option.some.inj H
        go_enter Tryd.func37, Tryd.ntmps37
        go_wp2_with (first | ((with_reducible refine gate_dst (N := 2) rfl ?_); refine box_event ?hg (N := 2) ?hd (cs := #[.int .i64 a0_0, .int .i64 a0_1, .int .i64 a0_2, .int .u64 a0_3, .int .u64 a0_4, .int .u64 a0_5]) (t := 24) ?hr ?_; (case hd => rfl); (case hg => rfl); (case hr => first | (go_simp; done) | (go_simp; rfl)); intro gb186 hg w10 hbox hb; have n0_ := Aside0.mk (Kd.V_below (Kd.V_elderB (by (with_reducible repeat (first | apply Kd.V_alloc | apply Kd.V_drewN | apply Kd.V_drew)); exact HO1.out) gb186 (Nat.le_of_eq hg.symm)) hb); have n1_ := Aside0.mk (below_step (by repeat (first | (with_reducible first | exact HB.out | apply below_alloc | apply pw_below_drewN | apply below_drew1) | exact HB.out)) hb); have n2_ := Aside0.mk (hbox); have n3_ := Aside0.mk ((by rw [hg]; exact (below_size (by repeat (first | (with_reducible first | exact HB.out | apply below_alloc | apply pw_below_drewN | apply below_drew1) | exact HB.out))) : w.heap.size ≤ gb186)); have n4_ := Aside0.mk ((by rw [hg]; exact (below_size (by repeat (first | (with_reducible first | exact HB.out | apply below_alloc | apply pw_below_drewN | apply below_drew1) | exact HB.out))) : w.heap.size ≤ gb186)); clear HO1; clear HB; have HO1 := n0_; have HB := n1_; have BK186 := n2_; have GW186 := n3_; have GE186 := n4_; clear n0_ n1_ n2_ n3_ n4_; clear hb hbox hg; have p190 : 0 ≤ (0 : Int) := (by omega); have q190 : 0 < (l1.length : Int) := of_decide_eq_true (by first | (with_reducible assumption) | assumption); obtain ⟨ad190, A190_0, c190_0, e190, hx190_0, hl190_0, hi190_0⟩ := at_L1 (Kd.V_reads' HO1.out).2.2 0 p190 q190; cases e190; obtain ⟨ce190, hce190, hMe190, hcc190⟩ := Kd.V_get HO1.out [] 0 p190 (by first | exact q190 | exact of_decide_eq_true (by first | (with_reducible assumption) | assumption) | (have e_ := (Kd.V_reads' HO1.out).1; omega)); obtain ⟨ua190_0, uc190_0, rfl, ul190_0, ge190_0⟩ := Kd.FK_slice_open hMe190; have hv190_0 := hcc190 0 _ rfl; rw [Nat.add_zero, show ((Kd.slice 5 (Kd.int .u8))).sz = 1 from rfl, Nat.mul_one] at hv190_0; replace hv190_0 := Option.some.inj (hv190_0.symm.trans hx190_0); injection hv190_0 with hva_ hvn_ hvc_; rw [hva_] at ge190_0; rw [hvc_] at ul190_0; have HL190_0 := Aside0.mk (show Kd.V (Kd.int .u8) 5 _ w.heap.size _ _ (rd_L1 l1 0) from Kd.V_mk ul190_0 ge190_0); clear hva_ hvn_ hvc_ ge190_0 ul190_0; clear hcc190 hce190; have qi190 : (0 < l1.length) = True := eq_true (by omega); (try rw [show ((0 : Int)).toNat = 0 from rfl] at hx190_0); (try rw [Addr.add_zero'] at hx190_0); have HR190_0 := Aside0.mk hi190_0; have HC190_0 := Aside0.mk hl190_0; clear hi190_0 hl190_0; replace p190 := eq_true p190; replace q190 := eq_true q190))
        go_ret
        exact ⟨_, by first | rfl | (simp [errW_none, errW_some] <;> rfl) | (simp [*, errW_none, errW_some] <;> rfl), by (with_reducible repeat (first | apply Kd.V_alloc | apply Kd.V_drewN | apply Kd.V_drew)); exact Kd.V_mono HL190_0.out (fun _ hk => hk.1), by repeat (first | (with_reducible first | exact HB.out | apply below_alloc | apply pw_below_drewN | apply below_drew1 | refine below_set ?_ GE186.out) | exact HB.out)⟩
      · rw [if_neg c9] at H
        exact absurd H (by simp)
    · rw [if_neg c8] at H
      have c8b0 : ((l1.length : Int) == 1) = false := beq_eq_false_iff_ne.mpr c8
      have c8b1 : ((l1.length : Int) != 1) = true := bne_iff_ne.mpr c8
      replace H := Option.bind_eq_some_iff.mp H
      obtain ⟨t191, A110, H⟩ := H
      replace H : (if 0 ≤ t191 then (if t191 ≤ (l1.length : Int) then ((spec_Root.f k a0_0 a0_1 a0_2 a0_3 a0_4 a0_5 (l1.take (t191 : Int).toNat)).bind fun t197 => ((spec_Root.f k a0_0 a0_1 a0_2 a0_3 a0_4 a0_5 (l1.drop (t191 : Int).toNat)).bind fun t205 => ((spec_HashChildren.f k a0_0 a0_1 a0_2 a0_3 a0_4 a0_5 t197 t205).bind fun t208 => (some t208)))) else (none)) else (none)) = some r := H
      have A11 := Aside0.mk A110
      clear A110
      by_cases c12 : 0 ≤ t191
      · rw [if_pos c12] at H
        have c12b0 := eq_true c12
        have c12b1 : decide (0 ≤ t191) = true := decide_eq_true c12
        clear c12
        by_cases c13 : t191 ≤ (l1.length : Int)
        · rw [if_pos c13] at H
          have c13b0 := eq_true c13
          have c13b1 : decide (t191 ≤ (l1.length : Int)) = true := decide_eq_true c13
          clear c13
          obtain ⟨y192, hy192⟩ : ∃ y_ : List (List Int), y_ = (l1.take (t191 : Int).toNat) := ⟨_, rfl⟩
          replace H : ((spec_Root.f k a0_0 a0_1 a0_2 a0_3 a0_4 a0_5 y192).bind fun t197 => ((spec_Root.f k a0_0 a0_1 a0_2 a0_3 a0_4 a0_5 (l1.drop (t191 : Int).toNat)).bind fun t205 => ((spec_HashChildren.f k a0_0 a0_1 a0_2 a0_3 a0_4 a0_5 t197 t205).bind fun t208 => (some t208)))) = some r := by first | (rw [hy192]; with_reducible exact H) | (have H2_ := (Option.bind_some _ _).symm.trans H; rw [hy192]; with_reducible exact H2_) | (have H2_ := (Option.bind_some _ _).symm.trans H; with_reducible exact H2_) | with_reducible exact H | (rw [hy192]; exact H) | exact H
          have Ny192 := Aside0.mk hy192
          clear hy192
          replace H := Option.bind_eq_some_iff.mp H
          obtain ⟨t197, A140, H⟩ := H
          replace H : ((spec_Root.f k a0_0 a0_1 a0_2 a0_3 a0_4 a0_5 (l1.drop (t191 : Int).toNat)).bind fun t205 => ((spec_HashChildren.f k a0_0 a0_1 a0_2 a0_3 a0_4 a0_5 t197 t205).bind fun t208 => (some t208))) = some r := H
          have A14 := Aside0.mk A140
          clear A140
          have c15b0 := eq_true (of_decide_eq_true (by first | (with_reducible assumption) | assumption) : 0 ≤ t191)
          have c16b0 := eq_true (of_decide_eq_true (by first | (with_reducible assumption) | assumption) : t191 ≤ (l1.length : Int))
          obtain ⟨y200, hy200⟩ : ∃ y_ : List (List Int), y_ = (l1.drop (t191 : Int).toNat) := ⟨_, rfl⟩
          replace H : ((spec_Root.f k a0_0 a0_1 a0_2 a0_3 a0_4 a0_5 y200).bind fun t205 => ((spec_HashChildren.f k a0_0 a0_1 a0_2 a0_3 a0_4 a0_5 t197 t205).bind fun t208 => (some t208))) = some r := by first | (rw [hy200]; with_reducible exact H) | (have H2_ := (Option.bind_some _ _).symm.trans H; rw [hy200]; with_reducible exact H2_) | (have H2_ := (Option.bind_some _ _).symm.trans H; with_reducible exact H2_) | with_reducible exact H | (rw [hy200]; exact H) | exact H
          have Ny200 := Aside0.mk hy200
          clear hy200
          replace H := Option.bind_eq_some_iff.mp H
          obtain ⟨t205, A170, H⟩ := H
          replace H : ((spec_HashChildren.f k a0_0 a0_1 a0_2 a0_3 a0_4 a0_5 t197 t205).bind fun t208 => (some t208)) = some r := H
          have A17 := Aside0.mk A170
          clear A170
          replace H := Option.bind_eq_some_iff.mp H
          obtain ⟨t208, A180, H⟩ := H
          replace H : (some t208) = some r := H
          have A18 := Aside0.mk A180
          clear A180
          obtain rfl := Option.some.inj H
          go_enter Tryd.func37, Tryd.ntmps37
          try go_wp2_with (first | ((with_reducible refine gate_dst (N := 2) rfl ?_); refine box_event ?hg (N := 2) ?hd (cs := #[.int .i64 a0_0, .int .i64 a0_1, .int .i64 a0_2, .int .u64 a0_3, .int .u64 a0_4, .int .u64 a0_5]) (t := 24) ?hr ?_; (case hd => rfl); (case hg => rfl); (case hr => first | (go_simp; done) | (go_simp; rfl)); intro gb186 hg w19 hbox hb; have n0_ := Aside0.mk (Kd.V_below (Kd.V_elderB (by (with_reducible repeat (first | apply Kd.V_alloc | apply Kd.V_drewN | apply Kd.V_drew)); exact HO1.out) gb186 (Nat.le_of_eq hg.symm)) hb); have n1_ := Aside0.mk (below_step (by repeat (first | (with_reducible first | exact HB.out | apply below_alloc | apply pw_below_drewN | apply below_drew1) | exact HB.out)) hb); have n2_ := Aside0.mk (hbox); have n3_ := Aside0.mk ((by rw [hg]; exact (below_size (by repeat (first | (with_reducible first | exact HB.out | apply below_alloc | apply pw_below_drewN | apply below_drew1) | exact HB.out))) : w.heap.size ≤ gb186)); have n4_ := Aside0.mk ((by rw [hg]; exact (below_size (by repeat (first | (with_reducible first | exact HB.out | apply below_alloc | apply pw_below_drewN | apply below_drew1) | exact HB.out))) : w.heap.size ≤ gb186)); clear HO1; clear HB; have HO1 := n0_; have HB := n1_; have BK186 := n2_; have GW186 := n3_; have GE186 := n4_; clear n0_ n1_ n2_ n3_ n4_; clear hb hbox hg) | ((with_reducible refine gate_callee (f := 76) rfl ?_); refine goesL_ (some 20) rfl rfl Tryd.func76 (by kernel_rfl) rfl #[.int .u64 (IntKind.u64.wrap ((l1.length : Int)))] rfl (by (try simp only [List.map_toArray, List.map_cons, List.map_nil]); first | done | rfl | (simp only [List.length_drop, List.length_take]; rfl)) ?_; (with_reducible refine (spec_split.calls k (IntKind.u64.wrap ((l1.length : Int))) t191 _ A11.out).mono ?_); rintro e w' ⟨rfl, ⟨nd, rfl⟩⟩; refine ⟨_, rfl, ?_⟩))
          (try (rw [drewN_self w19]; generalize hq_ : World.drewN w19 _ = w19; have n0_ : Aside0 (Kd.V (Kd.slice 5 (Kd.int .u8)) 28 w19 w.heap.size (fun k_ => (P1_ k_ ∨ w.heap.size ≤ k_) ∧ k_ ≠ gb186) (.slice A1 l1.length c1) l1) := ⟨by rw [← hq_]; exact (by (with_reducible repeat (first | apply Kd.V_alloc | apply Kd.V_drewN | apply Kd.V_drew)); exact HO1.out)⟩; have n1_ : Aside0 (w19.heap[gb186]? = some (.cells #[.int .i64 a0_0, .int .i64 a0_1, .int .i64 a0_2, .int .u64 a0_3, .int .u64 a0_4, .int .u64 a0_5] 24 (0, 0))) := ⟨by rw [← hq_]; exact (by (with_reducible repeat (first | refine blk_drewN ?_ _ | refine blk_drew ?_ | refine blk_alloc ?_ _)); exact BK186.out)⟩; have n2_ : Aside0 (Below w.heap.size w w19) := ⟨by rw [← hq_]; exact (by repeat (first | (with_reducible first | exact HB.out | apply below_alloc | apply pw_below_drewN | apply below_drew1 | refine below_set ?_ GE186.out) | exact HB.out))⟩; clear HO1 BK186 HB hq_; have HO1 := n0_; have BK186 := n1_; have HB := n2_; clear n0_ n1_ n2_))
          have n0_ := Aside0.mk (Kd.V_drew HO1.out)
          have n1_ := Aside0.mk (blk_drew BK186.out)
          have n2_ := Aside0.mk (below_drew1 HB.out)
          clear HO1
          clear BK186
          clear HB
          have HO1 := n0_
          have BK186 := n1_
          have HB := n2_
          clear n0_ n1_ n2_
          have q21 : (t191 : Int) ≤ ((l1.length : Int) : Int) := of_decide_eq_true (by first | (with_reducible assumption) | assumption)
          obtain ⟨i021, hi021, _, hsz21, _⟩ := info_parts info28
          have hroom21 : l1.length ≤ c1 := (Kd.V_reads' HO1.out).2.1
          have hC21 : Kd.F (Kd.slice 5 (Kd.int .u8)) _ _ A1 l1.length l1 := (Kd.V_at (base := w.heap.size) HO1.out).2.2
          have hcut21 := cut_to (P := Tryd.prog) 25 28 .u64 Tryd.underlying25 hi021 A1 l1.length c1 t191 (of_decide_eq_true (by first | (with_reducible assumption) | assumption)) q21 hroom21
          have hr21 := Kd.F_take (m := (t191 : Int).toNat) hC21 (by omega)
          have hy21 : y192.length = (t191 : Int).toNat := (by rw [Ny192.out, List.length_take]; omega)
          rw [← Ny192.out] at hr21
          rw [← hy21] at hcut21
          have HO196 := Aside0.mk (show Kd.V (Kd.slice 5 (Kd.int .u8)) 28 _ w.heap.size _ (.slice A1 y192.length c1) y192 from Kd.V_mk (by omega) hr21)
          have HC196 := Aside0.mk (show y192.length ≤ c1 from by omega)
          clear hr21 hC21 hroom21 hi021 hsz21
          have KY21 := Aside0.mk hy21
          clear hy21
          replace q21 := eq_true q21
          have q22 : (t191 : Int) ≤ ((l1.length : Int) : Int) := of_decide_eq_true (by first | (with_reducible assumption) | assumption)
          obtain ⟨i022, hi022, _, hsz22, _⟩ := info_parts info28
          have hroom22 : l1.length ≤ c1 := (Kd.V_reads' HO1.out).2.1
          have hC22 : Kd.F (Kd.slice 5 (Kd.int .u8)) _ _ A1 l1.length l1 := (Kd.V_at (base := w.heap.size) HO1.out).2.2
          have q022 : (0 : Int) ≤ (t191 : Int) := of_decide_eq_true (by first | (with_reducible assumption) | assumption)
          have hcut22 := cut_from (P := Tryd.prog) 25 28 .u64 Tryd.underlying25 hi022 1 hsz22 A1 l1.length c1 t191 q022 q22
          have hr22 := Kd.F_cut (m := (t191 : Int).toNat) (c := c1) hC22 (by omega) hroom22
          obtain ⟨A22, hA22⟩ : ∃ Aq_, Aq_ = (if c1 = (t191 : Int).toNat then A1 else (A1 : Option Addr).map (·.add ((t191 : Int).toNat * 1))) := ⟨_, rfl⟩
          obtain ⟨c22, hc22⟩ : ∃ cq_, cq_ = c1 - (t191 : Int).toNat := ⟨_, rfl⟩
          have hy22 : y200.length = l1.length - (t191 : Int).toNat := (by rw [Ny200.out, List.length_drop] <;> omega)
          rw [show (l1).drop (t191 : Int).toNat = y200 from Ny200.out.symm] at hr22
          replace hr22 : Kd.F (Kd.slice 5 (Kd.int .u8)) _ _ A22 y200.length y200 := (by rw [hA22]; exact hr22)
          rw [← hy22, ← hA22, ← hc22] at hcut22
          have HO204 := Aside0.mk (show Kd.V (Kd.slice 5 (Kd.int .u8)) 28 _ w.heap.size _ (.slice A22 y200.length c22) y200 from Kd.V_mk (by rw [hy22, hc22]; exact Nat.sub_le_sub_right hroom22 _) hr22)
          have HC204 := Aside0.mk (show y200.length ≤ c22 from by rw [hy22, hc22]; exact Nat.sub_le_sub_right hroom22 _)
          clear hr22 hC22 hroom22 hi022 hsz22 hc22
          have KY22 := Aside0.mk hy22
          have KA22 := Aside0.mk hA22
          clear hy22 hA22
          replace q22 := eq_true q22
          refine start_ (n := 13) (S := fun w' => w'.cell? ⟨gb186, 0, none⟩ = some (.int .i64 a0_0) ∧ w'.cell? ⟨gb186, 1, none⟩ = some (.int .i64 a0_1) ∧ w'.cell? ⟨gb186, 2, none⟩ = some (.int .i64 a0_2) ∧ w'.cell? ⟨gb186, 3, none⟩ = some (.int .u64 a0_3) ∧ w'.cell? ⟨gb186, 4, none⟩ = some (.int .u64 a0_4) ∧ w'.cell? ⟨gb186, 5, none⟩ = some (.int .u64 a0_5)) (ds := []) #[false, false, false, false, false, false, false, false, false, false, false, false, false] (by kernel_rfl) rfl rfl ⟨(blk_cell BK186.out 0).trans rfl, (blk_cell BK186.out 1).trans rfl, (blk_cell BK186.out 2).trans rfl, (blk_cell BK186.out 3).trans rfl, (blk_cell BK186.out 4).trans rfl, (blk_cell BK186.out 5).trans rfl⟩ (fun hHeld => ?_); refine with_tabW spec_Root.tab7 spec_Root.bits7 (fun HT_ HW_ => ?_)
          generalize w19.drew = w20 at HO1 BK186 HB HO196 HO204 hHeld ⊢
          refine pure_ (i := 2) (N := some 23) (v := ?_) (a' := ?_) #[false, false, true, false, false, false, false, false, false, false, false, false, false] rfl rfl (any_of HT_.out (by kernel_rfl)) (fun _ _ _ h => h) (Or.inl ⟨by rfl, ?_⟩) ?_ ?_
          rotate_left
          · intro w'
            go_simp
            with_reducible rfl
          rotate_left
          · simp only [Act.put, List.setIfInBounds_toArray, List.set_cons_zero, List.set_cons_succ, i64_w, i32_w]
            rfl
          refine pure_ (i := 3) (N := some 24) (v := ?_) (a' := ?_) #[false, false, true, true, false, false, false, false, false, false, false, false, false] rfl rfl (any_of HT_.out (by kernel_rfl)) (fun _ _ _ h => h) (Or.inl ⟨by rfl, ?_⟩) ?_ ?_
          rotate_left
          · intro w'
            go_simp
            with_reducible rfl
          rotate_left
          · simp only [Act.put, List.setIfInBounds_toArray, List.set_cons_zero, List.set_cons_succ, i64_w, i32_w]
            rfl
          refine pure_ (i := 4) (N := some 25) (v := ?_) (a' := ?_) #[false, false, true, true, true, false, false, false, false, false, false, false, false] rfl rfl (any_of HT_.out (by kernel_rfl)) (fun _ _ _ h => h) (Or.inl ⟨by rfl, ?_⟩) ?_ ?_
          rotate_left
          · intro w'
            go_simp
            with_reducible rfl
          rotate_left
          · simp only [Act.put, List.setIfInBounds_toArray, List.set_cons_zero, List.set_cons_succ, i64_w, i32_w]
            rfl
          refine pure_ (i := 7) (N := some 28) (v := ?_) (a' := ?_) #[false, false, true, true, true, false, false, true, false, false, false, false, false] rfl rfl (any_of HT_.out (by kernel_rfl)) (fun _ _ _ h => h) (Or.inl ⟨by rfl, ?_⟩) ?_ ?_
          rotate_left
          · intro w'
            go_simp
            with_reducible rfl
          rotate_left
          · simp only [Act.put, List.setIfInBounds_toArray, List.set_cons_zero, List.set_cons_succ, i64_w, i32_w]
            rfl
          refine pure_ (i := 8) (N := some 29) (v := ?_) (a' := ?_) #[false, false, true, true, true, false, false, true, true, false, false, false, false] rfl rfl (any_of HT_.out (by kernel_rfl)) (fun _ _ _ h => h) (Or.inl ⟨by rfl, ?_⟩) ?_ ?_
          rotate_left
          · intro w'
            go_simp
            with_reducible rfl
          rotate_left
          · simp only [Act.put, List.setIfInBounds_toArray, List.set_cons_zero, List.set_cons_succ, i64_w, i32_w]
            rfl
          refine pure_ (i := 9) (N := some 30) (v := ?_) (a' := ?_) #[false, false, true, true, true, false, false, true, true, true, false, false, false] rfl rfl (any_of HT_.out (by kernel_rfl)) (fun _ _ _ h => h) (Or.inl ⟨by rfl, ?_⟩) ?_ ?_
          rotate_left
          · intro w'
            go_simp
            with_reducible rfl
          rotate_left
          · simp only [Act.put, List.setIfInBounds_toArray, List.set_cons_zero, List.set_cons_succ, i64_w, i32_w]
            rfl
          refine take_ (i := 0) (N := some 21) (v := ?_) (a' := ?_) #[true, false, true, true, true, false, false, true, true, true, false, false, false] rfl rfl (take_ofW HT_.out HW_.out (by kernel_rfl)) (fun _ _ _ h => h) (Or.inl ⟨by rfl, ?_⟩) hHeld ?_ ?_
          rotate_left
          · rintro w' ⟨s0, s1, s2, s3, s4, s5⟩
            go_simp
            with_reducible rfl
          rotate_left
          · simp only [Act.put, List.setIfInBounds_toArray, List.set_cons_zero, List.set_cons_succ, i64_w, i32_w]
            rfl
          refine take_ (i := 1) (N := some 22) (v := ?_) (a' := ?_) #[true, true, true, true, true, false, false, true, true, true, false, false, false] rfl rfl (take_ofW HT_.out HW_.out (by kernel_rfl)) (fun _ _ _ h => h) (Or.inl ⟨by rfl, ?_⟩) hHeld ?_ ?_
          rotate_left
          · rintro w' ⟨s0, s1, s2, s3, s4, s5⟩
            go_simp
            with_reducible rfl
          rotate_left
          · simp only [Act.put, List.setIfInBounds_toArray, List.set_cons_zero, List.set_cons_succ, i64_w, i32_w]
            rfl
          refine take_ (i := 6) (N := some 27) (v := ?_) (a' := ?_) #[true, true, true, true, true, false, true, true, true, true, false, false, false] rfl rfl (take_ofW HT_.out HW_.out (by kernel_rfl)) (fun _ _ _ h => h) (Or.inl ⟨by rfl, ?_⟩) hHeld ?_ ?_
          rotate_left
          · rintro w' ⟨s0, s1, s2, s3, s4, s5⟩
            go_simp
            with_reducible rfl
          rotate_left
          · simp only [Act.put, List.setIfInBounds_toArray, List.set_cons_zero, List.set_cons_succ, i64_w, i32_w]
            rfl
          refine one_ (i := 5) (N := some 26) #[true, true, true, true, true, true, true, true, true, true, false, false, false] rfl rfl (one_of HT_.out (by kernel_rfl)) (by decide) (fun K hK => ?_)
          refine goes_ Tryd.func37 (by kernel_rfl) rfl #[.agg #[.int .i64 a0_0, .int .i64 a0_1, .int .i64 a0_2, .int .u64 a0_3, .int .u64 a0_4, .int .u64 a0_5], .slice A1 y192.length c1] (by rfl) rfl rfl (by (try simp only [List.map_toArray, List.map_cons, List.map_nil]); first | done | rfl | (simp only [List.length_drop, List.length_take]; rfl)) ?_
          with_reducible refine (ih k (by omega) a0_0 a0_1 a0_2 a0_3 a0_4 a0_5 (fun k_ => ((P1_ k_ ∨ w.heap.size ≤ k_) ∧ k_ ≠ gb186)) _ _ y192 t197 _ ?side1 A14.out).mono ?_
          (case side1 => exact HO196.out)
          rintro e w23 ⟨v198, rfl, ho0, hb⟩
          refine ⟨_, rfl, ?_⟩
          have n0_ := Aside0.mk (Kd.V_below (by (with_reducible repeat (first | apply Kd.V_alloc | apply Kd.V_drewN | apply Kd.V_drew)); exact HO1.out) hb)
          have n1_ := Aside0.mk (Kd.V_below (by (with_reducible repeat (first | apply Kd.V_alloc | apply Kd.V_drewN | apply Kd.V_drew)); exact HO196.out) hb)
          have n2_ := Aside0.mk (Kd.V_below (by (with_reducible repeat (first | apply Kd.V_alloc | apply Kd.V_drewN | apply Kd.V_drew)); exact HO204.out) hb)
          have n3_ := Aside0.mk (Kd.V_lower (Kd.V_mono (ok' := fun k_ => (P1_ k_ ∨ w.heap.size ≤ k_) ∧ k_ ≠ gb186) ho0 (fun k_ hk_ => ⟨Or.elim hk_ (fun hs_ => hs_.1) (fun hn_ => (.inr (Nat.le_trans (below_size (by repeat (first | (with_reducible first | exact HB.out | apply below_alloc | apply pw_below_drewN | apply below_drew1 | refine below_set ?_ GE186.out) | exact HB.out))) hn_))), Or.elim hk_ (fun hs_ => hs_.2) (fun hn_ => (Kd.freshB (g := gb186) (o := .cells #[.int .i64 a0_0, .int .i64 a0_1, .int .i64 a0_2, .int .u64 a0_3, .int .u64 a0_4, .int .u64 a0_5] 24 (0, 0)) (by (with_reducible repeat (first | refine blk_drewN ?_ _ | refine blk_drew ?_ | refine blk_alloc ?_ _)); exact BK186.out) k_ hn_))⟩)) (below_size (by repeat (first | (with_reducible first | exact HB.out | apply below_alloc | apply pw_below_drewN | apply below_drew1 | refine below_set ?_ GE186.out) | exact HB.out))))
          have n4_ := Aside0.mk (blk_below (g := gb186) (o := .cells #[.int .i64 a0_0, .int .i64 a0_1, .int .i64 a0_2, .int .u64 a0_3, .int .u64 a0_4, .int .u64 a0_5] 24 (0, 0)) (by (with_reducible repeat (first | refine blk_drewN ?_ _ | refine blk_drew ?_ | refine blk_alloc ?_ _)); exact BK186.out) hb)
          have n5_ := Aside0.mk (below_step (by repeat (first | (with_reducible first | exact HB.out | apply below_alloc | apply pw_below_drewN | apply below_drew1 | refine below_set ?_ GE186.out) | exact HB.out)) hb)
          clear HO1
          clear HO196
          clear HO204
          clear BK186
          clear HB
          have HO1 := n0_
          have HO196 := n1_
          have HO204 := n2_
          have HO199 := n3_
          have BK186 := n4_
          have HB := n5_
          clear n0_ n1_ n2_ n3_ n4_ n5_
          (try clear hb)
          (try clear hb2)
          (try clear hk)
          (try clear hi)
          (try clear ho0)
          refine hK.out _ _ ⟨(blk_cell BK186.out 0).trans rfl, (blk_cell BK186.out 1).trans rfl, (blk_cell BK186.out 2).trans rfl, (blk_cell BK186.out 3).trans rfl, (blk_cell BK186.out 4).trans rfl, (blk_cell BK186.out 5).trans rfl⟩ (fun hHeld => ?_)
          clear hK K
          refine norm_ (a' := ?_) ?_ ?_
          rotate_left
          · show Act.put _ (some 26) _ = _
            simp only [Act.put, List.setIfInBounds_toArray, List.set_cons_zero, List.set_cons_succ, i64_w, i32_w]
            rfl
          refine one_ (i := 10) (N := some 31) #[true, true, true, true, true, true, true, true, true, true, true, false, false] rfl rfl (one_of HT_.out (by kernel_rfl)) (by decide) (fun K hK => ?_)
          refine goes_ Tryd.func37 (by kernel_rfl) rfl #[.agg #[.int .i64 a0_0, .int .i64 a0_1, .int .i64 a0_2, .int .u64 a0_3, .int .u64 a0_4, .int .u64 a0_5], .slice A22 y200.length c22] (by rfl) rfl rfl (by (try simp only [List.map_toArray, List.map_cons, List.map_nil]); first | done | rfl | (simp only [List.length_drop, List.length_take]; rfl)) ?_
          with_reducible refine (ih k (by omega) a0_0 a0_1 a0_2 a0_3 a0_4 a0_5 (fun k_ => ((P1_ k_ ∨ w.heap.size ≤ k_) ∧ k_ ≠ gb186)) _ _ y200 t205 _ ?side1 A17.out).mono ?_
          (case side1 => exact HO204.out)
          rintro e w24 ⟨v206, rfl, ho0, hb⟩
          refine ⟨_, rfl, ?_⟩
          have n0_ := Aside0.mk (Kd.V_below (by (with_reducible repeat (first | apply Kd.V_alloc | apply Kd.V_drewN | apply Kd.V_drew)); exact HO1.out) hb)
          have n1_ := Aside0.mk (Kd.V_below (by (with_reducible repeat (first | apply Kd.V_alloc | apply Kd.V_drewN | apply Kd.V_drew)); exact HO196.out) hb)
          have n2_ := Aside0.mk (Kd.V_below (by (with_reducible repeat (first | apply Kd.V_alloc | apply Kd.V_drewN | apply Kd.V_drew)); exact HO204.out) hb)
          have n3_ := Aside0.mk (Kd.V_below (by (with_reducible repeat (first | apply Kd.V_alloc | apply Kd.V_drewN | apply Kd.V_drew)); exact HO199.out) hb)
          have n4_ := Aside0.mk (Kd.V_lower (Kd.V_mono (ok' := fun k_ => (P1_ k_ ∨ w.heap.size ≤ k_) ∧ k_ ≠ gb186) ho0 (fun k_ hk_ => ⟨Or.elim hk_ (fun hs_ => hs_.1) (fun hn_ => (.inr (Nat.le_trans (below_size (by repeat (first | (with_reducible first | exact HB.out | apply below_alloc | apply pw_below_drewN | apply below_drew1 | refine below_set ?_ GE186.out) | exact HB.out))) hn_))), Or.elim hk_ (fun hs_ => hs_.2) (fun hn_ => (Kd.freshB (g := gb186) (o := .cells #[.int .i64 a0_0, .int .i64 a0_1, .int .i64 a0_2, .int .u64 a0_3, .int .u64 a0_4, .int .u64 a0_5] 24 (0, 0)) (by (with_reducible repeat (first | refine blk_drewN ?_ _ | refine blk_drew ?_ | refine blk_alloc ?_ _)); exact BK186.out) k_ hn_))⟩)) (below_size (by repeat (first | (with_reducible first | exact HB.out | apply below_alloc | apply pw_below_drewN | apply below_drew1 | refine below_set ?_ GE186.out) | exact HB.out))))
          have n5_ := Aside0.mk (blk_below (g := gb186) (o := .cells #[.int .i64 a0_0, .int .i64 a0_1, .int .i64 a0_2, .int .u64 a0_3, .int .u64 a0_4, .int .u64 a0_5] 24 (0, 0)) (by (with_reducible repeat (first | refine blk_drewN ?_ _ | refine blk_drew ?_ | refine blk_alloc ?_ _)); exact BK186.out) hb)
          have n6_ := Aside0.mk (below_step (by repeat (first | (with_reducible first | exact HB.out | apply below_alloc | apply pw_below_drewN | apply below_drew1 | refine below_set ?_ GE186.out) | exact HB.out)) hb)
          clear HO1
          clear HO196
          clear HO204
          clear HO199
          clear BK186
          clear HB
          have HO1 := n0_
          have HO196 := n1_
          have HO204 := n2_
          have HO199 := n3_
          have HO207 := n4_
          have BK186 := n5_
          have HB := n6_
          clear n0_ n1_ n2_ n3_ n4_ n5_ n6_
          (try clear hb)
          (try clear hb2)
          (try clear hk)
          (try clear hi)
          (try clear ho0)
          obtain ⟨Ao25, co25, eo25⟩ := Kd.V_slice HO199.out
          (first | subst eo25 | (injection eo25 with f1_ f2_ f3_; have f4_ := f1_.symm; have f5_ := f3_.symm; clear f1_ f2_ f3_; subst f4_; subst f5_))
          obtain ⟨Ao26, co26, eo26⟩ := Kd.V_slice HO207.out
          (first | subst eo26 | (injection eo26 with f1_ f2_ f3_; have f4_ := f1_.symm; have f5_ := f3_.symm; clear f1_ f2_ f3_; subst f4_; subst f5_))
          refine hK.out _ _ ⟨(blk_cell BK186.out 0).trans rfl, (blk_cell BK186.out 1).trans rfl, (blk_cell BK186.out 2).trans rfl, (blk_cell BK186.out 3).trans rfl, (blk_cell BK186.out 4).trans rfl, (blk_cell BK186.out 5).trans rfl⟩ (fun hHeld => ?_)
          clear hK K
          refine norm_ (a' := ?_) ?_ ?_
          rotate_left
          · show Act.put _ (some 31) _ = _
            simp only [Act.put, List.setIfInBounds_toArray, List.set_cons_zero, List.set_cons_succ, i64_w, i32_w]
            rfl
          refine one_ (i := 11) (N := some 32) #[true, true, true, true, true, true, true, true, true, true, true, true, false] rfl rfl (one_of HT_.out (by kernel_rfl)) (by decide) (fun K hK => ?_)
          refine goes_ Tryd.func77 (by kernel_rfl) rfl #[.agg #[.int .i64 a0_0, .int .i64 a0_1, .int .i64 a0_2, .int .u64 a0_3, .int .u64 a0_4, .int .u64 a0_5], .slice Ao25 t197.length co25, .slice Ao26 t205.length co26] (by rfl) rfl rfl (by (try simp only [List.map_toArray, List.map_cons, List.map_nil]); first | done | rfl | (simp only [List.length_drop, List.length_take]; rfl)) ?_
          with_reducible refine (spec_HashChildren.calls k a0_0 a0_1 a0_2 a0_3 a0_4 a0_5 _ _ t197 _ _ t205 t208 _ ?side1 ?side2 ?side3 ?side4 A18.out).mono ?_
          (case side1 => repeat (first | exact (Kd.V_reads' HO199.out).2.2 | (with_reducible refine Kd.C_alloc ?_ _) | (with_reducible refine Kd.C_drewN ?_ _) | (with_reducible refine Kd.C_drew ?_)))
          (case side2 => exact (Kd.V_reads' HO199.out).2.1)
          (case side3 => repeat (first | exact (Kd.V_reads' HO207.out).2.2 | (with_reducible refine Kd.C_alloc ?_ _) | (with_reducible refine Kd.C_drewN ?_ _) | (with_reducible refine Kd.C_drew ?_)))
          (case side4 => exact (Kd.V_reads' HO207.out).2.1)
          rintro e w27 ⟨v209, rfl, ho0, hb⟩
          refine ⟨_, rfl, ?_⟩
          have n0_ := Aside0.mk (Kd.V_elder' (by (with_reducible repeat (first | apply Kd.V_alloc | apply Kd.V_drewN | apply Kd.V_drew)); exact HO1.out) (Kd.R_base ho0) hb)
          have n1_ := Aside0.mk (Kd.V_elder' (by (with_reducible repeat (first | apply Kd.V_alloc | apply Kd.V_drewN | apply Kd.V_drew)); exact HO196.out) (Kd.R_base ho0) hb)
          have n2_ := Aside0.mk (Kd.V_elder' (by (with_reducible repeat (first | apply Kd.V_alloc | apply Kd.V_drewN | apply Kd.V_drew)); exact HO204.out) (Kd.R_base ho0) hb)
          have n3_ := Aside0.mk (Kd.V_elder' (by (with_reducible repeat (first | apply Kd.V_alloc | apply Kd.V_drewN | apply Kd.V_drew)); exact HO199.out) (Kd.R_base ho0) hb)
          have n4_ := Aside0.mk (Kd.V_elder' (by (with_reducible repeat (first | apply Kd.V_alloc | apply Kd.V_drewN | apply Kd.V_drew)); exact HO207.out) (Kd.R_base ho0) hb)
          have n5_ := Aside0.mk (Kd.R_lower (Kd.R_newM (M := fun k_ => (w.heap.size ≤ k_)) ho0 (below_size (by repeat (first | (with_reducible first | exact HB.out | apply below_alloc | apply pw_below_drewN | apply below_drew1 | refine below_set ?_ GE186.out) | exact HB.out))) (fun k_ h_ => h_)) (below_size (by repeat (first | (with_reducible first | exact HB.out | apply below_alloc | apply pw_below_drewN | apply below_drew1 | refine below_set ?_ GE186.out) | exact HB.out))))
          have n6_ := Aside0.mk (blk_below (g := gb186) (o := .cells #[.int .i64 a0_0, .int .i64 a0_1, .int .i64 a0_2, .int .u64 a0_3, .int .u64 a0_4, .int .u64 a0_5] 24 (0, 0)) (by (with_reducible repeat (first | refine blk_drewN ?_ _ | refine blk_drew ?_ | refine blk_alloc ?_ _)); exact BK186.out) hb)
          have n7_ := Aside0.mk (below_step (by repeat (first | (with_reducible first | exact HB.out | apply below_alloc | apply pw_below_drewN | apply below_drew1 | refine below_set ?_ GE186.out) | exact HB.out)) hb)
          clear HO1
          clear HO196
          clear HO204
          clear HO199
          clear HO207
          clear BK186
          clear HB
          have HO1 := n0_
          have HO196 := n1_
          have HO204 := n2_
          have HO199 := n3_
          have HO207 := n4_
          have HO210 := n5_
          have BK186 := n6_
          have HB := n7_
          clear n0_ n1_ n2_ n3_ n4_ n5_ n6_ n7_
          (try clear hb)
          (try clear hb2)
          (try clear hk)
          (try clear hi)
          (try clear ho0)
          refine hK.out _ _ ⟨(blk_cell BK186.out 0).trans rfl, (blk_cell BK186.out 1).trans rfl, (blk_cell BK186.out 2).trans rfl, (blk_cell BK186.out 3).trans rfl, (blk_cell BK186.out 4).trans rfl, (blk_cell BK186.out 5).trans rfl⟩ (fun hHeld => ?_)
          clear hK K
          refine norm_ (a' := ?_) ?_ ?_
          rotate_left
          · show Act.put _ (some 32) _ = _
            simp only [Act.put, List.setIfInBounds_toArray, List.set_cons_zero, List.set_cons_succ, i64_w, i32_w]
            rfl
          refine pure_ (i := 12) (N := some 4) (v := ?_) (a' := ?_) #[true, true, true, true, true, true, true, true, true, true, true, true, true] rfl rfl (any_of HT_.out (by kernel_rfl)) (fun _ _ _ h => h) (Or.inl ⟨by rfl, ?_⟩) ?_ ?_
          rotate_left
          · intro w'
            go_simp
            with_reducible rfl
          rotate_left
          · simp only [Act.put, List.setIfInBounds_toArray, List.set_cons_zero, List.set_cons_succ, i64_w, i32_w]
            rfl
          refine done_ (done_of HT_.out (by kernel_rfl)) ?_
          try go_wp2
          go_ret
          exact ⟨_, by first | rfl | (simp [errW_none, errW_some] <;> rfl) | (simp [*, errW_none, errW_some] <;> rfl), Kd.V_mono (Kd.R_V (by (with_reducible repeat (first | apply Kd.R_alloc | apply Kd.R_drewN | apply Kd.R_drew)); exact Kd.R_mono HO210.out (fun _ hk => hk.1))) (fun k_ hk => by first | exact ⟨(.inr (hk.1)), hk.2⟩ | exact (.inr (hk))), by repeat (first | (with_reducible first | exact HB.out | apply below_alloc | apply pw_below_drewN | apply below_drew1 | refine below_set ?_ GE186.out) | exact HB.out)⟩
        · rw [if_neg c13] at H
          exact absurd H (by simp)
      · rw [if_neg c12] at H
        exact absurd H (by simp)

-- NOT PRINTED: function 107 (proof_RootFromInclusionProof)

-- NOT PRINTED: function 78 (proof_VerifyInclusion)

-- NOT PRINTED: function 38 (impl_VerifyInclusion)

-- NOT PRINTED: function 10 (laws_FnIncludedStays)

/-! ### impl_word: function 85, by hand -/
def impl_word.f (a0 : Int) (a1 : Int) : Option (List Int) := some (Hs.wordF a0 a1)
theorem impl_word.calls (a0 : Int) (a1 : Int) (r : List Int) (w : World) (h : impl_word.f a0 a1 = some r) :
    Calls Tryd.prog 85 #[.int .u64 a0, .int .i64 a1] w fun e w' => ∃ v0_ : Value, e = .returned (v0_) ∧ Kd.R (Kd.int .u8) 5 w' w.heap.size (fun _ => True) v0_ r ∧ Below w.heap.size w w' := by
  obtain rfl := Option.some.inj h
  exact Hs.word_calls a0 a1 w

/-! ### impl_mixed: function 86, by hand -/
def impl_mixed.f (a0 : Int) (l1 : List Int) : Option (Int) := if l1.length ≤ 140737488351232 then some (Hs.mixF a0 l1) else none
theorem impl_mixed.calls (a0 : Int) (A1 : Option Addr) (c1 : Nat) (l1 : List Int) (r : Int) (w : World) (hr1 : Kd.C (Kd.int .u8) w A1 l1.length l1) (hc1 : l1.length ≤ c1) (h : impl_mixed.f a0 l1 = some r) :
    Calls Tryd.prog 86 #[.int .u64 a0, .slice A1 l1.length c1] w fun e w' => e = .returned (.int .u64 r) ∧ Drawn0 w w' := by
  unfold impl_mixed.f at h
  split at h
  · obtain rfl := Option.some.inj h
    refine (Hs.mixed_calls a0 A1 c1 l1 w hr1 (by assumption)).mono ?_
    rintro e w' ⟨rfl, rfl⟩
    exact ⟨rfl, Drawn0.refl _⟩
  · cases h

/-! ### impl_toy_HashChildren: function 53 -/
def impl_toy_HashChildren.f (a0_0 : Int) (a0_1 : Int) (a0_2 : Int) (a0_3 : Int) (a0_4 : Int) (a0_5 : Int) (l1 : List Int) (l2 : List Int) : Option (List Int) := if a0_0 = 1 then ((impl_mixed.f a0_5 l1).bind fun t221 => ((impl_mixed.f t221 (([255] : List Int))).bind fun t225 => ((impl_mixed.f t225 l2).bind fun t226 => ((impl_word.f t226 a0_2).bind fun t227 => (some t227))))) else ((some (([1] : List Int) : List Int)).bind fun y230 => ((impl_word.f (IntKind.u64.wrap ((l1.length : Int))) 8).bind fun t233 => (if y230.length + t233.length < 140737488355328 then ((some (y230 ++ t233 : List Int)).bind fun y236 => (if y236.length + l1.length < 140737488355328 then ((some (y236 ++ l1 : List Int)).bind fun y239 => (if y239.length + l2.length < 140737488355328 then (some (y239 ++ l2)) else (none))) else (none))) else (none))))
def impl_toy_HashChildren.T2 : Bool × List (List Nat × List Nat) := (true, [([], []), ([0], [0]), ([1], [1]), ([], []), ([2, 3], [2, 3]), ([], []), ([4, 5, 4], [4, 5]), ([], []), ([6, 7, 6], [6, 7]), ([], []), ([9], [9]), ([10], [10]), ([8, 11, 8], [8, 11]), ([12, 12, 0, 1, 2, 3, 4, 5, 6, 7, 8, 9, 10, 11, 12], [12])])
def impl_toy_HashChildren.B2 : List Nat := [0, 1, 3, 0, 15, 0, 63, 0, 255, 0, 512, 1536, 4095, 8191]
theorem impl_toy_HashChildren.tab2 : rtab .any (opsOf Tryd.f53 2) = impl_toy_HashChildren.T2 := by kernel_rfl
theorem impl_toy_HashChildren.bits2 : waitsOk impl_toy_HashChildren.T2.2 impl_toy_HashChildren.B2 = true := by kernel_rfl
set_option maxHeartbeats 8000000 in
set_option maxRecDepth 100000 in
theorem impl_toy_HashChildren.calls (a0_0 : Int) (a0_1 : Int) (a0_2 : Int) (a0_3 : Int) (a0_4 : Int) (a0_5 : Int) (A1 : Option Addr) (c1 : Nat) (l1 : List Int) (A2 : Option Addr) (c2 : Nat) (l2 : List Int) (r : List Int) (w : World) (hr1 : Kd.C (Kd.int .u8) w A1 l1.length l1) (hc1 : l1.length ≤ c1) (hr2 : Kd.C (Kd.int .u8) w A2 l2.length l2) (hc2 : l2.length ≤ c2) (h : impl_toy_HashChildren.f a0_0 a0_1 a0_2 a0_3 a0_4 a0_5 l1 l2 = some r) :
    Calls Tryd.prog 53 #[.agg #[.int .i64 a0_0, .int .i64 a0_1, .int .i64 a0_2, .int .u64 a0_3, .int .u64 a0_4, .int .u64 a0_5], .slice A1 l1.length c1, .slice A2 l2.length c2] w fun e w' => ∃ v0_ : Value, e = .returned (v0_) ∧ Kd.R (Kd.int .u8) 5 w' w.heap.size (fun _ => True) v0_ r ∧ Below w.heap.size w w' := by
  have hu90 := Tryd.underlying90
  have HR1 := Aside0.mk hr1
  have HC1 := Aside0.mk hc1
  clear hr1 hc1
  have HR2 := Aside0.mk hr2
  have HC2 := Aside0.mk hc2
  clear hr2 hc2
  have HB := Aside0.mk (Below.refl w.heap.size w)
  have H : (if a0_0 = 1 then ((impl_mixed.f a0_5 l1).bind fun t221 => ((impl_mixed.f t221 (([255] : List Int))).bind fun t225 => ((impl_mixed.f t225 l2).bind fun t226 => ((impl_word.f t226 a0_2).bind fun t227 => (some t227))))) else ((some (([1] : List Int) : List Int)).bind fun y230 => ((impl_word.f (IntKind.u64.wrap ((l1.length : Int))) 8).bind fun t233 => (if y230.length + t233.length < 140737488355328 then ((some (y230 ++ t233 : List Int)).bind fun y236 => (if y236.length + l1.length < 140737488355328 then ((some (y236 ++ l1 : List Int)).bind fun y239 => (if y239.length + l2.length < 140737488355328 then (some (y239 ++ l2)) else (none))) else (none))) else (none))))) = some r := h
  clear h
  by_cases c4 : a0_0 = 1
  · rw [if_pos c4] at H
    have c4b0 : (a0_0 == 1) = true := beq_iff_eq.mpr c4
    have c4b1 : (a0_0 != 1) = false := bne_eq_false_iff_eq.mpr c4
    clear c4
    replace H := Option.bind_eq_some_iff.mp H
    obtain ⟨t221, A50, H⟩ := H
    replace H : ((impl_mixed.f t221 (([255] : List Int))).bind fun t225 => ((impl_mixed.f t225 l2).bind fun t226 => ((impl_word.f t226 a0_2).bind fun t227 => (some t227)))) = some r := H
    have A5 := Aside0.mk A50
    clear A50
    obtain ⟨y222, hy222⟩ : ∃ y_ : List Int, y_ = (([255] : List Int)) := ⟨_, rfl⟩
    replace H : ((impl_mixed.f t221 y222).bind fun t225 => ((impl_mixed.f t225 l2).bind fun t226 => ((impl_word.f t226 a0_2).bind fun t227 => (some t227)))) = some r := by first | (rw [hy222]; with_reducible exact H) | (have H2_ := (Option.bind_some _ _).symm.trans H; rw [hy222]; with_reducible exact H2_) | (have H2_ := (Option.bind_some _ _).symm.trans H; with_reducible exact H2_) | with_reducible exact H | (rw [hy222]; exact H) | exact H
    have Ny222 := Aside0.mk hy222
    clear hy222
    replace H := Option.bind_eq_some_iff.mp H
    obtain ⟨t225, A60, H⟩ := H
    replace H : ((impl_mixed.f t225 l2).bind fun t226 => ((impl_word.f t226 a0_2).bind fun t227 => (some t227))) = some r := H
    have A6 := Aside0.mk A60
    clear A60
    replace H := Option.bind_eq_some_iff.mp H
    obtain ⟨t226, A70, H⟩ := H
    replace H : ((impl_word.f t226 a0_2).bind fun t227 => (some t227)) = some r := H
    have A7 := Aside0.mk A70
    clear A70
    replace H := Option.bind_eq_some_iff.mp H
    obtain ⟨t227, A80, H⟩ := H
    replace H : (some t227) = some r := H
    have A8 := Aside0.mk A80
    clear A80
    obtain rfl := Option.some.inj H
    go_enter Tryd.func53, Tryd.ntmps53
    try go_wp2_with (first | ((with_reducible refine gate_dst (N := 3) rfl ?_); refine box_event ?hg (N := 3) ?hd (cs := #[.int .i64 a0_0, .int .i64 a0_1, .int .i64 a0_2, .int .u64 a0_3, .int .u64 a0_4, .int .u64 a0_5]) (t := 90) ?hr ?_; (case hd => rfl); (case hg => rfl); (case hr => first | (go_simp; done) | (go_simp; rfl)); intro gb220 hg w9 hbox hb; have n0_ := Aside0.mk (below_step (by repeat (first | (with_reducible first | exact HB.out | apply below_alloc | apply pw_below_drewN | apply below_drew1) | exact HB.out)) hb); have n1_ := Aside0.mk (hbox); have n2_ := Aside0.mk ((by rw [hg]; exact (below_size (by repeat (first | (with_reducible first | exact HB.out | apply below_alloc | apply pw_below_drewN | apply below_drew1) | exact HB.out))) : w.heap.size ≤ gb220)); have n3_ := Aside0.mk ((by rw [hg]; exact (below_size (by repeat (first | (with_reducible first | exact HB.out | apply below_alloc | apply pw_below_drewN | apply below_drew1) | exact HB.out))) : w.heap.size ≤ gb220)); clear HB; have HB := n0_; have BK220 := n1_; have GW220 := n2_; have GE220 := n3_; clear n0_ n1_ n2_ n3_; clear hb hbox hg; have hcz10_0 : w9.cell? ⟨gb220, 0, none⟩ = some (.int .i64 a0_0) := (blk_cell BK220.out 0).trans rfl; have hcz10_1 : w9.cell? ⟨gb220, 1, none⟩ = some (.int .i64 a0_1) := (blk_cell BK220.out 1).trans rfl; have hcz10_2 : w9.cell? ⟨gb220, 2, none⟩ = some (.int .i64 a0_2) := (blk_cell BK220.out 2).trans rfl; have hcz10_3 : w9.cell? ⟨gb220, 3, none⟩ = some (.int .u64 a0_3) := (blk_cell BK220.out 3).trans rfl; have hcz10_4 : w9.cell? ⟨gb220, 4, none⟩ = some (.int .u64 a0_4) := (blk_cell BK220.out 4).trans rfl; have hcz10_5 : w9.cell? ⟨gb220, 5, none⟩ = some (.int .u64 a0_5) := (blk_cell BK220.out 5).trans rfl; have hfz10_0 := blk_frozen BK220.out 0; have hfz10_1 := blk_frozen BK220.out 1; have hfz10_2 := blk_frozen BK220.out 2; have hfz10_3 := blk_frozen BK220.out 3; have hfz10_4 := blk_frozen BK220.out 4; have hfz10_5 := blk_frozen BK220.out 5))
    have n0_ := Aside0.mk (blk_drew BK220.out)
    have n1_ := Aside0.mk (below_drew1 HB.out)
    clear BK220
    clear HB
    have BK220 := n0_
    have HB := n1_
    clear n0_ n1_
    refine start_ (n := 14) (S := fun w' => w'.cell? ⟨gb220, 0, none⟩ = some (.int .i64 a0_0) ∧ w'.cell? ⟨gb220, 1, none⟩ = some (.int .i64 a0_1) ∧ w'.cell? ⟨gb220, 2, none⟩ = some (.int .i64 a0_2) ∧ w'.cell? ⟨gb220, 3, none⟩ = some (.int .u64 a0_3) ∧ w'.cell? ⟨gb220, 4, none⟩ = some (.int .u64 a0_4) ∧ w'.cell? ⟨gb220, 5, none⟩ = some (.int .u64 a0_5)) (ds := []) #[false, false, false, false, false, false, false, false, false, false, false, false, false, false] (by kernel_rfl) rfl rfl ⟨(blk_cell BK220.out 0).trans rfl, (blk_cell BK220.out 1).trans rfl, (blk_cell BK220.out 2).trans rfl, (blk_cell BK220.out 3).trans rfl, (blk_cell BK220.out 4).trans rfl, (blk_cell BK220.out 5).trans rfl⟩ (fun hHeld => ?_); refine with_tabW impl_toy_HashChildren.tab2 impl_toy_HashChildren.bits2 (fun HT_ HW_ => ?_)
    generalize w9.drew = w11 at BK220 HB hHeld ⊢
    refine pure_ (i := 0) (N := some 12) (v := ?_) (a' := ?_) #[true, false, false, false, false, false, false, false, false, false, false, false, false, false] rfl rfl (any_of HT_.out (by kernel_rfl)) (fun _ _ _ h => h) (Or.inl ⟨by rfl, ?_⟩) ?_ ?_
    rotate_left
    · intro w'
      go_simp
      with_reducible rfl
    rotate_left
    · simp only [Act.put, List.setIfInBounds_toArray, List.set_cons_zero, List.set_cons_succ, i64_w, i32_w]
      rfl
    refine pure_ (i := 1) (N := some 13) (v := ?_) (a' := ?_) #[true, true, false, false, false, false, false, false, false, false, false, false, false, false] rfl rfl (any_of HT_.out (by kernel_rfl)) (fun _ _ _ h => h) (Or.inl ⟨by rfl, ?_⟩) ?_ ?_
    rotate_left
    · intro w'
      go_simp
      with_reducible rfl
    rotate_left
    · simp only [Act.put, List.setIfInBounds_toArray, List.set_cons_zero, List.set_cons_succ, i64_w, i32_w]
      rfl
    refine pure_ (i := 3) (N := some 15) (v := ?_) (a' := ?_) #[true, true, false, true, false, false, false, false, false, false, false, false, false, false] rfl rfl (any_of HT_.out (by kernel_rfl)) (fun _ _ _ h => h) (Or.inl ⟨by rfl, ?_⟩) ?_ ?_
    rotate_left
    · intro w'
      go_simp
      with_reducible rfl
    rotate_left
    · simp only [Act.put, List.setIfInBounds_toArray, List.set_cons_zero, List.set_cons_succ, i64_w, i32_w]
      rfl
    refine pure_ (i := 7) (N := some 19) (v := ?_) (a' := ?_) #[true, true, false, true, false, false, false, true, false, false, false, false, false, false] rfl rfl (any_of HT_.out (by kernel_rfl)) (fun _ _ _ h => h) (Or.inl ⟨by rfl, ?_⟩) ?_ ?_
    rotate_left
    · intro w'
      go_simp
      with_reducible rfl
    rotate_left
    · simp only [Act.put, List.setIfInBounds_toArray, List.set_cons_zero, List.set_cons_succ, i64_w, i32_w]
      rfl
    refine pure_ (i := 9) (N := some 21) (v := ?_) (a' := ?_) #[true, true, false, true, false, false, false, true, false, true, false, false, false, false] rfl rfl (any_of HT_.out (by kernel_rfl)) (fun _ _ _ h => h) (Or.inl ⟨by rfl, ?_⟩) ?_ ?_
    rotate_left
    · intro w'
      go_simp
      with_reducible rfl
    rotate_left
    · simp only [Act.put, List.setIfInBounds_toArray, List.set_cons_zero, List.set_cons_succ, i64_w, i32_w]
      rfl
    refine pure_ (i := 10) (N := some 22) (v := ?_) (a' := ?_) #[true, true, false, true, false, false, false, true, false, true, true, false, false, false] rfl rfl (any_of HT_.out (by kernel_rfl)) (fun _ _ _ h => h) (Or.inl ⟨by rfl, ?_⟩) ?_ ?_
    rotate_left
    · intro w'
      go_simp
      with_reducible rfl
    rotate_left
    · simp only [Act.put, List.setIfInBounds_toArray, List.set_cons_zero, List.set_cons_succ, i64_w, i32_w]
      rfl
    refine take_ (i := 2) (N := some 14) (v := ?_) (a' := ?_) #[true, true, true, true, false, false, false, true, false, true, true, false, false, false] rfl rfl (take_ofW HT_.out HW_.out (by kernel_rfl)) (fun _ _ _ h => h) (Or.inl ⟨by rfl, ?_⟩) hHeld ?_ ?_
    rotate_left
    · rintro w' ⟨s0, s1, s2, s3, s4, s5⟩
      go_simp
      with_reducible rfl
    rotate_left
    · simp only [Act.put, List.setIfInBounds_toArray, List.set_cons_zero, List.set_cons_succ, i64_w, i32_w]
      rfl
    refine take_ (i := 11) (N := some 23) (v := ?_) (a' := ?_) #[true, true, true, true, false, false, false, true, false, true, true, true, false, false] rfl rfl (take_ofW HT_.out HW_.out (by kernel_rfl)) (fun _ _ _ h => h) (Or.inl ⟨by rfl, ?_⟩) hHeld ?_ ?_
    rotate_left
    · rintro w' ⟨s0, s1, s2, s3, s4, s5⟩
      go_simp
      with_reducible rfl
    rotate_left
    · simp only [Act.put, List.setIfInBounds_toArray, List.set_cons_zero, List.set_cons_succ, i64_w, i32_w]
      rfl
    refine join_ (σ := Value) 4 #[true, true, true, true, true, true, false, true, false, true, true, true, false, false] (fun s_ => [(16, .int .u64 t221), (17, s_)]) (fun s_ w' => (w'.cell? ⟨gb220, 0, none⟩ = some (.int .i64 a0_0) ∧ w'.cell? ⟨gb220, 1, none⟩ = some (.int .i64 a0_1) ∧ w'.cell? ⟨gb220, 2, none⟩ = some (.int .i64 a0_2) ∧ w'.cell? ⟨gb220, 3, none⟩ = some (.int .u64 a0_3) ∧ w'.cell? ⟨gb220, 4, none⟩ = some (.int .u64 a0_4) ∧ w'.cell? ⟨gb220, 5, none⟩ = some (.int .u64 a0_5)) ∧ (Kd.R (Kd.int .u8) 5 w' w.heap.size (fun _ => True) s_ y222) ∧ (w'.heap[gb220]? = some (.cells #[.int .i64 a0_0, .int .i64 a0_1, .int .i64 a0_2, .int .u64 a0_3, .int .u64 a0_4, .int .u64 a0_5] 90 (0, 0))) ∧ (Below w.heap.size w w')) ?_ ?_
    rotate_left
    · intro hCont
      refine two_ (i := 4) (j := 5) (Ni := some 16) (Nj := some 17) #[true, true, true, true, true, false, false, true, false, true, true, true, false, false] #[true, true, true, true, false, true, false, true, false, true, true, true, false, false] rfl rfl rfl rfl (two_of HT_.out (by kernel_rfl)) (by decide) (by decide) (fun K hK => ?_) (fun K hK => ?_)
      · skip
        refine goes_ Tryd.func86 (by kernel_rfl) rfl #[.int .u64 a0_5, .slice A1 l1.length c1] (by rfl) rfl rfl (by (try simp only [List.map_toArray, List.map_cons, List.map_nil]); first | done | rfl | (simp only [List.length_drop, List.length_take]; rfl)) ?_
        with_reducible refine (impl_mixed.calls a0_5 _ _ l1 t221 _ ?side1 ?side2 A5.out).mono ?_
        (case side1 => repeat (first | exact (Kd.C_below HR1.out HB.out) | (with_reducible refine Kd.C_alloc ?_ _) | (with_reducible refine Kd.C_drewN ?_ _) | (with_reducible refine Kd.C_drew ?_)))
        (case side2 => exact HC1.out)
        rintro e w' ⟨rfl, ⟨nd, rfl⟩⟩
        refine ⟨_, rfl, ?_⟩
        refine hK.out _ _ ⟨(blk_cell BK220.out 0).trans rfl, (blk_cell BK220.out 1).trans rfl, (blk_cell BK220.out 2).trans rfl, (blk_cell BK220.out 3).trans rfl, (blk_cell BK220.out 4).trans rfl, (blk_cell BK220.out 5).trans rfl⟩ (fun hHeld => ?_)
        clear hK K
        refine norm_ (a' := ?_) ?_ ?_
        rotate_left
        · show Act.put _ (some 16) _ = _
          simp only [Act.put, List.setIfInBounds_toArray, List.set_cons_zero, List.set_cons_succ, i64_w, i32_w]
          rfl
        refine one_ (i := 5) (N := some 17) #[true, true, true, true, true, true, false, true, false, true, true, true, false, false] rfl rfl (one_of HT_.out (by kernel_rfl)) (by decide) (fun K hK => ?_)
        refine Kd.R_lit_step (Kd.int .u8) _ 5 ?hg (N := 17) ?hd (xs := ([255] : List Int)) (inner := [.int .u8 255]) (ok := fun _ => True) (okp := fun _ => True) ?hr ?hp (fun _ hk => hk) trivial (Below.refl _ _) (Nat.le_refl _) (by simp) ?_; (case hd => rfl); (case hg => rfl); (case hr => first | (go_simp; done) | (go_simp; rfl)); (case hp => exact (Reps.one (show Kd.M (Kd.int .u8) _ _ _ 255 [.int .u8 255] from rfl) (Reps.none _ _)))
        intro v223 w12 ho13 hb hg_ hnew_
        clear hg_ hnew_
        (first | rw [← Ny222.out] at ho13 | (simp only [Int.reduceToNat] at ho13; rw [← Ny222.out] at ho13))
        have n0_ := Aside0.mk (Kd.R_lower ho13 (below_size (by repeat (first | (with_reducible first | exact HB.out | apply below_alloc | apply pw_below_drewN | apply below_drew1 | refine below_set ?_ GE220.out) | exact HB.out))))
        have n1_ := Aside0.mk (blk_below (g := gb220) (o := .cells #[.int .i64 a0_0, .int .i64 a0_1, .int .i64 a0_2, .int .u64 a0_3, .int .u64 a0_4, .int .u64 a0_5] 90 (0, 0)) (by (with_reducible repeat (first | refine blk_drewN ?_ _ | refine blk_drew ?_ | refine blk_alloc ?_ _)); exact BK220.out) hb)
        have n2_ := Aside0.mk (below_step (by repeat (first | (with_reducible first | exact HB.out | apply below_alloc | apply pw_below_drewN | apply below_drew1 | refine below_set ?_ GE220.out) | exact HB.out)) hb)
        clear BK220
        clear HB
        have HO224 := n0_
        have BK220 := n1_
        have HB := n2_
        clear n0_ n1_ n2_
        clear hb ho13
        refine hK.out _ _ ⟨(blk_cell BK220.out 0).trans rfl, (blk_cell BK220.out 1).trans rfl, (blk_cell BK220.out 2).trans rfl, (blk_cell BK220.out 3).trans rfl, (blk_cell BK220.out 4).trans rfl, (blk_cell BK220.out 5).trans rfl⟩ (fun hHeld => ?_)
        clear hK K
        refine norm_ (a' := ?_) ?_ ?_
        rotate_left
        · show Act.put _ (some 17) _ = _
          simp only [Act.put, List.setIfInBounds_toArray, List.set_cons_zero, List.set_cons_succ, i64_w, i32_w]
          rfl
        exact norm_ (by simp only [putAll, Act.put, List.setIfInBounds_toArray, List.set_cons_zero, List.set_cons_succ]) (hCont (v223) _ ⟨hHeld, (by (with_reducible repeat (first | apply Kd.R_alloc | apply Kd.R_drewN | apply Kd.R_drew)); exact HO224.out), (by (with_reducible repeat (first | refine blk_drewN ?_ _ | refine blk_drew ?_ | refine blk_alloc ?_ _)); exact BK220.out), (by repeat (first | (with_reducible first | exact HB.out | apply below_alloc | apply pw_below_drewN | apply below_drew1 | refine below_set ?_ GE220.out) | exact HB.out))⟩)
      · skip
        refine Kd.R_lit_step (Kd.int .u8) _ 5 ?hg (N := 17) ?hd (xs := ([255] : List Int)) (inner := [.int .u8 255]) (ok := fun _ => True) (okp := fun _ => True) ?hr ?hp (fun _ hk => hk) trivial (Below.refl _ _) (Nat.le_refl _) (by simp) ?_; (case hd => rfl); (case hg => rfl); (case hr => first | (go_simp; done) | (go_simp; rfl)); (case hp => exact (Reps.one (show Kd.M (Kd.int .u8) _ _ _ 255 [.int .u8 255] from rfl) (Reps.none _ _)))
        intro v223 w12 ho13 hb hg_ hnew_
        clear hg_ hnew_
        (first | rw [← Ny222.out] at ho13 | (simp only [Int.reduceToNat] at ho13; rw [← Ny222.out] at ho13))
        have n0_ := Aside0.mk (Kd.R_lower ho13 (below_size (by repeat (first | (with_reducible first | exact HB.out | apply below_alloc | apply pw_below_drewN | apply below_drew1 | refine below_set ?_ GE220.out) | exact HB.out))))
        have n1_ := Aside0.mk (blk_below (g := gb220) (o := .cells #[.int .i64 a0_0, .int .i64 a0_1, .int .i64 a0_2, .int .u64 a0_3, .int .u64 a0_4, .int .u64 a0_5] 90 (0, 0)) (by (with_reducible repeat (first | refine blk_drewN ?_ _ | refine blk_drew ?_ | refine blk_alloc ?_ _)); exact BK220.out) hb)
        have n2_ := Aside0.mk (below_step (by repeat (first | (with_reducible first | exact HB.out | apply below_alloc | apply pw_below_drewN | apply below_drew1 | refine below_set ?_ GE220.out) | exact HB.out)) hb)
        clear BK220
        clear HB
        have HO224 := n0_
        have BK220 := n1_
        have HB := n2_
        clear n0_ n1_ n2_
        clear hb ho13
        refine hK.out _ _ ⟨(blk_cell BK220.out 0).trans rfl, (blk_cell BK220.out 1).trans rfl, (blk_cell BK220.out 2).trans rfl, (blk_cell BK220.out 3).trans rfl, (blk_cell BK220.out 4).trans rfl, (blk_cell BK220.out 5).trans rfl⟩ (fun hHeld => ?_)
        clear hK K
        refine norm_ (a' := ?_) ?_ ?_
        rotate_left
        · show Act.put _ (some 17) _ = _
          simp only [Act.put, List.setIfInBounds_toArray, List.set_cons_zero, List.set_cons_succ, i64_w, i32_w]
          rfl
        refine one_ (i := 4) (N := some 16) #[true, true, true, true, true, true, false, true, false, true, true, true, false, false] rfl rfl (one_of HT_.out (by kernel_rfl)) (by decide) (fun K hK => ?_)
        refine goes_ Tryd.func86 (by kernel_rfl) rfl #[.int .u64 a0_5, .slice A1 l1.length c1] (by rfl) rfl rfl (by (try simp only [List.map_toArray, List.map_cons, List.map_nil]); first | done | rfl | (simp only [List.length_drop, List.length_take]; rfl)) ?_
        with_reducible refine (impl_mixed.calls a0_5 _ _ l1 t221 _ ?side1 ?side2 A5.out).mono ?_
        (case side1 => repeat (first | exact (Kd.C_below HR1.out HB.out) | (with_reducible refine Kd.C_alloc ?_ _) | (with_reducible refine Kd.C_drewN ?_ _) | (with_reducible refine Kd.C_drew ?_)))
        (case side2 => exact HC1.out)
        rintro e w' ⟨rfl, ⟨nd, rfl⟩⟩
        refine ⟨_, rfl, ?_⟩
        refine hK.out _ _ ⟨(blk_cell BK220.out 0).trans rfl, (blk_cell BK220.out 1).trans rfl, (blk_cell BK220.out 2).trans rfl, (blk_cell BK220.out 3).trans rfl, (blk_cell BK220.out 4).trans rfl, (blk_cell BK220.out 5).trans rfl⟩ (fun hHeld => ?_)
        clear hK K
        refine norm_ (a' := ?_) ?_ ?_
        rotate_left
        · show Act.put _ (some 16) _ = _
          simp only [Act.put, List.setIfInBounds_toArray, List.set_cons_zero, List.set_cons_succ, i64_w, i32_w]
          rfl
        exact norm_ (by simp only [putAll, Act.put, List.setIfInBounds_toArray, List.set_cons_zero, List.set_cons_succ]) (hCont (v223) _ ⟨hHeld, (by (with_reducible repeat (first | apply Kd.R_alloc | apply Kd.R_drewN | apply Kd.R_drew)); exact HO224.out), (by (with_reducible repeat (first | refine blk_drewN ?_ _ | refine blk_drew ?_ | refine blk_alloc ?_ _)); exact BK220.out), (by repeat (first | (with_reducible first | exact HB.out | apply below_alloc | apply pw_below_drewN | apply below_drew1 | refine below_set ?_ GE220.out) | exact HB.out))⟩)
    rintro v223 w14 ⟨hS_, h0_, h1_, h2_⟩
    have n0_ : Aside0 (Kd.R (Kd.int .u8) 5 w14 w.heap.size (fun _ => True) v223 y222) := ⟨h0_⟩
    have n1_ : Aside0 (w14.heap[gb220]? = some (.cells #[.int .i64 a0_0, .int .i64 a0_1, .int .i64 a0_2, .int .u64 a0_3, .int .u64 a0_4, .int .u64 a0_5] 90 (0, 0))) := ⟨h1_⟩
    have n2_ : Aside0 (Below w.heap.size w w14) := ⟨h2_⟩
    clear BK220
    clear HB
    clear h0_ h1_ h2_
    have HO224 := n0_
    have BK220 := n1_
    have HB := n2_
    clear n0_ n1_ n2_
    have hHeld : w14.cell? ⟨gb220, 0, none⟩ = some (.int .i64 a0_0) ∧ w14.cell? ⟨gb220, 1, none⟩ = some (.int .i64 a0_1) ∧ w14.cell? ⟨gb220, 2, none⟩ = some (.int .i64 a0_2) ∧ w14.cell? ⟨gb220, 3, none⟩ = some (.int .u64 a0_3) ∧ w14.cell? ⟨gb220, 4, none⟩ = some (.int .u64 a0_4) ∧ w14.cell? ⟨gb220, 5, none⟩ = some (.int .u64 a0_5) := hS_
    obtain ⟨Ao15, co15, eo15⟩ := Kd.R_slice HO224.out
    (first | subst eo15 | (injection eo15 with f1_ f2_ f3_; have f4_ := f1_.symm; have f5_ := f3_.symm; clear f1_ f2_ f3_; subst f4_; subst f5_))
    refine norm_ (a' := ?_) ?_ ?_
    rotate_left
    · simp only [putAll, Act.put, List.setIfInBounds_toArray, List.set_cons_zero, List.set_cons_succ]
      rfl
    refine one_ (i := 6) (N := some 18) #[true, true, true, true, true, true, true, true, false, true, true, true, false, false] rfl rfl (one_of HT_.out (by kernel_rfl)) (by decide) (fun K hK => ?_)
    refine goes_ Tryd.func86 (by kernel_rfl) rfl #[.int .u64 t221, .slice Ao15 y222.length co15] (by rfl) rfl rfl (by (try simp only [List.map_toArray, List.map_cons, List.map_nil]); first | done | rfl | (simp only [List.length_drop, List.length_take]; rfl)) ?_
    with_reducible refine (impl_mixed.calls t221 _ _ y222 t225 _ ?side1 ?side2 A6.out).mono ?_
    (case side1 => repeat (first | exact (Kd.R_reads' HO224.out).2.2 | (with_reducible refine Kd.C_alloc ?_ _) | (with_reducible refine Kd.C_drewN ?_ _) | (with_reducible refine Kd.C_drew ?_)))
    (case side2 => exact (Kd.R_reads' HO224.out).2.1)
    rintro e w' ⟨rfl, ⟨nd, rfl⟩⟩
    refine ⟨_, rfl, ?_⟩
    refine hK.out _ _ ⟨(blk_cell BK220.out 0).trans rfl, (blk_cell BK220.out 1).trans rfl, (blk_cell BK220.out 2).trans rfl, (blk_cell BK220.out 3).trans rfl, (blk_cell BK220.out 4).trans rfl, (blk_cell BK220.out 5).trans rfl⟩ (fun hHeld => ?_)
    clear hK K
    refine norm_ (a' := ?_) ?_ ?_
    rotate_left
    · show Act.put _ (some 18) _ = _
      simp only [Act.put, List.setIfInBounds_toArray, List.set_cons_zero, List.set_cons_succ, i64_w, i32_w]
      rfl
    refine one_ (i := 8) (N := some 20) #[true, true, true, true, true, true, true, true, true, true, true, true, false, false] rfl rfl (one_of HT_.out (by kernel_rfl)) (by decide) (fun K hK => ?_)
    refine goes_ Tryd.func86 (by kernel_rfl) rfl #[.int .u64 t225, .slice A2 l2.length c2] (by rfl) rfl rfl (by (try simp only [List.map_toArray, List.map_cons, List.map_nil]); first | done | rfl | (simp only [List.length_drop, List.length_take]; rfl)) ?_
    with_reducible refine (impl_mixed.calls t225 _ _ l2 t226 _ ?side1 ?side2 A7.out).mono ?_
    (case side1 => repeat (first | exact (Kd.C_below HR2.out (by repeat (first | (with_reducible first | exact HB.out | apply below_alloc | apply pw_below_drewN | apply below_drew1 | refine below_set ?_ GE220.out) | exact HB.out))) | (with_reducible refine Kd.C_alloc ?_ _) | (with_reducible refine Kd.C_drewN ?_ _) | (with_reducible refine Kd.C_drew ?_)))
    (case side2 => exact HC2.out)
    rintro e w' ⟨rfl, ⟨nd, rfl⟩⟩
    refine ⟨_, rfl, ?_⟩
    refine hK.out _ _ ⟨(blk_cell BK220.out 0).trans rfl, (blk_cell BK220.out 1).trans rfl, (blk_cell BK220.out 2).trans rfl, (blk_cell BK220.out 3).trans rfl, (blk_cell BK220.out 4).trans rfl, (blk_cell BK220.out 5).trans rfl⟩ (fun hHeld => ?_)
    clear hK K
    refine norm_ (a' := ?_) ?_ ?_
    rotate_left
    · show Act.put _ (some 20) _ = _
      simp only [Act.put, List.setIfInBounds_toArray, List.set_cons_zero, List.set_cons_succ, i64_w, i32_w]
      rfl
    refine one_ (i := 12) (N := some 24) #[true, true, true, true, true, true, true, true, true, true, true, true, true, false] rfl rfl (one_of HT_.out (by kernel_rfl)) (by decide) (fun K hK => ?_)
    refine goes_ Tryd.func85 (by kernel_rfl) rfl #[.int .u64 t226, .int .i64 a0_2] (by rfl) rfl rfl (by (try simp only [List.map_toArray, List.map_cons, List.map_nil]); first | done | rfl | (simp only [List.length_drop, List.length_take]; rfl)) ?_
    with_reducible refine (impl_word.calls t226 a0_2 t227 _ A8.out).mono ?_
    rintro e w16 ⟨v228, rfl, ho0, hb⟩
    refine ⟨_, rfl, ?_⟩
    have n0_ := Aside0.mk (Kd.R_elder' (by (with_reducible repeat (first | apply Kd.R_alloc | apply Kd.R_drewN | apply Kd.R_drew)); exact HO224.out) (Kd.R_base ho0) hb)
    have n1_ := Aside0.mk (Kd.R_lower (Kd.R_new' ho0 (Kd.R_lt (by (with_reducible repeat (first | apply Kd.R_alloc | apply Kd.R_drewN | apply Kd.R_drew)); exact HO224.out))) (below_size (by repeat (first | (with_reducible first | exact HB.out | apply below_alloc | apply pw_below_drewN | apply below_drew1 | refine below_set ?_ GE220.out) | exact HB.out))))
    have n2_ := Aside0.mk (blk_below (g := gb220) (o := .cells #[.int .i64 a0_0, .int .i64 a0_1, .int .i64 a0_2, .int .u64 a0_3, .int .u64 a0_4, .int .u64 a0_5] 90 (0, 0)) (by (with_reducible repeat (first | refine blk_drewN ?_ _ | refine blk_drew ?_ | refine blk_alloc ?_ _)); exact BK220.out) hb)
    have n3_ := Aside0.mk (below_step (by repeat (first | (with_reducible first | exact HB.out | apply below_alloc | apply pw_below_drewN | apply below_drew1 | refine below_set ?_ GE220.out) | exact HB.out)) hb)
    clear HO224
    clear BK220
    clear HB
    have HO224 := n0_
    have HO229 := n1_
    have BK220 := n2_
    have HB := n3_
    clear n0_ n1_ n2_ n3_
    (try clear hb)
    (try clear hb2)
    (try clear hk)
    (try clear hi)
    (try clear ho0)
    refine hK.out _ _ ⟨(blk_cell BK220.out 0).trans rfl, (blk_cell BK220.out 1).trans rfl, (blk_cell BK220.out 2).trans rfl, (blk_cell BK220.out 3).trans rfl, (blk_cell BK220.out 4).trans rfl, (blk_cell BK220.out 5).trans rfl⟩ (fun hHeld => ?_)
    clear hK K
    refine norm_ (a' := ?_) ?_ ?_
    rotate_left
    · show Act.put _ (some 24) _ = _
      simp only [Act.put, List.setIfInBounds_toArray, List.set_cons_zero, List.set_cons_succ, i64_w, i32_w]
      rfl
    refine pure_ (i := 13) (N := some 6) (v := ?_) (a' := ?_) #[true, true, true, true, true, true, true, true, true, true, true, true, true, true] rfl rfl (any_of HT_.out (by kernel_rfl)) (fun _ _ _ h => h) (Or.inl ⟨by rfl, ?_⟩) ?_ ?_
    rotate_left
    · intro w'
      go_simp
      with_reducible rfl
    rotate_left
    · simp only [Act.put, List.setIfInBounds_toArray, List.set_cons_zero, List.set_cons_succ, i64_w, i32_w]
      rfl
    refine done_ (done_of HT_.out (by kernel_rfl)) ?_
    try go_wp2
    go_ret
    exact ⟨_, by first | rfl | (simp [errW_none, errW_some] <;> rfl) | (simp [*, errW_none, errW_some] <;> rfl), by (with_reducible repeat (first | apply Kd.R_alloc | apply Kd.R_drewN | apply Kd.R_drew)); exact Kd.R_mono HO229.out (fun _ hk => trivial), by repeat (first | (with_reducible first | exact HB.out | apply below_alloc | apply pw_below_drewN | apply below_drew1 | refine below_set ?_ GE220.out) | exact HB.out)⟩
  · rw [if_neg c4] at H
    have c4b0 : (a0_0 == 1) = false := beq_eq_false_iff_ne.mpr c4
    have c4b1 : (a0_0 != 1) = true := bne_iff_ne.mpr c4
    obtain ⟨y230, hy230⟩ : ∃ y_ : List Int, y_ = (([1] : List Int)) := ⟨_, rfl⟩
    replace H : ((impl_word.f (IntKind.u64.wrap ((l1.length : Int))) 8).bind fun t233 => (if y230.length + t233.length < 140737488355328 then ((some (y230 ++ t233 : List Int)).bind fun y236 => (if y236.length + l1.length < 140737488355328 then ((some (y236 ++ l1 : List Int)).bind fun y239 => (if y239.length + l2.length < 140737488355328 then (some (y239 ++ l2)) else (none))) else (none))) else (none))) = some r := by first | (rw [hy230]; with_reducible exact H) | (have H2_ := (Option.bind_some _ _).symm.trans H; rw [hy230]; with_reducible exact H2_) | (have H2_ := (Option.bind_some _ _).symm.trans H; with_reducible exact H2_) | with_reducible exact H | (rw [hy230]; exact H) | exact H
    have Ny230 := Aside0.mk hy230
    clear hy230
    replace H := Option.bind_eq_some_iff.mp H
    obtain ⟨t233, A170, H⟩ := H
    replace H : (if y230.length + t233.length < 140737488355328 then ((some (y230 ++ t233 : List Int)).bind fun y236 => (if y236.length + l1.length < 140737488355328 then ((some (y236 ++ l1 : List Int)).bind fun y239 => (if y239.length + l2.length < 140737488355328 then (some (y239 ++ l2)) else (none))) else (none))) else (none)) = some r := H
    have A17 := Aside0.mk A170
    clear A170
    by_cases c18 : y230.length + t233.length < 140737488355328
    · rw [if_pos c18] at H
      have LMc18 := Aside0.mk c18
      clear c18
      obtain ⟨y236, hy236⟩ : ∃ y_ : List Int, y_ = (y230 ++ t233) := ⟨_, rfl⟩
      replace H : (if y236.length + l1.length < 140737488355328 then ((some (y236 ++ l1 : List Int)).bind fun y239 => (if y239.length + l2.length < 140737488355328 then (some (y239 ++ l2)) else (none))) else (none)) = some r := by first | (rw [hy236]; with_reducible exact H) | (have H2_ := (Option.bind_some _ _).symm.trans H; rw [hy236]; with_reducible exact H2_) | (have H2_ := (Option.bind_some _ _).symm.trans H; with_reducible exact H2_) | with_reducible exact H | (rw [hy236]; exact H) | exact H
      have Ny236 := Aside0.mk hy236
      clear hy236
      by_cases c19 : y236.length + l1.length < 140737488355328
      · rw [if_pos c19] at H
        have LMc19 := Aside0.mk c19
        clear c19
        obtain ⟨y239, hy239⟩ : ∃ y_ : List Int, y_ = (y236 ++ l1) := ⟨_, rfl⟩
        replace H : (if y239.length + l2.length < 140737488355328 then (some (y239 ++ l2)) else (none)) = some r := by first | (rw [hy239]; with_reducible exact H) | (have H2_ := (Option.bind_some _ _).symm.trans H; rw [hy239]; with_reducible exact H2_) | (have H2_ := (Option.bind_some _ _).symm.trans H; with_reducible exact H2_) | with_reducible exact H | (rw [hy239]; exact H) | exact H
        have Ny239 := Aside0.mk hy239
        clear hy239
        by_cases c20 : y239.length + l2.length < 140737488355328
        · rw [if_pos c20] at H
          have LMc20 := Aside0.mk c20
          clear c20
          obtain ⟨y242, hy242⟩ : ∃ y_ : List Int, y_ = (y239 ++ l2) := ⟨_, rfl⟩
          replace H : (some y242) = some r := by first | (rw [hy242]; with_reducible exact H) | (have H2_ := (Option.bind_some _ _).symm.trans H; rw [hy242]; with_reducible exact H2_) | (have H2_ := (Option.bind_some _ _).symm.trans H; with_reducible exact H2_) | with_reducible exact H | (rw [hy242]; exact H) | exact H
          have Ny242 := Aside0.mk hy242
          clear hy242
          obtain rfl := Option.some.inj H
          go_enter Tryd.func53, Tryd.ntmps53
          go_wp2_with (first | ((with_reducible refine gate_dst (N := 3) rfl ?_); refine box_event ?hg (N := 3) ?hd (cs := #[.int .i64 a0_0, .int .i64 a0_1, .int .i64 a0_2, .int .u64 a0_3, .int .u64 a0_4, .int .u64 a0_5]) (t := 90) ?hr ?_; (case hd => rfl); (case hg => rfl); (case hr => first | (go_simp; done) | (go_simp; rfl)); intro gb220 hg w21 hbox hb; have n0_ := Aside0.mk (below_step (by repeat (first | (with_reducible first | exact HB.out | apply below_alloc | apply pw_below_drewN | apply below_drew1) | exact HB.out)) hb); have n1_ := Aside0.mk (hbox); have n2_ := Aside0.mk ((by rw [hg]; exact (below_size (by repeat (first | (with_reducible first | exact HB.out | apply below_alloc | apply pw_below_drewN | apply below_drew1) | exact HB.out))) : w.heap.size ≤ gb220)); have n3_ := Aside0.mk ((by rw [hg]; exact (below_size (by repeat (first | (with_reducible first | exact HB.out | apply below_alloc | apply pw_below_drewN | apply below_drew1) | exact HB.out))) : w.heap.size ≤ gb220)); clear HB; have HB := n0_; have BK220 := n1_; have GW220 := n2_; have GE220 := n3_; clear n0_ n1_ n2_ n3_; clear hb hbox hg; have hcz22_0 : w21.cell? ⟨gb220, 0, none⟩ = some (.int .i64 a0_0) := (blk_cell BK220.out 0).trans rfl; have hcz22_1 : w21.cell? ⟨gb220, 1, none⟩ = some (.int .i64 a0_1) := (blk_cell BK220.out 1).trans rfl; have hcz22_2 : w21.cell? ⟨gb220, 2, none⟩ = some (.int .i64 a0_2) := (blk_cell BK220.out 2).trans rfl; have hcz22_3 : w21.cell? ⟨gb220, 3, none⟩ = some (.int .u64 a0_3) := (blk_cell BK220.out 3).trans rfl; have hcz22_4 : w21.cell? ⟨gb220, 4, none⟩ = some (.int .u64 a0_4) := (blk_cell BK220.out 4).trans rfl; have hcz22_5 : w21.cell? ⟨gb220, 5, none⟩ = some (.int .u64 a0_5) := (blk_cell BK220.out 5).trans rfl; have hfz22_0 := blk_frozen BK220.out 0; have hfz22_1 := blk_frozen BK220.out 1; have hfz22_2 := blk_frozen BK220.out 2; have hfz22_3 := blk_frozen BK220.out 3; have hfz22_4 := blk_frozen BK220.out 4; have hfz22_5 := blk_frozen BK220.out 5) | ((with_reducible refine gate_dst (N := 25) rfl ?_); refine Kd.R_lit (Kd.int .u8) _ 5 ?hg (N := 25) ?hd (xs := ([1] : List Int)) (inner := [.int .u8 1]) (ok := fun _ => True) (okp := fun _ => True) ?hr ?hp (fun _ hk => hk) trivial (Below.refl _ _) (Nat.le_refl _) (by simp) ?_; (case hd => rfl); (case hg => rfl); (case hr => first | (go_simp; done) | (go_simp; rfl)); (case hp => exact (Reps.one (show Kd.M (Kd.int .u8) _ _ _ 1 [.int .u8 1] from rfl) (Reps.none _ _))); intro v231 w23 ho24 hb hg_ hnew_; clear hg_ hnew_; (first | rw [← Ny230.out] at ho24 | (simp only [Int.reduceToNat] at ho24; rw [← Ny230.out] at ho24)); have n0_ := Aside0.mk (Kd.R_lower ho24 (below_size (by repeat (first | (with_reducible first | exact HB.out | apply below_alloc | apply pw_below_drewN | apply below_drew1 | refine below_set ?_ GE220.out) | exact HB.out)))); have n1_ := Aside0.mk (blk_below (g := gb220) (o := .cells #[.int .i64 a0_0, .int .i64 a0_1, .int .i64 a0_2, .int .u64 a0_3, .int .u64 a0_4, .int .u64 a0_5] 90 (0, 0)) (by (with_reducible repeat (first | refine blk_drewN ?_ _ | refine blk_drew ?_ | refine blk_alloc ?_ _)); exact BK220.out) hb); have n2_ := Aside0.mk (below_step (by repeat (first | (with_reducible first | exact HB.out | apply below_alloc | apply pw_below_drewN | apply below_drew1 | refine below_set ?_ GE220.out) | exact HB.out)) hb); clear BK220; clear HB; have HO232 := n0_; have BK220 := n1_; have HB := n2_; clear n0_ n1_ n2_; clear hb ho24) | ((with_reducible refine gate_callee (f := 85) rfl ?_); refine goesL_ (some 29) rfl rfl Tryd.func85 (by kernel_rfl) rfl #[.int .u64 (IntKind.u64.wrap ((l1.length : Int))), .int .i64 8] rfl (by (try simp only [List.map_toArray, List.map_cons, List.map_nil]); first | done | rfl | (simp only [List.length_drop, List.length_take]; rfl)) ?_; (with_reducible refine (impl_word.calls (IntKind.u64.wrap ((l1.length : Int))) 8 t233 _ A17.out).mono ?_); rintro e w25 ⟨v234, rfl, ho0, hb⟩; refine ⟨_, rfl, ?_⟩; have n0_ := Aside0.mk (Kd.R_elder' (by (with_reducible repeat (first | apply Kd.R_alloc | apply Kd.R_drewN | apply Kd.R_drew)); exact HO232.out) (Kd.R_base ho0) hb); have n1_ := Aside0.mk (Kd.R_lower (Kd.R_new' ho0 (Kd.R_lt (by (with_reducible repeat (first | apply Kd.R_alloc | apply Kd.R_drewN | apply Kd.R_drew)); exact HO232.out))) (below_size (by repeat (first | (with_reducible first | exact HB.out | apply below_alloc | apply pw_below_drewN | apply below_drew1 | refine below_set ?_ GE220.out) | exact HB.out)))); have n2_ := Aside0.mk (blk_below (g := gb220) (o := .cells #[.int .i64 a0_0, .int .i64 a0_1, .int .i64 a0_2, .int .u64 a0_3, .int .u64 a0_4, .int .u64 a0_5] 90 (0, 0)) (by (with_reducible repeat (first | refine blk_drewN ?_ _ | refine blk_drew ?_ | refine blk_alloc ?_ _)); exact BK220.out) hb); have n3_ := Aside0.mk (below_step (by repeat (first | (with_reducible first | exact HB.out | apply below_alloc | apply pw_below_drewN | apply below_drew1 | refine below_set ?_ GE220.out) | exact HB.out)) hb); clear HO232; clear BK220; clear HB; have HO232 := n0_; have HO235 := n1_; have BK220 := n2_; have HB := n3_; clear n0_ n1_ n2_ n3_; (try clear hb); (try clear hb2); (try clear hk); (try clear hi); (try clear ho0); obtain ⟨Ao27, co27, eo27⟩ := Kd.R_slice HO235.out; subst eo27) | ((with_reducible refine gate_builtin (b := .append) (xs := #[.tmp 25, .tmp 29]) rfl ?_); at_builtin; refine Kd.R_append_rows (Kd.int .u8) (w0 := w) w.heap.size rfl (.tmp 25) (.tmp 29) 28 5 (.int .u8 0) 1 rfl Tryd.underlying28 info5 rfl (by decide) (by omega) v231 y230 t233 _ _ _ (fun k_ => some k_ ≠ (.slice Ao27 t233.length co27 : Value).ownBlock) (fun _ => False) rfl rfl ?aO ?aR (fun _ _ h => h) (fun _ h => h.elim) ?aF ?aB ?aS ?aL ?_; (case aR => repeat (first | exact (Kd.R_reads' HO235.out).2.2 | (with_reducible refine Kd.C_alloc ?_ _) | (with_reducible refine Kd.C_drewN ?_ _) | (with_reducible refine Kd.C_drew ?_))); (case aB => exact (by repeat (first | (with_reducible first | exact HB.out | apply below_alloc | apply pw_below_drewN | apply below_drew1 | refine below_set ?_ GE220.out) | exact HB.out))); (case aF => exact (fun k_ hk => Kd.fresh' (Kd.R_lt (by (with_reducible repeat (first | apply Kd.R_alloc | apply Kd.R_drewN | apply Kd.R_drew)); exact HO235.out)) k_ hk)); (case aO => exact (by (with_reducible repeat (first | apply Kd.R_alloc | apply Kd.R_drewN | apply Kd.R_drew)); exact Kd.R_mono HO232.out (fun _ hk => hk.2))); (case aS => exact (below_size (by repeat (first | (with_reducible first | exact HB.out | apply below_alloc | apply pw_below_drewN | apply below_drew1 | refine below_set ?_ GE220.out) | exact HB.out)))); (case aL => have := LMc18.out; omega); intro v237 w26 ho hb hg hat; rw [← Ny236.out] at ho; have n0_ := Aside0.mk (blk_grown (g := gb220) (o := .cells #[.int .i64 a0_0, .int .i64 a0_1, .int .i64 a0_2, .int .u64 a0_3, .int .u64 a0_4, .int .u64 a0_5] 90 (0, 0)) (by (with_reducible repeat (first | refine blk_drewN ?_ _ | refine blk_drew ?_ | refine blk_alloc ?_ _)); exact BK220.out) hg (Kd.R_ne HO232.out BK220.out (by decide))); have n1_ := Aside0.mk (Kd.R_after (ok := (fun _ => True)) (by (with_reducible repeat (first | apply Kd.R_alloc | apply Kd.R_drewN | apply Kd.R_drew)); exact HO235.out) hg hat); have n2_ := Aside0.mk (hb); have n3_ := Aside0.mk (ho); clear BK220; clear HO235; clear HB; clear HO232; have BK220 := n0_; have HO235 := n1_; have HB := n2_; have HO238 := n3_; clear n0_ n1_ n2_ n3_; clear ho hb hg hat) | ((with_reducible refine gate_builtin (b := .append) (xs := #[.tmp 31, .tmp 32]) rfl ?_); at_builtin; refine Kd.R_append_rows (Kd.int .u8) (w0 := w) w.heap.size rfl (.tmp 31) (.tmp 32) 28 5 (.int .u8 0) 1 rfl Tryd.underlying28 info5 rfl (by decide) (by omega) v237 y236 l1 _ _ _ (fun k_ => some k_ ≠ (.slice Ao27 t233.length co27 : Value).ownBlock) (fun _ => False) rfl rfl ?aO ?aR (fun _ _ h => h) (fun _ h => h.elim) ?aF ?aB ?aS ?aL ?_; (case aR => repeat (first | exact (Kd.C_below HR1.out HB.out) | (with_reducible refine Kd.C_alloc ?_ _) | (with_reducible refine Kd.C_drewN ?_ _) | (with_reducible refine Kd.C_drew ?_))); (case aB => exact (by repeat (first | (with_reducible first | exact HB.out | apply below_alloc | apply pw_below_drewN | apply below_drew1 | refine below_set ?_ GE220.out) | exact HB.out))); (case aF => exact (fun k_ hk => Kd.fresh' (Kd.R_lt (by (with_reducible repeat (first | apply Kd.R_alloc | apply Kd.R_drewN | apply Kd.R_drew)); exact HO235.out)) k_ hk)); (case aO => exact (by (with_reducible repeat (first | apply Kd.R_alloc | apply Kd.R_drewN | apply Kd.R_drew)); exact HO238.out)); (case aS => exact (below_size (by repeat (first | (with_reducible first | exact HB.out | apply below_alloc | apply pw_below_drewN | apply below_drew1 | refine below_set ?_ GE220.out) | exact HB.out)))); (case aL => have := LMc19.out; omega); intro v240 w28 ho hb hg hat; rw [← Ny239.out] at ho; have n0_ := Aside0.mk (blk_grown (g := gb220) (o := .cells #[.int .i64 a0_0, .int .i64 a0_1, .int .i64 a0_2, .int .u64 a0_3, .int .u64 a0_4, .int .u64 a0_5] 90 (0, 0)) (by (with_reducible repeat (first | refine blk_drewN ?_ _ | refine blk_drew ?_ | refine blk_alloc ?_ _)); exact BK220.out) hg (Kd.R_ne HO238.out BK220.out (by decide))); have n1_ := Aside0.mk (Kd.R_after (ok := (fun _ => True)) (by (with_reducible repeat (first | apply Kd.R_alloc | apply Kd.R_drewN | apply Kd.R_drew)); exact HO235.out) hg hat); have n2_ := Aside0.mk (hb); have n3_ := Aside0.mk (ho); clear BK220; clear HO235; clear HB; clear HO238; have BK220 := n0_; have HO235 := n1_; have HB := n2_; have HO241 := n3_; clear n0_ n1_ n2_ n3_; clear ho hb hg hat) | ((with_reducible refine gate_builtin (b := .append) (xs := #[.tmp 33, .tmp 34]) rfl ?_); at_builtin; refine Kd.R_append_rows (Kd.int .u8) (w0 := w) w.heap.size rfl (.tmp 33) (.tmp 34) 28 5 (.int .u8 0) 1 rfl Tryd.underlying28 info5 rfl (by decide) (by omega) v240 y239 l2 _ _ _ (fun k_ => some k_ ≠ (.slice Ao27 t233.length co27 : Value).ownBlock) (fun _ => False) rfl rfl ?aO ?aR (fun _ _ h => h) (fun _ h => h.elim) ?aF ?aB ?aS ?aL ?_; (case aR => repeat (first | exact (Kd.C_below HR2.out HB.out) | (with_reducible refine Kd.C_alloc ?_ _) | (with_reducible refine Kd.C_drewN ?_ _) | (with_reducible refine Kd.C_drew ?_))); (case aB => exact (by repeat (first | (with_reducible first | exact HB.out | apply below_alloc | apply pw_below_drewN | apply below_drew1 | refine below_set ?_ GE220.out) | exact HB.out))); (case aF => exact (fun k_ hk => Kd.fresh' (Kd.R_lt (by (with_reducible repeat (first | apply Kd.R_alloc | apply Kd.R_drewN | apply Kd.R_drew)); exact HO235.out)) k_ hk)); (case aO => exact (by (with_reducible repeat (first | apply Kd.R_alloc | apply Kd.R_drewN | apply Kd.R_drew)); exact HO241.out)); (case aS => exact (below_size (by repeat (first | (with_reducible first | exact HB.out | apply below_alloc | apply pw_below_drewN | apply below_drew1 | refine below_set ?_ GE220.out) | exact HB.out)))); (case aL => have := LMc20.out; omega); intro v243 w29 ho hb hg hat; rw [← Ny242.out] at ho; have n0_ := Aside0.mk (blk_grown (g := gb220) (o := .cells #[.int .i64 a0_0, .int .i64 a0_1, .int .i64 a0_2, .int .u64 a0_3, .int .u64 a0_4, .int .u64 a0_5] 90 (0, 0)) (by (with_reducible repeat (first | refine blk_drewN ?_ _ | refine blk_drew ?_ | refine blk_alloc ?_ _)); exact BK220.out) hg (Kd.R_ne HO241.out BK220.out (by decide))); have n1_ := Aside0.mk (Kd.R_after (ok := (fun _ => True)) (by (with_reducible repeat (first | apply Kd.R_alloc | apply Kd.R_drewN | apply Kd.R_drew)); exact HO235.out) hg hat); have n2_ := Aside0.mk (hb); have n3_ := Aside0.mk (ho); clear BK220; clear HO235; clear HB; clear HO241; have BK220 := n0_; have HO235 := n1_; have HB := n2_; have HO244 := n3_; clear n0_ n1_ n2_ n3_; clear ho hb hg hat))
          go_ret
          exact ⟨_, by first | rfl | (simp [errW_none, errW_some] <;> rfl) | (simp [*, errW_none, errW_some] <;> rfl), by (with_reducible repeat (first | apply Kd.R_alloc | apply Kd.R_drewN | apply Kd.R_drew)); exact Kd.R_mono HO244.out (fun _ hk => trivial), by repeat (first | (with_reducible first | exact HB.out | apply below_alloc | apply pw_below_drewN | apply below_drew1 | refine below_set ?_ GE220.out) | exact HB.out)⟩
        · rw [if_neg c20] at H
          exact absurd H (by simp)
      · rw [if_neg c19] at H
        exact absurd H (by simp)
    · rw [if_neg c18] at H
      exact absurd H (by simp)

/-! ### impl_toy_Size: function 138 -/
def impl_toy_Size.f (a0_0 : Int) (a0_1 : Int) (a0_2 : Int) (a0_3 : Int) (a0_4 : Int) (a0_5 : Int) : Option (Int) := some a0_1
set_option maxHeartbeats 8000000 in
set_option maxRecDepth 100000 in
theorem impl_toy_Size.calls (a0_0 : Int) (a0_1 : Int) (a0_2 : Int) (a0_3 : Int) (a0_4 : Int) (a0_5 : Int) (r : Int) (w : World) (h : impl_toy_Size.f a0_0 a0_1 a0_2 a0_3 a0_4 a0_5 = some r) :
    Calls Tryd.prog 138 #[.agg #[.int .i64 a0_0, .int .i64 a0_1, .int .i64 a0_2, .int .u64 a0_3, .int .u64 a0_4, .int .u64 a0_5]] w fun e w' => e = .returned (.int .i64 r) ∧ Below w.heap.size w w' := by
  have hu90 := Tryd.underlying90
  have HB := Aside0.mk (Below.refl w.heap.size w)
  have H : (some a0_1) = some r := h
  clear h
  obtain rfl := Option.some.inj H
  go_enter Tryd.func138, Tryd.ntmps138
  go_wp2_with (first | ((with_reducible refine gate_dst (N := 1) rfl ?_); refine box_event ?hg (N := 1) ?hd (cs := #[.int .i64 a0_0, .int .i64 a0_1, .int .i64 a0_2, .int .u64 a0_3, .int .u64 a0_4, .int .u64 a0_5]) (t := 90) ?hr ?_; (case hd => rfl); (case hg => rfl); (case hr => first | (go_simp; done) | (go_simp; rfl)); intro gb245 hg w2 hbox hb; have n0_ := Aside0.mk (below_step (by repeat (first | (with_reducible first | exact HB.out | apply below_alloc | apply pw_below_drewN | apply below_drew1) | exact HB.out)) hb); have n1_ := Aside0.mk (hbox); have n2_ := Aside0.mk ((by rw [hg]; exact (below_size (by repeat (first | (with_reducible first | exact HB.out | apply below_alloc | apply pw_below_drewN | apply below_drew1) | exact HB.out))) : w.heap.size ≤ gb245)); have n3_ := Aside0.mk ((by rw [hg]; exact (below_size (by repeat (first | (with_reducible first | exact HB.out | apply below_alloc | apply pw_below_drewN | apply below_drew1) | exact HB.out))) : w.heap.size ≤ gb245)); clear HB; have HB := n0_; have BK245 := n1_; have GW245 := n2_; have GE245 := n3_; clear n0_ n1_ n2_ n3_; clear hb hbox hg; have hcz3_0 : w2.cell? ⟨gb245, 0, none⟩ = some (.int .i64 a0_0) := (blk_cell BK245.out 0).trans rfl; have hcz3_1 : w2.cell? ⟨gb245, 1, none⟩ = some (.int .i64 a0_1) := (blk_cell BK245.out 1).trans rfl; have hcz3_2 : w2.cell? ⟨gb245, 2, none⟩ = some (.int .i64 a0_2) := (blk_cell BK245.out 2).trans rfl; have hcz3_3 : w2.cell? ⟨gb245, 3, none⟩ = some (.int .u64 a0_3) := (blk_cell BK245.out 3).trans rfl; have hcz3_4 : w2.cell? ⟨gb245, 4, none⟩ = some (.int .u64 a0_4) := (blk_cell BK245.out 4).trans rfl; have hcz3_5 : w2.cell? ⟨gb245, 5, none⟩ = some (.int .u64 a0_5) := (blk_cell BK245.out 5).trans rfl; have hfz3_0 := blk_frozen BK245.out 0; have hfz3_1 := blk_frozen BK245.out 1; have hfz3_2 := blk_frozen BK245.out 2; have hfz3_3 := blk_frozen BK245.out 3; have hfz3_4 := blk_frozen BK245.out 4; have hfz3_5 := blk_frozen BK245.out 5))
  go_ret
  exact ⟨by first | rfl | (simp [errW_none, errW_some] <;> rfl) | (simp [*, errW_none, errW_some] <;> rfl), by repeat (first | (with_reducible first | exact HB.out | apply below_alloc | apply pw_below_drewN | apply below_drew1 | refine below_set ?_ GE245.out) | exact HB.out)⟩

end Go.Proofs.YtfhcpniibiobgaaDoor.Qf
