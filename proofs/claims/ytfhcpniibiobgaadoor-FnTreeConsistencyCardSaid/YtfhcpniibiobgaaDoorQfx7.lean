-- Written by wip/tools/myprint.py for this seat (the kit's print with changes); Lean checks it.
import Derived.Test.YtfhcpniibiobgaaDoorQfx0
import Derived.Test.YtfhcpniibiobgaaDoorQfx4
namespace Go.Proofs.YtfhcpniibiobgaaDoor.Qf
open Go.RowKit Go.Proofs.YtfhcpniibiobgaaDoorW.PrintWords Go.Proofs.YtfhcpniibiobgaaDoorW.PrintLast Go.Proofs.YtfhcpniibiobgaaDoorW.PrintMore
attribute [local go_sem] max2_int min2_int max_two min_two max_three min_three max_four min_four   -- for this text's walks alone
set_option linter.unusedVariables false
set_option linter.unusedSimpArgs false

/-! ### spec_proofIn: function 96 -/
def spec_proofIn.f : Nat → Int → Int → Int → Bool → Option ((List (S55)))
  | 0, _, _, _, _ => none
  | k + 1, a0, a1_0, a1_1, a2 => if a0 = a1_1 then (if a2 = true then (some ([] : List (S55))) else (some (([(⟨a1_0, a1_1⟩ : S55)] : List (S55))))) else ((spec_split.f k (IntKind.u64.wrap (a1_1 - a1_0))).bind fun t304 => (if a0 ≤ (IntKind.u64.wrap (a1_0 + t304)) then ((spec_proofIn.f k a0 a1_0 (IntKind.u64.wrap (a1_0 + t304)) a2).bind fun t305 => ((some (([(⟨IntKind.u64.wrap (a1_0 + t304), a1_1⟩ : S55)] : List (S55)) : List (S55))).bind fun y308 => (if t305.length + y308.length < 8796093022208 then (some (t305 ++ y308)) else (none)))) else ((spec_proofIn.f k a0 (IntKind.u64.wrap (a1_0 + t304)) a1_1 false).bind fun t314 => ((some (([(⟨a1_0, IntKind.u64.wrap (a1_0 + t304)⟩ : S55)] : List (S55)) : List (S55))).bind fun y317 => (if t314.length + y317.length < 8796093022208 then (some (t314 ++ y317)) else (none))))))
theorem spec_proofIn.mono_l : ∀ k, (∀ y0 y1 y2 y3, LeO (spec_proofIn.f k y0 y1 y2 y3) (spec_proofIn.f (k + 1) y0 y1 y2 y3))
  | 0 => fun _ _ _ _ r h => by simp [spec_proofIn.f] at h
  | k + 1 => by
    have ih0 := spec_proofIn.mono_l k
    · intro y0 y1 y2 y3
      unfold spec_proofIn.f
      repeat' first
      | (with_reducible exact ih0 _ _ _ _)
      | (with_reducible exact spec_split.mono _ _)
      | (with_reducible exact LeO.refl _)
      | (with_reducible exact LeO.none _)
      | (with_reducible refine LeO.ite ?_ ?_)
      | (with_reducible refine LeO.bind ?_ (fun _ => ?_))
      | exact ih0 _ _ _ _
      | exact spec_split.mono _ _
      | exact LeO.none _
      | refine LeO.ite ?_ ?_
      | refine LeO.bind ?_ (fun _ => ?_)
theorem spec_proofIn.mono : ∀ a0 a1 a2 a3 k, LeO (spec_proofIn.f k a0 a1 a2 a3) (spec_proofIn.f (k + 1) a0 a1 a2 a3) := by
  intro a0 a1 a2 a3 k
  have ih0 := spec_proofIn.mono_l k
  exact ih0 a0 a1 a2 a3
def spec_proofIn.T5 : Bool × List (List Nat × List Nat) := (true, [([], []), ([0], [0]), ([], []), ([2], [2]), ([], []), ([4], [4]), ([3, 5], [3, 5]), ([6], [6]), ([1, 7], [1, 7]), ([8, 7, 0, 1, 2, 3, 4, 5, 6, 7, 8], [8])])
def spec_proofIn.B5 : List Nat := [0, 1, 0, 4, 0, 16, 60, 124, 255, 511]
theorem spec_proofIn.tab5 : rtab .any (opsOf Tryd.f96 5) = spec_proofIn.T5 := by kernel_rfl
theorem spec_proofIn.bits5 : waitsOk spec_proofIn.T5.2 spec_proofIn.B5 = true := by kernel_rfl
def spec_proofIn.T7 : Bool × List (List Nat × List Nat) := (true, [([], []), ([], []), ([1], [1]), ([], []), ([2, 3], [2, 3]), ([], []), ([0, 4, 5], [0, 4, 5]), ([], []), ([], []), ([8], [8]), ([7, 9], [7, 9]), ([10], [10]), ([6, 11, 6], [6, 11]), ([12, 12, 0, 1, 2, 3, 4, 5, 6, 7, 8, 9, 10, 11, 12], [12])])
def spec_proofIn.B7 : List Nat := [0, 0, 2, 0, 14, 0, 63, 0, 0, 256, 896, 1920, 4095, 8191]
theorem spec_proofIn.tab7 : rtab .any (opsOf Tryd.f96 7) = spec_proofIn.T7 := by kernel_rfl
theorem spec_proofIn.bits7 : waitsOk spec_proofIn.T7.2 spec_proofIn.B7 = true := by kernel_rfl
def spec_proofIn.T8 : Bool × List (List Nat × List Nat) := (true, [([], []), ([], []), ([], []), ([2], [2]), ([1, 3], [1, 3]), ([0, 4], [0, 4]), ([], []), ([6], [6]), ([], []), ([7, 8], [7, 8]), ([9], [9]), ([5, 10, 5], [5, 10]), ([11, 11, 0, 1, 2, 3, 4, 5, 6, 7, 8, 9, 10, 11], [11])])
def spec_proofIn.B8 : List Nat := [0, 0, 0, 4, 14, 31, 0, 64, 0, 448, 960, 2047, 4095]
theorem spec_proofIn.tab8 : rtab .any (opsOf Tryd.f96 8) = spec_proofIn.T8 := by kernel_rfl
theorem spec_proofIn.bits8 : waitsOk spec_proofIn.T8.2 spec_proofIn.B8 = true := by kernel_rfl
set_option maxHeartbeats 8000000 in
set_option maxRecDepth 100000 in
theorem spec_proofIn.calls (k : Nat) : ∀ (a0 : Int) (a1_0 : Int) (a1_1 : Int) (a2 : Bool) (r : List (S55)) (w : World) (h : spec_proofIn.f k a0 a1_0 a1_1 a2 = some r),
    Calls Tryd.prog 96 #[.int .u64 a0, .agg #[.int .u64 a1_0, .int .u64 a1_1], .bool a2] w fun e w' => ∃ v0_ : Value, e = .returned (v0_) ∧ Kd.R k55 55 w' w.heap.size (fun _ => True) v0_ r ∧ Below w.heap.size w w' := by
  induction k using Nat.strongRecOn with
  | _ k ih =>
  intro a0 a1_0 a1_1 a2 r w h
  cases k with
  | zero => exact absurd h (by simp [spec_proofIn.f])
  | succ k =>
  simp only [spec_proofIn.f] at h
  have hu55 := Tryd.underlying55
  have HB := Aside0.mk (Below.refl w.heap.size w)
  have H : (if a0 = a1_1 then (if a2 = true then (some ([] : List (S55))) else (some (([(⟨a1_0, a1_1⟩ : S55)] : List (S55))))) else ((spec_split.f k (IntKind.u64.wrap (a1_1 - a1_0))).bind fun t304 => (if a0 ≤ (IntKind.u64.wrap (a1_0 + t304)) then ((spec_proofIn.f k a0 a1_0 (IntKind.u64.wrap (a1_0 + t304)) a2).bind fun t305 => ((some (([(⟨IntKind.u64.wrap (a1_0 + t304), a1_1⟩ : S55)] : List (S55)) : List (S55))).bind fun y308 => (if t305.length + y308.length < 8796093022208 then (some (t305 ++ y308)) else (none)))) else ((spec_proofIn.f k a0 (IntKind.u64.wrap (a1_0 + t304)) a1_1 false).bind fun t314 => ((some (([(⟨a1_0, IntKind.u64.wrap (a1_0 + t304)⟩ : S55)] : List (S55)) : List (S55))).bind fun y317 => (if t314.length + y317.length < 8796093022208 then (some (t314 ++ y317)) else (none))))))) = some r := h
  clear h
  by_cases c4 : a0 = a1_1
  · rw [if_pos c4] at H
    have c4b0 : (a0 == a1_1) = true := beq_iff_eq.mpr c4
    have c4b1 : (a0 != a1_1) = false := bne_eq_false_iff_eq.mpr c4
    clear c4
    by_cases c5 : a2 = true
    · subst c5
      have H1 : (some ([] : List (S55))) = some r := by rw [if_pos rfl] at H; exact H
      clear H
      have H := H1
      clear H1
      obtain rfl := Option.some.inj H
      go_enter Tryd.func96, Tryd.ntmps96
      go_wp2_with (first | ((with_reducible refine gate_dst (N := 4) rfl ?_); refine box_event ?hg (N := 4) ?hd (cs := #[.int .u64 a1_0, .int .u64 a1_1]) (t := 55) ?hr ?_; (case hd => rfl); (case hg => rfl); (case hr => first | (go_simp; done) | (go_simp; rfl)); intro gb300 hg w6 hbox hb; have n0_ := Aside0.mk (below_step (by repeat (first | (with_reducible first | exact HB.out | apply below_alloc | apply pw_below_drewN | apply below_drew1) | exact HB.out)) hb); have n1_ := Aside0.mk (hbox); have n2_ := Aside0.mk ((by rw [hg]; exact (below_size (by repeat (first | (with_reducible first | exact HB.out | apply below_alloc | apply pw_below_drewN | apply below_drew1) | exact HB.out))) : w.heap.size ≤ gb300)); have n3_ := Aside0.mk ((by rw [hg]; exact (below_size (by repeat (first | (with_reducible first | exact HB.out | apply below_alloc | apply pw_below_drewN | apply below_drew1) | exact HB.out))) : w.heap.size ≤ gb300)); clear HB; have HB := n0_; have BK300 := n1_; have GW300 := n2_; have GE300 := n3_; clear n0_ n1_ n2_ n3_; clear hb hbox hg; have hcz7_0 : w6.cell? ⟨gb300, 0, none⟩ = some (.int .u64 a1_0) := (blk_cell BK300.out 0).trans rfl; have hcz7_1 : w6.cell? ⟨gb300, 1, none⟩ = some (.int .u64 a1_1) := (blk_cell BK300.out 1).trans rfl; have hfz7_0 := blk_frozen BK300.out 0; have hfz7_1 := blk_frozen BK300.out 1))
      go_ret
      exact ⟨_, by first | rfl | (simp [errW_none, errW_some] <;> rfl) | (simp [*, errW_none, errW_some] <;> rfl), by first | exact Kd.R_nil _ _ _ _ _ | exact Kd.N_nil _ _ _ _ _ | exact Kd.V_nil _ _ _ _ _ | exact Kd.Q_nil _ _ _ _ _ | exact Kd.S_nil _ _ _ _ _, by repeat (first | (with_reducible first | exact HB.out | apply below_alloc | apply pw_below_drewN | apply below_drew1 | refine below_set ?_ GE300.out) | exact HB.out)⟩
    · replace c5 := Bool.eq_false_iff.mpr c5
      subst c5
      have H1 : (some (([(⟨a1_0, a1_1⟩ : S55)] : List (S55)))) = some r := by rw [if_neg (show ¬ (false = true) by decide)] at H; exact H
      clear H
      have H := H1
      clear H1
      obtain ⟨y301, hy301⟩ : ∃ y_ : List (S55), y_ = (([(⟨a1_0, a1_1⟩ : S55)] : List (S55))) := ⟨_, rfl⟩
      replace H : (some y301) = some r := by first | (rw [hy301]; with_reducible exact H) | (have H2_ := (Option.bind_some _ _).symm.trans H; rw [hy301]; with_reducible exact H2_) | (have H2_ := (Option.bind_some _ _).symm.trans H; with_reducible exact H2_) | with_reducible exact H | (rw [hy301]; exact H) | exact H
      have Ny301 := Aside0.mk hy301
      clear hy301
      obtain rfl := Option.some.inj H
      go_enter Tryd.func96, Tryd.ntmps96
      go_wp2_with (first | ((with_reducible refine gate_dst (N := 4) rfl ?_); refine box_event ?hg (N := 4) ?hd (cs := #[.int .u64 a1_0, .int .u64 a1_1]) (t := 55) ?hr ?_; (case hd => rfl); (case hg => rfl); (case hr => first | (go_simp; done) | (go_simp; rfl)); intro gb300 hg w8 hbox hb; have n0_ := Aside0.mk (below_step (by repeat (first | (with_reducible first | exact HB.out | apply below_alloc | apply pw_below_drewN | apply below_drew1) | exact HB.out)) hb); have n1_ := Aside0.mk (hbox); have n2_ := Aside0.mk ((by rw [hg]; exact (below_size (by repeat (first | (with_reducible first | exact HB.out | apply below_alloc | apply pw_below_drewN | apply below_drew1) | exact HB.out))) : w.heap.size ≤ gb300)); have n3_ := Aside0.mk ((by rw [hg]; exact (below_size (by repeat (first | (with_reducible first | exact HB.out | apply below_alloc | apply pw_below_drewN | apply below_drew1) | exact HB.out))) : w.heap.size ≤ gb300)); clear HB; have HB := n0_; have BK300 := n1_; have GW300 := n2_; have GE300 := n3_; clear n0_ n1_ n2_ n3_; clear hb hbox hg; have hcz9_0 : w8.cell? ⟨gb300, 0, none⟩ = some (.int .u64 a1_0) := (blk_cell BK300.out 0).trans rfl; have hcz9_1 : w8.cell? ⟨gb300, 1, none⟩ = some (.int .u64 a1_1) := (blk_cell BK300.out 1).trans rfl; have hfz9_0 := blk_frozen BK300.out 0; have hfz9_1 := blk_frozen BK300.out 1) | ((with_reducible refine gate_dst (N := 14) rfl ?_); refine Kd.R_lit k55 _ 55 ?hg (N := 14) ?hd (xs := ([(⟨a1_0, a1_1⟩ : S55)] : List (S55))) (inner := [.int .u64 a1_0, .int .u64 a1_1]) (ok := fun _ => True) (okp := fun _ => True) ?hr ?hp (fun _ hk => hk) trivial (Below.refl _ _) (Nat.le_refl _) (by simp) ?_; (case hd => rfl); (case hg => rfl); (case hr => first | (go_simp; done) | (go_simp; rfl)); (case hp => exact (Reps.c2 (show Kd.M k55 _ _ _ (⟨a1_0, a1_1⟩ : S55) [.int .u64 a1_0, .int .u64 a1_1] from (k55_mkM _ _ _ (⟨a1_0, a1_1⟩ : S55) )) (Reps.none _ _))); intro v302 w10 ho11 hb hg_ hnew_; clear hg_ hnew_; (first | rw [← Ny301.out] at ho11 | (simp only [Int.reduceToNat] at ho11; rw [← Ny301.out] at ho11)); have n0_ := Aside0.mk (Kd.R_lower (Kd.R_newB ho11 (g := gb300) (o := .cells #[.int .u64 a1_0, .int .u64 a1_1] 55 (0, 0)) (by (with_reducible repeat (first | refine blk_drewN ?_ _ | refine blk_drew ?_ | refine blk_alloc ?_ _)); exact BK300.out)) (below_size (by repeat (first | (with_reducible first | exact HB.out | apply below_alloc | apply pw_below_drewN | apply below_drew1 | refine below_set ?_ GE300.out) | exact HB.out)))); have n1_ := Aside0.mk (blk_below (g := gb300) (o := .cells #[.int .u64 a1_0, .int .u64 a1_1] 55 (0, 0)) (by (with_reducible repeat (first | refine blk_drewN ?_ _ | refine blk_drew ?_ | refine blk_alloc ?_ _)); exact BK300.out) hb); have n2_ := Aside0.mk (below_step (by repeat (first | (with_reducible first | exact HB.out | apply below_alloc | apply pw_below_drewN | apply below_drew1 | refine below_set ?_ GE300.out) | exact HB.out)) hb); clear BK300; clear HB; have HO303 := n0_; have BK300 := n1_; have HB := n2_; clear n0_ n1_ n2_; clear hb ho11))
      go_ret
      exact ⟨_, by first | rfl | (simp [errW_none, errW_some] <;> rfl) | (simp [*, errW_none, errW_some] <;> rfl), by (with_reducible repeat (first | apply Kd.R_alloc | apply Kd.R_drewN | apply Kd.R_drew)); exact Kd.R_mono HO303.out (fun _ hk => trivial), by repeat (first | (with_reducible first | exact HB.out | apply below_alloc | apply pw_below_drewN | apply below_drew1 | refine below_set ?_ GE300.out) | exact HB.out)⟩
  · rw [if_neg c4] at H
    have c4b0 : (a0 == a1_1) = false := beq_eq_false_iff_ne.mpr c4
    have c4b1 : (a0 != a1_1) = true := bne_iff_ne.mpr c4
    replace H := Option.bind_eq_some_iff.mp H
    obtain ⟨t304, A120, H⟩ := H
    replace H : (if a0 ≤ (IntKind.u64.wrap (a1_0 + t304)) then ((spec_proofIn.f k a0 a1_0 (IntKind.u64.wrap (a1_0 + t304)) a2).bind fun t305 => ((some (([(⟨IntKind.u64.wrap (a1_0 + t304), a1_1⟩ : S55)] : List (S55)) : List (S55))).bind fun y308 => (if t305.length + y308.length < 8796093022208 then (some (t305 ++ y308)) else (none)))) else ((spec_proofIn.f k a0 (IntKind.u64.wrap (a1_0 + t304)) a1_1 false).bind fun t314 => ((some (([(⟨a1_0, IntKind.u64.wrap (a1_0 + t304)⟩ : S55)] : List (S55)) : List (S55))).bind fun y317 => (if t314.length + y317.length < 8796093022208 then (some (t314 ++ y317)) else (none))))) = some r := H
    have A12 := Aside0.mk A120
    clear A120
    by_cases c13 : a0 ≤ (IntKind.u64.wrap (a1_0 + t304))
    · rw [if_pos c13] at H
      have c13b0 : decide (a0 ≤ (IntKind.u64.wrap (a1_0 + t304))) = true := decide_eq_true c13
      clear c13
      replace H := Option.bind_eq_some_iff.mp H
      obtain ⟨t305, A140, H⟩ := H
      replace H : ((some (([(⟨IntKind.u64.wrap (a1_0 + t304), a1_1⟩ : S55)] : List (S55)) : List (S55))).bind fun y308 => (if t305.length + y308.length < 8796093022208 then (some (t305 ++ y308)) else (none))) = some r := H
      have A14 := Aside0.mk A140
      clear A140
      obtain ⟨y308, hy308⟩ : ∃ y_ : List (S55), y_ = (([(⟨IntKind.u64.wrap (a1_0 + t304), a1_1⟩ : S55)] : List (S55))) := ⟨_, rfl⟩
      replace H : (if t305.length + y308.length < 8796093022208 then (some (t305 ++ y308)) else (none)) = some r := by first | (rw [hy308]; with_reducible exact H) | (have H2_ := (Option.bind_some _ _).symm.trans H; rw [hy308]; with_reducible exact H2_) | (have H2_ := (Option.bind_some _ _).symm.trans H; with_reducible exact H2_) | with_reducible exact H | (rw [hy308]; exact H) | exact H
      have Ny308 := Aside0.mk hy308
      clear hy308
      by_cases c15 : t305.length + y308.length < 8796093022208
      · rw [if_pos c15] at H
        have LMc15 := Aside0.mk c15
        clear c15
        obtain ⟨y311, hy311⟩ : ∃ y_ : List (S55), y_ = (t305 ++ y308) := ⟨_, rfl⟩
        replace H : (some y311) = some r := by first | (rw [hy311]; with_reducible exact H) | (have H2_ := (Option.bind_some _ _).symm.trans H; rw [hy311]; with_reducible exact H2_) | (have H2_ := (Option.bind_some _ _).symm.trans H; with_reducible exact H2_) | with_reducible exact H | (rw [hy311]; exact H) | exact H
        have Ny311 := Aside0.mk hy311
        clear hy311
        obtain rfl := Option.some.inj H
        go_enter Tryd.func96, Tryd.ntmps96
        try go_wp2_with (first | ((with_reducible refine gate_dst (N := 4) rfl ?_); refine box_event ?hg (N := 4) ?hd (cs := #[.int .u64 a1_0, .int .u64 a1_1]) (t := 55) ?hr ?_; (case hd => rfl); (case hg => rfl); (case hr => first | (go_simp; done) | (go_simp; rfl)); intro gb300 hg w16 hbox hb; have n0_ := Aside0.mk (below_step (by repeat (first | (with_reducible first | exact HB.out | apply below_alloc | apply pw_below_drewN | apply below_drew1) | exact HB.out)) hb); have n1_ := Aside0.mk (hbox); have n2_ := Aside0.mk ((by rw [hg]; exact (below_size (by repeat (first | (with_reducible first | exact HB.out | apply below_alloc | apply pw_below_drewN | apply below_drew1) | exact HB.out))) : w.heap.size ≤ gb300)); have n3_ := Aside0.mk ((by rw [hg]; exact (below_size (by repeat (first | (with_reducible first | exact HB.out | apply below_alloc | apply pw_below_drewN | apply below_drew1) | exact HB.out))) : w.heap.size ≤ gb300)); clear HB; have HB := n0_; have BK300 := n1_; have GW300 := n2_; have GE300 := n3_; clear n0_ n1_ n2_ n3_; clear hb hbox hg; have hcz17_0 : w16.cell? ⟨gb300, 0, none⟩ = some (.int .u64 a1_0) := (blk_cell BK300.out 0).trans rfl; have hcz17_1 : w16.cell? ⟨gb300, 1, none⟩ = some (.int .u64 a1_1) := (blk_cell BK300.out 1).trans rfl; have hfz17_0 := blk_frozen BK300.out 0; have hfz17_1 := blk_frozen BK300.out 1))
        have n0_ := Aside0.mk (blk_drew BK300.out)
        have n1_ := Aside0.mk (below_drew1 HB.out)
        clear BK300
        clear HB
        have BK300 := n0_
        have HB := n1_
        clear n0_ n1_
        refine start_ (n := 10) (S := fun w' => w'.cell? ⟨gb300, 0, none⟩ = some (.int .u64 a1_0) ∧ w'.cell? ⟨gb300, 1, none⟩ = some (.int .u64 a1_1)) (ds := []) #[false, false, false, false, false, false, false, false, false, false] (by kernel_rfl) rfl rfl ⟨(blk_cell BK300.out 0).trans rfl, (blk_cell BK300.out 1).trans rfl⟩ (fun hHeld => ?_); refine with_tabW spec_proofIn.tab5 spec_proofIn.bits5 (fun HT_ HW_ => ?_)
        generalize w16.drew = w18 at BK300 HB hHeld ⊢
        refine pure_ (i := 0) (N := some 15) (v := ?_) (a' := ?_) #[true, false, false, false, false, false, false, false, false, false] rfl rfl (any_of HT_.out (by kernel_rfl)) (fun _ _ _ h => h) (Or.inl ⟨by rfl, ?_⟩) ?_ ?_
        rotate_left
        · intro w'
          go_simp
          with_reducible rfl
        rotate_left
        · simp only [Act.put, List.setIfInBounds_toArray, List.set_cons_zero, List.set_cons_succ, i64_w, i32_w]
          rfl
        refine pure_ (i := 2) (N := some 17) (v := ?_) (a' := ?_) #[true, false, true, false, false, false, false, false, false, false] rfl rfl (any_of HT_.out (by kernel_rfl)) (fun _ _ _ h => h) (Or.inl ⟨by rfl, ?_⟩) ?_ ?_
        rotate_left
        · intro w'
          go_simp
          with_reducible rfl
        rotate_left
        · simp only [Act.put, List.setIfInBounds_toArray, List.set_cons_zero, List.set_cons_succ, i64_w, i32_w]
          rfl
        refine pure_ (i := 4) (N := some 19) (v := ?_) (a' := ?_) #[true, false, true, false, true, false, false, false, false, false] rfl rfl (any_of HT_.out (by kernel_rfl)) (fun _ _ _ h => h) (Or.inl ⟨by rfl, ?_⟩) ?_ ?_
        rotate_left
        · intro w'
          go_simp
          with_reducible rfl
        rotate_left
        · simp only [Act.put, List.setIfInBounds_toArray, List.set_cons_zero, List.set_cons_succ, i64_w, i32_w]
          rfl
        refine take_ (i := 1) (N := some 16) (v := ?_) (a' := ?_) #[true, true, true, false, true, false, false, false, false, false] rfl rfl (take_ofW HT_.out HW_.out (by kernel_rfl)) (fun _ _ _ h => h) (Or.inl ⟨by rfl, ?_⟩) hHeld ?_ ?_
        rotate_left
        · rintro w' ⟨s0, s1⟩
          go_simp
          with_reducible rfl
        rotate_left
        · simp only [Act.put, List.setIfInBounds_toArray, List.set_cons_zero, List.set_cons_succ, i64_w, i32_w]
          rfl
        refine take_ (i := 3) (N := some 18) (v := ?_) (a' := ?_) #[true, true, true, true, true, false, false, false, false, false] rfl rfl (take_ofW HT_.out HW_.out (by kernel_rfl)) (fun _ _ _ h => h) (Or.inl ⟨by rfl, ?_⟩) hHeld ?_ ?_
        rotate_left
        · rintro w' ⟨s0, s1⟩
          go_simp
          with_reducible rfl
        rotate_left
        · simp only [Act.put, List.setIfInBounds_toArray, List.set_cons_zero, List.set_cons_succ, i64_w, i32_w]
          rfl
        refine take_ (i := 5) (N := some 20) (v := ?_) (a' := ?_) #[true, true, true, true, true, true, false, false, false, false] rfl rfl (take_ofW HT_.out HW_.out (by kernel_rfl)) (fun _ _ _ h => h) (Or.inl ⟨by rfl, ?_⟩) hHeld ?_ ?_
        rotate_left
        · rintro w' ⟨s0, s1⟩
          go_simp
          with_reducible rfl
        rotate_left
        · simp only [Act.put, List.setIfInBounds_toArray, List.set_cons_zero, List.set_cons_succ, i64_w, i32_w]
          rfl
        refine pure_ (i := 6) (N := some 21) (v := ?_) (a' := ?_) #[true, true, true, true, true, true, true, false, false, false] rfl rfl (any_of HT_.out (by kernel_rfl)) (fun _ _ _ h => h) (Or.inl ⟨by rfl, ?_⟩) ?_ ?_
        rotate_left
        · intro w'
          go_simp
          with_reducible rfl
        rotate_left
        · simp only [Act.put, List.setIfInBounds_toArray, List.set_cons_zero, List.set_cons_succ, i64_w, i32_w]
          rfl
        refine one_ (i := 7) (N := some 22) #[true, true, true, true, true, true, true, true, false, false] rfl rfl (one_of HT_.out (by kernel_rfl)) (by decide) (fun K hK => ?_)
        refine goes_ Tryd.func76 (by kernel_rfl) rfl #[.int .u64 (IntKind.u64.wrap (a1_1 - a1_0))] (by rfl) rfl rfl (by (try simp only [List.map_toArray, List.map_cons, List.map_nil]); first | done | rfl | (simp only [List.length_drop, List.length_take]; rfl)) ?_
        with_reducible refine (spec_split.calls k (IntKind.u64.wrap (a1_1 - a1_0)) t304 _ A12.out).mono ?_
        rintro e w' ⟨rfl, ⟨nd, rfl⟩⟩
        refine ⟨_, rfl, ?_⟩
        refine hK.out _ _ ⟨(blk_cell BK300.out 0).trans rfl, (blk_cell BK300.out 1).trans rfl⟩ (fun hHeld => ?_)
        clear hK K
        refine norm_ (a' := ?_) ?_ ?_
        rotate_left
        · show Act.put _ (some 22) _ = _
          simp only [Act.put, List.setIfInBounds_toArray, List.set_cons_zero, List.set_cons_succ, i64_w, i32_w]
          rfl
        refine pure_ (i := 8) (N := some 23) (v := ?_) (a' := ?_) #[true, true, true, true, true, true, true, true, true, false] rfl rfl (any_of HT_.out (by kernel_rfl)) (fun _ _ _ h => h) (Or.inl ⟨by rfl, ?_⟩) ?_ ?_
        rotate_left
        · intro w'
          go_simp
          with_reducible rfl
        rotate_left
        · simp only [Act.put, List.setIfInBounds_toArray, List.set_cons_zero, List.set_cons_succ, i64_w, i32_w]
          rfl
        refine pure_ (i := 9) (N := some 7) (v := ?_) (a' := ?_) #[true, true, true, true, true, true, true, true, true, true] rfl rfl (any_of HT_.out (by kernel_rfl)) (fun _ _ _ h => h) (Or.inl ⟨by rfl, ?_⟩) ?_ ?_
        rotate_left
        · intro w'
          go_simp
          with_reducible rfl
        rotate_left
        · simp only [Act.put, List.setIfInBounds_toArray, List.set_cons_zero, List.set_cons_succ, i64_w, i32_w]
          rfl
        refine done_ (done_of HT_.out (by kernel_rfl)) ?_
        try go_wp2
        (try (rw [drewN_self w18]; generalize hq_ : World.drewN w18 _ = w18; have n0_ : Aside0 (w18.heap[gb300]? = some (.cells #[.int .u64 a1_0, .int .u64 a1_1] 55 (0, 0))) := ⟨by rw [← hq_]; exact (by (with_reducible repeat (first | refine blk_drewN ?_ _ | refine blk_drew ?_ | refine blk_alloc ?_ _)); exact BK300.out)⟩; have n1_ : Aside0 (Below w.heap.size w w18) := ⟨by rw [← hq_]; exact (by repeat (first | (with_reducible first | exact HB.out | apply below_alloc | apply pw_below_drewN | apply below_drew1 | refine below_set ?_ GE300.out) | exact HB.out))⟩; clear BK300 HB hq_; have BK300 := n0_; have HB := n1_; clear n0_ n1_))
        have n0_ := Aside0.mk (blk_drew BK300.out)
        have n1_ := Aside0.mk (below_drew1 HB.out)
        clear BK300
        clear HB
        have BK300 := n0_
        have HB := n1_
        clear n0_ n1_
        refine start_ (n := 14) (S := fun w' => w'.cell? ⟨gb300, 0, none⟩ = some (.int .u64 a1_0) ∧ w'.cell? ⟨gb300, 1, none⟩ = some (.int .u64 a1_1)) (ds := []) #[false, false, false, false, false, false, false, false, false, false, false, false, false, false] (by kernel_rfl) rfl rfl ⟨(blk_cell BK300.out 0).trans rfl, (blk_cell BK300.out 1).trans rfl⟩ (fun hHeld => ?_); refine with_tabW spec_proofIn.tab7 spec_proofIn.bits7 (fun HT_ HW_ => ?_)
        generalize w18.drew = w19 at BK300 HB hHeld ⊢
        refine pure_ (i := 0) (N := some 27) (v := ?_) (a' := ?_) #[true, false, false, false, false, false, false, false, false, false, false, false, false, false] rfl rfl (any_of HT_.out (by kernel_rfl)) (fun _ _ _ h => h) (Or.inl ⟨by rfl, ?_⟩) ?_ ?_
        rotate_left
        · intro w'
          go_simp
          with_reducible rfl
        rotate_left
        · simp only [Act.put, List.setIfInBounds_toArray, List.set_cons_zero, List.set_cons_succ, i64_w, i32_w]
          rfl
        refine pure_ (i := 1) (N := some 28) (v := ?_) (a' := ?_) #[true, true, false, false, false, false, false, false, false, false, false, false, false, false] rfl rfl (any_of HT_.out (by kernel_rfl)) (fun _ _ _ h => h) (Or.inl ⟨by rfl, ?_⟩) ?_ ?_
        rotate_left
        · intro w'
          go_simp
          with_reducible rfl
        rotate_left
        · simp only [Act.put, List.setIfInBounds_toArray, List.set_cons_zero, List.set_cons_succ, i64_w, i32_w]
          rfl
        refine pure_ (i := 3) (N := some 30) (v := ?_) (a' := ?_) #[true, true, false, true, false, false, false, false, false, false, false, false, false, false] rfl rfl (any_of HT_.out (by kernel_rfl)) (fun _ _ _ h => h) (Or.inl ⟨by rfl, ?_⟩) ?_ ?_
        rotate_left
        · intro w'
          go_simp
          with_reducible rfl
        rotate_left
        · simp only [Act.put, List.setIfInBounds_toArray, List.set_cons_zero, List.set_cons_succ, i64_w, i32_w]
          rfl
        refine pure_ (i := 5) (N := some 32) (v := ?_) (a' := ?_) #[true, true, false, true, false, true, false, false, false, false, false, false, false, false] rfl rfl (any_of HT_.out (by kernel_rfl)) (fun _ _ _ h => h) (Or.inl ⟨by rfl, ?_⟩) ?_ ?_
        rotate_left
        · intro w'
          go_simp
          with_reducible rfl
        rotate_left
        · simp only [Act.put, List.setIfInBounds_toArray, List.set_cons_zero, List.set_cons_succ, i64_w, i32_w]
          rfl
        refine pure_ (i := 7) (N := some 34) (v := ?_) (a' := ?_) #[true, true, false, true, false, true, false, true, false, false, false, false, false, false] rfl rfl (any_of HT_.out (by kernel_rfl)) (fun _ _ _ h => h) (Or.inl ⟨by rfl, ?_⟩) ?_ ?_
        rotate_left
        · intro w'
          go_simp
          with_reducible rfl
        rotate_left
        · simp only [Act.put, List.setIfInBounds_toArray, List.set_cons_zero, List.set_cons_succ, i64_w, i32_w]
          rfl
        refine pure_ (i := 8) (N := some 35) (v := ?_) (a' := ?_) #[true, true, false, true, false, true, false, true, true, false, false, false, false, false] rfl rfl (any_of HT_.out (by kernel_rfl)) (fun _ _ _ h => h) (Or.inl ⟨by rfl, ?_⟩) ?_ ?_
        rotate_left
        · intro w'
          go_simp
          with_reducible rfl
        rotate_left
        · simp only [Act.put, List.setIfInBounds_toArray, List.set_cons_zero, List.set_cons_succ, i64_w, i32_w]
          rfl
        refine take_ (i := 2) (N := some 29) (v := ?_) (a' := ?_) #[true, true, true, true, false, true, false, true, true, false, false, false, false, false] rfl rfl (take_ofW HT_.out HW_.out (by kernel_rfl)) (fun _ _ _ h => h) (Or.inl ⟨by rfl, ?_⟩) hHeld ?_ ?_
        rotate_left
        · rintro w' ⟨s0, s1⟩
          go_simp
          with_reducible rfl
        rotate_left
        · simp only [Act.put, List.setIfInBounds_toArray, List.set_cons_zero, List.set_cons_succ, i64_w, i32_w]
          rfl
        refine pure_ (i := 4) (N := some 31) (v := ?_) (a' := ?_) #[true, true, true, true, true, true, false, true, true, false, false, false, false, false] rfl rfl (any_of HT_.out (by kernel_rfl)) (fun _ _ _ h => h) (Or.inl ⟨by rfl, ?_⟩) ?_ ?_
        rotate_left
        · intro w'
          go_simp
          with_reducible rfl
        rotate_left
        · simp only [Act.put, List.setIfInBounds_toArray, List.set_cons_zero, List.set_cons_succ, i64_w, i32_w]
          rfl
        refine take_ (i := 9) (N := some 36) (v := ?_) (a' := ?_) #[true, true, true, true, true, true, false, true, true, true, false, false, false, false] rfl rfl (take_ofW HT_.out HW_.out (by kernel_rfl)) (fun _ _ _ h => h) (Or.inl ⟨by rfl, ?_⟩) hHeld ?_ ?_
        rotate_left
        · rintro w' ⟨s0, s1⟩
          go_simp
          with_reducible rfl
        rotate_left
        · simp only [Act.put, List.setIfInBounds_toArray, List.set_cons_zero, List.set_cons_succ, i64_w, i32_w]
          rfl
        refine pure_ (i := 10) (N := some 37) (v := ?_) (a' := ?_) #[true, true, true, true, true, true, false, true, true, true, true, false, false, false] rfl rfl (any_of HT_.out (by kernel_rfl)) (fun _ _ _ h => h) (Or.inl ⟨by rfl, ?_⟩) ?_ ?_
        rotate_left
        · intro w'
          go_simp
          with_reducible rfl
        rotate_left
        · simp only [Act.put, List.setIfInBounds_toArray, List.set_cons_zero, List.set_cons_succ, i64_w, i32_w]
          rfl
        refine join_ (σ := Value × Value) 2 #[true, true, true, true, true, true, true, true, true, true, true, true, false, false] (fun s_ => [(33, s_.1), (38, s_.2)]) (fun s_ w' => (w'.cell? ⟨gb300, 0, none⟩ = some (.int .u64 a1_0) ∧ w'.cell? ⟨gb300, 1, none⟩ = some (.int .u64 a1_1)) ∧ (Kd.R k55 55 w' w.heap.size (fun k_ => some k_ ≠ (s_.2 : Value).ownBlock ∧ k_ ≠ gb300) s_.1 t305) ∧ (Kd.R k55 55 w' w.heap.size (fun k_ => some k_ ≠ (s_.1 : Value).ownBlock ∧ k_ ≠ gb300) s_.2 y308) ∧ (w'.heap[gb300]? = some (.cells #[.int .u64 a1_0, .int .u64 a1_1] 55 (0, 0))) ∧ (Below w.heap.size w w')) ?_ ?_
        rotate_left
        · intro hCont
          refine two_ (i := 6) (j := 11) (Ni := some 33) (Nj := some 38) #[true, true, true, true, true, true, true, true, true, true, true, false, false, false] #[true, true, true, true, true, true, false, true, true, true, true, true, false, false] rfl rfl rfl rfl (two_of HT_.out (by kernel_rfl)) (by decide) (by decide) (fun K hK => ?_) (fun K hK => ?_)
          · skip
            refine goes_ Tryd.func96 (by kernel_rfl) rfl #[.int .u64 a0, .agg #[.int .u64 a1_0, .int .u64 (IntKind.u64.wrap (a1_0 + t304))], .bool a2] (by rfl) rfl rfl (by (try simp only [List.map_toArray, List.map_cons, List.map_nil]); first | done | rfl | (simp only [List.length_drop, List.length_take]; rfl)) ?_
            with_reducible refine (ih k (by omega) a0 a1_0 (IntKind.u64.wrap (a1_0 + t304)) a2 t305 _ A14.out).mono ?_
            rintro e w20 ⟨v306, rfl, ho0, hb⟩
            refine ⟨_, rfl, ?_⟩
            have n0_ := Aside0.mk (Kd.R_lower (Kd.R_newB ho0 (g := gb300) (o := .cells #[.int .u64 a1_0, .int .u64 a1_1] 55 (0, 0)) (by (with_reducible repeat (first | refine blk_drewN ?_ _ | refine blk_drew ?_ | refine blk_alloc ?_ _)); exact BK300.out)) (below_size (by repeat (first | (with_reducible first | exact HB.out | apply below_alloc | apply pw_below_drewN | apply below_drew1 | refine below_set ?_ GE300.out) | exact HB.out))))
            have n1_ := Aside0.mk (blk_below (g := gb300) (o := .cells #[.int .u64 a1_0, .int .u64 a1_1] 55 (0, 0)) (by (with_reducible repeat (first | refine blk_drewN ?_ _ | refine blk_drew ?_ | refine blk_alloc ?_ _)); exact BK300.out) hb)
            have n2_ := Aside0.mk (below_step (by repeat (first | (with_reducible first | exact HB.out | apply below_alloc | apply pw_below_drewN | apply below_drew1 | refine below_set ?_ GE300.out) | exact HB.out)) hb)
            clear BK300
            clear HB
            have HO307 := n0_
            have BK300 := n1_
            have HB := n2_
            clear n0_ n1_ n2_
            (try clear hb)
            (try clear hb2)
            (try clear hk)
            (try clear hi)
            (try clear ho0)
            refine hK.out _ _ ⟨(blk_cell BK300.out 0).trans rfl, (blk_cell BK300.out 1).trans rfl⟩ (fun hHeld => ?_)
            clear hK K
            refine norm_ (a' := ?_) ?_ ?_
            rotate_left
            · show Act.put _ (some 33) _ = _
              simp only [Act.put, List.setIfInBounds_toArray, List.set_cons_zero, List.set_cons_succ, i64_w, i32_w]
              rfl
            refine one_ (i := 11) (N := some 38) #[true, true, true, true, true, true, true, true, true, true, true, true, false, false] rfl rfl (one_of HT_.out (by kernel_rfl)) (by decide) (fun K hK => ?_)
            refine Kd.R_lit_step k55 _ 55 ?hg (N := 38) ?hd (xs := ([(⟨IntKind.u64.wrap (a1_0 + t304), a1_1⟩ : S55)] : List (S55))) (inner := [.int .u64 (IntKind.u64.wrap (a1_0 + t304)), .int .u64 a1_1]) (ok := fun _ => True) (okp := fun _ => True) ?hr ?hp (fun _ hk => hk) trivial (Below.refl _ _) (Nat.le_refl _) (by simp) ?_; (case hd => rfl); (case hg => rfl); (case hr => first | (go_simp; done) | (go_simp; rfl)); (case hp => exact (Reps.c2 (show Kd.M k55 _ _ _ (⟨IntKind.u64.wrap (a1_0 + t304), a1_1⟩ : S55) [.int .u64 (IntKind.u64.wrap (a1_0 + t304)), .int .u64 a1_1] from (k55_mkM _ _ _ (⟨IntKind.u64.wrap (a1_0 + t304), a1_1⟩ : S55) )) (Reps.none _ _)))
            intro v309 w21 ho22 hb hg_ hnew_
            clear hg_ hnew_
            (first | rw [← Ny308.out] at ho22 | (simp only [Int.reduceToNat] at ho22; rw [← Ny308.out] at ho22))
            have n0_ := Aside0.mk (Kd.R_elder' (by (with_reducible repeat (first | apply Kd.R_alloc | apply Kd.R_drewN | apply Kd.R_drew)); exact HO307.out) (Kd.R_base ho22) hb)
            have n1_ := Aside0.mk (Kd.R_lower (Kd.R_newB (Kd.R_new' ho22 (Kd.R_lt (by (with_reducible repeat (first | apply Kd.R_alloc | apply Kd.R_drewN | apply Kd.R_drew)); exact HO307.out))) (g := gb300) (o := .cells #[.int .u64 a1_0, .int .u64 a1_1] 55 (0, 0)) (by (with_reducible repeat (first | refine blk_drewN ?_ _ | refine blk_drew ?_ | refine blk_alloc ?_ _)); exact BK300.out)) (below_size (by repeat (first | (with_reducible first | exact HB.out | apply below_alloc | apply pw_below_drewN | apply below_drew1 | refine below_set ?_ GE300.out) | exact HB.out))))
            have n2_ := Aside0.mk (blk_below (g := gb300) (o := .cells #[.int .u64 a1_0, .int .u64 a1_1] 55 (0, 0)) (by (with_reducible repeat (first | refine blk_drewN ?_ _ | refine blk_drew ?_ | refine blk_alloc ?_ _)); exact BK300.out) hb)
            have n3_ := Aside0.mk (below_step (by repeat (first | (with_reducible first | exact HB.out | apply below_alloc | apply pw_below_drewN | apply below_drew1 | refine below_set ?_ GE300.out) | exact HB.out)) hb)
            clear HO307
            clear BK300
            clear HB
            have HO307 := n0_
            have HO310 := n1_
            have BK300 := n2_
            have HB := n3_
            clear n0_ n1_ n2_ n3_
            clear hb ho22
            refine hK.out _ _ ⟨(blk_cell BK300.out 0).trans rfl, (blk_cell BK300.out 1).trans rfl⟩ (fun hHeld => ?_)
            clear hK K
            refine norm_ (a' := ?_) ?_ ?_
            rotate_left
            · show Act.put _ (some 38) _ = _
              simp only [Act.put, List.setIfInBounds_toArray, List.set_cons_zero, List.set_cons_succ, i64_w, i32_w]
              rfl
            exact norm_ (by simp only [putAll, Act.put, List.setIfInBounds_toArray, List.set_cons_zero, List.set_cons_succ]) (hCont (v306, v309) _ ⟨hHeld, (by (with_reducible repeat (first | apply Kd.R_alloc | apply Kd.R_drewN | apply Kd.R_drew)); exact Kd.R_mono HO307.out (fun _ hk => ⟨hk.2, hk.1.2⟩)), (by (with_reducible repeat (first | apply Kd.R_alloc | apply Kd.R_drewN | apply Kd.R_drew)); exact Kd.R_mono HO310.out (fun _ hk => ⟨hk.1.2, hk.2⟩)), (by (with_reducible repeat (first | refine blk_drewN ?_ _ | refine blk_drew ?_ | refine blk_alloc ?_ _)); exact BK300.out), (by repeat (first | (with_reducible first | exact HB.out | apply below_alloc | apply pw_below_drewN | apply below_drew1 | refine below_set ?_ GE300.out) | exact HB.out))⟩)
          · skip
            refine Kd.R_lit_step k55 _ 55 ?hg (N := 38) ?hd (xs := ([(⟨IntKind.u64.wrap (a1_0 + t304), a1_1⟩ : S55)] : List (S55))) (inner := [.int .u64 (IntKind.u64.wrap (a1_0 + t304)), .int .u64 a1_1]) (ok := fun _ => True) (okp := fun _ => True) ?hr ?hp (fun _ hk => hk) trivial (Below.refl _ _) (Nat.le_refl _) (by simp) ?_; (case hd => rfl); (case hg => rfl); (case hr => first | (go_simp; done) | (go_simp; rfl)); (case hp => exact (Reps.c2 (show Kd.M k55 _ _ _ (⟨IntKind.u64.wrap (a1_0 + t304), a1_1⟩ : S55) [.int .u64 (IntKind.u64.wrap (a1_0 + t304)), .int .u64 a1_1] from (k55_mkM _ _ _ (⟨IntKind.u64.wrap (a1_0 + t304), a1_1⟩ : S55) )) (Reps.none _ _)))
            intro v309 w20 ho21 hb hg_ hnew_
            clear hg_ hnew_
            (first | rw [← Ny308.out] at ho21 | (simp only [Int.reduceToNat] at ho21; rw [← Ny308.out] at ho21))
            have n0_ := Aside0.mk (Kd.R_lower (Kd.R_newB ho21 (g := gb300) (o := .cells #[.int .u64 a1_0, .int .u64 a1_1] 55 (0, 0)) (by (with_reducible repeat (first | refine blk_drewN ?_ _ | refine blk_drew ?_ | refine blk_alloc ?_ _)); exact BK300.out)) (below_size (by repeat (first | (with_reducible first | exact HB.out | apply below_alloc | apply pw_below_drewN | apply below_drew1 | refine below_set ?_ GE300.out) | exact HB.out))))
            have n1_ := Aside0.mk (blk_below (g := gb300) (o := .cells #[.int .u64 a1_0, .int .u64 a1_1] 55 (0, 0)) (by (with_reducible repeat (first | refine blk_drewN ?_ _ | refine blk_drew ?_ | refine blk_alloc ?_ _)); exact BK300.out) hb)
            have n2_ := Aside0.mk (below_step (by repeat (first | (with_reducible first | exact HB.out | apply below_alloc | apply pw_below_drewN | apply below_drew1 | refine below_set ?_ GE300.out) | exact HB.out)) hb)
            clear BK300
            clear HB
            have HO310 := n0_
            have BK300 := n1_
            have HB := n2_
            clear n0_ n1_ n2_
            clear hb ho21
            refine hK.out _ _ ⟨(blk_cell BK300.out 0).trans rfl, (blk_cell BK300.out 1).trans rfl⟩ (fun hHeld => ?_)
            clear hK K
            refine norm_ (a' := ?_) ?_ ?_
            rotate_left
            · show Act.put _ (some 38) _ = _
              simp only [Act.put, List.setIfInBounds_toArray, List.set_cons_zero, List.set_cons_succ, i64_w, i32_w]
              rfl
            refine one_ (i := 6) (N := some 33) #[true, true, true, true, true, true, true, true, true, true, true, true, false, false] rfl rfl (one_of HT_.out (by kernel_rfl)) (by decide) (fun K hK => ?_)
            refine goes_ Tryd.func96 (by kernel_rfl) rfl #[.int .u64 a0, .agg #[.int .u64 a1_0, .int .u64 (IntKind.u64.wrap (a1_0 + t304))], .bool a2] (by rfl) rfl rfl (by (try simp only [List.map_toArray, List.map_cons, List.map_nil]); first | done | rfl | (simp only [List.length_drop, List.length_take]; rfl)) ?_
            with_reducible refine (ih k (by omega) a0 a1_0 (IntKind.u64.wrap (a1_0 + t304)) a2 t305 _ A14.out).mono ?_
            rintro e w22 ⟨v306, rfl, ho0, hb⟩
            refine ⟨_, rfl, ?_⟩
            have n0_ := Aside0.mk (Kd.R_elder' (by (with_reducible repeat (first | apply Kd.R_alloc | apply Kd.R_drewN | apply Kd.R_drew)); exact HO310.out) (Kd.R_base ho0) hb)
            have n1_ := Aside0.mk (Kd.R_lower (Kd.R_newB (Kd.R_new' ho0 (Kd.R_lt (by (with_reducible repeat (first | apply Kd.R_alloc | apply Kd.R_drewN | apply Kd.R_drew)); exact HO310.out))) (g := gb300) (o := .cells #[.int .u64 a1_0, .int .u64 a1_1] 55 (0, 0)) (by (with_reducible repeat (first | refine blk_drewN ?_ _ | refine blk_drew ?_ | refine blk_alloc ?_ _)); exact BK300.out)) (below_size (by repeat (first | (with_reducible first | exact HB.out | apply below_alloc | apply pw_below_drewN | apply below_drew1 | refine below_set ?_ GE300.out) | exact HB.out))))
            have n2_ := Aside0.mk (blk_below (g := gb300) (o := .cells #[.int .u64 a1_0, .int .u64 a1_1] 55 (0, 0)) (by (with_reducible repeat (first | refine blk_drewN ?_ _ | refine blk_drew ?_ | refine blk_alloc ?_ _)); exact BK300.out) hb)
            have n3_ := Aside0.mk (below_step (by repeat (first | (with_reducible first | exact HB.out | apply below_alloc | apply pw_below_drewN | apply below_drew1 | refine below_set ?_ GE300.out) | exact HB.out)) hb)
            clear HO310
            clear BK300
            clear HB
            have HO310 := n0_
            have HO307 := n1_
            have BK300 := n2_
            have HB := n3_
            clear n0_ n1_ n2_ n3_
            (try clear hb)
            (try clear hb2)
            (try clear hk)
            (try clear hi)
            (try clear ho0)
            refine hK.out _ _ ⟨(blk_cell BK300.out 0).trans rfl, (blk_cell BK300.out 1).trans rfl⟩ (fun hHeld => ?_)
            clear hK K
            refine norm_ (a' := ?_) ?_ ?_
            rotate_left
            · show Act.put _ (some 33) _ = _
              simp only [Act.put, List.setIfInBounds_toArray, List.set_cons_zero, List.set_cons_succ, i64_w, i32_w]
              rfl
            exact norm_ (by simp only [putAll, Act.put, List.setIfInBounds_toArray, List.set_cons_zero, List.set_cons_succ]) (hCont (v306, v309) _ ⟨hHeld, (by (with_reducible repeat (first | apply Kd.R_alloc | apply Kd.R_drewN | apply Kd.R_drew)); exact Kd.R_mono HO307.out (fun _ hk => ⟨hk.1.2, hk.2⟩)), (by (with_reducible repeat (first | apply Kd.R_alloc | apply Kd.R_drewN | apply Kd.R_drew)); exact Kd.R_mono HO310.out (fun _ hk => ⟨hk.2, hk.1.2⟩)), (by (with_reducible repeat (first | refine blk_drewN ?_ _ | refine blk_drew ?_ | refine blk_alloc ?_ _)); exact BK300.out), (by repeat (first | (with_reducible first | exact HB.out | apply below_alloc | apply pw_below_drewN | apply below_drew1 | refine below_set ?_ GE300.out) | exact HB.out))⟩)
        rintro ⟨v306, v309⟩ w23 ⟨hS_, h0_, h1_, h2_, h3_⟩
        have n0_ : Aside0 (Kd.R k55 55 w23 w.heap.size (fun k_ => some k_ ≠ (v309 : Value).ownBlock ∧ k_ ≠ gb300) v306 t305) := ⟨h0_⟩
        have n1_ : Aside0 (Kd.R k55 55 w23 w.heap.size (fun k_ => some k_ ≠ (v306 : Value).ownBlock ∧ k_ ≠ gb300) v309 y308) := ⟨h1_⟩
        have n2_ : Aside0 (w23.heap[gb300]? = some (.cells #[.int .u64 a1_0, .int .u64 a1_1] 55 (0, 0))) := ⟨h2_⟩
        have n3_ : Aside0 (Below w.heap.size w w23) := ⟨h3_⟩
        clear BK300
        clear HB
        clear h0_ h1_ h2_ h3_
        have HO307 := n0_
        have HO310 := n1_
        have BK300 := n2_
        have HB := n3_
        clear n0_ n1_ n2_ n3_
        have hHeld : w23.cell? ⟨gb300, 0, none⟩ = some (.int .u64 a1_0) ∧ w23.cell? ⟨gb300, 1, none⟩ = some (.int .u64 a1_1) := hS_
        obtain ⟨Ao25, co25, eo25⟩ := Kd.R_slice HO310.out
        (first | subst eo25 | (injection eo25 with f1_ f2_ f3_; have f4_ := f1_.symm; have f5_ := f3_.symm; clear f1_ f2_ f3_; subst f4_; subst f5_))
        refine norm_ (a' := ?_) ?_ ?_
        rotate_left
        · simp only [putAll, Act.put, List.setIfInBounds_toArray, List.set_cons_zero, List.set_cons_succ]
          rfl
        refine one_ (i := 12) (N := some 39) #[true, true, true, true, true, true, true, true, true, true, true, true, true, false] rfl rfl (one_of HT_.out (by kernel_rfl)) (by decide) (fun K hK => ?_)
        refine Kd.R_append_rows_step k55 (w0 := w) w.heap.size (by rfl) (.tmp 33) (.tmp 38) 84 55 (.agg #[(.int .u64 0), (.int .u64 0)]) 16 rfl Tryd.underlying84 info55 rfl (by decide) (by omega) v306 t305 y308 _ _ _ (fun k_ => some k_ ≠ (.slice Ao25 y308.length co25 : Value).ownBlock ∧ k_ ≠ gb300) (fun _ => False) rfl rfl ?aO ?aR (fun _ _ h => h) (fun _ h => h.elim) ?aF ?aB ?aS ?aL ?_
        (case aR => repeat (first | exact (Kd.R_reads' HO310.out).2.2 | (with_reducible refine Kd.C_alloc ?_ _) | (with_reducible refine Kd.C_drewN ?_ _) | (with_reducible refine Kd.C_drew ?_)))
        (case aB => exact (by repeat (first | (with_reducible first | exact HB.out | apply below_alloc | apply pw_below_drewN | apply below_drew1 | refine below_set ?_ GE300.out) | exact HB.out)))
        (case aF => exact (fun k_ hk => ⟨Kd.fresh' (Kd.R_lt (by (with_reducible repeat (first | apply Kd.R_alloc | apply Kd.R_drewN | apply Kd.R_drew)); exact HO310.out)) k_ hk, Kd.freshB (g := gb300) (o := .cells #[.int .u64 a1_0, .int .u64 a1_1] 55 (0, 0)) (by (with_reducible repeat (first | refine blk_drewN ?_ _ | refine blk_drew ?_ | refine blk_alloc ?_ _)); exact BK300.out) k_ hk⟩))
        (case aO => exact (by (with_reducible repeat (first | apply Kd.R_alloc | apply Kd.R_drewN | apply Kd.R_drew)); exact HO307.out))
        (case aS => exact (below_size (by repeat (first | (with_reducible first | exact HB.out | apply below_alloc | apply pw_below_drewN | apply below_drew1 | refine below_set ?_ GE300.out) | exact HB.out))))
        (case aL => have := LMc15.out; omega)
        intro v312 w24 ho hb hg hat
        rw [← Ny311.out] at ho
        have n0_ := Aside0.mk (blk_grown (g := gb300) (o := .cells #[.int .u64 a1_0, .int .u64 a1_1] 55 (0, 0)) (by (with_reducible repeat (first | refine blk_drewN ?_ _ | refine blk_drew ?_ | refine blk_alloc ?_ _)); exact BK300.out) hg (Kd.R_away HO307.out (fun _ hk => hk.2)))
        have n1_ := Aside0.mk (Kd.R_after (ok := (fun k_ => k_ ≠ gb300)) (by (with_reducible repeat (first | apply Kd.R_alloc | apply Kd.R_drewN | apply Kd.R_drew)); exact Kd.R_mono HO310.out (fun _ hk => ⟨hk.2, hk.1⟩)) hg hat)
        have n2_ := Aside0.mk (hb)
        have n3_ := Aside0.mk (ho)
        clear BK300
        clear HO310
        clear HB
        clear HO307
        have BK300 := n0_
        have HO310 := n1_
        have HB := n2_
        have HO313 := n3_
        clear n0_ n1_ n2_ n3_
        clear ho hb hg hat
        refine hK.out _ _ ⟨(blk_cell BK300.out 0).trans rfl, (blk_cell BK300.out 1).trans rfl⟩ (fun hHeld => ?_)
        clear hK K
        refine norm_ (a' := ?_) ?_ ?_
        rotate_left
        · show Act.put _ (some 39) _ = _
          simp only [Act.put, List.setIfInBounds_toArray, List.set_cons_zero, List.set_cons_succ, i64_w, i32_w]
          rfl
        refine pure_ (i := 13) (N := some 6) (v := ?_) (a' := ?_) #[true, true, true, true, true, true, true, true, true, true, true, true, true, true] rfl rfl (any_of HT_.out (by kernel_rfl)) (fun _ _ _ h => h) (Or.inl ⟨by rfl, ?_⟩) ?_ ?_
        rotate_left
        · intro w'
          go_simp
          with_reducible rfl
        rotate_left
        · simp only [Act.put, List.setIfInBounds_toArray, List.set_cons_zero, List.set_cons_succ, i64_w, i32_w]
          rfl
        refine done_ (done_of HT_.out (by kernel_rfl)) ?_
        try go_wp2
        go_ret
        exact ⟨_, by first | rfl | (simp [errW_none, errW_some] <;> rfl) | (simp [*, errW_none, errW_some] <;> rfl), by (with_reducible repeat (first | apply Kd.R_alloc | apply Kd.R_drewN | apply Kd.R_drew)); exact Kd.R_mono HO313.out (fun _ hk => trivial), by repeat (first | (with_reducible first | exact HB.out | apply below_alloc | apply pw_below_drewN | apply below_drew1 | refine below_set ?_ GE300.out) | exact HB.out)⟩
      · rw [if_neg c15] at H
        exact absurd H (by simp)
    · rw [if_neg c13] at H
      have c13b0 : decide (a0 ≤ (IntKind.u64.wrap (a1_0 + t304))) = false := decide_eq_false c13
      clear c13
      replace H := Option.bind_eq_some_iff.mp H
      obtain ⟨t314, A260, H⟩ := H
      replace H : ((some (([(⟨a1_0, IntKind.u64.wrap (a1_0 + t304)⟩ : S55)] : List (S55)) : List (S55))).bind fun y317 => (if t314.length + y317.length < 8796093022208 then (some (t314 ++ y317)) else (none))) = some r := H
      have A26 := Aside0.mk A260
      clear A260
      obtain ⟨y317, hy317⟩ : ∃ y_ : List (S55), y_ = (([(⟨a1_0, IntKind.u64.wrap (a1_0 + t304)⟩ : S55)] : List (S55))) := ⟨_, rfl⟩
      replace H : (if t314.length + y317.length < 8796093022208 then (some (t314 ++ y317)) else (none)) = some r := by first | (rw [hy317]; with_reducible exact H) | (have H2_ := (Option.bind_some _ _).symm.trans H; rw [hy317]; with_reducible exact H2_) | (have H2_ := (Option.bind_some _ _).symm.trans H; with_reducible exact H2_) | with_reducible exact H | (rw [hy317]; exact H) | exact H
      have Ny317 := Aside0.mk hy317
      clear hy317
      by_cases c27 : t314.length + y317.length < 8796093022208
      · rw [if_pos c27] at H
        have LMc27 := Aside0.mk c27
        clear c27
        obtain ⟨y320, hy320⟩ : ∃ y_ : List (S55), y_ = (t314 ++ y317) := ⟨_, rfl⟩
        replace H : (some y320) = some r := by first | (rw [hy320]; with_reducible exact H) | (have H2_ := (Option.bind_some _ _).symm.trans H; rw [hy320]; with_reducible exact H2_) | (have H2_ := (Option.bind_some _ _).symm.trans H; with_reducible exact H2_) | with_reducible exact H | (rw [hy320]; exact H) | exact H
        have Ny320 := Aside0.mk hy320
        clear hy320
        obtain rfl := Option.some.inj H
        go_enter Tryd.func96, Tryd.ntmps96
        try go_wp2_with (first | ((with_reducible refine gate_dst (N := 4) rfl ?_); refine box_event ?hg (N := 4) ?hd (cs := #[.int .u64 a1_0, .int .u64 a1_1]) (t := 55) ?hr ?_; (case hd => rfl); (case hg => rfl); (case hr => first | (go_simp; done) | (go_simp; rfl)); intro gb300 hg w28 hbox hb; have n0_ := Aside0.mk (below_step (by repeat (first | (with_reducible first | exact HB.out | apply below_alloc | apply pw_below_drewN | apply below_drew1) | exact HB.out)) hb); have n1_ := Aside0.mk (hbox); have n2_ := Aside0.mk ((by rw [hg]; exact (below_size (by repeat (first | (with_reducible first | exact HB.out | apply below_alloc | apply pw_below_drewN | apply below_drew1) | exact HB.out))) : w.heap.size ≤ gb300)); have n3_ := Aside0.mk ((by rw [hg]; exact (below_size (by repeat (first | (with_reducible first | exact HB.out | apply below_alloc | apply pw_below_drewN | apply below_drew1) | exact HB.out))) : w.heap.size ≤ gb300)); clear HB; have HB := n0_; have BK300 := n1_; have GW300 := n2_; have GE300 := n3_; clear n0_ n1_ n2_ n3_; clear hb hbox hg; have hcz29_0 : w28.cell? ⟨gb300, 0, none⟩ = some (.int .u64 a1_0) := (blk_cell BK300.out 0).trans rfl; have hcz29_1 : w28.cell? ⟨gb300, 1, none⟩ = some (.int .u64 a1_1) := (blk_cell BK300.out 1).trans rfl; have hfz29_0 := blk_frozen BK300.out 0; have hfz29_1 := blk_frozen BK300.out 1))
        have n0_ := Aside0.mk (blk_drew BK300.out)
        have n1_ := Aside0.mk (below_drew1 HB.out)
        clear BK300
        clear HB
        have BK300 := n0_
        have HB := n1_
        clear n0_ n1_
        refine start_ (n := 10) (S := fun w' => w'.cell? ⟨gb300, 0, none⟩ = some (.int .u64 a1_0) ∧ w'.cell? ⟨gb300, 1, none⟩ = some (.int .u64 a1_1)) (ds := []) #[false, false, false, false, false, false, false, false, false, false] (by kernel_rfl) rfl rfl ⟨(blk_cell BK300.out 0).trans rfl, (blk_cell BK300.out 1).trans rfl⟩ (fun hHeld => ?_); refine with_tabW spec_proofIn.tab5 spec_proofIn.bits5 (fun HT_ HW_ => ?_)
        generalize w28.drew = w30 at BK300 HB hHeld ⊢
        refine pure_ (i := 0) (N := some 15) (v := ?_) (a' := ?_) #[true, false, false, false, false, false, false, false, false, false] rfl rfl (any_of HT_.out (by kernel_rfl)) (fun _ _ _ h => h) (Or.inl ⟨by rfl, ?_⟩) ?_ ?_
        rotate_left
        · intro w'
          go_simp
          with_reducible rfl
        rotate_left
        · simp only [Act.put, List.setIfInBounds_toArray, List.set_cons_zero, List.set_cons_succ, i64_w, i32_w]
          rfl
        refine pure_ (i := 2) (N := some 17) (v := ?_) (a' := ?_) #[true, false, true, false, false, false, false, false, false, false] rfl rfl (any_of HT_.out (by kernel_rfl)) (fun _ _ _ h => h) (Or.inl ⟨by rfl, ?_⟩) ?_ ?_
        rotate_left
        · intro w'
          go_simp
          with_reducible rfl
        rotate_left
        · simp only [Act.put, List.setIfInBounds_toArray, List.set_cons_zero, List.set_cons_succ, i64_w, i32_w]
          rfl
        refine pure_ (i := 4) (N := some 19) (v := ?_) (a' := ?_) #[true, false, true, false, true, false, false, false, false, false] rfl rfl (any_of HT_.out (by kernel_rfl)) (fun _ _ _ h => h) (Or.inl ⟨by rfl, ?_⟩) ?_ ?_
        rotate_left
        · intro w'
          go_simp
          with_reducible rfl
        rotate_left
        · simp only [Act.put, List.setIfInBounds_toArray, List.set_cons_zero, List.set_cons_succ, i64_w, i32_w]
          rfl
        refine take_ (i := 1) (N := some 16) (v := ?_) (a' := ?_) #[true, true, true, false, true, false, false, false, false, false] rfl rfl (take_ofW HT_.out HW_.out (by kernel_rfl)) (fun _ _ _ h => h) (Or.inl ⟨by rfl, ?_⟩) hHeld ?_ ?_
        rotate_left
        · rintro w' ⟨s0, s1⟩
          go_simp
          with_reducible rfl
        rotate_left
        · simp only [Act.put, List.setIfInBounds_toArray, List.set_cons_zero, List.set_cons_succ, i64_w, i32_w]
          rfl
        refine take_ (i := 3) (N := some 18) (v := ?_) (a' := ?_) #[true, true, true, true, true, false, false, false, false, false] rfl rfl (take_ofW HT_.out HW_.out (by kernel_rfl)) (fun _ _ _ h => h) (Or.inl ⟨by rfl, ?_⟩) hHeld ?_ ?_
        rotate_left
        · rintro w' ⟨s0, s1⟩
          go_simp
          with_reducible rfl
        rotate_left
        · simp only [Act.put, List.setIfInBounds_toArray, List.set_cons_zero, List.set_cons_succ, i64_w, i32_w]
          rfl
        refine take_ (i := 5) (N := some 20) (v := ?_) (a' := ?_) #[true, true, true, true, true, true, false, false, false, false] rfl rfl (take_ofW HT_.out HW_.out (by kernel_rfl)) (fun _ _ _ h => h) (Or.inl ⟨by rfl, ?_⟩) hHeld ?_ ?_
        rotate_left
        · rintro w' ⟨s0, s1⟩
          go_simp
          with_reducible rfl
        rotate_left
        · simp only [Act.put, List.setIfInBounds_toArray, List.set_cons_zero, List.set_cons_succ, i64_w, i32_w]
          rfl
        refine pure_ (i := 6) (N := some 21) (v := ?_) (a' := ?_) #[true, true, true, true, true, true, true, false, false, false] rfl rfl (any_of HT_.out (by kernel_rfl)) (fun _ _ _ h => h) (Or.inl ⟨by rfl, ?_⟩) ?_ ?_
        rotate_left
        · intro w'
          go_simp
          with_reducible rfl
        rotate_left
        · simp only [Act.put, List.setIfInBounds_toArray, List.set_cons_zero, List.set_cons_succ, i64_w, i32_w]
          rfl
        refine one_ (i := 7) (N := some 22) #[true, true, true, true, true, true, true, true, false, false] rfl rfl (one_of HT_.out (by kernel_rfl)) (by decide) (fun K hK => ?_)
        refine goes_ Tryd.func76 (by kernel_rfl) rfl #[.int .u64 (IntKind.u64.wrap (a1_1 - a1_0))] (by rfl) rfl rfl (by (try simp only [List.map_toArray, List.map_cons, List.map_nil]); first | done | rfl | (simp only [List.length_drop, List.length_take]; rfl)) ?_
        with_reducible refine (spec_split.calls k (IntKind.u64.wrap (a1_1 - a1_0)) t304 _ A12.out).mono ?_
        rintro e w' ⟨rfl, ⟨nd, rfl⟩⟩
        refine ⟨_, rfl, ?_⟩
        refine hK.out _ _ ⟨(blk_cell BK300.out 0).trans rfl, (blk_cell BK300.out 1).trans rfl⟩ (fun hHeld => ?_)
        clear hK K
        refine norm_ (a' := ?_) ?_ ?_
        rotate_left
        · show Act.put _ (some 22) _ = _
          simp only [Act.put, List.setIfInBounds_toArray, List.set_cons_zero, List.set_cons_succ, i64_w, i32_w]
          rfl
        refine pure_ (i := 8) (N := some 23) (v := ?_) (a' := ?_) #[true, true, true, true, true, true, true, true, true, false] rfl rfl (any_of HT_.out (by kernel_rfl)) (fun _ _ _ h => h) (Or.inl ⟨by rfl, ?_⟩) ?_ ?_
        rotate_left
        · intro w'
          go_simp
          with_reducible rfl
        rotate_left
        · simp only [Act.put, List.setIfInBounds_toArray, List.set_cons_zero, List.set_cons_succ, i64_w, i32_w]
          rfl
        refine pure_ (i := 9) (N := some 7) (v := ?_) (a' := ?_) #[true, true, true, true, true, true, true, true, true, true] rfl rfl (any_of HT_.out (by kernel_rfl)) (fun _ _ _ h => h) (Or.inl ⟨by rfl, ?_⟩) ?_ ?_
        rotate_left
        · intro w'
          go_simp
          with_reducible rfl
        rotate_left
        · simp only [Act.put, List.setIfInBounds_toArray, List.set_cons_zero, List.set_cons_succ, i64_w, i32_w]
          rfl
        refine done_ (done_of HT_.out (by kernel_rfl)) ?_
        try go_wp2
        (try (rw [drewN_self w30]; generalize hq_ : World.drewN w30 _ = w30; have n0_ : Aside0 (w30.heap[gb300]? = some (.cells #[.int .u64 a1_0, .int .u64 a1_1] 55 (0, 0))) := ⟨by rw [← hq_]; exact (by (with_reducible repeat (first | refine blk_drewN ?_ _ | refine blk_drew ?_ | refine blk_alloc ?_ _)); exact BK300.out)⟩; have n1_ : Aside0 (Below w.heap.size w w30) := ⟨by rw [← hq_]; exact (by repeat (first | (with_reducible first | exact HB.out | apply below_alloc | apply pw_below_drewN | apply below_drew1 | refine below_set ?_ GE300.out) | exact HB.out))⟩; clear BK300 HB hq_; have BK300 := n0_; have HB := n1_; clear n0_ n1_))
        have n0_ := Aside0.mk (blk_drew BK300.out)
        have n1_ := Aside0.mk (below_drew1 HB.out)
        clear BK300
        clear HB
        have BK300 := n0_
        have HB := n1_
        clear n0_ n1_
        refine start_ (n := 13) (S := fun w' => w'.cell? ⟨gb300, 0, none⟩ = some (.int .u64 a1_0) ∧ w'.cell? ⟨gb300, 1, none⟩ = some (.int .u64 a1_1)) (ds := []) #[false, false, false, false, false, false, false, false, false, false, false, false, false] (by kernel_rfl) rfl rfl ⟨(blk_cell BK300.out 0).trans rfl, (blk_cell BK300.out 1).trans rfl⟩ (fun hHeld => ?_); refine with_tabW spec_proofIn.tab8 spec_proofIn.bits8 (fun HT_ HW_ => ?_)
        generalize w30.drew = w31 at BK300 HB hHeld ⊢
        refine pure_ (i := 0) (N := some 40) (v := ?_) (a' := ?_) #[true, false, false, false, false, false, false, false, false, false, false, false, false] rfl rfl (any_of HT_.out (by kernel_rfl)) (fun _ _ _ h => h) (Or.inl ⟨by rfl, ?_⟩) ?_ ?_
        rotate_left
        · intro w'
          go_simp
          with_reducible rfl
        rotate_left
        · simp only [Act.put, List.setIfInBounds_toArray, List.set_cons_zero, List.set_cons_succ, i64_w, i32_w]
          rfl
        refine pure_ (i := 1) (N := some 41) (v := ?_) (a' := ?_) #[true, true, false, false, false, false, false, false, false, false, false, false, false] rfl rfl (any_of HT_.out (by kernel_rfl)) (fun _ _ _ h => h) (Or.inl ⟨by rfl, ?_⟩) ?_ ?_
        rotate_left
        · intro w'
          go_simp
          with_reducible rfl
        rotate_left
        · simp only [Act.put, List.setIfInBounds_toArray, List.set_cons_zero, List.set_cons_succ, i64_w, i32_w]
          rfl
        refine pure_ (i := 2) (N := some 42) (v := ?_) (a' := ?_) #[true, true, true, false, false, false, false, false, false, false, false, false, false] rfl rfl (any_of HT_.out (by kernel_rfl)) (fun _ _ _ h => h) (Or.inl ⟨by rfl, ?_⟩) ?_ ?_
        rotate_left
        · intro w'
          go_simp
          with_reducible rfl
        rotate_left
        · simp only [Act.put, List.setIfInBounds_toArray, List.set_cons_zero, List.set_cons_succ, i64_w, i32_w]
          rfl
        refine pure_ (i := 6) (N := some 46) (v := ?_) (a' := ?_) #[true, true, true, false, false, false, true, false, false, false, false, false, false] rfl rfl (any_of HT_.out (by kernel_rfl)) (fun _ _ _ h => h) (Or.inl ⟨by rfl, ?_⟩) ?_ ?_
        rotate_left
        · intro w'
          go_simp
          with_reducible rfl
        rotate_left
        · simp only [Act.put, List.setIfInBounds_toArray, List.set_cons_zero, List.set_cons_succ, i64_w, i32_w]
          rfl
        refine pure_ (i := 8) (N := some 48) (v := ?_) (a' := ?_) #[true, true, true, false, false, false, true, false, true, false, false, false, false] rfl rfl (any_of HT_.out (by kernel_rfl)) (fun _ _ _ h => h) (Or.inl ⟨by rfl, ?_⟩) ?_ ?_
        rotate_left
        · intro w'
          go_simp
          with_reducible rfl
        rotate_left
        · simp only [Act.put, List.setIfInBounds_toArray, List.set_cons_zero, List.set_cons_succ, i64_w, i32_w]
          rfl
        refine take_ (i := 3) (N := some 43) (v := ?_) (a' := ?_) #[true, true, true, true, false, false, true, false, true, false, false, false, false] rfl rfl (take_ofW HT_.out HW_.out (by kernel_rfl)) (fun _ _ _ h => h) (Or.inl ⟨by rfl, ?_⟩) hHeld ?_ ?_
        rotate_left
        · rintro w' ⟨s0, s1⟩
          go_simp
          with_reducible rfl
        rotate_left
        · simp only [Act.put, List.setIfInBounds_toArray, List.set_cons_zero, List.set_cons_succ, i64_w, i32_w]
          rfl
        refine pure_ (i := 4) (N := some 44) (v := ?_) (a' := ?_) #[true, true, true, true, true, false, true, false, true, false, false, false, false] rfl rfl (any_of HT_.out (by kernel_rfl)) (fun _ _ _ h => h) (Or.inl ⟨by rfl, ?_⟩) ?_ ?_
        rotate_left
        · intro w'
          go_simp
          with_reducible rfl
        rotate_left
        · simp only [Act.put, List.setIfInBounds_toArray, List.set_cons_zero, List.set_cons_succ, i64_w, i32_w]
          rfl
        refine take_ (i := 7) (N := some 47) (v := ?_) (a' := ?_) #[true, true, true, true, true, false, true, true, true, false, false, false, false] rfl rfl (take_ofW HT_.out HW_.out (by kernel_rfl)) (fun _ _ _ h => h) (Or.inl ⟨by rfl, ?_⟩) hHeld ?_ ?_
        rotate_left
        · rintro w' ⟨s0, s1⟩
          go_simp
          with_reducible rfl
        rotate_left
        · simp only [Act.put, List.setIfInBounds_toArray, List.set_cons_zero, List.set_cons_succ, i64_w, i32_w]
          rfl
        refine pure_ (i := 9) (N := some 49) (v := ?_) (a' := ?_) #[true, true, true, true, true, false, true, true, true, true, false, false, false] rfl rfl (any_of HT_.out (by kernel_rfl)) (fun _ _ _ h => h) (Or.inl ⟨by rfl, ?_⟩) ?_ ?_
        rotate_left
        · intro w'
          go_simp
          with_reducible rfl
        rotate_left
        · simp only [Act.put, List.setIfInBounds_toArray, List.set_cons_zero, List.set_cons_succ, i64_w, i32_w]
          rfl
        refine join_ (σ := Value × Value) 2 #[true, true, true, true, true, true, true, true, true, true, true, false, false] (fun s_ => [(45, s_.1), (50, s_.2)]) (fun s_ w' => (w'.cell? ⟨gb300, 0, none⟩ = some (.int .u64 a1_0) ∧ w'.cell? ⟨gb300, 1, none⟩ = some (.int .u64 a1_1)) ∧ (Kd.R k55 55 w' w.heap.size (fun k_ => some k_ ≠ (s_.2 : Value).ownBlock ∧ k_ ≠ gb300) s_.1 t314) ∧ (Kd.R k55 55 w' w.heap.size (fun k_ => some k_ ≠ (s_.1 : Value).ownBlock ∧ k_ ≠ gb300) s_.2 y317) ∧ (w'.heap[gb300]? = some (.cells #[.int .u64 a1_0, .int .u64 a1_1] 55 (0, 0))) ∧ (Below w.heap.size w w')) ?_ ?_
        rotate_left
        · intro hCont
          refine two_ (i := 5) (j := 10) (Ni := some 45) (Nj := some 50) #[true, true, true, true, true, true, true, true, true, true, false, false, false] #[true, true, true, true, true, false, true, true, true, true, true, false, false] rfl rfl rfl rfl (two_of HT_.out (by kernel_rfl)) (by decide) (by decide) (fun K hK => ?_) (fun K hK => ?_)
          · skip
            refine goes_ Tryd.func96 (by kernel_rfl) rfl #[.int .u64 a0, .agg #[.int .u64 (IntKind.u64.wrap (a1_0 + t304)), .int .u64 a1_1], .bool false] (by rfl) rfl rfl (by (try simp only [List.map_toArray, List.map_cons, List.map_nil]); first | done | rfl | (simp only [List.length_drop, List.length_take]; rfl)) ?_
            with_reducible refine (ih k (by omega) a0 (IntKind.u64.wrap (a1_0 + t304)) a1_1 false t314 _ A26.out).mono ?_
            rintro e w32 ⟨v315, rfl, ho0, hb⟩
            refine ⟨_, rfl, ?_⟩
            have n0_ := Aside0.mk (Kd.R_lower (Kd.R_newB ho0 (g := gb300) (o := .cells #[.int .u64 a1_0, .int .u64 a1_1] 55 (0, 0)) (by (with_reducible repeat (first | refine blk_drewN ?_ _ | refine blk_drew ?_ | refine blk_alloc ?_ _)); exact BK300.out)) (below_size (by repeat (first | (with_reducible first | exact HB.out | apply below_alloc | apply pw_below_drewN | apply below_drew1 | refine below_set ?_ GE300.out) | exact HB.out))))
            have n1_ := Aside0.mk (blk_below (g := gb300) (o := .cells #[.int .u64 a1_0, .int .u64 a1_1] 55 (0, 0)) (by (with_reducible repeat (first | refine blk_drewN ?_ _ | refine blk_drew ?_ | refine blk_alloc ?_ _)); exact BK300.out) hb)
            have n2_ := Aside0.mk (below_step (by repeat (first | (with_reducible first | exact HB.out | apply below_alloc | apply pw_below_drewN | apply below_drew1 | refine below_set ?_ GE300.out) | exact HB.out)) hb)
            clear BK300
            clear HB
            have HO316 := n0_
            have BK300 := n1_
            have HB := n2_
            clear n0_ n1_ n2_
            (try clear hb)
            (try clear hb2)
            (try clear hk)
            (try clear hi)
            (try clear ho0)
            refine hK.out _ _ ⟨(blk_cell BK300.out 0).trans rfl, (blk_cell BK300.out 1).trans rfl⟩ (fun hHeld => ?_)
            clear hK K
            refine norm_ (a' := ?_) ?_ ?_
            rotate_left
            · show Act.put _ (some 45) _ = _
              simp only [Act.put, List.setIfInBounds_toArray, List.set_cons_zero, List.set_cons_succ, i64_w, i32_w]
              rfl
            refine one_ (i := 10) (N := some 50) #[true, true, true, true, true, true, true, true, true, true, true, false, false] rfl rfl (one_of HT_.out (by kernel_rfl)) (by decide) (fun K hK => ?_)
            refine Kd.R_lit_step k55 _ 55 ?hg (N := 50) ?hd (xs := ([(⟨a1_0, IntKind.u64.wrap (a1_0 + t304)⟩ : S55)] : List (S55))) (inner := [.int .u64 a1_0, .int .u64 (IntKind.u64.wrap (a1_0 + t304))]) (ok := fun _ => True) (okp := fun _ => True) ?hr ?hp (fun _ hk => hk) trivial (Below.refl _ _) (Nat.le_refl _) (by simp) ?_; (case hd => rfl); (case hg => rfl); (case hr => first | (go_simp; done) | (go_simp; rfl)); (case hp => exact (Reps.c2 (show Kd.M k55 _ _ _ (⟨a1_0, IntKind.u64.wrap (a1_0 + t304)⟩ : S55) [.int .u64 a1_0, .int .u64 (IntKind.u64.wrap (a1_0 + t304))] from (k55_mkM _ _ _ (⟨a1_0, IntKind.u64.wrap (a1_0 + t304)⟩ : S55) )) (Reps.none _ _)))
            intro v318 w33 ho34 hb hg_ hnew_
            clear hg_ hnew_
            (first | rw [← Ny317.out] at ho34 | (simp only [Int.reduceToNat] at ho34; rw [← Ny317.out] at ho34))
            have n0_ := Aside0.mk (Kd.R_elder' (by (with_reducible repeat (first | apply Kd.R_alloc | apply Kd.R_drewN | apply Kd.R_drew)); exact HO316.out) (Kd.R_base ho34) hb)
            have n1_ := Aside0.mk (Kd.R_lower (Kd.R_newB (Kd.R_new' ho34 (Kd.R_lt (by (with_reducible repeat (first | apply Kd.R_alloc | apply Kd.R_drewN | apply Kd.R_drew)); exact HO316.out))) (g := gb300) (o := .cells #[.int .u64 a1_0, .int .u64 a1_1] 55 (0, 0)) (by (with_reducible repeat (first | refine blk_drewN ?_ _ | refine blk_drew ?_ | refine blk_alloc ?_ _)); exact BK300.out)) (below_size (by repeat (first | (with_reducible first | exact HB.out | apply below_alloc | apply pw_below_drewN | apply below_drew1 | refine below_set ?_ GE300.out) | exact HB.out))))
            have n2_ := Aside0.mk (blk_below (g := gb300) (o := .cells #[.int .u64 a1_0, .int .u64 a1_1] 55 (0, 0)) (by (with_reducible repeat (first | refine blk_drewN ?_ _ | refine blk_drew ?_ | refine blk_alloc ?_ _)); exact BK300.out) hb)
            have n3_ := Aside0.mk (below_step (by repeat (first | (with_reducible first | exact HB.out | apply below_alloc | apply pw_below_drewN | apply below_drew1 | refine below_set ?_ GE300.out) | exact HB.out)) hb)
            clear HO316
            clear BK300
            clear HB
            have HO316 := n0_
            have HO319 := n1_
            have BK300 := n2_
            have HB := n3_
            clear n0_ n1_ n2_ n3_
            clear hb ho34
            refine hK.out _ _ ⟨(blk_cell BK300.out 0).trans rfl, (blk_cell BK300.out 1).trans rfl⟩ (fun hHeld => ?_)
            clear hK K
            refine norm_ (a' := ?_) ?_ ?_
            rotate_left
            · show Act.put _ (some 50) _ = _
              simp only [Act.put, List.setIfInBounds_toArray, List.set_cons_zero, List.set_cons_succ, i64_w, i32_w]
              rfl
            exact norm_ (by simp only [putAll, Act.put, List.setIfInBounds_toArray, List.set_cons_zero, List.set_cons_succ]) (hCont (v315, v318) _ ⟨hHeld, (by (with_reducible repeat (first | apply Kd.R_alloc | apply Kd.R_drewN | apply Kd.R_drew)); exact Kd.R_mono HO316.out (fun _ hk => ⟨hk.2, hk.1.2⟩)), (by (with_reducible repeat (first | apply Kd.R_alloc | apply Kd.R_drewN | apply Kd.R_drew)); exact Kd.R_mono HO319.out (fun _ hk => ⟨hk.1.2, hk.2⟩)), (by (with_reducible repeat (first | refine blk_drewN ?_ _ | refine blk_drew ?_ | refine blk_alloc ?_ _)); exact BK300.out), (by repeat (first | (with_reducible first | exact HB.out | apply below_alloc | apply pw_below_drewN | apply below_drew1 | refine below_set ?_ GE300.out) | exact HB.out))⟩)
          · skip
            refine Kd.R_lit_step k55 _ 55 ?hg (N := 50) ?hd (xs := ([(⟨a1_0, IntKind.u64.wrap (a1_0 + t304)⟩ : S55)] : List (S55))) (inner := [.int .u64 a1_0, .int .u64 (IntKind.u64.wrap (a1_0 + t304))]) (ok := fun _ => True) (okp := fun _ => True) ?hr ?hp (fun _ hk => hk) trivial (Below.refl _ _) (Nat.le_refl _) (by simp) ?_; (case hd => rfl); (case hg => rfl); (case hr => first | (go_simp; done) | (go_simp; rfl)); (case hp => exact (Reps.c2 (show Kd.M k55 _ _ _ (⟨a1_0, IntKind.u64.wrap (a1_0 + t304)⟩ : S55) [.int .u64 a1_0, .int .u64 (IntKind.u64.wrap (a1_0 + t304))] from (k55_mkM _ _ _ (⟨a1_0, IntKind.u64.wrap (a1_0 + t304)⟩ : S55) )) (Reps.none _ _)))
            intro v318 w32 ho33 hb hg_ hnew_
            clear hg_ hnew_
            (first | rw [← Ny317.out] at ho33 | (simp only [Int.reduceToNat] at ho33; rw [← Ny317.out] at ho33))
            have n0_ := Aside0.mk (Kd.R_lower (Kd.R_newB ho33 (g := gb300) (o := .cells #[.int .u64 a1_0, .int .u64 a1_1] 55 (0, 0)) (by (with_reducible repeat (first | refine blk_drewN ?_ _ | refine blk_drew ?_ | refine blk_alloc ?_ _)); exact BK300.out)) (below_size (by repeat (first | (with_reducible first | exact HB.out | apply below_alloc | apply pw_below_drewN | apply below_drew1 | refine below_set ?_ GE300.out) | exact HB.out))))
            have n1_ := Aside0.mk (blk_below (g := gb300) (o := .cells #[.int .u64 a1_0, .int .u64 a1_1] 55 (0, 0)) (by (with_reducible repeat (first | refine blk_drewN ?_ _ | refine blk_drew ?_ | refine blk_alloc ?_ _)); exact BK300.out) hb)
            have n2_ := Aside0.mk (below_step (by repeat (first | (with_reducible first | exact HB.out | apply below_alloc | apply pw_below_drewN | apply below_drew1 | refine below_set ?_ GE300.out) | exact HB.out)) hb)
            clear BK300
            clear HB
            have HO319 := n0_
            have BK300 := n1_
            have HB := n2_
            clear n0_ n1_ n2_
            clear hb ho33
            refine hK.out _ _ ⟨(blk_cell BK300.out 0).trans rfl, (blk_cell BK300.out 1).trans rfl⟩ (fun hHeld => ?_)
            clear hK K
            refine norm_ (a' := ?_) ?_ ?_
            rotate_left
            · show Act.put _ (some 50) _ = _
              simp only [Act.put, List.setIfInBounds_toArray, List.set_cons_zero, List.set_cons_succ, i64_w, i32_w]
              rfl
            refine one_ (i := 5) (N := some 45) #[true, true, true, true, true, true, true, true, true, true, true, false, false] rfl rfl (one_of HT_.out (by kernel_rfl)) (by decide) (fun K hK => ?_)
            refine goes_ Tryd.func96 (by kernel_rfl) rfl #[.int .u64 a0, .agg #[.int .u64 (IntKind.u64.wrap (a1_0 + t304)), .int .u64 a1_1], .bool false] (by rfl) rfl rfl (by (try simp only [List.map_toArray, List.map_cons, List.map_nil]); first | done | rfl | (simp only [List.length_drop, List.length_take]; rfl)) ?_
            with_reducible refine (ih k (by omega) a0 (IntKind.u64.wrap (a1_0 + t304)) a1_1 false t314 _ A26.out).mono ?_
            rintro e w34 ⟨v315, rfl, ho0, hb⟩
            refine ⟨_, rfl, ?_⟩
            have n0_ := Aside0.mk (Kd.R_elder' (by (with_reducible repeat (first | apply Kd.R_alloc | apply Kd.R_drewN | apply Kd.R_drew)); exact HO319.out) (Kd.R_base ho0) hb)
            have n1_ := Aside0.mk (Kd.R_lower (Kd.R_newB (Kd.R_new' ho0 (Kd.R_lt (by (with_reducible repeat (first | apply Kd.R_alloc | apply Kd.R_drewN | apply Kd.R_drew)); exact HO319.out))) (g := gb300) (o := .cells #[.int .u64 a1_0, .int .u64 a1_1] 55 (0, 0)) (by (with_reducible repeat (first | refine blk_drewN ?_ _ | refine blk_drew ?_ | refine blk_alloc ?_ _)); exact BK300.out)) (below_size (by repeat (first | (with_reducible first | exact HB.out | apply below_alloc | apply pw_below_drewN | apply below_drew1 | refine below_set ?_ GE300.out) | exact HB.out))))
            have n2_ := Aside0.mk (blk_below (g := gb300) (o := .cells #[.int .u64 a1_0, .int .u64 a1_1] 55 (0, 0)) (by (with_reducible repeat (first | refine blk_drewN ?_ _ | refine blk_drew ?_ | refine blk_alloc ?_ _)); exact BK300.out) hb)
            have n3_ := Aside0.mk (below_step (by repeat (first | (with_reducible first | exact HB.out | apply below_alloc | apply pw_below_drewN | apply below_drew1 | refine below_set ?_ GE300.out) | exact HB.out)) hb)
            clear HO319
            clear BK300
            clear HB
            have HO319 := n0_
            have HO316 := n1_
            have BK300 := n2_
            have HB := n3_
            clear n0_ n1_ n2_ n3_
            (try clear hb)
            (try clear hb2)
            (try clear hk)
            (try clear hi)
            (try clear ho0)
            refine hK.out _ _ ⟨(blk_cell BK300.out 0).trans rfl, (blk_cell BK300.out 1).trans rfl⟩ (fun hHeld => ?_)
            clear hK K
            refine norm_ (a' := ?_) ?_ ?_
            rotate_left
            · show Act.put _ (some 45) _ = _
              simp only [Act.put, List.setIfInBounds_toArray, List.set_cons_zero, List.set_cons_succ, i64_w, i32_w]
              rfl
            exact norm_ (by simp only [putAll, Act.put, List.setIfInBounds_toArray, List.set_cons_zero, List.set_cons_succ]) (hCont (v315, v318) _ ⟨hHeld, (by (with_reducible repeat (first | apply Kd.R_alloc | apply Kd.R_drewN | apply Kd.R_drew)); exact Kd.R_mono HO316.out (fun _ hk => ⟨hk.1.2, hk.2⟩)), (by (with_reducible repeat (first | apply Kd.R_alloc | apply Kd.R_drewN | apply Kd.R_drew)); exact Kd.R_mono HO319.out (fun _ hk => ⟨hk.2, hk.1.2⟩)), (by (with_reducible repeat (first | refine blk_drewN ?_ _ | refine blk_drew ?_ | refine blk_alloc ?_ _)); exact BK300.out), (by repeat (first | (with_reducible first | exact HB.out | apply below_alloc | apply pw_below_drewN | apply below_drew1 | refine below_set ?_ GE300.out) | exact HB.out))⟩)
        rintro ⟨v315, v318⟩ w35 ⟨hS_, h0_, h1_, h2_, h3_⟩
        have n0_ : Aside0 (Kd.R k55 55 w35 w.heap.size (fun k_ => some k_ ≠ (v318 : Value).ownBlock ∧ k_ ≠ gb300) v315 t314) := ⟨h0_⟩
        have n1_ : Aside0 (Kd.R k55 55 w35 w.heap.size (fun k_ => some k_ ≠ (v315 : Value).ownBlock ∧ k_ ≠ gb300) v318 y317) := ⟨h1_⟩
        have n2_ : Aside0 (w35.heap[gb300]? = some (.cells #[.int .u64 a1_0, .int .u64 a1_1] 55 (0, 0))) := ⟨h2_⟩
        have n3_ : Aside0 (Below w.heap.size w w35) := ⟨h3_⟩
        clear BK300
        clear HB
        clear h0_ h1_ h2_ h3_
        have HO316 := n0_
        have HO319 := n1_
        have BK300 := n2_
        have HB := n3_
        clear n0_ n1_ n2_ n3_
        have hHeld : w35.cell? ⟨gb300, 0, none⟩ = some (.int .u64 a1_0) ∧ w35.cell? ⟨gb300, 1, none⟩ = some (.int .u64 a1_1) := hS_
        obtain ⟨Ao37, co37, eo37⟩ := Kd.R_slice HO319.out
        (first | subst eo37 | (injection eo37 with f1_ f2_ f3_; have f4_ := f1_.symm; have f5_ := f3_.symm; clear f1_ f2_ f3_; subst f4_; subst f5_))
        refine norm_ (a' := ?_) ?_ ?_
        rotate_left
        · simp only [putAll, Act.put, List.setIfInBounds_toArray, List.set_cons_zero, List.set_cons_succ]
          rfl
        refine one_ (i := 11) (N := some 51) #[true, true, true, true, true, true, true, true, true, true, true, true, false] rfl rfl (one_of HT_.out (by kernel_rfl)) (by decide) (fun K hK => ?_)
        refine Kd.R_append_rows_step k55 (w0 := w) w.heap.size (by rfl) (.tmp 45) (.tmp 50) 84 55 (.agg #[(.int .u64 0), (.int .u64 0)]) 16 rfl Tryd.underlying84 info55 rfl (by decide) (by omega) v315 t314 y317 _ _ _ (fun k_ => some k_ ≠ (.slice Ao37 y317.length co37 : Value).ownBlock ∧ k_ ≠ gb300) (fun _ => False) rfl rfl ?aO ?aR (fun _ _ h => h) (fun _ h => h.elim) ?aF ?aB ?aS ?aL ?_
        (case aR => repeat (first | exact (Kd.R_reads' HO319.out).2.2 | (with_reducible refine Kd.C_alloc ?_ _) | (with_reducible refine Kd.C_drewN ?_ _) | (with_reducible refine Kd.C_drew ?_)))
        (case aB => exact (by repeat (first | (with_reducible first | exact HB.out | apply below_alloc | apply pw_below_drewN | apply below_drew1 | refine below_set ?_ GE300.out) | exact HB.out)))
        (case aF => exact (fun k_ hk => ⟨Kd.fresh' (Kd.R_lt (by (with_reducible repeat (first | apply Kd.R_alloc | apply Kd.R_drewN | apply Kd.R_drew)); exact HO319.out)) k_ hk, Kd.freshB (g := gb300) (o := .cells #[.int .u64 a1_0, .int .u64 a1_1] 55 (0, 0)) (by (with_reducible repeat (first | refine blk_drewN ?_ _ | refine blk_drew ?_ | refine blk_alloc ?_ _)); exact BK300.out) k_ hk⟩))
        (case aO => exact (by (with_reducible repeat (first | apply Kd.R_alloc | apply Kd.R_drewN | apply Kd.R_drew)); exact HO316.out))
        (case aS => exact (below_size (by repeat (first | (with_reducible first | exact HB.out | apply below_alloc | apply pw_below_drewN | apply below_drew1 | refine below_set ?_ GE300.out) | exact HB.out))))
        (case aL => have := LMc27.out; omega)
        intro v321 w36 ho hb hg hat
        rw [← Ny320.out] at ho
        have n0_ := Aside0.mk (blk_grown (g := gb300) (o := .cells #[.int .u64 a1_0, .int .u64 a1_1] 55 (0, 0)) (by (with_reducible repeat (first | refine blk_drewN ?_ _ | refine blk_drew ?_ | refine blk_alloc ?_ _)); exact BK300.out) hg (Kd.R_away HO316.out (fun _ hk => hk.2)))
        have n1_ := Aside0.mk (Kd.R_after (ok := (fun k_ => k_ ≠ gb300)) (by (with_reducible repeat (first | apply Kd.R_alloc | apply Kd.R_drewN | apply Kd.R_drew)); exact Kd.R_mono HO319.out (fun _ hk => ⟨hk.2, hk.1⟩)) hg hat)
        have n2_ := Aside0.mk (hb)
        have n3_ := Aside0.mk (ho)
        clear BK300
        clear HO319
        clear HB
        clear HO316
        have BK300 := n0_
        have HO319 := n1_
        have HB := n2_
        have HO322 := n3_
        clear n0_ n1_ n2_ n3_
        clear ho hb hg hat
        refine hK.out _ _ ⟨(blk_cell BK300.out 0).trans rfl, (blk_cell BK300.out 1).trans rfl⟩ (fun hHeld => ?_)
        clear hK K
        refine norm_ (a' := ?_) ?_ ?_
        rotate_left
        · show Act.put _ (some 51) _ = _
          simp only [Act.put, List.setIfInBounds_toArray, List.set_cons_zero, List.set_cons_succ, i64_w, i32_w]
          rfl
        refine pure_ (i := 12) (N := some 6) (v := ?_) (a' := ?_) #[true, true, true, true, true, true, true, true, true, true, true, true, true] rfl rfl (any_of HT_.out (by kernel_rfl)) (fun _ _ _ h => h) (Or.inl ⟨by rfl, ?_⟩) ?_ ?_
        rotate_left
        · intro w'
          go_simp
          with_reducible rfl
        rotate_left
        · simp only [Act.put, List.setIfInBounds_toArray, List.set_cons_zero, List.set_cons_succ, i64_w, i32_w]
          rfl
        refine done_ (done_of HT_.out (by kernel_rfl)) ?_
        try go_wp2
        go_ret
        exact ⟨_, by first | rfl | (simp [errW_none, errW_some] <;> rfl) | (simp [*, errW_none, errW_some] <;> rfl), by (with_reducible repeat (first | apply Kd.R_alloc | apply Kd.R_drewN | apply Kd.R_drew)); exact Kd.R_mono HO322.out (fun _ hk => trivial), by repeat (first | (with_reducible first | exact HB.out | apply below_alloc | apply pw_below_drewN | apply below_drew1 | refine below_set ?_ GE300.out) | exact HB.out)⟩
      · rw [if_neg c27] at H
        exact absurd H (by simp)

/-! ### spec_ProofParts: function 61 -/
def spec_ProofParts.f (k : Nat) (a0 : Int) (a1 : Int) : Option ((List (S55))) := (spec_proofIn.f k a0 0 a1 true).bind fun t323 => (some t323)
theorem spec_ProofParts.mono : ∀ a0 a1 k, LeO (spec_ProofParts.f k a0 a1) (spec_ProofParts.f (k + 1) a0 a1) := by
  intro a0 a1 k
  unfold spec_ProofParts.f
  repeat' first
      | (with_reducible exact spec_proofIn.mono _ _ _ _ _)
      | (with_reducible exact LeO.refl _)
      | (with_reducible exact LeO.none _)
      | (with_reducible refine LeO.ite ?_ ?_)
      | (with_reducible refine LeO.bind ?_ (fun _ => ?_))
      | exact spec_proofIn.mono _ _ _ _ _
      | exact LeO.none _
      | refine LeO.ite ?_ ?_
      | refine LeO.bind ?_ (fun _ => ?_)
set_option maxHeartbeats 8000000 in
set_option maxRecDepth 100000 in
theorem spec_ProofParts.calls (k : Nat) (a0 : Int) (a1 : Int) (r : List (S55)) (w : World) (h : spec_ProofParts.f k a0 a1 = some r) :
    Calls Tryd.prog 61 #[.int .u64 a0, .int .u64 a1] w fun e w' => ∃ v0_ : Value, e = .returned (v0_) ∧ Kd.R k55 55 w' w.heap.size (fun _ => True) v0_ r ∧ Below w.heap.size w w' := by
  have hu55 := Tryd.underlying55
  have HB := Aside0.mk (Below.refl w.heap.size w)
  have H : ((spec_proofIn.f k a0 0 a1 true).bind fun t323 => (some t323)) = some r := h
  clear h
  replace H := Option.bind_eq_some_iff.mp H
  obtain ⟨t323, A30, H⟩ := H
  replace H : (some t323) = some r := H
  have A3 := Aside0.mk A30
  clear A30
  obtain rfl := Option.some.inj H
  go_enter Tryd.func61, Tryd.ntmps61
  go_wp2_with (first | ((with_reducible refine gate_callee (f := 96) rfl ?_); refine goesL_ (some 8) rfl rfl Tryd.func96 (by kernel_rfl) rfl #[.int .u64 a0, .agg #[.int .u64 0, .int .u64 a1], .bool true] rfl (by (try simp only [List.map_toArray, List.map_cons, List.map_nil]); first | done | rfl | (simp only [List.length_drop, List.length_take]; rfl)) ?_; (with_reducible refine (spec_proofIn.calls k a0 0 a1 true t323 _ A3.out).mono ?_); rintro e w4 ⟨v324, rfl, ho0, hb⟩; refine ⟨_, rfl, ?_⟩; have n0_ := Aside0.mk (Kd.R_lower ho0 (below_size (by repeat (first | (with_reducible first | exact HB.out | apply below_alloc | apply pw_below_drewN | apply below_drew1) | exact HB.out)))); have n1_ := Aside0.mk (below_step (by repeat (first | (with_reducible first | exact HB.out | apply below_alloc | apply pw_below_drewN | apply below_drew1) | exact HB.out)) hb); clear HB; have HO325 := n0_; have HB := n1_; clear n0_ n1_; (try clear hb); (try clear hb2); (try clear hk); (try clear hi); (try clear ho0)))
  go_ret
  exact ⟨_, by first | rfl | (simp [errW_none, errW_some] <;> rfl) | (simp [*, errW_none, errW_some] <;> rfl), by (with_reducible repeat (first | apply Kd.R_alloc | apply Kd.R_drewN | apply Kd.R_drew)); exact HO325.out, by repeat (first | (with_reducible first | exact HB.out | apply below_alloc | apply pw_below_drewN | apply below_drew1) | exact HB.out)⟩

end Go.Proofs.YtfhcpniibiobgaaDoor.Qf
