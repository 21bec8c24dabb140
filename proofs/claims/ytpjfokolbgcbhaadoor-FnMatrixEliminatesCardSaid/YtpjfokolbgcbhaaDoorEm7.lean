-- Written by wip/tools/myprint.py for this seat (the kit's print with changes); Lean checks it.
import Derived.Test.YtpjfokolbgcbhaaDoorEm0
namespace Go.Proofs.YtpjfokolbgcbhaaDoor.Qm
open Go.RowKit Go.Proofs.YtpjfokolbgcbhaaDoorW.PrintWords Go.Proofs.YtpjfokolbgcbhaaDoorW.PrintLast Go.Proofs.YtpjfokolbgcbhaaDoorW.PrintMore
attribute [local go_sem] max2_int min2_int max_two min_two max_three min_three max_four min_four   -- for this text's walks alone
set_option linter.unusedVariables false
set_option linter.unusedSimpArgs false

/-! ### spec_Beside: function 39 -/
def spec_Beside.l0 : Nat → List (List Int) → List (List Int) → List (List Int) → Int → Int → Option ((List (List Int)))
  | 0, _, _, _, _, _ => none
  | k + 1, x0, x1, x5, x9, x10 => if x10 < x9 then ((some (([] : List Int) : List Int)).bind fun y310 => (if 0 ≤ x10 then (if x10 < (x0.length : Int) then (if y310.length + (rd_L1 x0 x10).length < 140737488355328 then ((some (y310 ++ (rd_L1 x0 x10) : List Int)).bind fun y314 => (if x10 < (x1.length : Int) then (if y314.length + (rd_L1 x1 x10).length < 140737488355328 then (if x5.length < 5864062014805 then (spec_Beside.l0 k x0 x1 (x5 ++ [(y314 ++ (rd_L1 x1 x10))]) x9 (wrap64 (x10 + 1))) else (none)) else (none)) else (none))) else (none)) else (none)) else (none))) else (some x5)
def spec_Beside.f (k : Nat) (l0 : List (List Int)) (l1 : List (List Int)) : Option ((List (List Int))) := spec_Beside.l0 k l0 l1 (([] : List (List Int))) (l0.length : Int) 0
theorem spec_Beside.mono_l : ∀ k, (∀ y0 y1 y2 y3 y4, LeO (spec_Beside.l0 k y0 y1 y2 y3 y4) (spec_Beside.l0 (k + 1) y0 y1 y2 y3 y4))
  | 0 => fun _ _ _ _ _ r h => by simp [spec_Beside.l0] at h
  | k + 1 => by
    have ih0 := spec_Beside.mono_l k
    · intro y0 y1 y2 y3 y4
      unfold spec_Beside.l0
      repeat' first
      | (with_reducible exact ih0 _ _ _ _ _)
      | (with_reducible exact LeO.refl _)
      | (with_reducible exact LeO.none _)
      | (with_reducible refine LeO.ite ?_ ?_)
      | (with_reducible refine LeO.bind ?_ (fun _ => ?_))
      | exact ih0 _ _ _ _ _
      | exact LeO.none _
      | refine LeO.ite ?_ ?_
      | refine LeO.bind ?_ (fun _ => ?_)
theorem spec_Beside.mono : ∀ a0 a1 k, LeO (spec_Beside.f k a0 a1) (spec_Beside.f (k + 1) a0 a1) := by
  intro a0 a1 k
  have ih0 := spec_Beside.mono_l k
  unfold spec_Beside.f
  repeat' first
      | (with_reducible exact ih0 _ _ _ _ _)
      | (with_reducible exact LeO.refl _)
      | (with_reducible exact LeO.none _)
      | (with_reducible refine LeO.ite ?_ ?_)
      | (with_reducible refine LeO.bind ?_ (fun _ => ?_))
      | exact ih0 _ _ _ _ _
      | exact LeO.none _
      | refine LeO.ite ?_ ?_
      | refine LeO.bind ?_ (fun _ => ?_)
def spec_Beside.T5 : Bool × List (List Nat × List Nat) := (true, [([], []), ([], []), ([], []), ([], []), ([2, 3], [2, 3]), ([4], [4]), ([1, 5], [1, 5]), ([], []), ([], []), ([7, 8], [7, 8]), ([9], [9]), ([6, 10, 6], [6, 10]), ([11], [11]), ([0, 12, 11], [0, 12]), ([13, 13, 0, 1, 2, 3, 4, 5, 6, 7, 8, 9, 10, 11, 12, 13], [0, 13])])
def spec_Beside.B5 : List Nat := [0, 0, 0, 0, 12, 28, 62, 0, 0, 384, 896, 2046, 4094, 8191, 16383]
theorem spec_Beside.tab5 : rtab .any (opsOf Tryd.f39 5) = spec_Beside.T5 := by kernel_rfl
theorem spec_Beside.bits5 : waitsOk spec_Beside.T5.2 spec_Beside.B5 = true := by kernel_rfl
set_option maxHeartbeats 8000000 in
set_option maxRecDepth 100000 in
theorem spec_Beside.calls (k : Nat) (A0 : Option Addr) (c0 : Nat) (l0 : List (List Int)) (A1 : Option Addr) (c1 : Nat) (l1 : List (List Int)) (r : List (List Int)) (w : World) (hr0 : Kd.C (Kd.slice 5 (Kd.int .u8)) w A0 l0.length l0) (hc0 : l0.length ≤ c0) (hr1 : Kd.C (Kd.slice 5 (Kd.int .u8)) w A1 l1.length l1) (hc1 : l1.length ≤ c1) (h : spec_Beside.f k l0 l1 = some r) :
    Calls Tryd.prog 39 #[.slice A0 l0.length c0, .slice A1 l1.length c1] w fun e w' => ∃ v0_ : Value, e = .returned (v0_) ∧ Kd.S (Kd.slice 5 (Kd.int .u8)) 24 w' w.heap.size (fun _ => True) v0_ r ∧ Below w.heap.size w w' := by
  have HR0 := Aside0.mk hr0
  have HC0 := Aside0.mk hc0
  clear hr0 hc0
  have HR1 := Aside0.mk hr1
  have HC1 := Aside0.mk hc1
  clear hr1 hc1
  have HB := Aside0.mk (Below.refl w.heap.size w)
  have H : (spec_Beside.l0 k l0 l1 (([] : List (List Int))) (l0.length : Int) 0) = some r := h
  clear h
  obtain ⟨y307, hy307⟩ : ∃ y_ : List (List Int), y_ = (([] : List (List Int))) := ⟨_, rfl⟩
  replace H : (spec_Beside.l0 k l0 l1 y307 (l0.length : Int) 0) = some r := by first | (rw [hy307]; with_reducible exact H) | (have H2_ := (Option.bind_some _ _).symm.trans H; rw [hy307]; with_reducible exact H2_) | (have H2_ := (Option.bind_some _ _).symm.trans H; with_reducible exact H2_) | with_reducible exact H | (rw [hy307]; exact H) | exact H
  have Ny307 := Aside0.mk hy307
  clear hy307
  have H' := Aside0.mk H
  clear H
  go_enter Tryd.func39, Tryd.ntmps39
  go_wp2_with (first | ((with_reducible refine gate_dst (N := 7) rfl ?_); refine Kd.S_lit (Kd.slice 5 (Kd.int .u8)) _ 24 ?hg (N := 7) ?hd (xs := ([] : List (List Int))) (inner := []) (ok := fun _ => True) (okp := fun _ => True) ?hr ?hp (fun _ hk => hk) trivial (Below.refl _ _) (Nat.le_refl _) (by simp) ?_; (case hd => rfl); (case hg => rfl); (case hr => first | (go_simp; done) | (go_simp; rfl)); (case hp => exact (Reps.none _ _)); intro v308 w3 ho4 hb hg_ hnew_; clear hg_ hnew_; (first | rw [← Ny307.out] at ho4 | (simp only [Int.reduceToNat] at ho4; rw [← Ny307.out] at ho4)); have n0_ := Aside0.mk (Kd.S_lower ho4 (below_size (by repeat (first | (with_reducible first | exact HB.out | apply below_alloc | apply pw_below_drewN | apply below_drew1) | exact HB.out)))); have n1_ := Aside0.mk (below_step (by repeat (first | (with_reducible first | exact HB.out | apply below_alloc | apply pw_below_drewN | apply below_drew1) | exact HB.out)) hb); clear HB; have HO309 := n0_; have HB := n1_; clear n0_ n1_; clear hb ho4))
  (try simp only [Act.put, List.setIfInBounds_toArray, List.set_cons_zero, List.set_cons_succ])
  go_loopg [5, 10] k (fun kq v5 v10 w' => ∃ (x5_1 : List (List Int)) (x10_1 : Int), v10 = .int .i64 x10_1 ∧ Aside0 (spec_Beside.l0 kq l0 l1 x5_1 (l0.length : Int) x10_1 = some r) ∧ Aside0 (kq ≤ k) ∧ Aside0 (Kd.S (Kd.slice 5 (Kd.int .u8)) 24 w' w.heap.size (fun _ => True) v5 x5_1) ∧ Aside0 (Below w.heap.size w w'))
  case atStart => exact ⟨(y307), (0), (by first | rfl | (simp; done) | (simp [*]; done)), H', ⟨Nat.le_refl _⟩, ⟨by (with_reducible repeat (first | apply Kd.S_alloc | apply Kd.S_drewN | apply Kd.S_drew)); exact HO309.out⟩, ⟨by repeat (first | (with_reducible first | exact HB.out | apply below_alloc | apply pw_below_drewN | apply below_drew1) | exact HB.out)⟩⟩
  case round =>
    clear H'
    try clear c1
    try clear p2
    try clear c3
    obtain ⟨x5_1, x10_1, rfl, HA, HK1, HO_5, HB⟩ := hrel
    cases gk with
    | zero => exact absurd HA.out (by simp [spec_Beside.l0])
    | succ k1 =>
      have H := HA.out
      clear HA
      simp only [spec_Beside.l0] at H
      by_cases c5 : x10_1 < (l0.length : Int)
      · rw [if_pos c5] at H
        have c5b0 : decide (x10_1 < (l0.length : Int)) = true := decide_eq_true c5
        clear c5
        obtain ⟨y310, hy310⟩ : ∃ y_ : List Int, y_ = (([] : List Int)) := ⟨_, rfl⟩
        replace H : (if 0 ≤ x10_1 then (if x10_1 < (l0.length : Int) then (if y310.length + (rd_L1 l0 x10_1).length < 140737488355328 then ((some (y310 ++ (rd_L1 l0 x10_1) : List Int)).bind fun y314 => (if x10_1 < (l1.length : Int) then (if y314.length + (rd_L1 l1 x10_1).length < 140737488355328 then (if x5_1.length < 5864062014805 then (spec_Beside.l0 k1 l0 l1 (x5_1 ++ [(y314 ++ (rd_L1 l1 x10_1))]) (l0.length : Int) (wrap64 (x10_1 + 1))) else (none)) else (none)) else (none))) else (none)) else (none)) else (none)) = some r := by first | (rw [hy310]; with_reducible exact H) | (have H2_ := (Option.bind_some _ _).symm.trans H; rw [hy310]; with_reducible exact H2_) | (have H2_ := (Option.bind_some _ _).symm.trans H; with_reducible exact H2_) | with_reducible exact H | (rw [hy310]; exact H) | exact H
        have Ny310 := Aside0.mk hy310
        clear hy310
        by_cases c6 : 0 ≤ x10_1
        · rw [if_pos c6] at H
          have c6b0 : decide (0 ≤ x10_1) = true := decide_eq_true c6
          clear c6
          by_cases c7 : x10_1 < (l0.length : Int)
          · rw [if_pos c7] at H
            have c7b0 : decide (x10_1 < (l0.length : Int)) = true := decide_eq_true c7
            clear c7
            by_cases c8 : y310.length + (rd_L1 l0 x10_1).length < 140737488355328
            · rw [if_pos c8] at H
              have LMc8 := Aside0.mk c8
              clear c8
              obtain ⟨y314, hy314⟩ : ∃ y_ : List Int, y_ = (y310 ++ (rd_L1 l0 x10_1)) := ⟨_, rfl⟩
              replace H : (if x10_1 < (l1.length : Int) then (if y314.length + (rd_L1 l1 x10_1).length < 140737488355328 then (if x5_1.length < 5864062014805 then (spec_Beside.l0 k1 l0 l1 (x5_1 ++ [(y314 ++ (rd_L1 l1 x10_1))]) (l0.length : Int) (wrap64 (x10_1 + 1))) else (none)) else (none)) else (none)) = some r := by first | (rw [hy314]; with_reducible exact H) | (have H2_ := (Option.bind_some _ _).symm.trans H; rw [hy314]; with_reducible exact H2_) | (have H2_ := (Option.bind_some _ _).symm.trans H; with_reducible exact H2_) | with_reducible exact H | (rw [hy314]; exact H) | exact H
              have Ny314 := Aside0.mk hy314
              clear hy314
              by_cases c9 : x10_1 < (l1.length : Int)
              · rw [if_pos c9] at H
                have c9b0 : decide (x10_1 < (l1.length : Int)) = true := decide_eq_true c9
                clear c9
                by_cases c10 : y314.length + (rd_L1 l1 x10_1).length < 140737488355328
                · rw [if_pos c10] at H
                  have LMc10 := Aside0.mk c10
                  clear c10
                  obtain ⟨y318, hy318⟩ : ∃ y_ : List Int, y_ = (y314 ++ (rd_L1 l1 x10_1)) := ⟨_, rfl⟩
                  replace H : (if x5_1.length < 5864062014805 then (spec_Beside.l0 k1 l0 l1 (x5_1 ++ [y318]) (l0.length : Int) (wrap64 (x10_1 + 1))) else (none)) = some r := by first | (rw [hy318]; with_reducible exact H) | (have H2_ := (Option.bind_some _ _).symm.trans H; rw [hy318]; with_reducible exact H2_) | (have H2_ := (Option.bind_some _ _).symm.trans H; with_reducible exact H2_) | with_reducible exact H | (rw [hy318]; exact H) | exact H
                  have Ny318 := Aside0.mk hy318
                  clear hy318
                  by_cases c11 : x5_1.length < 5864062014805
                  · rw [if_pos c11] at H
                    have LMc11 := Aside0.mk c11
                    clear c11
                    obtain ⟨y321, hy321⟩ : ∃ y_ : List (List Int), y_ = (x5_1 ++ [y318]) := ⟨_, rfl⟩
                    replace H : (spec_Beside.l0 k1 l0 l1 y321 (l0.length : Int) (wrap64 (x10_1 + 1))) = some r := by first | (rw [hy321]; with_reducible exact H) | (have H2_ := (Option.bind_some _ _).symm.trans H; rw [hy321]; with_reducible exact H2_) | (have H2_ := (Option.bind_some _ _).symm.trans H; with_reducible exact H2_) | with_reducible exact H | (rw [hy321]; exact H) | exact H
                    have Ny321 := Aside0.mk hy321
                    clear hy321
                    have H' := Aside0.mk H
                    clear H
                    try go_wp2
                    have n0_ := Aside0.mk (Kd.S_drew HO_5.out)
                    have n1_ := Aside0.mk (below_drew1 HB.out)
                    clear HO_5
                    clear HB
                    have HO_5 := n0_
                    have HB := n1_
                    clear n0_ n1_
                    have p313 : 0 ≤ (x10_1 : Int) := of_decide_eq_true (by first | (with_reducible assumption) | assumption)
                    have q313 : x10_1 < (l0.length : Int) := of_decide_eq_true (by first | (with_reducible assumption) | assumption)
                    obtain ⟨ad313, A313_0, c313_0, e313, hx313_0, hl313_0, hi313_0⟩ := at_L1 HR0.out x10_1 p313 q313
                    have hw313_0 := hx313_0
                    cases e313
                    (try replace hx313_0 := (HB.out.cell (World.block_lt_of_cell? w _ hx313_0)).trans hx313_0)
                    have HR313_0 := Aside0.mk hi313_0
                    have HC313_0 := Aside0.mk hl313_0
                    clear hi313_0 hl313_0
                    replace p313 := eq_true p313
                    replace q313 := eq_true q313
                    have p317 : 0 ≤ (x10_1 : Int) := of_decide_eq_true (by first | (with_reducible assumption) | assumption)
                    have q317 : x10_1 < (l1.length : Int) := of_decide_eq_true (by first | (with_reducible assumption) | assumption)
                    obtain ⟨ad317, A317_0, c317_0, e317, hx317_0, hl317_0, hi317_0⟩ := at_L1 HR1.out x10_1 p317 q317
                    have hw317_0 := hx317_0
                    cases e317
                    (try replace hx317_0 := (HB.out.cell (World.block_lt_of_cell? w _ hx317_0)).trans hx317_0)
                    have HR317_0 := Aside0.mk hi317_0
                    have HC317_0 := Aside0.mk hl317_0
                    clear hi317_0 hl317_0
                    replace p317 := eq_true p317
                    replace q317 := eq_true q317
                    refine start_ (n := 15) (S := fun w' => w'.cell? (ad313.add (x10_1).toNat) = some (.slice A313_0 (rd_L1 l0 x10_1).length c313_0) ∧ w'.cell? (ad317.add (x10_1).toNat) = some (.slice A317_0 (rd_L1 l1 x10_1).length c317_0)) (ds := []) #[false, false, false, false, false, false, false, false, false, false, false, false, false, false, false] (by kernel_rfl) rfl rfl ⟨((HB.out.cell (World.block_lt_of_cell? w _ hw313_0)).trans hw313_0), ((HB.out.cell (World.block_lt_of_cell? w _ hw317_0)).trans hw317_0)⟩ (fun hHeld => ?_); refine with_tabW spec_Beside.tab5 spec_Beside.bits5 (fun HT_ HW_ => ?_)
                    generalize wr.drew = w12 at HO_5 HB HR313_0 HR317_0 hx313_0 hx317_0 hHeld ⊢
                    refine pure_ (i := 0) (N := some 13) (v := ?_) (a' := ?_) #[true, false, false, false, false, false, false, false, false, false, false, false, false, false, false] rfl rfl (any_of HT_.out (by kernel_rfl)) (fun _ _ _ h => h) (Or.inl ⟨by rfl, ?_⟩) ?_ ?_
                    rotate_left
                    · intro w'
                      go_simp
                      with_reducible rfl
                    rotate_left
                    · simp only [Act.put, List.setIfInBounds_toArray, List.set_cons_zero, List.set_cons_succ, i64_w, i32_w]
                      rfl
                    refine pure_ (i := 2) (N := some 15) (v := ?_) (a' := ?_) #[true, false, true, false, false, false, false, false, false, false, false, false, false, false, false] rfl rfl (any_of HT_.out (by kernel_rfl)) (fun _ _ _ h => h) (Or.inl ⟨by rfl, ?_⟩) ?_ ?_
                    rotate_left
                    · intro w'
                      go_simp
                      with_reducible rfl
                    rotate_left
                    · simp only [Act.put, List.setIfInBounds_toArray, List.set_cons_zero, List.set_cons_succ, i64_w, i32_w]
                      rfl
                    refine pure_ (i := 3) (N := some 16) (v := ?_) (a' := ?_) #[true, false, true, true, false, false, false, false, false, false, false, false, false, false, false] rfl rfl (any_of HT_.out (by kernel_rfl)) (fun _ _ _ h => h) (Or.inl ⟨by rfl, ?_⟩) ?_ ?_
                    rotate_left
                    · intro w'
                      go_simp
                      with_reducible rfl
                    rotate_left
                    · simp only [Act.put, List.setIfInBounds_toArray, List.set_cons_zero, List.set_cons_succ, i64_w, i32_w]
                      rfl
                    refine pure_ (i := 4) (N := some 17) (v := ?_) (a' := ?_) #[true, false, true, true, true, false, false, false, false, false, false, false, false, false, false] rfl rfl (any_of HT_.out (by kernel_rfl)) (fun _ _ _ h => h) (Or.inl ⟨by rfl, ?_⟩) ?_ ?_
                    rotate_left
                    · intro w'
                      go_simp
                      with_reducible rfl
                    rotate_left
                    · simp only [Act.put, List.setIfInBounds_toArray, List.set_cons_zero, List.set_cons_succ, i64_w, i32_w]
                      rfl
                    refine pure_ (i := 7) (N := some 20) (v := ?_) (a' := ?_) #[true, false, true, true, true, false, false, true, false, false, false, false, false, false, false] rfl rfl (any_of HT_.out (by kernel_rfl)) (fun _ _ _ h => h) (Or.inl ⟨by rfl, ?_⟩) ?_ ?_
                    rotate_left
                    · intro w'
                      go_simp
                      with_reducible rfl
                    rotate_left
                    · simp only [Act.put, List.setIfInBounds_toArray, List.set_cons_zero, List.set_cons_succ, i64_w, i32_w]
                      rfl
                    refine pure_ (i := 8) (N := some 21) (v := ?_) (a' := ?_) #[true, false, true, true, true, false, false, true, true, false, false, false, false, false, false] rfl rfl (any_of HT_.out (by kernel_rfl)) (fun _ _ _ h => h) (Or.inl ⟨by rfl, ?_⟩) ?_ ?_
                    rotate_left
                    · intro w'
                      go_simp
                      with_reducible rfl
                    rotate_left
                    · simp only [Act.put, List.setIfInBounds_toArray, List.set_cons_zero, List.set_cons_succ, i64_w, i32_w]
                      rfl
                    refine pure_ (i := 9) (N := some 22) (v := ?_) (a' := ?_) #[true, false, true, true, true, false, false, true, true, true, false, false, false, false, false] rfl rfl (any_of HT_.out (by kernel_rfl)) (fun _ _ _ h => h) (Or.inl ⟨by rfl, ?_⟩) ?_ ?_
                    rotate_left
                    · intro w'
                      go_simp
                      with_reducible rfl
                    rotate_left
                    · simp only [Act.put, List.setIfInBounds_toArray, List.set_cons_zero, List.set_cons_succ, i64_w, i32_w]
                      rfl
                    refine take_ (i := 5) (N := some 18) (v := ?_) (a' := ?_) #[true, false, true, true, true, true, false, true, true, true, false, false, false, false, false] rfl rfl (take_ofW HT_.out HW_.out (by kernel_rfl)) (fun _ _ _ h => h) (Or.inl ⟨by rfl, ?_⟩) hHeld ?_ ?_
                    rotate_left
                    · rintro w' ⟨s0, s1⟩
                      go_simp
                      with_reducible rfl
                    rotate_left
                    · simp only [Act.put, List.setIfInBounds_toArray, List.set_cons_zero, List.set_cons_succ, i64_w, i32_w]
                      rfl
                    refine take_ (i := 10) (N := some 23) (v := ?_) (a' := ?_) #[true, false, true, true, true, true, false, true, true, true, true, false, false, false, false] rfl rfl (take_ofW HT_.out HW_.out (by kernel_rfl)) (fun _ _ _ h => h) (Or.inl ⟨by rfl, ?_⟩) hHeld ?_ ?_
                    rotate_left
                    · rintro w' ⟨s0, s1⟩
                      go_simp
                      with_reducible rfl
                    rotate_left
                    · simp only [Act.put, List.setIfInBounds_toArray, List.set_cons_zero, List.set_cons_succ, i64_w, i32_w]
                      rfl
                    refine one_ (i := 1) (N := some 14) #[true, true, true, true, true, true, false, true, true, true, true, false, false, false, false] rfl rfl (one_of HT_.out (by kernel_rfl)) (by decide) (fun K hK => ?_)
                    refine Kd.R_lit_step (Kd.int .u8) _ 5 ?hg (N := 14) ?hd (xs := ([] : List Int)) (inner := []) (ok := fun _ => True) (okp := fun _ => True) ?hr ?hp (fun _ hk => hk) trivial (Below.refl _ _) (Nat.le_refl _) (by simp) ?_; (case hd => rfl); (case hg => rfl); (case hr => first | (go_simp; done) | (go_simp; rfl)); (case hp => exact (Reps.none _ _))
                    intro v311 w13 ho14 hb hg_ hnew_
                    clear hg_ hnew_
                    (first | rw [← Ny310.out] at ho14 | (simp only [Int.reduceToNat] at ho14; rw [← Ny310.out] at ho14))
                    have n0_ := Aside0.mk (Kd.S_elder' (by (with_reducible repeat (first | apply Kd.S_alloc | apply Kd.S_drewN | apply Kd.S_drew)); exact HO_5.out) (Kd.R_base ho14) hb)
                    have n1_ := Aside0.mk (Kd.R_lower ho14 (below_size (by repeat (first | (with_reducible first | exact HB.out | apply below_alloc | apply pw_below_drewN | apply below_drew1) | exact HB.out))))
                    have n2_ := Aside0.mk (below_step (by repeat (first | (with_reducible first | exact HB.out | apply below_alloc | apply pw_below_drewN | apply below_drew1) | exact HB.out)) hb)
                    clear HO_5
                    clear HB
                    have HO_5 := n0_
                    have HO312 := n1_
                    have HB := n2_
                    clear n0_ n1_ n2_
                    clear hb ho14
                    refine hK.out _ _ ⟨((HB.out.cell (World.block_lt_of_cell? w _ hw313_0)).trans hw313_0), ((HB.out.cell (World.block_lt_of_cell? w _ hw317_0)).trans hw317_0)⟩ (fun hHeld => ?_)
                    clear hK K
                    refine norm_ (a' := ?_) ?_ ?_
                    rotate_left
                    · show Act.put _ (some 14) _ = _
                      simp only [Act.put, List.setIfInBounds_toArray, List.set_cons_zero, List.set_cons_succ, i64_w, i32_w]
                      rfl
                    refine one_ (i := 6) (N := some 19) #[true, true, true, true, true, true, true, true, true, true, true, false, false, false, false] rfl rfl (one_of HT_.out (by kernel_rfl)) (by decide) (fun K hK => ?_)
                    refine Kd.R_append_rows_step (Kd.int .u8) (w0 := w) w.heap.size (by rfl) (.tmp 14) (.tmp 18) 24 5 (.int .u8 0) 1 rfl Tryd.underlying24 info5 rfl (by decide) (by omega) v311 y310 (rd_L1 l0 x10_1) _ _ _ (fun _ => True) (fun _ => False) rfl rfl ?aO ?aR (fun _ _ h => h) (fun _ h => h.elim) ?aF ?aB ?aS ?aL ?_
                    (case aR => repeat (first | exact (Kd.C_below HR313_0.out HB.out) | (with_reducible refine Kd.C_alloc ?_ _) | (with_reducible refine Kd.C_drewN ?_ _) | (with_reducible refine Kd.C_drew ?_)))
                    (case aB => exact (by repeat (first | (with_reducible first | exact HB.out | apply below_alloc | apply pw_below_drewN | apply below_drew1) | exact HB.out)))
                    (case aF => exact (fun _ _ => trivial))
                    (case aO => exact (by (with_reducible repeat (first | apply Kd.R_alloc | apply Kd.R_drewN | apply Kd.R_drew)); exact HO312.out))
                    (case aS => exact (below_size (by repeat (first | (with_reducible first | exact HB.out | apply below_alloc | apply pw_below_drewN | apply below_drew1) | exact HB.out))))
                    (case aL => have := LMc8.out; omega)
                    intro v315 w15 ho hb hg hat
                    rw [← Ny314.out] at ho
                    have n0_ := Aside0.mk (Kd.S_after (ok := (fun _ => True)) (by (with_reducible repeat (first | apply Kd.S_alloc | apply Kd.S_drewN | apply Kd.S_drew)); exact HO_5.out) hg hat)
                    have n1_ := Aside0.mk (hb)
                    have n2_ := Aside0.mk (ho)
                    clear HO_5
                    clear HB
                    clear HO312
                    have HO_5 := n0_
                    have HB := n1_
                    have HO316 := n2_
                    clear n0_ n1_ n2_
                    clear ho hb hg hat
                    refine hK.out _ _ ⟨((HB.out.cell (World.block_lt_of_cell? w _ hw313_0)).trans hw313_0), ((HB.out.cell (World.block_lt_of_cell? w _ hw317_0)).trans hw317_0)⟩ (fun hHeld => ?_)
                    clear hK K
                    refine norm_ (a' := ?_) ?_ ?_
                    rotate_left
                    · show Act.put _ (some 19) _ = _
                      simp only [Act.put, List.setIfInBounds_toArray, List.set_cons_zero, List.set_cons_succ, i64_w, i32_w]
                      rfl
                    refine one_ (i := 11) (N := some 24) #[true, true, true, true, true, true, true, true, true, true, true, true, false, false, false] rfl rfl (one_of HT_.out (by kernel_rfl)) (by decide) (fun K hK => ?_)
                    refine Kd.R_append_rows_step (Kd.int .u8) (w0 := w) w.heap.size (by rfl) (.tmp 19) (.tmp 23) 24 5 (.int .u8 0) 1 rfl Tryd.underlying24 info5 rfl (by decide) (by omega) v315 y314 (rd_L1 l1 x10_1) _ _ _ (fun _ => True) (fun _ => False) rfl rfl ?aO ?aR (fun _ _ h => h) (fun _ h => h.elim) ?aF ?aB ?aS ?aL ?_
                    (case aR => repeat (first | exact (Kd.C_below HR317_0.out HB.out) | (with_reducible refine Kd.C_alloc ?_ _) | (with_reducible refine Kd.C_drewN ?_ _) | (with_reducible refine Kd.C_drew ?_)))
                    (case aB => exact (by repeat (first | (with_reducible first | exact HB.out | apply below_alloc | apply pw_below_drewN | apply below_drew1) | exact HB.out)))
                    (case aF => exact (fun _ _ => trivial))
                    (case aO => exact (by (with_reducible repeat (first | apply Kd.R_alloc | apply Kd.R_drewN | apply Kd.R_drew)); exact HO316.out))
                    (case aS => exact (below_size (by repeat (first | (with_reducible first | exact HB.out | apply below_alloc | apply pw_below_drewN | apply below_drew1) | exact HB.out))))
                    (case aL => have := LMc10.out; omega)
                    intro v319 w16 ho hb hg hat
                    rw [← Ny318.out] at ho
                    have n0_ := Aside0.mk (Kd.S_after (ok := (fun _ => True)) (by (with_reducible repeat (first | apply Kd.S_alloc | apply Kd.S_drewN | apply Kd.S_drew)); exact HO_5.out) hg hat)
                    have n1_ := Aside0.mk (hb)
                    have n2_ := Aside0.mk (ho)
                    clear HO_5
                    clear HB
                    clear HO316
                    have HO_5 := n0_
                    have HB := n1_
                    have HO320 := n2_
                    clear n0_ n1_ n2_
                    clear ho hb hg hat
                    obtain ⟨Ao18, co18, eo18⟩ := Kd.R_slice HO320.out
                    (first | subst eo18 | (injection eo18 with f1_ f2_ f3_; have f4_ := f1_.symm; have f5_ := f3_.symm; clear f1_ f2_ f3_; subst f4_; subst f5_))
                    refine hK.out _ _ ⟨((HB.out.cell (World.block_lt_of_cell? w _ hw313_0)).trans hw313_0), ((HB.out.cell (World.block_lt_of_cell? w _ hw317_0)).trans hw317_0)⟩ (fun hHeld => ?_)
                    clear hK K
                    refine norm_ (a' := ?_) ?_ ?_
                    rotate_left
                    · show Act.put _ (some 24) _ = _
                      simp only [Act.put, List.setIfInBounds_toArray, List.set_cons_zero, List.set_cons_succ, i64_w, i32_w]
                      rfl
                    refine one_ (i := 12) (N := some 25) #[true, true, true, true, true, true, true, true, true, true, true, true, true, false, false] rfl rfl (one_of HT_.out (by kernel_rfl)) (by decide) (fun K hK => ?_)
                    refine value_ (w1 := ?_) (v := ?_) (by rfl) rfl ?_ ?_
                    rotate_left 2
                    · go_simp
                      constructor
                      · rfl
                      · rfl
                    refine hK.out _ _ ⟨(World.cell?_alloc_lt _ _ _ (World.block_lt_of_cell? _ _ (((HB.out.cell (World.block_lt_of_cell? w _ hw313_0)).trans hw313_0)))).trans (((HB.out.cell (World.block_lt_of_cell? w _ hw313_0)).trans hw313_0)), (World.cell?_alloc_lt _ _ _ (World.block_lt_of_cell? _ _ (((HB.out.cell (World.block_lt_of_cell? w _ hw317_0)).trans hw317_0)))).trans (((HB.out.cell (World.block_lt_of_cell? w _ hw317_0)).trans hw317_0))⟩ (fun hHeld => ?_)
                    clear hK K
                    refine norm_ (a' := ?_) ?_ ?_
                    rotate_left
                    · show Act.put _ (some 25) _ = _
                      simp only [Act.put, List.setIfInBounds_toArray, List.set_cons_zero, List.set_cons_succ, i64_w, i32_w]
                      rfl
                    refine one_ (i := 13) (N := some 26) #[true, true, true, true, true, true, true, true, true, true, true, true, true, true, false] rfl rfl (one_of HT_.out (by kernel_rfl)) (by decide) (fun K hK => ?_)
                    refine Kd.S_append_step (Kd.slice 5 (Kd.int .u8)) (w0 := w) w.heap.size (by rfl) (.tmp 13) (.tmp 25) 30 24 (.slice none 0 0) 24 rfl Tryd.underlying30 info24 rfl (by decide) (by omega) u5 x5_1 y318 [.slice Ao18 y318.length co18] (fun _ => True) (fun k_ => some k_ = (.slice Ao18 y318.length co18 : Value).ownBlock) rfl rfl ?aP (fun k_ hk_ => ((Kd.R_mono (ok' := fun k_ => ((fun _ => True)) k_ ∧ some k_ ≠ (u5 : Value).ownBlock) (Kd.R_apart' (HO320.out) (Kd.S_typed HO_5.out) (by decide)) (fun k_ hk => ⟨trivial, hk.2⟩))).1 k_ hk_.symm) ?aF ?aO ?aB ?aS ?aL ?_
                    (case aP => exact Kd.M_row (Kd.R_mono (Kd.R_tight rfl (Kd.R_mono (ok' := fun k_ => ((fun _ => True)) k_ ∧ some k_ ≠ (u5 : Value).ownBlock) (Kd.R_apart' (HO320.out) (Kd.S_typed HO_5.out) (by decide)) (fun k_ hk => ⟨trivial, hk.2⟩))) (fun _ h_ => h_)))
                    (case aB => exact (by repeat (first | (with_reducible first | exact HB.out | apply below_alloc | apply pw_below_drewN | apply below_drew1) | exact HB.out)))
                    (case aF => exact (fun _ _ => trivial))
                    (case aO => exact (by (with_reducible repeat (first | apply Kd.S_alloc | apply Kd.S_drewN | apply Kd.S_drew)); exact Kd.S_mono HO_5.out (fun k_ hk => ⟨trivial, fun e_ => hk.2 e_⟩)))
                    (case aS => exact (below_size (by repeat (first | (with_reducible first | exact HB.out | apply below_alloc | apply pw_below_drewN | apply below_drew1) | exact HB.out))))
                    (case aL => have := LMc11.out; omega)
                    intro v322 w17 ho hb hg hat
                    rw [← Ny321.out] at ho
                    have n0_ := Aside0.mk (hb)
                    have n1_ := Aside0.mk (ho)
                    clear HB
                    clear HO_5
                    clear HO320
                    have HB := n0_
                    have HO323 := n1_
                    clear n0_ n1_
                    clear ho hb hg hat
                    refine hK.out _ _ ⟨((HB.out.cell (World.block_lt_of_cell? w _ hw313_0)).trans hw313_0), ((HB.out.cell (World.block_lt_of_cell? w _ hw317_0)).trans hw317_0)⟩ (fun hHeld => ?_)
                    clear hK K
                    refine norm_ (a' := ?_) ?_ ?_
                    rotate_left
                    · show Act.put _ (some 26) _ = _
                      simp only [Act.put, List.setIfInBounds_toArray, List.set_cons_zero, List.set_cons_succ, i64_w, i32_w]
                      rfl
                    refine pure_ (i := 14) (N := some 5) (v := ?_) (a' := ?_) #[true, true, true, true, true, true, true, true, true, true, true, true, true, true, true] rfl rfl (any_of HT_.out (by kernel_rfl)) (fun _ _ _ h => h) (Or.inl ⟨by rfl, ?_⟩) ?_ ?_
                    rotate_left
                    · intro w'
                      go_simp
                      with_reducible rfl
                    rotate_left
                    · simp only [Act.put, List.setIfInBounds_toArray, List.set_cons_zero, List.set_cons_succ, i64_w, i32_w]
                      rfl
                    refine done_ (done_of HT_.out (by kernel_rfl)) ?_
                    try go_wp2
                    go_roundg k1
                    case measure => have := HK1.out; omega
                    case rel => exact ⟨(y321), (wrap64 (x10_1 + 1)), (by first | rfl | (simp; done) | (simp [*]; done)), H', ⟨by have := HK1.out; omega⟩, ⟨by (with_reducible repeat (first | apply Kd.S_alloc | apply Kd.S_drewN | apply Kd.S_drew)); exact HO323.out⟩, ⟨by repeat (first | (with_reducible first | exact HB.out | apply below_alloc | apply pw_below_drewN | apply below_drew1) | exact HB.out)⟩⟩
                  · rw [if_neg c11] at H
                    exact absurd H (by simp)
                · rw [if_neg c10] at H
                  exact absurd H (by simp)
              · rw [if_neg c9] at H
                exact absurd H (by simp)
            · rw [if_neg c8] at H
              exact absurd H (by simp)
          · rw [if_neg c7] at H
            exact absurd H (by simp)
        · rw [if_neg c6] at H
          exact absurd H (by simp)
      · rw [if_neg c5] at H
        have c5b0 : decide (x10_1 < (l0.length : Int)) = false := decide_eq_false c5
        clear c5
        obtain rfl := Option.some.inj H
        go_wp2
        go_ret
        exact ⟨_, by first | rfl | (simp [errW_none, errW_some] <;> rfl) | (simp [*, errW_none, errW_some] <;> rfl), by (with_reducible repeat (first | apply Kd.S_alloc | apply Kd.S_drewN | apply Kd.S_drew)); exact HO_5.out, by repeat (first | (with_reducible first | exact HB.out | apply below_alloc | apply pw_below_drewN | apply below_drew1) | exact HB.out)⟩

/-! ### spec_Zeros: function 41 -/
def spec_Zeros.l0 : Nat → Int → List (List Int) → Int → Int → Option ((List (List Int)))
  | 0, _, _, _, _ => none
  | k + 1, x1, x5, x10, x11 => if x11 < x10 then (if 0 ≤ x1 then (if (x1 : Int).toNat ≤ 281474976710656 then (if 0 ≤ x11 then (if x11 < (x5.length : Int) then (spec_Zeros.l0 k x1 (x5.set (x11 : Int).toNat (List.replicate (x1 : Int).toNat 0)) x10 (wrap64 (x11 + 1))) else (none)) else (none)) else (none)) else (none)) else (some x5)
def spec_Zeros.f (k : Nat) (a0 : Int) (a1 : Int) : Option ((List (List Int))) := if 0 ≤ a0 then (if (a0 : Int).toNat ≤ 11728124029610 then ((some (List.replicate (a0 : Int).toNat [] : List (List Int))).bind fun y324 => (spec_Zeros.l0 k a1 y324 (y324.length : Int) 0)) else (none)) else (none)
theorem spec_Zeros.mono_l : ∀ k, (∀ y0 y1 y2 y3, LeO (spec_Zeros.l0 k y0 y1 y2 y3) (spec_Zeros.l0 (k + 1) y0 y1 y2 y3))
  | 0 => fun _ _ _ _ r h => by simp [spec_Zeros.l0] at h
  | k + 1 => by
    have ih0 := spec_Zeros.mono_l k
    · intro y0 y1 y2 y3
      unfold spec_Zeros.l0
      repeat' first
      | (with_reducible exact ih0 _ _ _ _)
      | (with_reducible exact LeO.refl _)
      | (with_reducible exact LeO.none _)
      | (with_reducible refine LeO.ite ?_ ?_)
      | (with_reducible refine LeO.bind ?_ (fun _ => ?_))
      | exact ih0 _ _ _ _
      | exact LeO.none _
      | refine LeO.ite ?_ ?_
      | refine LeO.bind ?_ (fun _ => ?_)
theorem spec_Zeros.mono : ∀ a0 a1 k, LeO (spec_Zeros.f k a0 a1) (spec_Zeros.f (k + 1) a0 a1) := by
  intro a0 a1 k
  have ih0 := spec_Zeros.mono_l k
  unfold spec_Zeros.f
  repeat' first
      | (with_reducible exact ih0 _ _ _ _)
      | (with_reducible exact LeO.refl _)
      | (with_reducible exact LeO.none _)
      | (with_reducible refine LeO.ite ?_ ?_)
      | (with_reducible refine LeO.bind ?_ (fun _ => ?_))
      | exact ih0 _ _ _ _
      | exact LeO.none _
      | refine LeO.ite ?_ ?_
      | refine LeO.bind ?_ (fun _ => ?_)
set_option maxHeartbeats 8000000 in
set_option maxRecDepth 100000 in
theorem spec_Zeros.calls (k : Nat) (a0 : Int) (a1 : Int) (r : List (List Int)) (w : World) (h : spec_Zeros.f k a0 a1 = some r) :
    Calls Tryd.prog 41 #[.int .i64 a0, .int .i64 a1] w fun e w' => ∃ v0_ : Value, e = .returned (v0_) ∧ Kd.S (Kd.slice 5 (Kd.int .u8)) 24 w' w.heap.size (fun _ => True) v0_ r ∧ Below w.heap.size w w' := by
  have HB := Aside0.mk (Below.refl w.heap.size w)
  have H : (if 0 ≤ a0 then (if (a0 : Int).toNat ≤ 11728124029610 then ((some (List.replicate (a0 : Int).toNat [] : List (List Int))).bind fun y324 => (spec_Zeros.l0 k a1 y324 (y324.length : Int) 0)) else (none)) else (none)) = some r := h
  clear h
  by_cases c3 : 0 ≤ a0
  · rw [if_pos c3] at H
    have c3b0 := eq_true c3
    have c3b1 : decide (0 ≤ a0) = true := decide_eq_true c3
    clear c3
    by_cases c4 : (a0 : Int).toNat ≤ 11728124029610
    · rw [if_pos c4] at H
      have c4b0 := eq_true c4
      have c4b1 : decide ((a0 : Int).toNat ≤ 11728124029610) = true := decide_eq_true c4
      clear c4
      obtain ⟨y324, hy324⟩ : ∃ y_ : List (List Int), y_ = (List.replicate (a0 : Int).toNat []) := ⟨_, rfl⟩
      replace H : (spec_Zeros.l0 k a1 y324 (y324.length : Int) 0) = some r := by first | (rw [hy324]; with_reducible exact H) | (have H2_ := (Option.bind_some _ _).symm.trans H; rw [hy324]; with_reducible exact H2_) | (have H2_ := (Option.bind_some _ _).symm.trans H; with_reducible exact H2_) | with_reducible exact H | (rw [hy324]; exact H) | exact H
      have Ny324 := Aside0.mk hy324
      clear hy324
      have H' := Aside0.mk H
      clear H
      go_enter Tryd.func41, Tryd.ntmps41
      go_wp2_with (first | ((with_reducible refine gate_dst (N := 8) rfl ?_); refine Kd.S_make (Kd.slice 5 (Kd.int .u8)) _ 24 rfl (N := 8) rfl 30 _ _ rfl a0 rfl rfl Tryd.underlying30 (.slice none 0 0) 24 info24 rfl (by decide) (by omega) [] (ok := fun _ => True) (okp := fun _ => True) ⟨_, rfl, Kd.R_nil _ _ _ _ _⟩ (fun _ hk => hk) trivial (of_decide_eq_true (by first | (with_reducible assumption) | assumption)) (Nat.le_trans (Nat.mul_le_mul_right _ (of_decide_eq_true (by first | (with_reducible assumption) | assumption) : a0.toNat ≤ 11728124029610)) (by omega)) (Below.refl _ _) (Nat.le_refl _) ?_; intro v325 w5 ho6 hb hg_ hnew_; clear hg_ hnew_; (first | rw [← Ny324.out] at ho6 | (simp only [Int.reduceToNat] at ho6; rw [← Ny324.out] at ho6)); have n0_ := Aside0.mk (Kd.S_lower ho6 (below_size (by repeat (first | (with_reducible first | exact HB.out | apply below_alloc | apply pw_below_drewN | apply below_drew1) | exact HB.out)))); have n1_ := Aside0.mk (below_step (by repeat (first | (with_reducible first | exact HB.out | apply below_alloc | apply pw_below_drewN | apply below_drew1) | exact HB.out)) hb); clear HB; have HO326 := n0_; have HB := n1_; clear n0_ n1_; clear hb ho6; obtain ⟨Ao7, co7, eo7⟩ := Kd.S_slice HO326.out; subst eo7))
      (try simp only [Act.put, List.setIfInBounds_toArray, List.set_cons_zero, List.set_cons_succ])
      go_loopg [11] k (fun kq v11 w' => ∃ (x5_1 : List (List Int)) (x11_1 : Int), v11 = .int .i64 x11_1 ∧ Aside0 (spec_Zeros.l0 kq a1 x5_1 (y324.length : Int) x11_1 = some r) ∧ Aside0 (kq ≤ k) ∧ Aside0 (Kd.S (Kd.slice 5 (Kd.int .u8)) 24 w' w.heap.size (fun _ => True) (.slice Ao7 y324.length co7) x5_1) ∧ Aside0 (Below w.heap.size w w'))
      case atStart => exact ⟨(y324), (0), (by first | rfl | (simp; done) | (simp [*]; done)), H', ⟨Nat.le_refl _⟩, ⟨by (with_reducible repeat (first | apply Kd.S_alloc | apply Kd.S_drewN | apply Kd.S_drew)); exact HO326.out⟩, ⟨by repeat (first | (with_reducible first | exact HB.out | apply below_alloc | apply pw_below_drewN | apply below_drew1) | exact HB.out)⟩⟩
      case round =>
        clear H'
        try clear p2
        try clear c3
        try clear c3b0
        try clear c3b1
        try clear c4
        try clear c4b0
        try clear c4b1
        obtain ⟨x5_1, x11_1, rfl, HA, HK1, HO_5, HB⟩ := hrel
        have hl5_1 := (Kd.S_reads' HO_5.out).1
        rw [hl5_1] at HO_5
        (try simp only [hl5_1])
        cases gk with
        | zero => exact absurd HA.out (by simp [spec_Zeros.l0])
        | succ k1 =>
          have H := HA.out
          clear HA
          simp only [spec_Zeros.l0] at H
          by_cases c8 : x11_1 < (y324.length : Int)
          · rw [if_pos c8] at H
            have c8b0 : decide (x11_1 < (y324.length : Int)) = true := decide_eq_true c8
            clear c8
            by_cases c9 : 0 ≤ a1
            · rw [if_pos c9] at H
              have c9b0 := eq_true c9
              have c9b1 : decide (0 ≤ a1) = true := decide_eq_true c9
              clear c9
              by_cases c10 : (a1 : Int).toNat ≤ 281474976710656
              · rw [if_pos c10] at H
                have c10b0 := eq_true c10
                have c10b1 : decide ((a1 : Int).toNat ≤ 281474976710656) = true := decide_eq_true c10
                clear c10
                obtain ⟨y327, hy327⟩ : ∃ y_ : List Int, y_ = (List.replicate (a1 : Int).toNat 0) := ⟨_, rfl⟩
                replace H : (if 0 ≤ x11_1 then (if x11_1 < (x5_1.length : Int) then (spec_Zeros.l0 k1 a1 (x5_1.set (x11_1 : Int).toNat y327) (y324.length : Int) (wrap64 (x11_1 + 1))) else (none)) else (none)) = some r := by first | (rw [hy327]; with_reducible exact H) | (have H2_ := (Option.bind_some _ _).symm.trans H; rw [hy327]; with_reducible exact H2_) | (have H2_ := (Option.bind_some _ _).symm.trans H; with_reducible exact H2_) | with_reducible exact H | (rw [hy327]; exact H) | exact H
                have Ny327 := Aside0.mk hy327
                clear hy327
                by_cases c11 : 0 ≤ x11_1
                · rw [if_pos c11] at H
                  have c11b0 : decide (0 ≤ x11_1) = true := decide_eq_true c11
                  clear c11
                  by_cases c12 : x11_1 < (x5_1.length : Int)
                  · rw [if_pos c12] at H
                    have c12b0 : decide (x11_1 < (x5_1.length : Int)) = true := decide_eq_true c12
                    clear c12
                    obtain ⟨y330, hy330⟩ : ∃ y_ : List (List Int), y_ = (x5_1.set (x11_1 : Int).toNat y327) := ⟨_, rfl⟩
                    replace H : (spec_Zeros.l0 k1 a1 y330 (y324.length : Int) (wrap64 (x11_1 + 1))) = some r := by first | (rw [hy330]; with_reducible exact H) | (have H2_ := (Option.bind_some _ _).symm.trans H; rw [hy330]; with_reducible exact H2_) | (have H2_ := (Option.bind_some _ _).symm.trans H; with_reducible exact H2_) | with_reducible exact H | (rw [hy330]; exact H) | exact H
                    have Ny330 := Aside0.mk hy330
                    clear hy330
                    have H' := Aside0.mk H
                    clear H
                    go_wp2_with (first | ((with_reducible refine gate_dst (N := 17) rfl ?_); refine Kd.R_make (Kd.int .u8) _ 5 rfl (N := 17) rfl 24 _ _ rfl a1 rfl rfl Tryd.underlying24 (.int .u8 0) 1 info5 rfl (by decide) (by omega) 0 (ok := fun _ => True) (okp := fun _ => True) rfl (fun _ hk => hk) trivial (of_decide_eq_true (by first | (with_reducible assumption) | assumption)) (Nat.le_trans (Nat.mul_le_mul_right _ (of_decide_eq_true (by first | (with_reducible assumption) | assumption) : a1.toNat ≤ 281474976710656)) (by omega)) (Below.refl _ _) (Nat.le_refl _) ?_; intro v328 w14 ho15 hb hg_ hnew_; clear hg_ hnew_; (first | rw [← Ny327.out] at ho15 | (simp only [Int.reduceToNat] at ho15; rw [← Ny327.out] at ho15)); have n0_ := Aside0.mk (Kd.S_elder' (by (with_reducible repeat (first | apply Kd.S_alloc | apply Kd.S_drewN | apply Kd.S_drew)); exact HO_5.out) (Kd.R_base ho15) hb); have n1_ := Aside0.mk (Kd.R_lower ho15 (below_size (by repeat (first | (with_reducible first | exact HB.out | apply below_alloc | apply pw_below_drewN | apply below_drew1) | exact HB.out)))); have n2_ := Aside0.mk (below_step (by repeat (first | (with_reducible first | exact HB.out | apply below_alloc | apply pw_below_drewN | apply below_drew1) | exact HB.out)) hb); clear HO_5; clear HB; have HO_5 := n0_; have HO329 := n1_; have HB := n2_; clear n0_ n1_ n2_; clear hb ho15; have p13 : 0 ≤ (x11_1 : Int) := of_decide_eq_true (by first | (with_reducible assumption) | assumption); have q13 : (x11_1 : Int) < ((x5_1.length : Int) : Int) := of_decide_eq_true (by first | (with_reducible assumption) | assumption); obtain ⟨go13, co13, eo13, gb13, gl13, cl13, HG13⟩ := Kd.S_form HO_5.out (by omega); (first | cases eo13 | (injection eo13 with ea_ en_ ec_; (first | subst ea_ | (injection ea_ with ea_; subst ea_)); subst ec_; clear en_)); have GB13 := Aside0.mk gb13; have GG13 := Aside0.mk HG13; clear gb13 gl13 HG13; obtain ⟨_, ce13, hcl13, hM13, hcc13, hfr13, _, _⟩ := Kd.S_elem HO_5.out [] (x11_1 : Int) p13 q13; obtain ⟨ve13_0, rfl, ge13_0⟩ := hM13; have hx13_0 := hcc13 0 _ rfl; have hf13_0 := hfr13 0; (try simp only [show ((Kd.slice 5 (Kd.int .u8))).sz = 1 from rfl, Nat.mul_one, Nat.add_zero] at hx13_0); (try simp only [show ((Kd.slice 5 (Kd.int .u8))).sz = 1 from rfl, Nat.mul_one, Nat.add_zero] at hf13_0); (try clear hcl13); (try clear hcc13); (try clear hfr13); (try clear hM13); replace p13 := eq_true p13; replace q13 := eq_true q13; have n_ := Aside0.mk (Kd.S_mono (ok' := (fun k_ => some k_ ≠ (v328 : Value).ownBlock)) HO_5.out (fun k_ hk => hk.2)); clear HO_5; have HO_5 := n_; clear n_; have HX16 := Aside0.mk (show Kd.S (Kd.slice 5 (Kd.int .u8)) 24 w14 w.heap.size (fun k_ => ((fun _ => True)) k_ ∧ ¬ ((fun k_ => some k_ = (v328 : Value).ownBlock)) k_) (.slice (some ⟨go13, 0, none⟩) x5_1.length co7) x5_1 from (by (with_reducible repeat (first | apply Kd.S_alloc | apply Kd.S_drewN | apply Kd.S_drew)); exact Kd.S_mono HO_5.out (fun k_ hk => ⟨trivial, fun e_ => hk e_⟩))); obtain ⟨oki16, ce16, hcl16, hM16, hcc16, hfr16, hoki16, hH16⟩ := Kd.S_elem HX16.out [] (x11_1 : Int) (of_decide_eq_true (by first | (with_reducible assumption) | assumption)) (by have h_ : (x11_1 : Int) < ((x5_1.length : Int) : Int) := of_decide_eq_true (by first | (with_reducible assumption) | assumption); first | exact h_ | (have e_ := (Kd.S_reads' HO_5.out).1; omega) | simpa using h_); obtain ⟨ve16_0, rfl, ge16_0⟩ := hM16; have HP16 := Kd.S_seg hH16 (of_decide_eq_true (by first | (with_reducible assumption) | assumption)) (by have h_ : (x11_1 : Int) < ((x5_1.length : Int) : Int) := of_decide_eq_true (by first | (with_reducible assumption) | assumption); first | exact h_ | (have e_ := (Kd.S_reads' HO_5.out).1; omega) | simpa using h_) (seg := [v328]) (j := 0) (show 1 ≤ 1 from by decide) (x' := y327) (Kd.M_row (Kd.R_mono (Kd.R_tight rfl (Kd.R_mono (ok' := fun k_ => ((fun _ => True)) k_ ∧ k_ ≠ go13) (Kd.R_apart' (HO329.out) (Kd.S_typed HO_5.out) (by decide)) (fun k_ hk => ⟨trivial, fun e_ => (hk.2) (by rw [e_]; rfl)⟩))) (fun _ h_ => Or.inr (h_)))) (fun _ hk => hk) (fun k_ hk_ => ((Kd.R_mono (ok' := fun k_ => ((fun _ => True)) k_ ∧ k_ ≠ go13) (Kd.R_apart' (HO329.out) (Kd.S_typed HO_5.out) (by decide)) (fun k_ hk => ⟨trivial, fun e_ => (hk.2) (by rw [e_]; rfl)⟩))).1 k_ hk_.symm); have hx16_0 := hcc16 0 _ rfl; (try simp only [show ((Kd.slice 5 (Kd.int .u8))).sz = 1 from rfl, Nat.mul_one, Nat.add_zero] at hx16_0); have hf16_0 := hfr16 0; (try simp only [show ((Kd.slice 5 (Kd.int .u8))).sz = 1 from rfl, Nat.mul_one, Nat.add_zero] at hf16_0); (try clear hcl16); (try clear hcc16); (try clear hfr16); (try clear hM16); (try clear hoki16); (try clear hH16); (try simp only [show ((Kd.slice 5 (Kd.int .u8))).sz = 1 from rfl, Nat.mul_one, Nat.add_zero] at HP16)) | ((with_reducible refine gate_store (t := 24) (p := 18) rfl ?_); refine store_event (t := 24) (p := 18) (v := ?vo_w17) (w1 := (w14.setCell ⟨go13, (x11_1 : Int).toNat, none⟩ (v328))) ?hg ?ho ?hn ?hr ?_; (case ho => rfl); (case hg => rfl); (case hn => rfl); (case hr => first | (go_simp; done) | (go_simp; rfl) | (obtain ⟨Av_, cv_, ev_⟩ := Kd.R_slice HO329.out; subst ev_; first | (go_simp; done) | (go_simp; rfl))); intro w17 hw; have hg : w14.grownBy w17 (some go13) := (by rw [hw]; exact HP16.2); have hp_ : Kd.S (Kd.slice 5 (Kd.int .u8)) 24 w17 w.heap.size (fun _ => True) (.slice (some ⟨go13, 0, none⟩) x5_1.length co7) y330 := (by rw [hw, Ny330.out]; exact HP16.1); clear HP16; have n0_ := Aside0.mk (hp_); have n1_ := Aside0.mk ((by rw [hw]; exact below_set (HB.out) GB13.out : Below w.heap.size w w17)); clear HO_5; clear HB; clear HO329; have HO_5 := n0_; have HB := n1_; clear n0_ n1_; clear hg hw hp_))
                    (try simp only [← hl5_1])
                    go_roundg k1
                    case measure => have := HK1.out; omega
                    case rel => exact ⟨(y330), (wrap64 (x11_1 + 1)), (by first | rfl | (simp; done) | (simp [*]; done)), H', ⟨by have := HK1.out; omega⟩, ⟨by (try simp only [hl5_1]); (with_reducible repeat (first | apply Kd.S_alloc | apply Kd.S_drewN | apply Kd.S_drew)); exact HO_5.out⟩, ⟨by repeat (first | (with_reducible first | exact HB.out | apply below_alloc | apply pw_below_drewN | apply below_drew1) | exact HB.out)⟩⟩
                  · rw [if_neg c12] at H
                    exact absurd H (by simp)
                · rw [if_neg c11] at H
                  exact absurd H (by simp)
              · rw [if_neg c10] at H
                exact absurd H (by simp)
            · rw [if_neg c9] at H
              exact absurd H (by simp)
          · rw [if_neg c8] at H
            have c8b0 : decide (x11_1 < (y324.length : Int)) = false := decide_eq_false c8
            (try (have c8r := c8b0; simp only [hl5_1] at c8r))
            clear c8
            obtain rfl := Option.some.inj H
            go_wp2
            go_ret
            exact ⟨_, by first | rfl | (simp [errW_none, errW_some] <;> rfl) | (simp [*, errW_none, errW_some] <;> rfl), by (with_reducible repeat (first | apply Kd.S_alloc | apply Kd.S_drewN | apply Kd.S_drew)); exact HO_5.out, by repeat (first | (with_reducible first | exact HB.out | apply below_alloc | apply pw_below_drewN | apply below_drew1) | exact HB.out)⟩
    · rw [if_neg c4] at H
      exact absurd H (by simp)
  · rw [if_neg c3] at H
    exact absurd H (by simp)

/-! ### spec_Unit: function 40 -/
def spec_Unit.l0 : Nat → List (List Int) → Int → Int → Option ((List (List Int)))
  | 0, _, _, _ => none
  | k + 1, x3, x9, x10 => if x10 < x9 then (if 0 ≤ x10 then (if x10 < (x3.length : Int) then (if x10 < ((rd_L1 x3 x10).length : Int) then (spec_Unit.l0 k (x3.set (x10 : Int).toNat ((rd_L1 x3 x10).set (x10 : Int).toNat 1)) x9 (wrap64 (x10 + 1))) else (none)) else (none)) else (none)) else (some x3)
def spec_Unit.f (k : Nat) (a0 : Int) : Option ((List (List Int))) := (spec_Zeros.f k a0 a0).bind fun t331 => (spec_Unit.l0 k t331 (t331.length : Int) 0)
theorem spec_Unit.mono_l : ∀ k, (∀ y0 y1 y2, LeO (spec_Unit.l0 k y0 y1 y2) (spec_Unit.l0 (k + 1) y0 y1 y2))
  | 0 => fun _ _ _ r h => by simp [spec_Unit.l0] at h
  | k + 1 => by
    have ih0 := spec_Unit.mono_l k
    · intro y0 y1 y2
      unfold spec_Unit.l0
      repeat' first
      | (with_reducible exact ih0 _ _ _)
      | (with_reducible exact spec_Zeros.mono _ _ _)
      | (with_reducible exact LeO.refl _)
      | (with_reducible exact LeO.none _)
      | (with_reducible refine LeO.ite ?_ ?_)
      | (with_reducible refine LeO.bind ?_ (fun _ => ?_))
      | exact ih0 _ _ _
      | exact spec_Zeros.mono _ _ _
      | exact LeO.none _
      | refine LeO.ite ?_ ?_
      | refine LeO.bind ?_ (fun _ => ?_)
theorem spec_Unit.mono : ∀ a0 k, LeO (spec_Unit.f k a0) (spec_Unit.f (k + 1) a0) := by
  intro a0 k
  have ih0 := spec_Unit.mono_l k
  unfold spec_Unit.f
  repeat' first
      | (with_reducible exact ih0 _ _ _)
      | (with_reducible exact spec_Zeros.mono _ _ _)
      | (with_reducible exact LeO.refl _)
      | (with_reducible exact LeO.none _)
      | (with_reducible refine LeO.ite ?_ ?_)
      | (with_reducible refine LeO.bind ?_ (fun _ => ?_))
      | exact ih0 _ _ _
      | exact spec_Zeros.mono _ _ _
      | exact LeO.none _
      | refine LeO.ite ?_ ?_
      | refine LeO.bind ?_ (fun _ => ?_)
set_option maxHeartbeats 8000000 in
set_option maxRecDepth 100000 in
theorem spec_Unit.calls (k : Nat) (a0 : Int) (r : List (List Int)) (w : World) (h : spec_Unit.f k a0 = some r) :
    Calls Tryd.prog 40 #[.int .i64 a0] w fun e w' => ∃ v0_ : Value, e = .returned (v0_) ∧ Kd.S (Kd.slice 5 (Kd.int .u8)) 24 w' w.heap.size (fun _ => True) v0_ r ∧ Below w.heap.size w w' := by
  have HB := Aside0.mk (Below.refl w.heap.size w)
  have H : ((spec_Zeros.f k a0 a0).bind fun t331 => (spec_Unit.l0 k t331 (t331.length : Int) 0)) = some r := h
  clear h
  replace H := Option.bind_eq_some_iff.mp H
  obtain ⟨t331, A20, H⟩ := H
  replace H : (spec_Unit.l0 k t331 (t331.length : Int) 0) = some r := H
  have A2 := Aside0.mk A20
  clear A20
  have H' := Aside0.mk H
  clear H
  go_enter Tryd.func40, Tryd.ntmps40
  go_wp2_with (first | ((with_reducible refine gate_callee (f := 41) rfl ?_); refine goesL_ (some 7) rfl rfl Tryd.func41 (by kernel_rfl) rfl #[.int .i64 a0, .int .i64 a0] rfl (by (try simp only [List.map_toArray, List.map_cons, List.map_nil]); first | done | rfl | (simp only [List.length_drop, List.length_take]; rfl)) ?_; (with_reducible refine (spec_Zeros.calls k a0 a0 t331 _ A2.out).mono ?_); rintro e w3 ⟨v332, rfl, ho0, hb⟩; refine ⟨_, rfl, ?_⟩; have n0_ := Aside0.mk (Kd.S_lower ho0 (below_size (by repeat (first | (with_reducible first | exact HB.out | apply below_alloc | apply pw_below_drewN | apply below_drew1) | exact HB.out)))); have n1_ := Aside0.mk (below_step (by repeat (first | (with_reducible first | exact HB.out | apply below_alloc | apply pw_below_drewN | apply below_drew1) | exact HB.out)) hb); clear HB; have HO333 := n0_; have HB := n1_; clear n0_ n1_; (try clear hb); (try clear hb2); (try clear hk); (try clear hi); (try clear ho0); obtain ⟨Ao4, co4, eo4⟩ := Kd.S_slice HO333.out; subst eo4))
  (try simp only [Act.put, List.setIfInBounds_toArray, List.set_cons_zero, List.set_cons_succ])
  go_loopg [10] k (fun kq v10 w' => ∃ (x3_1 : List (List Int)) (x10_1 : Int), v10 = .int .i64 x10_1 ∧ Aside0 (spec_Unit.l0 kq x3_1 (t331.length : Int) x10_1 = some r) ∧ Aside0 (kq ≤ k) ∧ Aside0 (Kd.S (Kd.slice 5 (Kd.int .u8)) 24 w' w.heap.size (fun _ => True) (.slice Ao4 t331.length co4) x3_1) ∧ Aside0 (Below w.heap.size w w'))
  case atStart => exact ⟨(t331), (0), (by first | rfl | (simp; done) | (simp [*]; done)), H', ⟨Nat.le_refl _⟩, ⟨by (with_reducible repeat (first | apply Kd.S_alloc | apply Kd.S_drewN | apply Kd.S_drew)); exact HO333.out⟩, ⟨by repeat (first | (with_reducible first | exact HB.out | apply below_alloc | apply pw_below_drewN | apply below_drew1) | exact HB.out)⟩⟩
  case round =>
    clear H'
    try clear p2
    try clear c4
    obtain ⟨x3_1, x10_1, rfl, HA, HK1, HO_3, HB⟩ := hrel
    have hl3_1 := (Kd.S_reads' HO_3.out).1
    rw [hl3_1] at HO_3
    (try simp only [hl3_1])
    cases gk with
    | zero => exact absurd HA.out (by simp [spec_Unit.l0])
    | succ k1 =>
      have H := HA.out
      clear HA
      simp only [spec_Unit.l0] at H
      by_cases c5 : x10_1 < (t331.length : Int)
      · rw [if_pos c5] at H
        have c5b0 : decide (x10_1 < (t331.length : Int)) = true := decide_eq_true c5
        clear c5
        by_cases c6 : 0 ≤ x10_1
        · rw [if_pos c6] at H
          have c6b0 : decide (0 ≤ x10_1) = true := decide_eq_true c6
          clear c6
          by_cases c7 : x10_1 < (x3_1.length : Int)
          · rw [if_pos c7] at H
            have c7b0 : decide (x10_1 < (x3_1.length : Int)) = true := decide_eq_true c7
            clear c7
            by_cases c8 : x10_1 < ((rd_L1 x3_1 x10_1).length : Int)
            · rw [if_pos c8] at H
              have c8b0 : decide (x10_1 < ((rd_L1 x3_1 x10_1).length : Int)) = true := decide_eq_true c8
              clear c8
              obtain ⟨y335, hy335⟩ : ∃ y_ : List Int, y_ = ((rd_L1 x3_1 x10_1).set (x10_1 : Int).toNat 1) := ⟨_, rfl⟩
              replace H : (spec_Unit.l0 k1 (x3_1.set (x10_1 : Int).toNat y335) (t331.length : Int) (wrap64 (x10_1 + 1))) = some r := by first | (rw [hy335]; with_reducible exact H) | (have H2_ := (Option.bind_some _ _).symm.trans H; rw [hy335]; with_reducible exact H2_) | (have H2_ := (Option.bind_some _ _).symm.trans H; with_reducible exact H2_) | with_reducible exact H | (rw [hy335]; exact H) | exact H
              have Ny335 := Aside0.mk hy335
              clear hy335
              obtain ⟨y337, hy337⟩ : ∃ y_ : List (List Int), y_ = (x3_1.set (x10_1 : Int).toNat y335) := ⟨_, rfl⟩
              replace H : (spec_Unit.l0 k1 y337 (t331.length : Int) (wrap64 (x10_1 + 1))) = some r := by first | (rw [hy337]; with_reducible exact H) | (have H2_ := (Option.bind_some _ _).symm.trans H; rw [hy337]; with_reducible exact H2_) | (have H2_ := (Option.bind_some _ _).symm.trans H; with_reducible exact H2_) | with_reducible exact H | (rw [hy337]; exact H) | exact H
              have Ny337 := Aside0.mk hy337
              clear hy337
              have H' := Aside0.mk H
              clear H
              have p334 : 0 ≤ (x10_1 : Int) := of_decide_eq_true (by first | (with_reducible assumption) | assumption)
              have q334 : x10_1 < (x3_1.length : Int) := of_decide_eq_true (by first | (with_reducible assumption) | assumption)
              obtain ⟨ad334, A334_0, c334_0, e334, hx334_0, hl334_0, hi334_0⟩ := at_L1 (Kd.S_reads' HO_3.out).2.2 x10_1 p334 q334
              cases e334
              obtain ⟨ce334, hce334, hMe334, hcc334⟩ := Kd.S_get HO_3.out [] x10_1 p334 (by first | exact q334 | exact of_decide_eq_true (by first | (with_reducible assumption) | assumption) | (have e_ := (Kd.S_reads' HO_3.out).1; omega))
              obtain ⟨ve334_0, rfl, ge334_0⟩ := hMe334
              have hv334_0 := hcc334 0 _ rfl
              rw [Nat.add_zero, show ((Kd.slice 5 (Kd.int .u8))).sz = 1 from rfl, Nat.mul_one] at hv334_0
              replace hv334_0 := Option.some.inj (hv334_0.symm.trans hx334_0)
              rw [hv334_0] at ge334_0
              have HL334_0 := Aside0.mk (show Kd.R (Kd.int .u8) 5 _ _ _ _ (rd_L1 x3_1 x10_1) from ge334_0)
              clear hv334_0 ge334_0
              have HX334_0 := Aside0.mk hx334_0
              clear hcc334 hce334
              have HR334_0 := Aside0.mk hi334_0
              have HC334_0 := Aside0.mk hl334_0
              clear hi334_0 hl334_0
              replace p334 := eq_true p334
              replace q334 := eq_true q334
              have p9 : 0 ≤ (x10_1 : Int) := of_decide_eq_true (by first | (with_reducible assumption) | assumption)
              have q9 : (x10_1 : Int) < (((rd_L1 x3_1 x10_1).length : Int) : Int) := of_decide_eq_true (by first | (with_reducible assumption) | assumption)
              obtain ⟨go9, co9, eo9, gb9, gl9, cl9, HG9⟩ := Kd.R_form HL334_0.out (by omega)
              (first | cases eo9 | (injection eo9 with ea_ en_ ec_; (first | subst ea_ | (injection ea_ with ea_; subst ea_)); subst ec_; clear en_))
              have GB9 := Aside0.mk gb9
              have GG9 := Aside0.mk HG9
              clear gb9 gl9 HG9
              obtain ⟨hx9_0, hf9_0⟩ := Kd.R_celln 0 HL334_0.out (x10_1 : Int) p9 q9
              replace p9 := eq_true p9
              replace q9 := eq_true q9
              have hq10 : (x10_1 : Int) < (x3_1.length : Int) := (by have h_ : (x10_1 : Int) < ((x3_1.length : Int) : Int) := of_decide_eq_true (by first | (with_reducible assumption) | assumption); first | exact h_ | (have e_ := (Kd.S_reads' HO_3.out).1; omega) | simpa only [List.length_set, List.length_set] using h_)
              obtain ⟨oki10, ce10, hcl10, hM10, hcc10, hok10, hbk10⟩ := Kd.S_borrow HO_3.out [] (x10_1 : Int) (of_decide_eq_true (by first | (with_reducible assumption) | assumption)) hq10
              obtain ⟨ve10_0, rfl, ge10_0⟩ := hM10
              have hv10 := hcc10 0 _ rfl
              rw [Nat.add_zero, show ((Kd.slice 5 (Kd.int .u8))).sz = 1 from rfl, Nat.mul_one] at hv10
              replace hv10 := Option.some.inj (hv10.symm.trans HX334_0.out)
              subst hv10
              clear hcc10 hcl10
              replace ge10_0 := (show Kd.R (Kd.int .u8) 5 _ _ _ _ (rd_L1 x3_1 x10_1) from ge10_0)
              have HP10 := Kd.R_putg ge10_0 (x10_1 : Int) 1
              go_wp2_with (first | ((with_reducible refine gate_store (t := 5) (p := 18) rfl ?_); refine store_event (t := 5) (p := 18) (v := ?vo_w11) (w1 := (wr.setCell ⟨go9, (x10_1 : Int).toNat, none⟩ (.int .u8 1))) ?hg ?ho ?hn ?hr ?_; (case ho => rfl); (case hg => rfl); (case hn => rfl); (case hr => first | (go_simp; done) | (go_simp; rfl)); intro w11 hw; have hg : wr.grownBy w11 (some go9) := (by rw [hw]; exact HP10.2); have hz_ : Kd.R (Kd.int .u8) 5 w11 w.heap.size oki10 (.slice (some ⟨go9, 0, none⟩) (rd_L1 x3_1 x10_1).length c334_0) y335 := (by rw [hw, Ny335.out]; exact HP10.1); have hp_ : Kd.S (Kd.slice 5 (Kd.int .u8)) 24 w11 w.heap.size (fun _ => True) (.slice (some ad334) x3_1.length co4) y337 := (by rw [Ny337.out]; exact hbk10 hg (fun k_ e_ => by injection e_ with e_; subst e_; exact ge10_0.1 _ rfl) (Kd.M_row hz_)); have hm_ := Kd.R_mono hz_ hok10; clear HP10 hbk10; have n0_ := Aside0.mk (hp_); have n1_ := Aside0.mk ((by rw [hw]; exact below_set (HB.out) GB9.out : Below w.heap.size w w11)); have n2_ := Aside0.mk (hm_); have n3_ := Aside0.mk ((Kd.R_reads' hm_).2.1); clear HO_3; clear HB; clear HL334_0; have HO_3 := n0_; have HB := n1_; have HL338 := n2_; have HC336 := n3_; clear n0_ n1_ n2_ n3_; clear hg hw hp_ hz_ hm_ hok10))
              (try simp only [← hl3_1])
              go_roundg k1
              case measure => have := HK1.out; omega
              case rel => exact ⟨(y337), (wrap64 (x10_1 + 1)), (by first | rfl | (simp; done) | (simp [*]; done)), H', ⟨by have := HK1.out; omega⟩, ⟨by (try simp only [hl3_1]); (with_reducible repeat (first | apply Kd.S_alloc | apply Kd.S_drewN | apply Kd.S_drew)); exact HO_3.out⟩, ⟨by repeat (first | (with_reducible first | exact HB.out | apply below_alloc | apply pw_below_drewN | apply below_drew1) | exact HB.out)⟩⟩
            · rw [if_neg c8] at H
              exact absurd H (by simp)
          · rw [if_neg c7] at H
            exact absurd H (by simp)
        · rw [if_neg c6] at H
          exact absurd H (by simp)
      · rw [if_neg c5] at H
        have c5b0 : decide (x10_1 < (t331.length : Int)) = false := decide_eq_false c5
        (try (have c5r := c5b0; simp only [hl3_1] at c5r))
        clear c5
        obtain rfl := Option.some.inj H
        go_wp2
        go_ret
        exact ⟨_, by first | rfl | (simp [errW_none, errW_some] <;> rfl) | (simp [*, errW_none, errW_some] <;> rfl), by (with_reducible repeat (first | apply Kd.S_alloc | apply Kd.S_drewN | apply Kd.S_drew)); exact HO_3.out, by repeat (first | (with_reducible first | exact HB.out | apply below_alloc | apply pw_below_drewN | apply below_drew1) | exact HB.out)⟩

-- NOT PRINTED: function 24 (spec_Inverted)

end Go.Proofs.YtpjfokolbgcbhaaDoor.Qm
