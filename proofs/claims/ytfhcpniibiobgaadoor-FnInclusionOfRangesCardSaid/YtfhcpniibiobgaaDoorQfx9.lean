-- Written by wip/tools/myprint.py for this seat (the kit's print with changes); Lean checks it.
import Derived.Test.YtfhcpniibiobgaaDoorQfx0
namespace Go.Proofs.YtfhcpniibiobgaaDoor.Qf
open Go.RowKit Go.Proofs.YtfhcpniibiobgaaDoorW.PrintWords Go.Proofs.YtfhcpniibiobgaaDoorW.PrintLast Go.Proofs.YtfhcpniibiobgaaDoorW.PrintMore
attribute [local go_sem] max2_int min2_int max_two min_two max_three min_three max_four min_four
set_option linter.unusedVariables false
set_option linter.unusedSimpArgs false
def spec_split.l0 : Nat → Int → Int → Option (Int)
  | 0, _, _ => none
  | k + 1, x0, x3 => if x3 < (IntKind.u64.wrap (x0 - x3)) then (spec_split.l0 k x0 (IntKind.u64.wrap (x3 * 2))) else (some x3)
def spec_split.f (k : Nat) (a0 : Int) : Option (Int) := spec_split.l0 k a0 1
theorem spec_split.mono_l : ∀ k, (∀ y0 y1, LeO (spec_split.l0 k y0 y1) (spec_split.l0 (k + 1) y0 y1))
  | 0 => fun _ _ r h => by simp [spec_split.l0] at h
  | k + 1 => by
    have ih0 := spec_split.mono_l k
    · intro y0 y1
      unfold spec_split.l0
      repeat' first
      | (with_reducible exact ih0 _ _)
      | (with_reducible exact LeO.refl _)
      | (with_reducible exact LeO.none _)
      | (with_reducible refine LeO.ite ?_ ?_)
      | (with_reducible refine LeO.bind ?_ (fun _ => ?_))
      | exact LeO.none _
      | refine LeO.ite ?_ ?_
      | refine LeO.bind ?_ (fun _ => ?_)
theorem spec_split.mono : ∀ a0 k, LeO (spec_split.f k a0) (spec_split.f (k + 1) a0) := by
  intro a0 k
  have ih0 := spec_split.mono_l k
  unfold spec_split.f
  repeat' first
      | (with_reducible exact ih0 _ _)
      | (with_reducible exact LeO.refl _)
      | (with_reducible exact LeO.none _)
      | (with_reducible refine LeO.ite ?_ ?_)
      | (with_reducible refine LeO.bind ?_ (fun _ => ?_))
      | exact LeO.none _
      | refine LeO.ite ?_ ?_
      | refine LeO.bind ?_ (fun _ => ?_)
set_option maxHeartbeats 8000000 in
set_option maxRecDepth 100000 in
theorem spec_split.calls (k : Nat) (a0 : Int) (r : Int) (w : World) (h : spec_split.f k a0 = some r) :
    Calls Tryd.prog 76 #[.int .u64 a0] w fun e w' => e = .returned (.int .u64 r) ∧ Drawn0 w w' := by
  have H : (spec_split.l0 k a0 1) = some r := h
  clear h
  have H' := aq H
  clear H
  go_enter Tryd.func76, Tryd.ntmps76
  go_wp2
  (try simp only [Act.put, List.setIfInBounds_toArray, List.set_cons_zero, List.set_cons_succ])
  go_loopg [3] k (fun kq v3 w' => ∃ (x3_1 : Int), v3 = .int .u64 x3_1 ∧ Aside0 (spec_split.l0 kq a0 x3_1 = some r) ∧ Aside0 (kq ≤ k) ∧ Drawn0 w w')
  case atStart => exact ⟨(1), (by first | rfl | (simp; done) | (simp [*]; done)), H', ⟨Nat.le_refl _⟩, by repeat (first | exact Drawn0.refl _ | apply Drawn0.step)⟩
  case round =>
    clear H'
    obtain ⟨x3_1, rfl, HA, HK1, ⟨m1, rfl⟩⟩ := hrel
    cases gk with
    | zero => exact absurd HA.out (by simp [spec_split.l0])
    | succ k1 =>
      have H := HA.out
      clear HA
      simp only [spec_split.l0] at H
      by_cases c2 : x3_1 < (IntKind.u64.wrap (a0 - x3_1))
      · rw [if_pos c2] at H
        have c2b0 : decide (x3_1 < (IntKind.u64.wrap (a0 - x3_1))) = true := decide_eq_true c2
        clear c2
        have H' := aq H
        clear H
        go_wp2
        go_roundg k1
        case measure => have := HK1.out; omega
        case rel => exact ⟨(IntKind.u64.wrap (x3_1 * 2)), (by first | rfl | (simp; done) | (simp [*]; done)), H', ⟨by have := HK1.out; omega⟩, by repeat (first | exact Drawn0.refl _ | apply Drawn0.step)⟩
      · rw [if_neg c2] at H
        have c2b0 : decide (x3_1 < (IntKind.u64.wrap (a0 - x3_1))) = false := decide_eq_false c2
        clear c2
        obtain rfl := Option.some.inj H
        go_wp2
        go_ret
        exact ⟨by first | rfl | (simp; done) | (simp [*]; done), by repeat (first | exact Drawn0.refl _ | apply Drawn0.step)⟩
def spec_pathIn.f : Nat → Int → Int → Int → Option ((List (S55)))
  | 0, _, _, _ => none
  | k + 1, a0, a1_0, a1_1 => if (IntKind.u64.wrap (a1_1 - a1_0)) = 1 then (some ([] : List (S55))) else ((spec_split.f k (IntKind.u64.wrap (a1_1 - a1_0))).bind fun t375 => (if a0 < (IntKind.u64.wrap (a1_0 + t375)) then ((spec_pathIn.f k a0 a1_0 (IntKind.u64.wrap (a1_0 + t375))).bind fun t376 => ((some (([(⟨IntKind.u64.wrap (a1_0 + t375), a1_1⟩ : S55)] : List (S55)) : List (S55))).bind fun y379 => (if t376.length + y379.length < 8796093022208 then (some (t376 ++ y379)) else (none)))) else ((spec_pathIn.f k a0 (IntKind.u64.wrap (a1_0 + t375)) a1_1).bind fun t385 => ((some (([(⟨a1_0, IntKind.u64.wrap (a1_0 + t375)⟩ : S55)] : List (S55)) : List (S55))).bind fun y388 => (if t385.length + y388.length < 8796093022208 then (some (t385 ++ y388)) else (none))))))
theorem spec_pathIn.mono_l : ∀ k, (∀ y0 y1 y2, LeO (spec_pathIn.f k y0 y1 y2) (spec_pathIn.f (k + 1) y0 y1 y2))
  | 0 => fun _ _ _ r h => by simp [spec_pathIn.f] at h
  | k + 1 => by
    have ih0 := spec_pathIn.mono_l k
    · intro y0 y1 y2
      unfold spec_pathIn.f
      repeat' first
      | (with_reducible exact ih0 _ _ _)
      | (with_reducible exact spec_split.mono _ _)
      | (with_reducible exact LeO.refl _)
      | (with_reducible exact LeO.none _)
      | (with_reducible refine LeO.ite ?_ ?_)
      | (with_reducible refine LeO.bind ?_ (fun _ => ?_))
      | exact LeO.none _
      | refine LeO.ite ?_ ?_
      | refine LeO.bind ?_ (fun _ => ?_)
theorem spec_pathIn.mono : ∀ a0 a1 a2 k, LeO (spec_pathIn.f k a0 a1 a2) (spec_pathIn.f (k + 1) a0 a1 a2) := by
  intro a0 a1 a2 k
  have ih0 := spec_pathIn.mono_l k
  exact ih0 a0 a1 a2
def spec_pathIn.T3 : Bool × List (List Nat × List Nat) := (true, [([], []), ([0], [0]), ([], []), ([2], [2]), ([], []), ([4], [4]), ([3, 5], [3, 5]), ([6], [6]), ([1, 7], [1, 7]), ([8, 7, 0, 1, 2, 3, 4, 5, 6, 7, 8], [8])])
def spec_pathIn.B3 : List Nat := [0, 1, 0, 4, 0, 16, 60, 124, 255, 511]
theorem spec_pathIn.tab3 : rtab .any (opsOf Tryd.f83 3) = spec_pathIn.T3 := by kernel_rfl
theorem spec_pathIn.bits3 : waitsOk spec_pathIn.T3.2 spec_pathIn.B3 = true := by kernel_rfl
def spec_pathIn.T5 : Bool × List (List Nat × List Nat) := (true, [([], []), ([], []), ([1], [1]), ([], []), ([2, 3], [2, 3]), ([0, 4], [0, 4]), ([], []), ([], []), ([7], [7]), ([6, 8], [6, 8]), ([9], [9]), ([5, 10, 5], [5, 10]), ([11, 11, 0, 1, 2, 3, 4, 5, 6, 7, 8, 9, 10, 11], [11])])
def spec_pathIn.B5 : List Nat := [0, 0, 2, 0, 14, 31, 0, 0, 128, 448, 960, 2047, 4095]
theorem spec_pathIn.tab5 : rtab .any (opsOf Tryd.f83 5) = spec_pathIn.T5 := by kernel_rfl
theorem spec_pathIn.bits5 : waitsOk spec_pathIn.T5.2 spec_pathIn.B5 = true := by kernel_rfl
def spec_pathIn.T6 : Bool × List (List Nat × List Nat) := (true, [([], []), ([], []), ([], []), ([2], [2]), ([1, 3], [1, 3]), ([0, 4], [0, 4]), ([], []), ([6], [6]), ([], []), ([7, 8], [7, 8]), ([9], [9]), ([5, 10, 5], [5, 10]), ([11, 11, 0, 1, 2, 3, 4, 5, 6, 7, 8, 9, 10, 11], [11])])
def spec_pathIn.B6 : List Nat := [0, 0, 0, 4, 14, 31, 0, 64, 0, 448, 960, 2047, 4095]
theorem spec_pathIn.tab6 : rtab .any (opsOf Tryd.f83 6) = spec_pathIn.T6 := by kernel_rfl
theorem spec_pathIn.bits6 : waitsOk spec_pathIn.T6.2 spec_pathIn.B6 = true := by kernel_rfl
set_option maxHeartbeats 8000000 in
set_option maxRecDepth 100000 in
theorem spec_pathIn.calls (k : Nat) : ∀ (a0 : Int) (a1_0 : Int) (a1_1 : Int) (r : List (S55)) (w : World) (h : spec_pathIn.f k a0 a1_0 a1_1 = some r),
    Calls Tryd.prog 83 #[.int .u64 a0, .agg #[.int .u64 a1_0, .int .u64 a1_1]] w fun e w' => ∃ v0_ : Value, e = .returned (v0_) ∧ Kd.R k55 55 w' w.heap.size (fun _ => True) v0_ r ∧ Below w.heap.size w w' := by
  induction k using Nat.strongRecOn with
  | _ k ih =>
  intro a0 a1_0 a1_1 r w h
  cases k with
  | zero => exact absurd h (by simp [spec_pathIn.f])
  | succ k =>
  simp only [spec_pathIn.f] at h
  have hu55 := Tryd.underlying55
  have HB := aq (Below.refl w.heap.size w)
  have H : (if (IntKind.u64.wrap (a1_1 - a1_0)) = 1 then (some ([] : List (S55))) else ((spec_split.f k (IntKind.u64.wrap (a1_1 - a1_0))).bind fun t375 => (if a0 < (IntKind.u64.wrap (a1_0 + t375)) then ((spec_pathIn.f k a0 a1_0 (IntKind.u64.wrap (a1_0 + t375))).bind fun t376 => ((some (([(⟨IntKind.u64.wrap (a1_0 + t375), a1_1⟩ : S55)] : List (S55)) : List (S55))).bind fun y379 => (if t376.length + y379.length < 8796093022208 then (some (t376 ++ y379)) else (none)))) else ((spec_pathIn.f k a0 (IntKind.u64.wrap (a1_0 + t375)) a1_1).bind fun t385 => ((some (([(⟨a1_0, IntKind.u64.wrap (a1_0 + t375)⟩ : S55)] : List (S55)) : List (S55))).bind fun y388 => (if t385.length + y388.length < 8796093022208 then (some (t385 ++ y388)) else (none))))))) = some r := h
  clear h
  by_cases c3 : (IntKind.u64.wrap (a1_1 - a1_0)) = 1
  · rw [if_pos c3] at H
    have c3b0 : ((IntKind.u64.wrap (a1_1 - a1_0)) == 1) = true := beq_iff_eq.mpr c3
    have c3b1 : ((IntKind.u64.wrap (a1_1 - a1_0)) != 1) = false := bne_eq_false_iff_eq.mpr c3
    clear c3
    obtain rfl := Option.some.inj H
    go_enter Tryd.func83, Tryd.ntmps83
    go_wp2_with (first | ((with_reducible refine gate_dst (N := 3) rfl ?_); refine be 3 #[.int .u64 a1_0, .int .u64 a1_1] 55 ?_; intro gb374 hg w4 hbox hb; have BK374 := aq (hbox); have GW374 := aq ((by rw [hg]; exact (below_size (bw HB)) : w.heap.size ≤ gb374)); have GE374 := aq ((by rw [hg]; exact (below_size (bw HB)) : w.heap.size ≤ gb374)); replace HB := aq (below_step (bw HB) hb); clear hb hbox hg; have hcz5_0 : w4.cell? ⟨gb374, 0, none⟩ = some (.int .u64 a1_0) := bc BK374 0; have hcz5_1 : w4.cell? ⟨gb374, 1, none⟩ = some (.int .u64 a1_1) := bc BK374 1; have hfz5_0 := bz BK374 0; have hfz5_1 := bz BK374 1))
    go_ret
    exact ⟨_, by first | rfl | (simp [errW_none, errW_some] <;> rfl) | (simp [*, errW_none, errW_some] <;> rfl), by first | exact Kd.R_nil _ _ _ _ _ | exact Kd.N_nil _ _ _ _ _ | exact Kd.V_nil _ _ _ _ _ | exact Kd.Q_nil _ _ _ _ _ | exact Kd.S_nil _ _ _ _ _, by repeat (first | (with_reducible first | exact HB.out | apply below_alloc | apply pw_below_drewN | apply below_drew1 | refine below_set ?_ GE374.out) | exact HB.out)⟩
  · rw [if_neg c3] at H
    have c3b0 : ((IntKind.u64.wrap (a1_1 - a1_0)) == 1) = false := beq_eq_false_iff_ne.mpr c3
    have c3b1 : ((IntKind.u64.wrap (a1_1 - a1_0)) != 1) = true := bne_iff_ne.mpr c3
    replace H := Option.bind_eq_some_iff.mp H
    obtain ⟨t375, A60, H⟩ := H
    have A6 := aq A60
    clear A60
    by_cases c7 : a0 < (IntKind.u64.wrap (a1_0 + t375))
    · rw [if_pos c7] at H
      have c7b0 : decide (a0 < (IntKind.u64.wrap (a1_0 + t375))) = true := decide_eq_true c7
      clear c7
      replace H := Option.bind_eq_some_iff.mp H
      obtain ⟨t376, A80, H⟩ := H
      have A8 := aq A80
      clear A80
      obtain ⟨y379, hy379⟩ : ∃ y_ : List (S55), y_ = (([(⟨IntKind.u64.wrap (a1_0 + t375), a1_1⟩ : S55)] : List (S55))) := ⟨_, rfl⟩
      replace H : (if t376.length + y379.length < 8796093022208 then (some (t376 ++ y379)) else (none)) = some r := by first | (rw [hy379]; with_reducible exact H) | (have H2_ := (Option.bind_some _ _).symm.trans H; rw [hy379]; with_reducible exact H2_) | (have H2_ := (Option.bind_some _ _).symm.trans H; with_reducible exact H2_) | with_reducible exact H | (rw [hy379]; exact H) | exact H
      have Ny379 := aq hy379
      clear hy379
      by_cases c9 : t376.length + y379.length < 8796093022208
      · rw [if_pos c9] at H
        have LMc9 := aq c9
        clear c9
        obtain ⟨y382, hy382⟩ : ∃ y_ : List (S55), y_ = (t376 ++ y379) := ⟨_, rfl⟩
        replace H : (some y382) = some r := by first | (rw [hy382]; with_reducible exact H) | (have H2_ := (Option.bind_some _ _).symm.trans H; rw [hy382]; with_reducible exact H2_) | (have H2_ := (Option.bind_some _ _).symm.trans H; with_reducible exact H2_) | with_reducible exact H | (rw [hy382]; exact H) | exact H
        have Ny382 := aq hy382
        clear hy382
        obtain rfl := Option.some.inj H
        go_enter Tryd.func83, Tryd.ntmps83
        try go_wp2_with (first | ((with_reducible refine gate_dst (N := 3) rfl ?_); refine be 3 #[.int .u64 a1_0, .int .u64 a1_1] 55 ?_; intro gb374 hg w10 hbox hb; have BK374 := aq (hbox); have GW374 := aq ((by rw [hg]; exact (below_size (bw HB)) : w.heap.size ≤ gb374)); have GE374 := aq ((by rw [hg]; exact (below_size (bw HB)) : w.heap.size ≤ gb374)); replace HB := aq (below_step (bw HB) hb); clear hb hbox hg; have hcz11_0 : w10.cell? ⟨gb374, 0, none⟩ = some (.int .u64 a1_0) := bc BK374 0; have hcz11_1 : w10.cell? ⟨gb374, 1, none⟩ = some (.int .u64 a1_1) := bc BK374 1; have hfz11_0 := bz BK374 0; have hfz11_1 := bz BK374 1))
        replace BK374 := aq (blk_drew BK374.out)
        replace HB := aq (below_drew1 HB.out)
        refine start_ (n := 10) (S := fun w' => w'.cell? ⟨gb374, 0, none⟩ = some (.int .u64 a1_0) ∧ w'.cell? ⟨gb374, 1, none⟩ = some (.int .u64 a1_1)) (ds := []) #[false, false, false, false, false, false, false, false, false, false] (by kernel_rfl) rfl rfl ⟨bc BK374 0, bc BK374 1⟩ (fun hHeld => ?_); refine with_tabW spec_pathIn.tab3 spec_pathIn.bits3 (fun HT_ HW_ => ?_)
        generalize w10.drew = w12 at BK374 HB hHeld ⊢
        refine pv 0 12 HT_ ?_
        refine pv 2 14 HT_ ?_
        refine pv 4 16 HT_ ?_
        refine tv 1 13 HT_ HW_ hHeld ?_
        refine tv 3 15 HT_ HW_ hHeld ?_
        refine tv 5 17 HT_ HW_ hHeld ?_
        refine pv 6 18 HT_ ?_
        refine ov1 7 19 HT_ fun K hK => ?_
        refine gS Tryd.func76 #[.int .u64 (IntKind.u64.wrap (a1_1 - a1_0))] ?_
        with_reducible refine (spec_split.calls k (IntKind.u64.wrap (a1_1 - a1_0)) t375 _ A6.out).mono ?_
        rintro e w' ⟨rfl, ⟨nd, rfl⟩⟩
        refine ⟨_, rfl, ?_⟩
        refine hK.out _ _ ⟨bc BK374 0, bc BK374 1⟩ (fun hHeld => ?_)
        clear hK K
        refine nv ?_
        refine pv 8 20 HT_ ?_
        refine pv 9 5 HT_ ?_
        refine done_ (done_of HT_.out (by kernel_rfl)) ?_
        try go_wp2
        (try (rw [drewN_self w12]; generalize hq_ : World.drewN w12 _ = w12; have n0_ : Aside0 (w12.heap[gb374]? = some (.cells #[.int .u64 a1_0, .int .u64 a1_1] 55 (0, 0))) := ⟨by rw [← hq_]; exact (bq BK374)⟩; have n1_ : Aside0 (Below w.heap.size w w12) := ⟨by rw [← hq_]; exact (bw HB)⟩; clear BK374 HB hq_; have BK374 := n0_; have HB := n1_; clear n0_ n1_))
        replace BK374 := aq (blk_drew BK374.out)
        replace HB := aq (below_drew1 HB.out)
        refine start_ (n := 13) (S := fun w' => w'.cell? ⟨gb374, 0, none⟩ = some (.int .u64 a1_0) ∧ w'.cell? ⟨gb374, 1, none⟩ = some (.int .u64 a1_1)) (ds := []) #[false, false, false, false, false, false, false, false, false, false, false, false, false] (by kernel_rfl) rfl rfl ⟨bc BK374 0, bc BK374 1⟩ (fun hHeld => ?_); refine with_tabW spec_pathIn.tab5 spec_pathIn.bits5 (fun HT_ HW_ => ?_)
        generalize w12.drew = w13 at BK374 HB hHeld ⊢
        refine pv 0 24 HT_ ?_
        refine pv 1 25 HT_ ?_
        refine pv 3 27 HT_ ?_
        refine pv 6 30 HT_ ?_
        refine pv 7 31 HT_ ?_
        refine tv 2 26 HT_ HW_ hHeld ?_
        refine pv 4 28 HT_ ?_
        refine tv 8 32 HT_ HW_ hHeld ?_
        refine pv 9 33 HT_ ?_
        refine join_ (σ := Value × Value) 2 #[true, true, true, true, true, true, true, true, true, true, true, false, false] (fun s_ => [(29, s_.1), (34, s_.2)]) (fun s_ w' => (w'.cell? ⟨gb374, 0, none⟩ = some (.int .u64 a1_0) ∧ w'.cell? ⟨gb374, 1, none⟩ = some (.int .u64 a1_1)) ∧ (Kd.R k55 55 w' w.heap.size (fun k_ => some k_ ≠ (s_.2 : Value).ownBlock ∧ k_ ≠ gb374) s_.1 t376) ∧ (Kd.R k55 55 w' w.heap.size (fun k_ => some k_ ≠ (s_.1 : Value).ownBlock ∧ k_ ≠ gb374) s_.2 y379) ∧ (w'.heap[gb374]? = some (.cells #[.int .u64 a1_0, .int .u64 a1_1] 55 (0, 0))) ∧ (Below w.heap.size w w')) ?_ ?_
        rotate_left
        · intro hCont
          refine two_ (i := 5) (j := 10) (Ni := some 29) (Nj := some 34) #[true, true, true, true, true, true, true, true, true, true, false, false, false] #[true, true, true, true, true, false, true, true, true, true, true, false, false] rfl rfl rfl rfl (two_of HT_.out (by kernel_rfl)) (by decide) (by decide) (fun K hK => ?_) (fun K hK => ?_)
          · skip
            refine gS Tryd.func83 #[.int .u64 a0, .agg #[.int .u64 a1_0, .int .u64 (IntKind.u64.wrap (a1_0 + t375))]] ?_
            with_reducible refine (ih k (by omega) a0 a1_0 (IntKind.u64.wrap (a1_0 + t375)) t376 _ A8.out).mono ?_
            rintro e w14 ⟨v377, rfl, ho0, hb⟩
            refine ⟨_, rfl, ?_⟩
            have HO378 := aq (Kd.R_lower (Kd.R_newB ho0 (g := gb374) (o := .cells #[.int .u64 a1_0, .int .u64 a1_1] 55 (0, 0)) (bq BK374)) (below_size (bw HB)))
            replace BK374 := aq (blk_below (bq BK374) hb)
            replace HB := aq (below_step (bw HB) hb)
            (try clear hb)
            (try clear hk)
            (try clear ho0)
            refine hK.out _ _ ⟨bc BK374 0, bc BK374 1⟩ (fun hHeld => ?_)
            clear hK K
            refine nv ?_
            refine ov1 10 34 HT_ fun K hK => ?_
            refine Kd.R_lit_step k55 _ 55 ?hg (N := 34) ?hd (xs := ([(⟨IntKind.u64.wrap (a1_0 + t375), a1_1⟩ : S55)] : List (S55))) (inner := [.int .u64 (IntKind.u64.wrap (a1_0 + t375)), .int .u64 a1_1]) (ok := fun _ => True) (okp := fun _ => True) ?hr ?hp (fun _ hk => hk) trivial (Below.refl _ _) (Nat.le_refl _) (by simp) ?_; (case hd => rfl); (case hg => rfl); (case hr => first | (go_simp; done) | (go_simp; rfl)); (case hp => exact (Reps.c2 (show Kd.M k55 _ _ _ (⟨IntKind.u64.wrap (a1_0 + t375), a1_1⟩ : S55) [.int .u64 (IntKind.u64.wrap (a1_0 + t375)), .int .u64 a1_1] from (k55_mkM _ _ _ (⟨IntKind.u64.wrap (a1_0 + t375), a1_1⟩ : S55) )) (Reps.none _ _)))
            intro v380 w15 ho16 hb hg_ hnew_
            clear hg_ hnew_
            (first | rw [← Ny379.out] at ho16 | (simp only [Int.reduceToNat] at ho16; rw [← Ny379.out] at ho16))
            have HO381 := aq (Kd.R_lower (Kd.R_newB (Kd.R_new' ho16 (Kd.R_lt (rq HO378))) (g := gb374) (o := .cells #[.int .u64 a1_0, .int .u64 a1_1] 55 (0, 0)) (bq BK374)) (below_size (bw HB)))
            replace HO378 := aq (Kd.R_elder' (rq HO378) (Kd.R_base ho16) hb)
            replace BK374 := aq (blk_below (bq BK374) hb)
            replace HB := aq (below_step (bw HB) hb)
            clear hb ho16
            refine hK.out _ _ ⟨bc BK374 0, bc BK374 1⟩ (fun hHeld => ?_)
            clear hK K
            refine nv ?_
            exact norm_ (by simp only [putAll, Act.put, List.setIfInBounds_toArray, List.set_cons_zero, List.set_cons_succ]) (hCont (v377, v380) _ ⟨hHeld, (by (with_reducible repeat (first | apply Kd.R_alloc | apply Kd.R_drewN | apply Kd.R_drew)); exact Kd.R_mono HO378.out (fun _ hk => ⟨hk.2, hk.1.2⟩)), (by (with_reducible repeat (first | apply Kd.R_alloc | apply Kd.R_drewN | apply Kd.R_drew)); exact Kd.R_mono HO381.out (fun _ hk => ⟨hk.1.2, hk.2⟩)), (bq BK374), (bw HB)⟩)
          · skip
            refine Kd.R_lit_step k55 _ 55 ?hg (N := 34) ?hd (xs := ([(⟨IntKind.u64.wrap (a1_0 + t375), a1_1⟩ : S55)] : List (S55))) (inner := [.int .u64 (IntKind.u64.wrap (a1_0 + t375)), .int .u64 a1_1]) (ok := fun _ => True) (okp := fun _ => True) ?hr ?hp (fun _ hk => hk) trivial (Below.refl _ _) (Nat.le_refl _) (by simp) ?_; (case hd => rfl); (case hg => rfl); (case hr => first | (go_simp; done) | (go_simp; rfl)); (case hp => exact (Reps.c2 (show Kd.M k55 _ _ _ (⟨IntKind.u64.wrap (a1_0 + t375), a1_1⟩ : S55) [.int .u64 (IntKind.u64.wrap (a1_0 + t375)), .int .u64 a1_1] from (k55_mkM _ _ _ (⟨IntKind.u64.wrap (a1_0 + t375), a1_1⟩ : S55) )) (Reps.none _ _)))
            intro v380 w14 ho15 hb hg_ hnew_
            clear hg_ hnew_
            (first | rw [← Ny379.out] at ho15 | (simp only [Int.reduceToNat] at ho15; rw [← Ny379.out] at ho15))
            have HO381 := aq (Kd.R_lower (Kd.R_newB ho15 (g := gb374) (o := .cells #[.int .u64 a1_0, .int .u64 a1_1] 55 (0, 0)) (bq BK374)) (below_size (bw HB)))
            replace BK374 := aq (blk_below (bq BK374) hb)
            replace HB := aq (below_step (bw HB) hb)
            clear hb ho15
            refine hK.out _ _ ⟨bc BK374 0, bc BK374 1⟩ (fun hHeld => ?_)
            clear hK K
            refine nv ?_
            refine ov1 5 29 HT_ fun K hK => ?_
            refine gS Tryd.func83 #[.int .u64 a0, .agg #[.int .u64 a1_0, .int .u64 (IntKind.u64.wrap (a1_0 + t375))]] ?_
            with_reducible refine (ih k (by omega) a0 a1_0 (IntKind.u64.wrap (a1_0 + t375)) t376 _ A8.out).mono ?_
            rintro e w16 ⟨v377, rfl, ho0, hb⟩
            refine ⟨_, rfl, ?_⟩
            have HO378 := aq (Kd.R_lower (Kd.R_newB (Kd.R_new' ho0 (Kd.R_lt (rq HO381))) (g := gb374) (o := .cells #[.int .u64 a1_0, .int .u64 a1_1] 55 (0, 0)) (bq BK374)) (below_size (bw HB)))
            replace HO381 := aq (Kd.R_elder' (rq HO381) (Kd.R_base ho0) hb)
            replace BK374 := aq (blk_below (bq BK374) hb)
            replace HB := aq (below_step (bw HB) hb)
            (try clear hb)
            (try clear hk)
            (try clear ho0)
            refine hK.out _ _ ⟨bc BK374 0, bc BK374 1⟩ (fun hHeld => ?_)
            clear hK K
            refine nv ?_
            exact norm_ (by simp only [putAll, Act.put, List.setIfInBounds_toArray, List.set_cons_zero, List.set_cons_succ]) (hCont (v377, v380) _ ⟨hHeld, (by (with_reducible repeat (first | apply Kd.R_alloc | apply Kd.R_drewN | apply Kd.R_drew)); exact Kd.R_mono HO378.out (fun _ hk => ⟨hk.1.2, hk.2⟩)), (by (with_reducible repeat (first | apply Kd.R_alloc | apply Kd.R_drewN | apply Kd.R_drew)); exact Kd.R_mono HO381.out (fun _ hk => ⟨hk.2, hk.1.2⟩)), (bq BK374), (bw HB)⟩)
        rintro ⟨v377, v380⟩ w17 ⟨hS_, h0_, h1_, h2_, h3_⟩
        have n0_ : Aside0 (Kd.R k55 55 w17 w.heap.size (fun k_ => some k_ ≠ (v380 : Value).ownBlock ∧ k_ ≠ gb374) v377 t376) := ⟨h0_⟩
        have n1_ : Aside0 (Kd.R k55 55 w17 w.heap.size (fun k_ => some k_ ≠ (v377 : Value).ownBlock ∧ k_ ≠ gb374) v380 y379) := ⟨h1_⟩
        have n2_ : Aside0 (w17.heap[gb374]? = some (.cells #[.int .u64 a1_0, .int .u64 a1_1] 55 (0, 0))) := ⟨h2_⟩
        have n3_ : Aside0 (Below w.heap.size w w17) := ⟨h3_⟩
        clear BK374
        clear HB
        clear h0_ h1_ h2_ h3_
        have HO378 := n0_
        have HO381 := n1_
        have BK374 := n2_
        have HB := n3_
        clear n0_ n1_ n2_ n3_
        have hHeld : w17.cell? ⟨gb374, 0, none⟩ = some (.int .u64 a1_0) ∧ w17.cell? ⟨gb374, 1, none⟩ = some (.int .u64 a1_1) := hS_
        obtain ⟨Ao19, co19, eo19⟩ := Kd.R_slice HO381.out
        (first | subst eo19 | (injection eo19 with f1_ f2_ f3_; have f4_ := f1_.symm; have f5_ := f3_.symm; clear f1_ f2_ f3_; subst f4_; subst f5_))
        refine norm_ (a' := ?_) ?_ ?_
        rotate_left
        · simp only [putAll, Act.put, List.setIfInBounds_toArray, List.set_cons_zero, List.set_cons_succ]
          rfl
        refine ov1 11 35 HT_ fun K hK => ?_
        refine Kd.R_append_rows_step k55 (w0 := w) w.heap.size (by rfl) (.tmp 29) (.tmp 34) 84 55 (.agg #[(.int .u64 0), (.int .u64 0)]) 16 rfl Tryd.underlying84 info55 rfl (by decide) (by omega) v377 t376 y379 _ _ _ (fun k_ => some k_ ≠ (.slice Ao19 y379.length co19 : Value).ownBlock ∧ k_ ≠ gb374) (fun _ => False) rfl rfl ?aO ?aR (fun _ _ h => h) (fun _ h => h.elim) ?aF ?aB ?aS ?aL ?_
        (case aR => repeat (first | exact (Kd.R_reads' HO381.out).2.2 | (with_reducible refine Kd.C_alloc ?_ _) | (with_reducible refine Kd.C_drewN ?_ _) | (with_reducible refine Kd.C_drew ?_)))
        (case aB => exact (bw HB))
        (case aF => exact (fun k_ hk => ⟨Kd.fresh' (Kd.R_lt (rq HO381)) k_ hk, Kd.freshB (g := gb374) (o := .cells #[.int .u64 a1_0, .int .u64 a1_1] 55 (0, 0)) (bq BK374) k_ hk⟩))
        (case aO => exact (rq HO378))
        (case aS => exact (below_size (bw HB)))
        (case aL => have := LMc9.out; omega)
        intro v383 w18 ho hb hg hat
        rw [← Ny382.out] at ho
        have HO384 := aq (ho)
        replace BK374 := aq (blk_grown (g := gb374) (o := .cells #[.int .u64 a1_0, .int .u64 a1_1] 55 (0, 0)) (bq BK374) hg (Kd.R_away HO378.out (fun _ hk => hk.2)))
        replace HO381 := aq (Kd.R_after (ok := (fun k_ => k_ ≠ gb374)) (by (with_reducible repeat (first | apply Kd.R_alloc | apply Kd.R_drewN | apply Kd.R_drew)); exact Kd.R_mono HO381.out (fun _ hk => ⟨hk.2, hk.1⟩)) hg hat)
        replace HB := aq (hb)
        clear HO378
        clear ho hb hg hat
        refine hK.out _ _ ⟨bc BK374 0, bc BK374 1⟩ (fun hHeld => ?_)
        clear hK K
        refine nv ?_
        refine pv 12 4 HT_ ?_
        refine done_ (done_of HT_.out (by kernel_rfl)) ?_
        try go_wp2
        go_ret
        exact ⟨_, by first | rfl | (simp [errW_none, errW_some] <;> rfl) | (simp [*, errW_none, errW_some] <;> rfl), by (with_reducible repeat (first | apply Kd.R_alloc | apply Kd.R_drewN | apply Kd.R_drew)); exact Kd.R_mono HO384.out (fun _ hk => trivial), by repeat (first | (with_reducible first | exact HB.out | apply below_alloc | apply pw_below_drewN | apply below_drew1 | refine below_set ?_ GE374.out) | exact HB.out)⟩
      · rw [if_neg c9] at H
        exact absurd H (by simp)
    · rw [if_neg c7] at H
      have c7b0 : decide (a0 < (IntKind.u64.wrap (a1_0 + t375))) = false := decide_eq_false c7
      clear c7
      replace H := Option.bind_eq_some_iff.mp H
      obtain ⟨t385, A200, H⟩ := H
      have A20 := aq A200
      clear A200
      obtain ⟨y388, hy388⟩ : ∃ y_ : List (S55), y_ = (([(⟨a1_0, IntKind.u64.wrap (a1_0 + t375)⟩ : S55)] : List (S55))) := ⟨_, rfl⟩
      replace H : (if t385.length + y388.length < 8796093022208 then (some (t385 ++ y388)) else (none)) = some r := by first | (rw [hy388]; with_reducible exact H) | (have H2_ := (Option.bind_some _ _).symm.trans H; rw [hy388]; with_reducible exact H2_) | (have H2_ := (Option.bind_some _ _).symm.trans H; with_reducible exact H2_) | with_reducible exact H | (rw [hy388]; exact H) | exact H
      have Ny388 := aq hy388
      clear hy388
      by_cases c21 : t385.length + y388.length < 8796093022208
      · rw [if_pos c21] at H
        have LMc21 := aq c21
        clear c21
        obtain ⟨y391, hy391⟩ : ∃ y_ : List (S55), y_ = (t385 ++ y388) := ⟨_, rfl⟩
        replace H : (some y391) = some r := by first | (rw [hy391]; with_reducible exact H) | (have H2_ := (Option.bind_some _ _).symm.trans H; rw [hy391]; with_reducible exact H2_) | (have H2_ := (Option.bind_some _ _).symm.trans H; with_reducible exact H2_) | with_reducible exact H | (rw [hy391]; exact H) | exact H
        have Ny391 := aq hy391
        clear hy391
        obtain rfl := Option.some.inj H
        go_enter Tryd.func83, Tryd.ntmps83
        try go_wp2_with (first | ((with_reducible refine gate_dst (N := 3) rfl ?_); refine be 3 #[.int .u64 a1_0, .int .u64 a1_1] 55 ?_; intro gb374 hg w22 hbox hb; have BK374 := aq (hbox); have GW374 := aq ((by rw [hg]; exact (below_size (bw HB)) : w.heap.size ≤ gb374)); have GE374 := aq ((by rw [hg]; exact (below_size (bw HB)) : w.heap.size ≤ gb374)); replace HB := aq (below_step (bw HB) hb); clear hb hbox hg; have hcz23_0 : w22.cell? ⟨gb374, 0, none⟩ = some (.int .u64 a1_0) := bc BK374 0; have hcz23_1 : w22.cell? ⟨gb374, 1, none⟩ = some (.int .u64 a1_1) := bc BK374 1; have hfz23_0 := bz BK374 0; have hfz23_1 := bz BK374 1))
        replace BK374 := aq (blk_drew BK374.out)
        replace HB := aq (below_drew1 HB.out)
        refine start_ (n := 10) (S := fun w' => w'.cell? ⟨gb374, 0, none⟩ = some (.int .u64 a1_0) ∧ w'.cell? ⟨gb374, 1, none⟩ = some (.int .u64 a1_1)) (ds := []) #[false, false, false, false, false, false, false, false, false, false] (by kernel_rfl) rfl rfl ⟨bc BK374 0, bc BK374 1⟩ (fun hHeld => ?_); refine with_tabW spec_pathIn.tab3 spec_pathIn.bits3 (fun HT_ HW_ => ?_)
        generalize w22.drew = w24 at BK374 HB hHeld ⊢
        refine pv 0 12 HT_ ?_
        refine pv 2 14 HT_ ?_
        refine pv 4 16 HT_ ?_
        refine tv 1 13 HT_ HW_ hHeld ?_
        refine tv 3 15 HT_ HW_ hHeld ?_
        refine tv 5 17 HT_ HW_ hHeld ?_
        refine pv 6 18 HT_ ?_
        refine ov1 7 19 HT_ fun K hK => ?_
        refine gS Tryd.func76 #[.int .u64 (IntKind.u64.wrap (a1_1 - a1_0))] ?_
        with_reducible refine (spec_split.calls k (IntKind.u64.wrap (a1_1 - a1_0)) t375 _ A6.out).mono ?_
        rintro e w' ⟨rfl, ⟨nd, rfl⟩⟩
        refine ⟨_, rfl, ?_⟩
        refine hK.out _ _ ⟨bc BK374 0, bc BK374 1⟩ (fun hHeld => ?_)
        clear hK K
        refine nv ?_
        refine pv 8 20 HT_ ?_
        refine pv 9 5 HT_ ?_
        refine done_ (done_of HT_.out (by kernel_rfl)) ?_
        try go_wp2
        (try (rw [drewN_self w24]; generalize hq_ : World.drewN w24 _ = w24; have n0_ : Aside0 (w24.heap[gb374]? = some (.cells #[.int .u64 a1_0, .int .u64 a1_1] 55 (0, 0))) := ⟨by rw [← hq_]; exact (bq BK374)⟩; have n1_ : Aside0 (Below w.heap.size w w24) := ⟨by rw [← hq_]; exact (bw HB)⟩; clear BK374 HB hq_; have BK374 := n0_; have HB := n1_; clear n0_ n1_))
        replace BK374 := aq (blk_drew BK374.out)
        replace HB := aq (below_drew1 HB.out)
        refine start_ (n := 13) (S := fun w' => w'.cell? ⟨gb374, 0, none⟩ = some (.int .u64 a1_0) ∧ w'.cell? ⟨gb374, 1, none⟩ = some (.int .u64 a1_1)) (ds := []) #[false, false, false, false, false, false, false, false, false, false, false, false, false] (by kernel_rfl) rfl rfl ⟨bc BK374 0, bc BK374 1⟩ (fun hHeld => ?_); refine with_tabW spec_pathIn.tab6 spec_pathIn.bits6 (fun HT_ HW_ => ?_)
        generalize w24.drew = w25 at BK374 HB hHeld ⊢
        refine pv 0 36 HT_ ?_
        refine pv 1 37 HT_ ?_
        refine pv 2 38 HT_ ?_
        refine pv 6 42 HT_ ?_
        refine pv 8 44 HT_ ?_
        refine tv 3 39 HT_ HW_ hHeld ?_
        refine pv 4 40 HT_ ?_
        refine tv 7 43 HT_ HW_ hHeld ?_
        refine pv 9 45 HT_ ?_
        refine join_ (σ := Value × Value) 2 #[true, true, true, true, true, true, true, true, true, true, true, false, false] (fun s_ => [(41, s_.1), (46, s_.2)]) (fun s_ w' => (w'.cell? ⟨gb374, 0, none⟩ = some (.int .u64 a1_0) ∧ w'.cell? ⟨gb374, 1, none⟩ = some (.int .u64 a1_1)) ∧ (Kd.R k55 55 w' w.heap.size (fun k_ => some k_ ≠ (s_.2 : Value).ownBlock ∧ k_ ≠ gb374) s_.1 t385) ∧ (Kd.R k55 55 w' w.heap.size (fun k_ => some k_ ≠ (s_.1 : Value).ownBlock ∧ k_ ≠ gb374) s_.2 y388) ∧ (w'.heap[gb374]? = some (.cells #[.int .u64 a1_0, .int .u64 a1_1] 55 (0, 0))) ∧ (Below w.heap.size w w')) ?_ ?_
        rotate_left
        · intro hCont
          refine two_ (i := 5) (j := 10) (Ni := some 41) (Nj := some 46) #[true, true, true, true, true, true, true, true, true, true, false, false, false] #[true, true, true, true, true, false, true, true, true, true, true, false, false] rfl rfl rfl rfl (two_of HT_.out (by kernel_rfl)) (by decide) (by decide) (fun K hK => ?_) (fun K hK => ?_)
          · skip
            refine gS Tryd.func83 #[.int .u64 a0, .agg #[.int .u64 (IntKind.u64.wrap (a1_0 + t375)), .int .u64 a1_1]] ?_
            with_reducible refine (ih k (by omega) a0 (IntKind.u64.wrap (a1_0 + t375)) a1_1 t385 _ A20.out).mono ?_
            rintro e w26 ⟨v386, rfl, ho0, hb⟩
            refine ⟨_, rfl, ?_⟩
            have HO387 := aq (Kd.R_lower (Kd.R_newB ho0 (g := gb374) (o := .cells #[.int .u64 a1_0, .int .u64 a1_1] 55 (0, 0)) (bq BK374)) (below_size (bw HB)))
            replace BK374 := aq (blk_below (bq BK374) hb)
            replace HB := aq (below_step (bw HB) hb)
            (try clear hb)
            (try clear hk)
            (try clear ho0)
            refine hK.out _ _ ⟨bc BK374 0, bc BK374 1⟩ (fun hHeld => ?_)
            clear hK K
            refine nv ?_
            refine ov1 10 46 HT_ fun K hK => ?_
            refine Kd.R_lit_step k55 _ 55 ?hg (N := 46) ?hd (xs := ([(⟨a1_0, IntKind.u64.wrap (a1_0 + t375)⟩ : S55)] : List (S55))) (inner := [.int .u64 a1_0, .int .u64 (IntKind.u64.wrap (a1_0 + t375))]) (ok := fun _ => True) (okp := fun _ => True) ?hr ?hp (fun _ hk => hk) trivial (Below.refl _ _) (Nat.le_refl _) (by simp) ?_; (case hd => rfl); (case hg => rfl); (case hr => first | (go_simp; done) | (go_simp; rfl)); (case hp => exact (Reps.c2 (show Kd.M k55 _ _ _ (⟨a1_0, IntKind.u64.wrap (a1_0 + t375)⟩ : S55) [.int .u64 a1_0, .int .u64 (IntKind.u64.wrap (a1_0 + t375))] from (k55_mkM _ _ _ (⟨a1_0, IntKind.u64.wrap (a1_0 + t375)⟩ : S55) )) (Reps.none _ _)))
            intro v389 w27 ho28 hb hg_ hnew_
            clear hg_ hnew_
            (first | rw [← Ny388.out] at ho28 | (simp only [Int.reduceToNat] at ho28; rw [← Ny388.out] at ho28))
            have HO390 := aq (Kd.R_lower (Kd.R_newB (Kd.R_new' ho28 (Kd.R_lt (rq HO387))) (g := gb374) (o := .cells #[.int .u64 a1_0, .int .u64 a1_1] 55 (0, 0)) (bq BK374)) (below_size (bw HB)))
            replace HO387 := aq (Kd.R_elder' (rq HO387) (Kd.R_base ho28) hb)
            replace BK374 := aq (blk_below (bq BK374) hb)
            replace HB := aq (below_step (bw HB) hb)
            clear hb ho28
            refine hK.out _ _ ⟨bc BK374 0, bc BK374 1⟩ (fun hHeld => ?_)
            clear hK K
            refine nv ?_
            exact norm_ (by simp only [putAll, Act.put, List.setIfInBounds_toArray, List.set_cons_zero, List.set_cons_succ]) (hCont (v386, v389) _ ⟨hHeld, (by (with_reducible repeat (first | apply Kd.R_alloc | apply Kd.R_drewN | apply Kd.R_drew)); exact Kd.R_mono HO387.out (fun _ hk => ⟨hk.2, hk.1.2⟩)), (by (with_reducible repeat (first | apply Kd.R_alloc | apply Kd.R_drewN | apply Kd.R_drew)); exact Kd.R_mono HO390.out (fun _ hk => ⟨hk.1.2, hk.2⟩)), (bq BK374), (bw HB)⟩)
          · skip
            refine Kd.R_lit_step k55 _ 55 ?hg (N := 46) ?hd (xs := ([(⟨a1_0, IntKind.u64.wrap (a1_0 + t375)⟩ : S55)] : List (S55))) (inner := [.int .u64 a1_0, .int .u64 (IntKind.u64.wrap (a1_0 + t375))]) (ok := fun _ => True) (okp := fun _ => True) ?hr ?hp (fun _ hk => hk) trivial (Below.refl _ _) (Nat.le_refl _) (by simp) ?_; (case hd => rfl); (case hg => rfl); (case hr => first | (go_simp; done) | (go_simp; rfl)); (case hp => exact (Reps.c2 (show Kd.M k55 _ _ _ (⟨a1_0, IntKind.u64.wrap (a1_0 + t375)⟩ : S55) [.int .u64 a1_0, .int .u64 (IntKind.u64.wrap (a1_0 + t375))] from (k55_mkM _ _ _ (⟨a1_0, IntKind.u64.wrap (a1_0 + t375)⟩ : S55) )) (Reps.none _ _)))
            intro v389 w26 ho27 hb hg_ hnew_
            clear hg_ hnew_
            (first | rw [← Ny388.out] at ho27 | (simp only [Int.reduceToNat] at ho27; rw [← Ny388.out] at ho27))
            have HO390 := aq (Kd.R_lower (Kd.R_newB ho27 (g := gb374) (o := .cells #[.int .u64 a1_0, .int .u64 a1_1] 55 (0, 0)) (bq BK374)) (below_size (bw HB)))
            replace BK374 := aq (blk_below (bq BK374) hb)
            replace HB := aq (below_step (bw HB) hb)
            clear hb ho27
            refine hK.out _ _ ⟨bc BK374 0, bc BK374 1⟩ (fun hHeld => ?_)
            clear hK K
            refine nv ?_
            refine ov1 5 41 HT_ fun K hK => ?_
            refine gS Tryd.func83 #[.int .u64 a0, .agg #[.int .u64 (IntKind.u64.wrap (a1_0 + t375)), .int .u64 a1_1]] ?_
            with_reducible refine (ih k (by omega) a0 (IntKind.u64.wrap (a1_0 + t375)) a1_1 t385 _ A20.out).mono ?_
            rintro e w28 ⟨v386, rfl, ho0, hb⟩
            refine ⟨_, rfl, ?_⟩
            have HO387 := aq (Kd.R_lower (Kd.R_newB (Kd.R_new' ho0 (Kd.R_lt (rq HO390))) (g := gb374) (o := .cells #[.int .u64 a1_0, .int .u64 a1_1] 55 (0, 0)) (bq BK374)) (below_size (bw HB)))
            replace HO390 := aq (Kd.R_elder' (rq HO390) (Kd.R_base ho0) hb)
            replace BK374 := aq (blk_below (bq BK374) hb)
            replace HB := aq (below_step (bw HB) hb)
            (try clear hb)
            (try clear hk)
            (try clear ho0)
            refine hK.out _ _ ⟨bc BK374 0, bc BK374 1⟩ (fun hHeld => ?_)
            clear hK K
            refine nv ?_
            exact norm_ (by simp only [putAll, Act.put, List.setIfInBounds_toArray, List.set_cons_zero, List.set_cons_succ]) (hCont (v386, v389) _ ⟨hHeld, (by (with_reducible repeat (first | apply Kd.R_alloc | apply Kd.R_drewN | apply Kd.R_drew)); exact Kd.R_mono HO387.out (fun _ hk => ⟨hk.1.2, hk.2⟩)), (by (with_reducible repeat (first | apply Kd.R_alloc | apply Kd.R_drewN | apply Kd.R_drew)); exact Kd.R_mono HO390.out (fun _ hk => ⟨hk.2, hk.1.2⟩)), (bq BK374), (bw HB)⟩)
        rintro ⟨v386, v389⟩ w29 ⟨hS_, h0_, h1_, h2_, h3_⟩
        have n0_ : Aside0 (Kd.R k55 55 w29 w.heap.size (fun k_ => some k_ ≠ (v389 : Value).ownBlock ∧ k_ ≠ gb374) v386 t385) := ⟨h0_⟩
        have n1_ : Aside0 (Kd.R k55 55 w29 w.heap.size (fun k_ => some k_ ≠ (v386 : Value).ownBlock ∧ k_ ≠ gb374) v389 y388) := ⟨h1_⟩
        have n2_ : Aside0 (w29.heap[gb374]? = some (.cells #[.int .u64 a1_0, .int .u64 a1_1] 55 (0, 0))) := ⟨h2_⟩
        have n3_ : Aside0 (Below w.heap.size w w29) := ⟨h3_⟩
        clear BK374
        clear HB
        clear h0_ h1_ h2_ h3_
        have HO387 := n0_
        have HO390 := n1_
        have BK374 := n2_
        have HB := n3_
        clear n0_ n1_ n2_ n3_
        have hHeld : w29.cell? ⟨gb374, 0, none⟩ = some (.int .u64 a1_0) ∧ w29.cell? ⟨gb374, 1, none⟩ = some (.int .u64 a1_1) := hS_
        obtain ⟨Ao31, co31, eo31⟩ := Kd.R_slice HO390.out
        (first | subst eo31 | (injection eo31 with f1_ f2_ f3_; have f4_ := f1_.symm; have f5_ := f3_.symm; clear f1_ f2_ f3_; subst f4_; subst f5_))
        refine norm_ (a' := ?_) ?_ ?_
        rotate_left
        · simp only [putAll, Act.put, List.setIfInBounds_toArray, List.set_cons_zero, List.set_cons_succ]
          rfl
        refine ov1 11 47 HT_ fun K hK => ?_
        refine Kd.R_append_rows_step k55 (w0 := w) w.heap.size (by rfl) (.tmp 41) (.tmp 46) 84 55 (.agg #[(.int .u64 0), (.int .u64 0)]) 16 rfl Tryd.underlying84 info55 rfl (by decide) (by omega) v386 t385 y388 _ _ _ (fun k_ => some k_ ≠ (.slice Ao31 y388.length co31 : Value).ownBlock ∧ k_ ≠ gb374) (fun _ => False) rfl rfl ?aO ?aR (fun _ _ h => h) (fun _ h => h.elim) ?aF ?aB ?aS ?aL ?_
        (case aR => repeat (first | exact (Kd.R_reads' HO390.out).2.2 | (with_reducible refine Kd.C_alloc ?_ _) | (with_reducible refine Kd.C_drewN ?_ _) | (with_reducible refine Kd.C_drew ?_)))
        (case aB => exact (bw HB))
        (case aF => exact (fun k_ hk => ⟨Kd.fresh' (Kd.R_lt (rq HO390)) k_ hk, Kd.freshB (g := gb374) (o := .cells #[.int .u64 a1_0, .int .u64 a1_1] 55 (0, 0)) (bq BK374) k_ hk⟩))
        (case aO => exact (rq HO387))
        (case aS => exact (below_size (bw HB)))
        (case aL => have := LMc21.out; omega)
        intro v392 w30 ho hb hg hat
        rw [← Ny391.out] at ho
        have HO393 := aq (ho)
        replace BK374 := aq (blk_grown (g := gb374) (o := .cells #[.int .u64 a1_0, .int .u64 a1_1] 55 (0, 0)) (bq BK374) hg (Kd.R_away HO387.out (fun _ hk => hk.2)))
        replace HO390 := aq (Kd.R_after (ok := (fun k_ => k_ ≠ gb374)) (by (with_reducible repeat (first | apply Kd.R_alloc | apply Kd.R_drewN | apply Kd.R_drew)); exact Kd.R_mono HO390.out (fun _ hk => ⟨hk.2, hk.1⟩)) hg hat)
        replace HB := aq (hb)
        clear HO387
        clear ho hb hg hat
        refine hK.out _ _ ⟨bc BK374 0, bc BK374 1⟩ (fun hHeld => ?_)
        clear hK K
        refine nv ?_
        refine pv 12 4 HT_ ?_
        refine done_ (done_of HT_.out (by kernel_rfl)) ?_
        try go_wp2
        go_ret
        exact ⟨_, by first | rfl | (simp [errW_none, errW_some] <;> rfl) | (simp [*, errW_none, errW_some] <;> rfl), by (with_reducible repeat (first | apply Kd.R_alloc | apply Kd.R_drewN | apply Kd.R_drew)); exact Kd.R_mono HO393.out (fun _ hk => trivial), by repeat (first | (with_reducible first | exact HB.out | apply below_alloc | apply pw_below_drewN | apply below_drew1 | refine below_set ?_ GE374.out) | exact HB.out)⟩
      · rw [if_neg c21] at H
        exact absurd H (by simp)
end Go.Proofs.YtfhcpniibiobgaaDoor.Qf
