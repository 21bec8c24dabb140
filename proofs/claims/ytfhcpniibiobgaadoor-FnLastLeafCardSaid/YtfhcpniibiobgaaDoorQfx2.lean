-- Written by wip/tools/myprint.py for this seat (the kit's print with changes); Lean checks it.
import Derived.Test.YtfhcpniibiobgaaDoorQfx0
import Derived.Test.YtfhcpniibiobgaaDoorQfx1
namespace Go.Proofs.YtfhcpniibiobgaaDoor.Qf
open Go.RowKit Go.Proofs.YtfhcpniibiobgaaDoorW.PrintWords Go.Proofs.YtfhcpniibiobgaaDoorW.PrintLast Go.Proofs.YtfhcpniibiobgaaDoorW.PrintMore
attribute [local go_sem] max2_int min2_int max_two min_two max_three min_three max_four min_four   -- for this text's walks alone
set_option linter.unusedVariables false
set_option linter.unusedSimpArgs false

/-! ### spec_ProperRange: function 52 -/
def spec_ProperRange.f (k : Nat) (a0_0 : Int) (a0_1 : Int) (l0_2 : List (List Int)) : Option (Bool) := if a0_0 ≤ a0_1 then ((spec_Nodes.f k a0_0 a0_1).bind fun t133 => (some ((l0_2.length : Int) == (t133.length : Int)))) else (some false)
theorem spec_ProperRange.mono : ∀ a0 a1 a2 k, LeO (spec_ProperRange.f k a0 a1 a2) (spec_ProperRange.f (k + 1) a0 a1 a2) := by
  intro a0 a1 a2 k
  unfold spec_ProperRange.f
  repeat' first
      | (with_reducible exact spec_Nodes.mono _ _ _)
      | (with_reducible exact LeO.refl _)
      | (with_reducible exact LeO.none _)
      | (with_reducible refine LeO.ite ?_ ?_)
      | (with_reducible refine LeO.bind ?_ (fun _ => ?_))
      | exact spec_Nodes.mono _ _ _
      | exact LeO.none _
      | refine LeO.ite ?_ ?_
      | refine LeO.bind ?_ (fun _ => ?_)
def spec_ProperRange.T1 : Bool × List (List Nat × List Nat) := (true, [([], []), ([0], [0]), ([], []), ([2], [2]), ([1, 3], [1, 3]), ([4], [4]), ([5], [5]), ([6, 5], [5, 6]), ([7, 5], [5, 7]), ([5], [5]), ([9, 5], [5, 9]), ([5], [5]), ([11, 5], [5, 11]), ([10, 12, 5], [5, 10, 12]), ([13, 5, 5], [5, 13]), ([14, 5], [5, 14]), ([8, 15, 5], [5, 8, 15]), ([5, 16], [5, 16]), ([17, 14, 0, 1, 2, 3, 4, 5, 6, 7, 8, 9, 10, 11, 12, 13, 14, 15, 16, 17], [17])])
def spec_ProperRange.B1 : List Nat := [0, 1, 0, 4, 15, 31, 63, 127, 255, 63, 575, 63, 2111, 7743, 15935, 32319, 65535, 131071, 262143]
theorem spec_ProperRange.tab1 : rtab .any (opsOf Tryd.f52 1) = spec_ProperRange.T1 := by kernel_rfl
theorem spec_ProperRange.bits1 : waitsOk spec_ProperRange.T1.2 spec_ProperRange.B1 = true := by kernel_rfl
set_option maxHeartbeats 8000000 in
set_option maxRecDepth 100000 in
theorem spec_ProperRange.calls (k : Nat) (a0_0 : Int) (a0_1 : Int) (A0_2 : Option Addr) (c0_2 : Nat) (l0_2 : List (List Int)) (r : Bool) (w : World) (hr0_2 : Kd.C (Kd.slice 5 (Kd.int .u8)) w A0_2 l0_2.length l0_2) (hc0_2 : l0_2.length ≤ c0_2) (h : spec_ProperRange.f k a0_0 a0_1 l0_2 = some r) :
    Calls Tryd.prog 52 #[.agg #[.int .u64 a0_0, .int .u64 a0_1, .slice A0_2 l0_2.length c0_2]] w fun e w' => e = .returned (.bool r) ∧ Below w.heap.size w w' := by
  have hu35 := Tryd.underlying35
  have hu55 := Tryd.underlying55
  have HR0_2 := Aside0.mk hr0_2
  have HC0_2 := Aside0.mk hc0_2
  clear hr0_2 hc0_2
  have HB := Aside0.mk (Below.refl w.heap.size w)
  have H : (if a0_0 ≤ a0_1 then ((spec_Nodes.f k a0_0 a0_1).bind fun t133 => (some ((l0_2.length : Int) == (t133.length : Int)))) else (some false)) = some r := h
  clear h
  by_cases c2 : a0_0 ≤ a0_1
  · rw [if_pos c2] at H
    have c2b0 : decide (a0_0 ≤ a0_1) = true := decide_eq_true c2
    clear c2
    replace H := Option.bind_eq_some_iff.mp H
    obtain ⟨t133, A30, H⟩ := H
    replace H : (some ((l0_2.length : Int) == (t133.length : Int))) = some r := H
    have A3 := Aside0.mk A30
    clear A30
    obtain rfl := Option.some.inj H
    go_enter Tryd.func52, Tryd.ntmps52
    try go_wp2_with (first | ((with_reducible refine gate_dst (N := 1) rfl ?_); (try (refine gate_guard (by rfl) ?_; dsimp only)); refine box_event ?hg (N := 1) ?hd (cs := #[.int .u64 a0_0, .int .u64 a0_1, .slice A0_2 l0_2.length c0_2]) (t := 35) ?hr ?_; (case hd => rfl); (case hg => rfl); (case hr => first | (go_simp; done) | (go_simp; rfl)); intro gb132 hg w4 hbox hb; have n0_ := Aside0.mk (below_step (by repeat (first | (with_reducible first | exact HB.out | apply below_alloc | apply pw_below_drewN | apply below_drew1) | exact HB.out)) hb); have n1_ := Aside0.mk (hbox); have n2_ := Aside0.mk ((by rw [hg]; exact (below_size (by repeat (first | (with_reducible first | exact HB.out | apply below_alloc | apply pw_below_drewN | apply below_drew1) | exact HB.out))) : w.heap.size ≤ gb132)); have n3_ := Aside0.mk ((by rw [hg]; exact (below_size (by repeat (first | (with_reducible first | exact HB.out | apply below_alloc | apply pw_below_drewN | apply below_drew1) | exact HB.out))) : w.heap.size ≤ gb132)); clear HB; have HB := n0_; have BK132 := n1_; have GW132 := n2_; have GE132 := n3_; clear n0_ n1_ n2_ n3_; clear hb hbox hg))
    have n0_ := Aside0.mk (blk_drew BK132.out)
    have n1_ := Aside0.mk (below_drew1 HB.out)
    clear BK132
    clear HB
    have BK132 := n0_
    have HB := n1_
    clear n0_ n1_
    refine start_ (n := 19) (S := fun w' => w'.cell? ⟨gb132, 0, none⟩ = some (.int .u64 a0_0) ∧ w'.cell? ⟨gb132, 1, none⟩ = some (.int .u64 a0_1) ∧ w'.cell? ⟨gb132, 2, none⟩ = some (.slice A0_2 l0_2.length c0_2)) (ds := []) #[false, false, false, false, false, false, false, false, false, false, false, false, false, false, false, false, false, false, false] (by kernel_rfl) rfl rfl ⟨(blk_cell BK132.out 0).trans rfl, (blk_cell BK132.out 1).trans rfl, (blk_cell BK132.out 2).trans rfl⟩ (fun hHeld => ?_); refine with_tabW spec_ProperRange.tab1 spec_ProperRange.bits1 (fun HT_ HW_ => ?_)
    generalize w4.drew = w5 at BK132 HB hHeld ⊢
    refine pure_ (i := 0) (N := some 3) (v := ?_) (a' := ?_) #[true, false, false, false, false, false, false, false, false, false, false, false, false, false, false, false, false, false, false] rfl rfl (any_of HT_.out (by kernel_rfl)) (fun _ _ _ h => h) (Or.inl ⟨by rfl, ?_⟩) ?_ ?_
    rotate_left
    · intro w'
      go_simp
      with_reducible rfl
    rotate_left
    · simp only [Act.put, List.setIfInBounds_toArray, List.set_cons_zero, List.set_cons_succ, i64_w, i32_w]
      rfl
    refine pure_ (i := 2) (N := some 5) (v := ?_) (a' := ?_) #[true, false, true, false, false, false, false, false, false, false, false, false, false, false, false, false, false, false, false] rfl rfl (any_of HT_.out (by kernel_rfl)) (fun _ _ _ h => h) (Or.inl ⟨by rfl, ?_⟩) ?_ ?_
    rotate_left
    · intro w'
      go_simp
      with_reducible rfl
    rotate_left
    · simp only [Act.put, List.setIfInBounds_toArray, List.set_cons_zero, List.set_cons_succ, i64_w, i32_w]
      rfl
    refine take_ (i := 1) (N := some 4) (v := ?_) (a' := ?_) #[true, true, true, false, false, false, false, false, false, false, false, false, false, false, false, false, false, false, false] rfl rfl (take_ofW HT_.out HW_.out (by kernel_rfl)) (fun _ _ _ h => h) (Or.inl ⟨by rfl, ?_⟩) hHeld ?_ ?_
    rotate_left
    · rintro w' ⟨s0, s1, s2⟩
      go_simp
      with_reducible rfl
    rotate_left
    · simp only [Act.put, List.setIfInBounds_toArray, List.set_cons_zero, List.set_cons_succ, i64_w, i32_w]
      rfl
    refine take_ (i := 3) (N := some 6) (v := ?_) (a' := ?_) #[true, true, true, true, false, false, false, false, false, false, false, false, false, false, false, false, false, false, false] rfl rfl (take_ofW HT_.out HW_.out (by kernel_rfl)) (fun _ _ _ h => h) (Or.inl ⟨by rfl, ?_⟩) hHeld ?_ ?_
    rotate_left
    · rintro w' ⟨s0, s1, s2⟩
      go_simp
      with_reducible rfl
    rotate_left
    · simp only [Act.put, List.setIfInBounds_toArray, List.set_cons_zero, List.set_cons_succ, i64_w, i32_w]
      rfl
    refine pure_ (i := 4) (N := some 7) (v := ?_) (a' := ?_) #[true, true, true, true, true, false, false, false, false, false, false, false, false, false, false, false, false, false, false] rfl rfl (any_of HT_.out (by kernel_rfl)) (fun _ _ _ h => h) (Or.inl ⟨by rfl, ?_⟩) ?_ ?_
    rotate_left
    · intro w'
      go_simp
      with_reducible rfl
    rotate_left
    · simp only [Act.put, List.setIfInBounds_toArray, List.set_cons_zero, List.set_cons_succ, i64_w, i32_w]
      rfl
    refine pure_ (i := 5) (N := some 8) (v := ?_) (a' := ?_) #[true, true, true, true, true, true, false, false, false, false, false, false, false, false, false, false, false, false, false] rfl rfl (any_of HT_.out (by kernel_rfl)) (fun _ _ _ h => h) (Or.inl ⟨by rfl, ?_⟩) ?_ ?_
    rotate_left
    · intro w'
      go_simp
      with_reducible rfl
    rotate_left
    · simp only [Act.put, List.setIfInBounds_toArray, List.set_cons_zero, List.set_cons_succ, i64_w, i32_w]
      rfl
    refine pure_ (i := 6) (N := some 9) (v := ?_) (a' := ?_) #[true, true, true, true, true, true, true, false, false, false, false, false, false, false, false, false, false, false, false] rfl rfl (any_of HT_.out (by kernel_rfl)) (fun _ _ _ h => h) (Or.inl ⟨by rfl, ?_⟩) ?_ ?_
    rotate_left
    · intro w'
      go_simp
      with_reducible rfl
    rotate_left
    · simp only [Act.put, List.setIfInBounds_toArray, List.set_cons_zero, List.set_cons_succ, i64_w, i32_w]
      rfl
    refine pure_ (i := 9) (N := some 12) (v := ?_) (a' := ?_) #[true, true, true, true, true, true, true, false, false, true, false, false, false, false, false, false, false, false, false] rfl rfl (any_of HT_.out (by kernel_rfl)) (fun _ _ _ h => h) (Or.inl ⟨by rfl, ?_⟩) ?_ ?_
    rotate_left
    · intro w'
      go_simp
      with_reducible rfl
    rotate_left
    · simp only [Act.put, List.setIfInBounds_toArray, List.set_cons_zero, List.set_cons_succ, i64_w, i32_w]
      rfl
    refine pure_ (i := 11) (N := some 14) (v := ?_) (a' := ?_) #[true, true, true, true, true, true, true, false, false, true, false, true, false, false, false, false, false, false, false] rfl rfl (any_of HT_.out (by kernel_rfl)) (fun _ _ _ h => h) (Or.inl ⟨by rfl, ?_⟩) ?_ ?_
    rotate_left
    · intro w'
      go_simp
      with_reducible rfl
    rotate_left
    · simp only [Act.put, List.setIfInBounds_toArray, List.set_cons_zero, List.set_cons_succ, i64_w, i32_w]
      rfl
    refine take_ (i := 7) (N := some 10) (v := ?_) (a' := ?_) #[true, true, true, true, true, true, true, true, false, true, false, true, false, false, false, false, false, false, false] rfl rfl (take_ofW HT_.out HW_.out (by kernel_rfl)) (fun _ _ _ h => h) (Or.inl ⟨by rfl, ?_⟩) hHeld ?_ ?_
    rotate_left
    · rintro w' ⟨s0, s1, s2⟩
      go_simp
      with_reducible rfl
    rotate_left
    · simp only [Act.put, List.setIfInBounds_toArray, List.set_cons_zero, List.set_cons_succ, i64_w, i32_w]
      rfl
    refine pure_ (i := 8) (N := some 11) (v := ?_) (a' := ?_) #[true, true, true, true, true, true, true, true, true, true, false, true, false, false, false, false, false, false, false] rfl rfl (any_of HT_.out (by kernel_rfl)) (fun _ _ _ h => h) (Or.inl ⟨by rfl, ?_⟩) ?_ ?_
    rotate_left
    · intro w'
      go_simp
      with_reducible rfl
    rotate_left
    · simp only [Act.put, List.setIfInBounds_toArray, List.set_cons_zero, List.set_cons_succ, i64_w, i32_w]
      rfl
    refine take_ (i := 10) (N := some 13) (v := ?_) (a' := ?_) #[true, true, true, true, true, true, true, true, true, true, true, true, false, false, false, false, false, false, false] rfl rfl (take_ofW HT_.out HW_.out (by kernel_rfl)) (fun _ _ _ h => h) (Or.inl ⟨by rfl, ?_⟩) hHeld ?_ ?_
    rotate_left
    · rintro w' ⟨s0, s1, s2⟩
      go_simp
      with_reducible rfl
    rotate_left
    · simp only [Act.put, List.setIfInBounds_toArray, List.set_cons_zero, List.set_cons_succ, i64_w, i32_w]
      rfl
    refine take_ (i := 12) (N := some 15) (v := ?_) (a' := ?_) #[true, true, true, true, true, true, true, true, true, true, true, true, true, false, false, false, false, false, false] rfl rfl (take_ofW HT_.out HW_.out (by kernel_rfl)) (fun _ _ _ h => h) (Or.inl ⟨by rfl, ?_⟩) hHeld ?_ ?_
    rotate_left
    · rintro w' ⟨s0, s1, s2⟩
      go_simp
      with_reducible rfl
    rotate_left
    · simp only [Act.put, List.setIfInBounds_toArray, List.set_cons_zero, List.set_cons_succ, i64_w, i32_w]
      rfl
    refine pure_ (i := 13) (N := some 16) (v := ?_) (a' := ?_) #[true, true, true, true, true, true, true, true, true, true, true, true, true, true, false, false, false, false, false] rfl rfl (any_of HT_.out (by kernel_rfl)) (fun _ _ _ h => h) (Or.inl ⟨by rfl, ?_⟩) ?_ ?_
    rotate_left
    · intro w'
      go_simp
      with_reducible rfl
    rotate_left
    · simp only [Act.put, List.setIfInBounds_toArray, List.set_cons_zero, List.set_cons_succ, i64_w, i32_w]
      rfl
    refine one_ (i := 14) (N := some 17) #[true, true, true, true, true, true, true, true, true, true, true, true, true, true, true, false, false, false, false] rfl rfl (one_of HT_.out (by kernel_rfl)) (by decide) (fun K hK => ?_)
    refine goes_ Tryd.func66 (by kernel_rfl) rfl #[.agg #[.int .u64 a0_0, .int .u64 a0_1]] (by rfl) rfl rfl (by (try simp only [List.map_toArray, List.map_cons, List.map_nil]); first | done | rfl | (simp only [List.length_drop, List.length_take]; rfl)) ?_
    with_reducible refine (spec_Nodes.calls k a0_0 a0_1 t133 _ A3.out).mono ?_
    rintro e w6 ⟨v134, rfl, ho0, hb⟩
    refine ⟨_, rfl, ?_⟩
    have n0_ := Aside0.mk (Kd.R_lower ho0 (below_size (by repeat (first | (with_reducible first | exact HB.out | apply below_alloc | apply pw_below_drewN | apply below_drew1 | refine below_set ?_ GE132.out) | exact HB.out))))
    have n1_ := Aside0.mk (blk_below (g := gb132) (o := .cells #[.int .u64 a0_0, .int .u64 a0_1, .slice A0_2 l0_2.length c0_2] 35 (0, 0)) (by (with_reducible repeat (first | refine blk_drewN ?_ _ | refine blk_drew ?_ | refine blk_alloc ?_ _)); exact BK132.out) hb)
    have n2_ := Aside0.mk (below_step (by repeat (first | (with_reducible first | exact HB.out | apply below_alloc | apply pw_below_drewN | apply below_drew1 | refine below_set ?_ GE132.out) | exact HB.out)) hb)
    clear BK132
    clear HB
    have HO135 := n0_
    have BK132 := n1_
    have HB := n2_
    clear n0_ n1_ n2_
    (try clear hb)
    (try clear hb2)
    (try clear hk)
    (try clear hi)
    (try clear ho0)
    obtain ⟨Ao7, co7, eo7⟩ := Kd.R_slice HO135.out
    (first | subst eo7 | (injection eo7 with f1_ f2_ f3_; have f4_ := f1_.symm; have f5_ := f3_.symm; clear f1_ f2_ f3_; subst f4_; subst f5_))
    refine hK.out _ _ ⟨(blk_cell BK132.out 0).trans rfl, (blk_cell BK132.out 1).trans rfl, (blk_cell BK132.out 2).trans rfl⟩ (fun hHeld => ?_)
    clear hK K
    refine norm_ (a' := ?_) ?_ ?_
    rotate_left
    · show Act.put _ (some 17) _ = _
      simp only [Act.put, List.setIfInBounds_toArray, List.set_cons_zero, List.set_cons_succ, i64_w, i32_w]
      rfl
    refine pure_ (i := 15) (N := some 18) (v := ?_) (a' := ?_) #[true, true, true, true, true, true, true, true, true, true, true, true, true, true, true, true, false, false, false] rfl rfl (any_of HT_.out (by kernel_rfl)) (fun _ _ _ h => h) (Or.inl ⟨by rfl, ?_⟩) ?_ ?_
    rotate_left
    · intro w'
      go_simp
      with_reducible rfl
    rotate_left
    · simp only [Act.put, List.setIfInBounds_toArray, List.set_cons_zero, List.set_cons_succ, i64_w, i32_w]
      rfl
    refine pure_ (i := 16) (N := some 19) (v := ?_) (a' := ?_) #[true, true, true, true, true, true, true, true, true, true, true, true, true, true, true, true, true, false, false] rfl rfl (any_of HT_.out (by kernel_rfl)) (fun _ _ _ h => h) (Or.inl ⟨by rfl, ?_⟩) ?_ ?_
    rotate_left
    · intro w'
      go_simp
      with_reducible rfl
    rotate_left
    · simp only [Act.put, List.setIfInBounds_toArray, List.set_cons_zero, List.set_cons_succ, i64_w, i32_w]
      rfl
    refine pure_ (i := 17) (N := some 20) (v := ?_) (a' := ?_) #[true, true, true, true, true, true, true, true, true, true, true, true, true, true, true, true, true, true, false] rfl rfl (any_of HT_.out (by kernel_rfl)) (fun _ _ _ h => h) (Or.inl ⟨by rfl, ?_⟩) ?_ ?_
    rotate_left
    · intro w'
      go_simp
      with_reducible rfl
    rotate_left
    · simp only [Act.put, List.setIfInBounds_toArray, List.set_cons_zero, List.set_cons_succ, i64_w, i32_w]
      rfl
    refine pure_ (i := 18) (N := some 2) (v := ?_) (a' := ?_) #[true, true, true, true, true, true, true, true, true, true, true, true, true, true, true, true, true, true, true] rfl rfl (any_of HT_.out (by kernel_rfl)) (fun _ _ _ h => h) (Or.inl ⟨by rfl, ?_⟩) ?_ ?_
    rotate_left
    · intro w'
      go_simp
      with_reducible rfl
    rotate_left
    · simp only [Act.put, List.setIfInBounds_toArray, List.set_cons_zero, List.set_cons_succ, i64_w, i32_w]
      rfl
    refine done_ (done_of HT_.out (by kernel_rfl)) ?_
    try go_wp2
    go_ret
    exact ⟨by first | rfl | (simp [errW_none, errW_some] <;> rfl) | (simp [*, errW_none, errW_some] <;> rfl), by repeat (first | (with_reducible first | exact HB.out | apply below_alloc | apply pw_below_drewN | apply below_drew1 | refine below_set ?_ GE132.out) | exact HB.out)⟩
  · rw [if_neg c2] at H
    have c2b0 : decide (a0_0 ≤ a0_1) = false := decide_eq_false c2
    clear c2
    obtain rfl := Option.some.inj H
    go_enter Tryd.func52, Tryd.ntmps52
    try go_wp2_with (first | ((with_reducible refine gate_dst (N := 1) rfl ?_); (try (refine gate_guard (by rfl) ?_; dsimp only)); refine box_event ?hg (N := 1) ?hd (cs := #[.int .u64 a0_0, .int .u64 a0_1, .slice A0_2 l0_2.length c0_2]) (t := 35) ?hr ?_; (case hd => rfl); (case hg => rfl); (case hr => first | (go_simp; done) | (go_simp; rfl)); intro gb132 hg w8 hbox hb; have n0_ := Aside0.mk (below_step (by repeat (first | (with_reducible first | exact HB.out | apply below_alloc | apply pw_below_drewN | apply below_drew1) | exact HB.out)) hb); have n1_ := Aside0.mk (hbox); have n2_ := Aside0.mk ((by rw [hg]; exact (below_size (by repeat (first | (with_reducible first | exact HB.out | apply below_alloc | apply pw_below_drewN | apply below_drew1) | exact HB.out))) : w.heap.size ≤ gb132)); have n3_ := Aside0.mk ((by rw [hg]; exact (below_size (by repeat (first | (with_reducible first | exact HB.out | apply below_alloc | apply pw_below_drewN | apply below_drew1) | exact HB.out))) : w.heap.size ≤ gb132)); clear HB; have HB := n0_; have BK132 := n1_; have GW132 := n2_; have GE132 := n3_; clear n0_ n1_ n2_ n3_; clear hb hbox hg))
    have n0_ := Aside0.mk (blk_drew BK132.out)
    have n1_ := Aside0.mk (below_drew1 HB.out)
    clear BK132
    clear HB
    have BK132 := n0_
    have HB := n1_
    clear n0_ n1_
    refine start_ (n := 19) (S := fun w' => w'.cell? ⟨gb132, 0, none⟩ = some (.int .u64 a0_0) ∧ w'.cell? ⟨gb132, 1, none⟩ = some (.int .u64 a0_1) ∧ w'.cell? ⟨gb132, 2, none⟩ = some (.slice A0_2 l0_2.length c0_2)) (ds := []) #[false, false, false, false, false, false, false, false, false, false, false, false, false, false, false, false, false, false, false] (by kernel_rfl) rfl rfl ⟨(blk_cell BK132.out 0).trans rfl, (blk_cell BK132.out 1).trans rfl, (blk_cell BK132.out 2).trans rfl⟩ (fun hHeld => ?_); refine with_tabW spec_ProperRange.tab1 spec_ProperRange.bits1 (fun HT_ HW_ => ?_)
    generalize w8.drew = w9 at BK132 HB hHeld ⊢
    refine pure_ (i := 0) (N := some 3) (v := ?_) (a' := ?_) #[true, false, false, false, false, false, false, false, false, false, false, false, false, false, false, false, false, false, false] rfl rfl (any_of HT_.out (by kernel_rfl)) (fun _ _ _ h => h) (Or.inl ⟨by rfl, ?_⟩) ?_ ?_
    rotate_left
    · intro w'
      go_simp
      with_reducible rfl
    rotate_left
    · simp only [Act.put, List.setIfInBounds_toArray, List.set_cons_zero, List.set_cons_succ, i64_w, i32_w]
      rfl
    refine pure_ (i := 2) (N := some 5) (v := ?_) (a' := ?_) #[true, false, true, false, false, false, false, false, false, false, false, false, false, false, false, false, false, false, false] rfl rfl (any_of HT_.out (by kernel_rfl)) (fun _ _ _ h => h) (Or.inl ⟨by rfl, ?_⟩) ?_ ?_
    rotate_left
    · intro w'
      go_simp
      with_reducible rfl
    rotate_left
    · simp only [Act.put, List.setIfInBounds_toArray, List.set_cons_zero, List.set_cons_succ, i64_w, i32_w]
      rfl
    refine take_ (i := 1) (N := some 4) (v := ?_) (a' := ?_) #[true, true, true, false, false, false, false, false, false, false, false, false, false, false, false, false, false, false, false] rfl rfl (take_ofW HT_.out HW_.out (by kernel_rfl)) (fun _ _ _ h => h) (Or.inl ⟨by rfl, ?_⟩) hHeld ?_ ?_
    rotate_left
    · rintro w' ⟨s0, s1, s2⟩
      go_simp
      with_reducible rfl
    rotate_left
    · simp only [Act.put, List.setIfInBounds_toArray, List.set_cons_zero, List.set_cons_succ, i64_w, i32_w]
      rfl
    refine take_ (i := 3) (N := some 6) (v := ?_) (a' := ?_) #[true, true, true, true, false, false, false, false, false, false, false, false, false, false, false, false, false, false, false] rfl rfl (take_ofW HT_.out HW_.out (by kernel_rfl)) (fun _ _ _ h => h) (Or.inl ⟨by rfl, ?_⟩) hHeld ?_ ?_
    rotate_left
    · rintro w' ⟨s0, s1, s2⟩
      go_simp
      with_reducible rfl
    rotate_left
    · simp only [Act.put, List.setIfInBounds_toArray, List.set_cons_zero, List.set_cons_succ, i64_w, i32_w]
      rfl
    refine pure_ (i := 4) (N := some 7) (v := ?_) (a' := ?_) #[true, true, true, true, true, false, false, false, false, false, false, false, false, false, false, false, false, false, false] rfl rfl (any_of HT_.out (by kernel_rfl)) (fun _ _ _ h => h) (Or.inl ⟨by rfl, ?_⟩) ?_ ?_
    rotate_left
    · intro w'
      go_simp
      with_reducible rfl
    rotate_left
    · simp only [Act.put, List.setIfInBounds_toArray, List.set_cons_zero, List.set_cons_succ, i64_w, i32_w]
      rfl
    refine pure_ (i := 5) (N := some 8) (v := ?_) (a' := ?_) #[true, true, true, true, true, true, false, false, false, false, false, false, false, false, false, false, false, false, false] rfl rfl (any_of HT_.out (by kernel_rfl)) (fun _ _ _ h => h) (Or.inl ⟨by rfl, ?_⟩) ?_ ?_
    rotate_left
    · intro w'
      go_simp
      with_reducible rfl
    rotate_left
    · simp only [Act.put, List.setIfInBounds_toArray, List.set_cons_zero, List.set_cons_succ, i64_w, i32_w]
      rfl
    refine pure_ (i := 6) (N := some 9) (v := undef) (a' := ?_) #[true, true, true, true, true, true, true, false, false, false, false, false, false, false, false, false, false, false, false] rfl rfl (any_of HT_.out (by kernel_rfl)) (fun _ _ _ h => h) (Or.inr ⟨by rfl, rfl⟩) ?_ ?_
    rotate_left
    · simp only [Act.put, List.setIfInBounds_toArray, List.set_cons_zero, List.set_cons_succ, i64_w, i32_w]
      rfl
    refine pure_ (i := 7) (N := some 10) (v := undef) (a' := ?_) #[true, true, true, true, true, true, true, true, false, false, false, false, false, false, false, false, false, false, false] rfl rfl (any_of HT_.out (by kernel_rfl)) (fun _ _ _ h => h) (Or.inr ⟨by rfl, rfl⟩) ?_ ?_
    rotate_left
    · simp only [Act.put, List.setIfInBounds_toArray, List.set_cons_zero, List.set_cons_succ, i64_w, i32_w]
      rfl
    refine pure_ (i := 8) (N := some 11) (v := undef) (a' := ?_) #[true, true, true, true, true, true, true, true, true, false, false, false, false, false, false, false, false, false, false] rfl rfl (any_of HT_.out (by kernel_rfl)) (fun _ _ _ h => h) (Or.inr ⟨by rfl, rfl⟩) ?_ ?_
    rotate_left
    · simp only [Act.put, List.setIfInBounds_toArray, List.set_cons_zero, List.set_cons_succ, i64_w, i32_w]
      rfl
    refine pure_ (i := 9) (N := some 12) (v := undef) (a' := ?_) #[true, true, true, true, true, true, true, true, true, true, false, false, false, false, false, false, false, false, false] rfl rfl (any_of HT_.out (by kernel_rfl)) (fun _ _ _ h => h) (Or.inr ⟨by rfl, rfl⟩) ?_ ?_
    rotate_left
    · simp only [Act.put, List.setIfInBounds_toArray, List.set_cons_zero, List.set_cons_succ, i64_w, i32_w]
      rfl
    refine pure_ (i := 10) (N := some 13) (v := undef) (a' := ?_) #[true, true, true, true, true, true, true, true, true, true, true, false, false, false, false, false, false, false, false] rfl rfl (any_of HT_.out (by kernel_rfl)) (fun _ _ _ h => h) (Or.inr ⟨by rfl, rfl⟩) ?_ ?_
    rotate_left
    · simp only [Act.put, List.setIfInBounds_toArray, List.set_cons_zero, List.set_cons_succ, i64_w, i32_w]
      rfl
    refine pure_ (i := 11) (N := some 14) (v := undef) (a' := ?_) #[true, true, true, true, true, true, true, true, true, true, true, true, false, false, false, false, false, false, false] rfl rfl (any_of HT_.out (by kernel_rfl)) (fun _ _ _ h => h) (Or.inr ⟨by rfl, rfl⟩) ?_ ?_
    rotate_left
    · simp only [Act.put, List.setIfInBounds_toArray, List.set_cons_zero, List.set_cons_succ, i64_w, i32_w]
      rfl
    refine pure_ (i := 12) (N := some 15) (v := undef) (a' := ?_) #[true, true, true, true, true, true, true, true, true, true, true, true, true, false, false, false, false, false, false] rfl rfl (any_of HT_.out (by kernel_rfl)) (fun _ _ _ h => h) (Or.inr ⟨by rfl, rfl⟩) ?_ ?_
    rotate_left
    · simp only [Act.put, List.setIfInBounds_toArray, List.set_cons_zero, List.set_cons_succ, i64_w, i32_w]
      rfl
    refine pure_ (i := 13) (N := some 16) (v := undef) (a' := ?_) #[true, true, true, true, true, true, true, true, true, true, true, true, true, true, false, false, false, false, false] rfl rfl (any_of HT_.out (by kernel_rfl)) (fun _ _ _ h => h) (Or.inr ⟨by rfl, rfl⟩) ?_ ?_
    rotate_left
    · simp only [Act.put, List.setIfInBounds_toArray, List.set_cons_zero, List.set_cons_succ, i64_w, i32_w]
      rfl
    refine pure_ (i := 14) (N := some 17) (v := undef) (a' := ?_) #[true, true, true, true, true, true, true, true, true, true, true, true, true, true, true, false, false, false, false] rfl rfl (any_of HT_.out (by kernel_rfl)) (fun _ _ _ h => h) (Or.inr ⟨by rfl, rfl⟩) ?_ ?_
    rotate_left
    · simp only [Act.put, List.setIfInBounds_toArray, List.set_cons_zero, List.set_cons_succ, i64_w, i32_w]
      rfl
    refine pure_ (i := 15) (N := some 18) (v := undef) (a' := ?_) #[true, true, true, true, true, true, true, true, true, true, true, true, true, true, true, true, false, false, false] rfl rfl (any_of HT_.out (by kernel_rfl)) (fun _ _ _ h => h) (Or.inr ⟨by rfl, rfl⟩) ?_ ?_
    rotate_left
    · simp only [Act.put, List.setIfInBounds_toArray, List.set_cons_zero, List.set_cons_succ, i64_w, i32_w]
      rfl
    refine pure_ (i := 16) (N := some 19) (v := undef) (a' := ?_) #[true, true, true, true, true, true, true, true, true, true, true, true, true, true, true, true, true, false, false] rfl rfl (any_of HT_.out (by kernel_rfl)) (fun _ _ _ h => h) (Or.inr ⟨by rfl, rfl⟩) ?_ ?_
    rotate_left
    · simp only [Act.put, List.setIfInBounds_toArray, List.set_cons_zero, List.set_cons_succ, i64_w, i32_w]
      rfl
    refine pure_ (i := 17) (N := some 20) (v := ?_) (a' := ?_) #[true, true, true, true, true, true, true, true, true, true, true, true, true, true, true, true, true, true, false] rfl rfl (any_of HT_.out (by kernel_rfl)) (fun _ _ _ h => h) (Or.inl ⟨by rfl, ?_⟩) ?_ ?_
    rotate_left
    · intro w'
      go_simp
      with_reducible rfl
    rotate_left
    · simp only [Act.put, List.setIfInBounds_toArray, List.set_cons_zero, List.set_cons_succ, i64_w, i32_w]
      rfl
    refine pure_ (i := 18) (N := some 2) (v := ?_) (a' := ?_) #[true, true, true, true, true, true, true, true, true, true, true, true, true, true, true, true, true, true, true] rfl rfl (any_of HT_.out (by kernel_rfl)) (fun _ _ _ h => h) (Or.inl ⟨by rfl, ?_⟩) ?_ ?_
    rotate_left
    · intro w'
      go_simp
      with_reducible rfl
    rotate_left
    · simp only [Act.put, List.setIfInBounds_toArray, List.set_cons_zero, List.set_cons_succ, i64_w, i32_w]
      rfl
    refine done_ (done_of HT_.out (by kernel_rfl)) ?_
    try go_wp2
    go_ret
    exact ⟨by first | rfl | (simp [errW_none, errW_some] <;> rfl) | (simp [*, errW_none, errW_some] <;> rfl), by repeat (first | (with_reducible first | exact HB.out | apply below_alloc | apply pw_below_drewN | apply below_drew1 | refine below_set ?_ GE132.out) | exact HB.out)⟩

/-! ### laws_rangeFair: function 20 -/
def laws_rangeFair.f (k : Nat) (a0_0 : Int) (a0_1 : Int) (l0_2 : List (List Int)) : Option (Bool) := (spec_ProperRange.f k a0_0 a0_1 l0_2).bind fun t137 => (if t137 = true then ((laws_logSmall.f k l0_2).bind fun t138 => (some t138)) else (some false))
theorem laws_rangeFair.mono : ∀ a0 a1 a2 k, LeO (laws_rangeFair.f k a0 a1 a2) (laws_rangeFair.f (k + 1) a0 a1 a2) := by
  intro a0 a1 a2 k
  unfold laws_rangeFair.f
  repeat' first
      | (with_reducible exact laws_logSmall.mono _ _)
      | (with_reducible exact spec_ProperRange.mono _ _ _ _)
      | (with_reducible exact LeO.refl _)
      | (with_reducible exact LeO.none _)
      | (with_reducible refine LeO.ite ?_ ?_)
      | (with_reducible refine LeO.bind ?_ (fun _ => ?_))
      | exact laws_logSmall.mono _ _
      | exact spec_ProperRange.mono _ _ _ _
      | exact LeO.none _
      | refine LeO.ite ?_ ?_
      | refine LeO.bind ?_ (fun _ => ?_)
set_option maxHeartbeats 8000000 in
set_option maxRecDepth 100000 in
theorem laws_rangeFair.calls (k : Nat) (a0_0 : Int) (a0_1 : Int) (A0_2 : Option Addr) (c0_2 : Nat) (l0_2 : List (List Int)) (r : Bool) (w : World) (hr0_2 : Kd.C (Kd.slice 5 (Kd.int .u8)) w A0_2 l0_2.length l0_2) (hc0_2 : l0_2.length ≤ c0_2) (h : laws_rangeFair.f k a0_0 a0_1 l0_2 = some r) :
    Calls Tryd.prog 20 #[.agg #[.int .u64 a0_0, .int .u64 a0_1, .slice A0_2 l0_2.length c0_2]] w fun e w' => e = .returned (.bool r) ∧ Below w.heap.size w w' := by
  have hu35 := Tryd.underlying35
  have HR0_2 := Aside0.mk hr0_2
  have HC0_2 := Aside0.mk hc0_2
  clear hr0_2 hc0_2
  have HB := Aside0.mk (Below.refl w.heap.size w)
  have H : ((spec_ProperRange.f k a0_0 a0_1 l0_2).bind fun t137 => (if t137 = true then ((laws_logSmall.f k l0_2).bind fun t138 => (some t138)) else (some false))) = some r := h
  clear h
  replace H := Option.bind_eq_some_iff.mp H
  obtain ⟨t137, A20, H⟩ := H
  replace H : (if t137 = true then ((laws_logSmall.f k l0_2).bind fun t138 => (some t138)) else (some false)) = some r := H
  have A2 := Aside0.mk A20
  clear A20
  by_cases c3 : t137 = true
  · subst c3
    have H1 : ((laws_logSmall.f k l0_2).bind fun t138 => (some t138)) = some r := by rw [if_pos rfl] at H; exact H
    clear H
    have H := H1
    clear H1
    replace H := Option.bind_eq_some_iff.mp H
    obtain ⟨t138, A40, H⟩ := H
    replace H : (some t138) = some r := H
    have A4 := Aside0.mk A40
    clear A40
    obtain rfl := Option.some.inj H
    go_enter Tryd.func20, Tryd.ntmps20
    go_wp2_with (first | ((with_reducible refine gate_dst (N := 1) rfl ?_); refine box_event ?hg (N := 1) ?hd (cs := #[.int .u64 a0_0, .int .u64 a0_1, .slice A0_2 l0_2.length c0_2]) (t := 35) ?hr ?_; (case hd => rfl); (case hg => rfl); (case hr => first | (go_simp; done) | (go_simp; rfl)); intro gb136 hg w5 hbox hb; have n0_ := Aside0.mk (below_step (by repeat (first | (with_reducible first | exact HB.out | apply below_alloc | apply pw_below_drewN | apply below_drew1) | exact HB.out)) hb); have n1_ := Aside0.mk (hbox); have n2_ := Aside0.mk ((by rw [hg]; exact (below_size (by repeat (first | (with_reducible first | exact HB.out | apply below_alloc | apply pw_below_drewN | apply below_drew1) | exact HB.out))) : w.heap.size ≤ gb136)); have n3_ := Aside0.mk ((by rw [hg]; exact (below_size (by repeat (first | (with_reducible first | exact HB.out | apply below_alloc | apply pw_below_drewN | apply below_drew1) | exact HB.out))) : w.heap.size ≤ gb136)); clear HB; have HB := n0_; have BK136 := n1_; have GW136 := n2_; have GE136 := n3_; clear n0_ n1_ n2_ n3_; clear hb hbox hg; have hcz6_0 : w5.cell? ⟨gb136, 0, none⟩ = some (.int .u64 a0_0) := (blk_cell BK136.out 0).trans rfl; have hcz6_1 : w5.cell? ⟨gb136, 1, none⟩ = some (.int .u64 a0_1) := (blk_cell BK136.out 1).trans rfl; have hcz6_2 : w5.cell? ⟨gb136, 2, none⟩ = some (.slice A0_2 l0_2.length c0_2) := (blk_cell BK136.out 2).trans rfl; have hfz6_0 := blk_frozen BK136.out 0; have hfz6_1 := blk_frozen BK136.out 1; have hfz6_2 := blk_frozen BK136.out 2) | ((with_reducible refine gate_callee (f := 52) rfl ?_); refine goesL_ (some 4) rfl rfl Tryd.func52 (by kernel_rfl) rfl #[.agg #[.int .u64 a0_0, .int .u64 a0_1, .slice A0_2 l0_2.length c0_2]] rfl (by (try simp only [List.map_toArray, List.map_cons, List.map_nil]); first | done | rfl | (simp only [List.length_drop, List.length_take]; rfl)) ?_; (with_reducible refine (spec_ProperRange.calls k a0_0 a0_1 _ _ l0_2 true _ ?side1 ?side2 A2.out).mono ?_); (case side1 => repeat (first | exact (Kd.C_below HR0_2.out HB.out) | (with_reducible refine Kd.C_alloc ?_ _) | (with_reducible refine Kd.C_drewN ?_ _) | (with_reducible refine Kd.C_drew ?_))); (case side2 => exact HC0_2.out); rintro e w7 ⟨rfl, hb⟩; refine ⟨_, rfl, ?_⟩; have n0_ := Aside0.mk (blk_below (g := gb136) (o := .cells #[.int .u64 a0_0, .int .u64 a0_1, .slice A0_2 l0_2.length c0_2] 35 (0, 0)) (by (with_reducible repeat (first | refine blk_drewN ?_ _ | refine blk_drew ?_ | refine blk_alloc ?_ _)); exact BK136.out) hb); have n1_ := Aside0.mk (below_step (by repeat (first | (with_reducible first | exact HB.out | apply below_alloc | apply pw_below_drewN | apply below_drew1 | refine below_set ?_ GE136.out) | exact HB.out)) hb); clear BK136; clear HB; have BK136 := n0_; have HB := n1_; clear n0_ n1_; (try clear hb); (try clear hb2); (try clear hk); (try clear hi); have hcz8_0 : w7.cell? ⟨gb136, 0, none⟩ = some (.int .u64 a0_0) := (blk_cell BK136.out 0).trans rfl; have hcz8_1 : w7.cell? ⟨gb136, 1, none⟩ = some (.int .u64 a0_1) := (blk_cell BK136.out 1).trans rfl; have hcz8_2 : w7.cell? ⟨gb136, 2, none⟩ = some (.slice A0_2 l0_2.length c0_2) := (blk_cell BK136.out 2).trans rfl; have hfz8_0 := blk_frozen BK136.out 0; have hfz8_1 := blk_frozen BK136.out 1; have hfz8_2 := blk_frozen BK136.out 2) | (go_at_call 15; (with_reducible refine (laws_logSmall.calls k _ _ l0_2 t138 _ ?side1 ?side2 A4.out).mono ?_); (case side1 => repeat (first | exact (Kd.C_below HR0_2.out HB.out) | (with_reducible refine Kd.C_alloc ?_ _) | (with_reducible refine Kd.C_drewN ?_ _) | (with_reducible refine Kd.C_drew ?_))); (case side2 => exact HC0_2.out); rintro e w' ⟨rfl, ⟨nd, rfl⟩⟩))
    go_ret
    exact ⟨by first | rfl | (simp [errW_none, errW_some] <;> rfl) | (simp [*, errW_none, errW_some] <;> rfl), by repeat (first | (with_reducible first | exact HB.out | apply below_alloc | apply pw_below_drewN | apply below_drew1 | refine below_set ?_ GE136.out) | exact HB.out)⟩
  · replace c3 := Bool.eq_false_iff.mpr c3
    subst c3
    have H1 : (some false) = some r := by rw [if_neg (show ¬ (false = true) by decide)] at H; exact H
    clear H
    have H := H1
    clear H1
    obtain rfl := Option.some.inj H
    go_enter Tryd.func20, Tryd.ntmps20
    go_wp2_with (first | ((with_reducible refine gate_dst (N := 1) rfl ?_); refine box_event ?hg (N := 1) ?hd (cs := #[.int .u64 a0_0, .int .u64 a0_1, .slice A0_2 l0_2.length c0_2]) (t := 35) ?hr ?_; (case hd => rfl); (case hg => rfl); (case hr => first | (go_simp; done) | (go_simp; rfl)); intro gb136 hg w9 hbox hb; have n0_ := Aside0.mk (below_step (by repeat (first | (with_reducible first | exact HB.out | apply below_alloc | apply pw_below_drewN | apply below_drew1) | exact HB.out)) hb); have n1_ := Aside0.mk (hbox); have n2_ := Aside0.mk ((by rw [hg]; exact (below_size (by repeat (first | (with_reducible first | exact HB.out | apply below_alloc | apply pw_below_drewN | apply below_drew1) | exact HB.out))) : w.heap.size ≤ gb136)); have n3_ := Aside0.mk ((by rw [hg]; exact (below_size (by repeat (first | (with_reducible first | exact HB.out | apply below_alloc | apply pw_below_drewN | apply below_drew1) | exact HB.out))) : w.heap.size ≤ gb136)); clear HB; have HB := n0_; have BK136 := n1_; have GW136 := n2_; have GE136 := n3_; clear n0_ n1_ n2_ n3_; clear hb hbox hg; have hcz10_0 : w9.cell? ⟨gb136, 0, none⟩ = some (.int .u64 a0_0) := (blk_cell BK136.out 0).trans rfl; have hcz10_1 : w9.cell? ⟨gb136, 1, none⟩ = some (.int .u64 a0_1) := (blk_cell BK136.out 1).trans rfl; have hcz10_2 : w9.cell? ⟨gb136, 2, none⟩ = some (.slice A0_2 l0_2.length c0_2) := (blk_cell BK136.out 2).trans rfl; have hfz10_0 := blk_frozen BK136.out 0; have hfz10_1 := blk_frozen BK136.out 1; have hfz10_2 := blk_frozen BK136.out 2) | ((with_reducible refine gate_callee (f := 52) rfl ?_); refine goesL_ (some 4) rfl rfl Tryd.func52 (by kernel_rfl) rfl #[.agg #[.int .u64 a0_0, .int .u64 a0_1, .slice A0_2 l0_2.length c0_2]] rfl (by (try simp only [List.map_toArray, List.map_cons, List.map_nil]); first | done | rfl | (simp only [List.length_drop, List.length_take]; rfl)) ?_; (with_reducible refine (spec_ProperRange.calls k a0_0 a0_1 _ _ l0_2 false _ ?side1 ?side2 A2.out).mono ?_); (case side1 => repeat (first | exact (Kd.C_below HR0_2.out HB.out) | (with_reducible refine Kd.C_alloc ?_ _) | (with_reducible refine Kd.C_drewN ?_ _) | (with_reducible refine Kd.C_drew ?_))); (case side2 => exact HC0_2.out); rintro e w11 ⟨rfl, hb⟩; refine ⟨_, rfl, ?_⟩; have n0_ := Aside0.mk (blk_below (g := gb136) (o := .cells #[.int .u64 a0_0, .int .u64 a0_1, .slice A0_2 l0_2.length c0_2] 35 (0, 0)) (by (with_reducible repeat (first | refine blk_drewN ?_ _ | refine blk_drew ?_ | refine blk_alloc ?_ _)); exact BK136.out) hb); have n1_ := Aside0.mk (below_step (by repeat (first | (with_reducible first | exact HB.out | apply below_alloc | apply pw_below_drewN | apply below_drew1 | refine below_set ?_ GE136.out) | exact HB.out)) hb); clear BK136; clear HB; have BK136 := n0_; have HB := n1_; clear n0_ n1_; (try clear hb); (try clear hb2); (try clear hk); (try clear hi)))
    go_ret
    exact ⟨by first | rfl | (simp [errW_none, errW_some] <;> rfl) | (simp [*, errW_none, errW_some] <;> rfl), by repeat (first | (with_reducible first | exact HB.out | apply below_alloc | apply pw_below_drewN | apply below_drew1 | refine below_set ?_ GE136.out) | exact HB.out)⟩

/-! ### laws_growthNext: function 39 -/
def laws_growthNext.l0 : Nat → Int → List (S35) → Int → Int → Option (Bool)
  | 0, _, _, _, _ => none
  | k + 1, x3, x6, x7, x8 => if x8 < x7 then (if 0 ≤ x8 then (if x8 < (x6.length : Int) then ((laws_rangeFair.f k ((rd_T35 x6 x8).f0) ((rd_T35 x6 x8).f1) ((rd_T35 x6 x8).f2)).bind fun t141 => (if t141 = true then (if ((rd_T35 x6 x8).f0) = x3 then (laws_growthNext.l0 k ((rd_T35 x6 x8).f1) x6 x7 (wrap64 (x8 + 1))) else (some false)) else (some false))) else (none)) else (none)) else (some true)
def laws_growthNext.f (k : Nat) (l0 : List (S35)) : Option (Bool) := laws_growthNext.l0 k 0 l0 (l0.length : Int) 0
theorem laws_growthNext.mono_l : ∀ k, (∀ y0 y1 y2 y3, LeO (laws_growthNext.l0 k y0 y1 y2 y3) (laws_growthNext.l0 (k + 1) y0 y1 y2 y3))
  | 0 => fun _ _ _ _ r h => by simp [laws_growthNext.l0] at h
  | k + 1 => by
    have ih0 := laws_growthNext.mono_l k
    · intro y0 y1 y2 y3
      unfold laws_growthNext.l0
      repeat' first
      | (with_reducible exact ih0 _ _ _ _)
      | (with_reducible exact laws_rangeFair.mono _ _ _ _)
      | (with_reducible exact LeO.refl _)
      | (with_reducible exact LeO.none _)
      | (with_reducible refine LeO.ite ?_ ?_)
      | (with_reducible refine LeO.bind ?_ (fun _ => ?_))
      | exact ih0 _ _ _ _
      | exact laws_rangeFair.mono _ _ _ _
      | exact LeO.none _
      | refine LeO.ite ?_ ?_
      | refine LeO.bind ?_ (fun _ => ?_)
theorem laws_growthNext.mono : ∀ a0 k, LeO (laws_growthNext.f k a0) (laws_growthNext.f (k + 1) a0) := by
  intro a0 k
  have ih0 := laws_growthNext.mono_l k
  unfold laws_growthNext.f
  repeat' first
      | (with_reducible exact ih0 _ _ _ _)
      | (with_reducible exact laws_rangeFair.mono _ _ _ _)
      | (with_reducible exact LeO.refl _)
      | (with_reducible exact LeO.none _)
      | (with_reducible refine LeO.ite ?_ ?_)
      | (with_reducible refine LeO.bind ?_ (fun _ => ?_))
      | exact ih0 _ _ _ _
      | exact laws_rangeFair.mono _ _ _ _
      | exact LeO.none _
      | refine LeO.ite ?_ ?_
      | refine LeO.bind ?_ (fun _ => ?_)
set_option maxHeartbeats 8000000 in
set_option maxRecDepth 100000 in
theorem laws_growthNext.calls (k : Nat) (A0 : Option Addr) (c0 : Nat) (l0 : List (S35)) (r : Bool) (w : World) (hr0 : Kd.C k35 w A0 l0.length l0) (hc0 : l0.length ≤ c0) (h : laws_growthNext.f k l0 = some r) :
    Calls Tryd.prog 39 #[.slice A0 l0.length c0] w fun e w' => e = .returned (.bool r) ∧ Below w.heap.size w w' := by
  have hu35 := Tryd.underlying35
  have HR0 := Aside0.mk hr0
  have HC0 := Aside0.mk hc0
  clear hr0 hc0
  have HB := Aside0.mk (Below.refl w.heap.size w)
  have H : (laws_growthNext.l0 k 0 l0 (l0.length : Int) 0) = some r := h
  clear h
  have H' := Aside0.mk H
  clear H
  go_enter Tryd.func39, Tryd.ntmps39
  go_wp2
  (try simp only [Act.put, List.setIfInBounds_toArray, List.set_cons_zero, List.set_cons_succ])
  go_loopg [3, 8] k (fun kq v3 v8 w' => ∃ (x3_1 : Int) (x8_1 : Int), v3 = .int .u64 x3_1 ∧ v8 = .int .i64 x8_1 ∧ Aside0 (laws_growthNext.l0 kq x3_1 l0 (l0.length : Int) x8_1 = some r) ∧ Aside0 (kq ≤ k) ∧ Aside0 (Below w.heap.size w w'))
  case atStart => exact ⟨(0), (0), (by first | rfl | (simp; done) | (simp [*]; done)), (by first | rfl | (simp; done) | (simp [*]; done)), H', ⟨Nat.le_refl _⟩, ⟨by repeat (first | (with_reducible first | exact HB.out | apply below_alloc | apply pw_below_drewN | apply below_drew1) | exact HB.out)⟩⟩
  case round =>
    clear H'
    obtain ⟨x3_1, x8_1, rfl, rfl, HA, HK1, HB⟩ := hrel
    cases gk with
    | zero => exact absurd HA.out (by simp [laws_growthNext.l0])
    | succ k1 =>
      have H := HA.out
      clear HA
      simp only [laws_growthNext.l0] at H
      by_cases c2 : x8_1 < (l0.length : Int)
      · rw [if_pos c2] at H
        have c2b0 : decide (x8_1 < (l0.length : Int)) = true := decide_eq_true c2
        clear c2
        by_cases c3 : 0 ≤ x8_1
        · rw [if_pos c3] at H
          have c3b0 : decide (0 ≤ x8_1) = true := decide_eq_true c3
          clear c3
          by_cases c4 : x8_1 < (l0.length : Int)
          · rw [if_pos c4] at H
            have c4b0 : decide (x8_1 < (l0.length : Int)) = true := decide_eq_true c4
            clear c4
            replace H := Option.bind_eq_some_iff.mp H
            obtain ⟨t141, A50, H⟩ := H
            replace H : (if t141 = true then (if ((rd_T35 l0 x8_1).f0) = x3_1 then (laws_growthNext.l0 k1 ((rd_T35 l0 x8_1).f1) l0 (l0.length : Int) (wrap64 (x8_1 + 1))) else (some false)) else (some false)) = some r := H
            have A5 := Aside0.mk A50
            clear A50
            by_cases c6 : t141 = true
            · subst c6
              have H1 : (if ((rd_T35 l0 x8_1).f0) = x3_1 then (laws_growthNext.l0 k1 ((rd_T35 l0 x8_1).f1) l0 (l0.length : Int) (wrap64 (x8_1 + 1))) else (some false)) = some r := by rw [if_pos rfl] at H; exact H
              clear H
              have H := H1
              clear H1
              by_cases c7 : ((rd_T35 l0 x8_1).f0) = x3_1
              · rw [if_pos c7] at H
                have c7b0 : (((rd_T35 l0 x8_1).f0) == x3_1) = true := beq_iff_eq.mpr c7
                have c7b1 : (((rd_T35 l0 x8_1).f0) != x3_1) = false := bne_eq_false_iff_eq.mpr c7
                clear c7
                have H' := Aside0.mk H
                clear H
                have p139 : 0 ≤ (x8_1 : Int) := of_decide_eq_true (by first | (with_reducible assumption) | assumption)
                have q139 : x8_1 < (l0.length : Int) := of_decide_eq_true (by first | (with_reducible assumption) | assumption)
                obtain ⟨ad139, A139_2, c139_2, e139, hx139_0, hx139_1, hx139_2, hl139_2, hi139_2⟩ := at_T35 HR0.out x8_1 p139 q139
                cases e139
                (try replace hx139_0 := (HB.out.cell (World.block_lt_of_cell? w _ hx139_0)).trans hx139_0)
                (try replace hx139_1 := (HB.out.cell (World.block_lt_of_cell? w _ hx139_1)).trans hx139_1)
                (try replace hx139_2 := (HB.out.cell (World.block_lt_of_cell? w _ hx139_2)).trans hx139_2)
                have HR139_2 := Aside0.mk hi139_2
                have HC139_2 := Aside0.mk hl139_2
                clear hi139_2 hl139_2
                replace p139 := eq_true p139
                replace q139 := eq_true q139
                go_wp2_with (first | ((with_reducible refine gate_dst (N := 5) rfl ?_); refine box_event ?hg (N := 5) ?hd (cs := #[.int .u64 0, .int .u64 0, .slice none 0 0]) (t := 35) ?hr ?_; (case hd => rfl); (case hg => rfl); (case hr => first | (go_simp; done) | (go_simp; rfl)); intro gb140 hg w8 hbox hb; have n0_ := Aside0.mk (below_step (by repeat (first | (with_reducible first | exact HB.out | apply below_alloc | apply pw_below_drewN | apply below_drew1) | exact HB.out)) hb); have n1_ := Aside0.mk (hbox); have n2_ := Aside0.mk ((by rw [hg]; exact (below_size (by repeat (first | (with_reducible first | exact HB.out | apply below_alloc | apply pw_below_drewN | apply below_drew1) | exact HB.out))) : w.heap.size ≤ gb140)); have n3_ := Aside0.mk ((by rw [hg]; exact (below_size (by repeat (first | (with_reducible first | exact HB.out | apply below_alloc | apply pw_below_drewN | apply below_drew1) | exact HB.out))) : w.heap.size ≤ gb140)); clear HB; have HB := n0_; have BK140 := n1_; have GW140 := n2_; have GE140 := n3_; clear n0_ n1_ n2_ n3_; clear hb hbox hg; have hcz9_0 : w8.cell? ⟨gb140, 0, none⟩ = some (.int .u64 0) := (blk_cell BK140.out 0).trans rfl; have hcz9_1 : w8.cell? ⟨gb140, 1, none⟩ = some (.int .u64 0) := (blk_cell BK140.out 1).trans rfl; have hcz9_2 : w8.cell? ⟨gb140, 2, none⟩ = some (.slice none 0 0) := (blk_cell BK140.out 2).trans rfl; have hfz9_0 := blk_frozen BK140.out 0; have hfz9_1 := blk_frozen BK140.out 1; have hfz9_2 := blk_frozen BK140.out 2) | ((with_reducible refine gate_callee (f := 20) rfl ?_); refine goesL_ (some 13) rfl rfl Tryd.func20 (by kernel_rfl) rfl #[.agg #[.int .u64 ((rd_T35 l0 x8_1).f0), .int .u64 ((rd_T35 l0 x8_1).f1), .slice A139_2 ((rd_T35 l0 x8_1).f2).length c139_2]] rfl (by (try simp only [List.map_toArray, List.map_cons, List.map_nil]); first | done | rfl | (simp only [List.length_drop, List.length_take]; rfl)) ?_; (with_reducible refine (laws_rangeFair.calls k1 ((rd_T35 l0 x8_1).f0) ((rd_T35 l0 x8_1).f1) _ _ ((rd_T35 l0 x8_1).f2) true _ ?side1 ?side2 A5.out).mono ?_); (case side1 => exact Kd.C_below HR139_2.out (by repeat (first | (with_reducible first | exact HB.out | apply below_alloc | apply pw_below_drewN | apply below_drew1 | refine below_set ?_ GE140.out) | exact HB.out))); (case side2 => exact HC139_2.out); rintro e w10 ⟨rfl, hb⟩; refine ⟨_, rfl, ?_⟩; have n0_ := Aside0.mk (blk_below (g := gb140) (o := .cells #[.int .u64 ((rd_T35 l0 x8_1).f0), .int .u64 ((rd_T35 l0 x8_1).f1), .slice A139_2 ((rd_T35 l0 x8_1).f2).length c139_2] 35 (0, 0)) (by (with_reducible repeat (first | refine blk_drewN ?_ _ | refine blk_drew ?_ | refine blk_alloc ?_ _)); refine blk_put (cs := #[.int .u64 ((rd_T35 l0 x8_1).f0), .int .u64 ((rd_T35 l0 x8_1).f1), .slice none 0 0]) ?_ 2 _ rfl; (with_reducible repeat (first | refine blk_drewN ?_ _ | refine blk_drew ?_ | refine blk_alloc ?_ _)); refine blk_put (cs := #[.int .u64 ((rd_T35 l0 x8_1).f0), .int .u64 0, .slice none 0 0]) ?_ 1 _ rfl; (with_reducible repeat (first | refine blk_drewN ?_ _ | refine blk_drew ?_ | refine blk_alloc ?_ _)); refine blk_put (cs := #[.int .u64 0, .int .u64 0, .slice none 0 0]) ?_ 0 _ rfl; (with_reducible repeat (first | refine blk_drewN ?_ _ | refine blk_drew ?_ | refine blk_alloc ?_ _)); exact BK140.out) hb); have n1_ := Aside0.mk (below_step (by repeat (first | (with_reducible first | exact HB.out | apply below_alloc | apply pw_below_drewN | apply below_drew1 | refine below_set ?_ GE140.out) | exact HB.out)) hb); clear BK140; clear HB; have BK140 := n0_; have HB := n1_; clear n0_ n1_; (try clear hb); (try clear hb2); (try clear hk); (try clear hi); have hcz11_0 : w10.cell? ⟨gb140, 0, none⟩ = some (.int .u64 ((rd_T35 l0 x8_1).f0)) := (blk_cell BK140.out 0).trans rfl; have hcz11_1 : w10.cell? ⟨gb140, 1, none⟩ = some (.int .u64 ((rd_T35 l0 x8_1).f1)) := (blk_cell BK140.out 1).trans rfl; have hcz11_2 : w10.cell? ⟨gb140, 2, none⟩ = some (.slice A139_2 ((rd_T35 l0 x8_1).f2).length c139_2) := (blk_cell BK140.out 2).trans rfl; have hfz11_0 := blk_frozen BK140.out 0; have hfz11_1 := blk_frozen BK140.out 1; have hfz11_2 := blk_frozen BK140.out 2))
                go_roundg k1
                case measure => have := HK1.out; omega
                case rel => exact ⟨((rd_T35 l0 x8_1).f1), (wrap64 (x8_1 + 1)), (by first | rfl | (simp; done) | (simp [*]; done)), (by first | rfl | (simp; done) | (simp [*]; done)), H', ⟨by have := HK1.out; omega⟩, ⟨by repeat (first | (with_reducible first | exact HB.out | apply below_alloc | apply pw_below_drewN | apply below_drew1 | refine below_set ?_ GE140.out) | exact HB.out)⟩⟩
              · rw [if_neg c7] at H
                have c7b0 : (((rd_T35 l0 x8_1).f0) == x3_1) = false := beq_eq_false_iff_ne.mpr c7
                have c7b1 : (((rd_T35 l0 x8_1).f0) != x3_1) = true := bne_iff_ne.mpr c7
                obtain rfl := Option.some.inj H
                have p139 : 0 ≤ (x8_1 : Int) := of_decide_eq_true (by first | (with_reducible assumption) | assumption)
                have q139 : x8_1 < (l0.length : Int) := of_decide_eq_true (by first | (with_reducible assumption) | assumption)
                obtain ⟨ad139, A139_2, c139_2, e139, hx139_0, hx139_1, hx139_2, hl139_2, hi139_2⟩ := at_T35 HR0.out x8_1 p139 q139
                cases e139
                (try replace hx139_0 := (HB.out.cell (World.block_lt_of_cell? w _ hx139_0)).trans hx139_0)
                (try replace hx139_1 := (HB.out.cell (World.block_lt_of_cell? w _ hx139_1)).trans hx139_1)
                (try replace hx139_2 := (HB.out.cell (World.block_lt_of_cell? w _ hx139_2)).trans hx139_2)
                have HR139_2 := Aside0.mk hi139_2
                have HC139_2 := Aside0.mk hl139_2
                clear hi139_2 hl139_2
                replace p139 := eq_true p139
                replace q139 := eq_true q139
                go_wp2_with (first | ((with_reducible refine gate_dst (N := 5) rfl ?_); refine box_event ?hg (N := 5) ?hd (cs := #[.int .u64 0, .int .u64 0, .slice none 0 0]) (t := 35) ?hr ?_; (case hd => rfl); (case hg => rfl); (case hr => first | (go_simp; done) | (go_simp; rfl)); intro gb140 hg w12 hbox hb; have n0_ := Aside0.mk (below_step (by repeat (first | (with_reducible first | exact HB.out | apply below_alloc | apply pw_below_drewN | apply below_drew1) | exact HB.out)) hb); have n1_ := Aside0.mk (hbox); have n2_ := Aside0.mk ((by rw [hg]; exact (below_size (by repeat (first | (with_reducible first | exact HB.out | apply below_alloc | apply pw_below_drewN | apply below_drew1) | exact HB.out))) : w.heap.size ≤ gb140)); have n3_ := Aside0.mk ((by rw [hg]; exact (below_size (by repeat (first | (with_reducible first | exact HB.out | apply below_alloc | apply pw_below_drewN | apply below_drew1) | exact HB.out))) : w.heap.size ≤ gb140)); clear HB; have HB := n0_; have BK140 := n1_; have GW140 := n2_; have GE140 := n3_; clear n0_ n1_ n2_ n3_; clear hb hbox hg; have hcz13_0 : w12.cell? ⟨gb140, 0, none⟩ = some (.int .u64 0) := (blk_cell BK140.out 0).trans rfl; have hcz13_1 : w12.cell? ⟨gb140, 1, none⟩ = some (.int .u64 0) := (blk_cell BK140.out 1).trans rfl; have hcz13_2 : w12.cell? ⟨gb140, 2, none⟩ = some (.slice none 0 0) := (blk_cell BK140.out 2).trans rfl; have hfz13_0 := blk_frozen BK140.out 0; have hfz13_1 := blk_frozen BK140.out 1; have hfz13_2 := blk_frozen BK140.out 2) | ((with_reducible refine gate_callee (f := 20) rfl ?_); refine goesL_ (some 13) rfl rfl Tryd.func20 (by kernel_rfl) rfl #[.agg #[.int .u64 ((rd_T35 l0 x8_1).f0), .int .u64 ((rd_T35 l0 x8_1).f1), .slice A139_2 ((rd_T35 l0 x8_1).f2).length c139_2]] rfl (by (try simp only [List.map_toArray, List.map_cons, List.map_nil]); first | done | rfl | (simp only [List.length_drop, List.length_take]; rfl)) ?_; (with_reducible refine (laws_rangeFair.calls k1 ((rd_T35 l0 x8_1).f0) ((rd_T35 l0 x8_1).f1) _ _ ((rd_T35 l0 x8_1).f2) true _ ?side1 ?side2 A5.out).mono ?_); (case side1 => exact Kd.C_below HR139_2.out (by repeat (first | (with_reducible first | exact HB.out | apply below_alloc | apply pw_below_drewN | apply below_drew1 | refine below_set ?_ GE140.out) | exact HB.out))); (case side2 => exact HC139_2.out); rintro e w14 ⟨rfl, hb⟩; refine ⟨_, rfl, ?_⟩; have n0_ := Aside0.mk (blk_below (g := gb140) (o := .cells #[.int .u64 ((rd_T35 l0 x8_1).f0), .int .u64 ((rd_T35 l0 x8_1).f1), .slice A139_2 ((rd_T35 l0 x8_1).f2).length c139_2] 35 (0, 0)) (by (with_reducible repeat (first | refine blk_drewN ?_ _ | refine blk_drew ?_ | refine blk_alloc ?_ _)); refine blk_put (cs := #[.int .u64 ((rd_T35 l0 x8_1).f0), .int .u64 ((rd_T35 l0 x8_1).f1), .slice none 0 0]) ?_ 2 _ rfl; (with_reducible repeat (first | refine blk_drewN ?_ _ | refine blk_drew ?_ | refine blk_alloc ?_ _)); refine blk_put (cs := #[.int .u64 ((rd_T35 l0 x8_1).f0), .int .u64 0, .slice none 0 0]) ?_ 1 _ rfl; (with_reducible repeat (first | refine blk_drewN ?_ _ | refine blk_drew ?_ | refine blk_alloc ?_ _)); refine blk_put (cs := #[.int .u64 0, .int .u64 0, .slice none 0 0]) ?_ 0 _ rfl; (with_reducible repeat (first | refine blk_drewN ?_ _ | refine blk_drew ?_ | refine blk_alloc ?_ _)); exact BK140.out) hb); have n1_ := Aside0.mk (below_step (by repeat (first | (with_reducible first | exact HB.out | apply below_alloc | apply pw_below_drewN | apply below_drew1 | refine below_set ?_ GE140.out) | exact HB.out)) hb); clear BK140; clear HB; have BK140 := n0_; have HB := n1_; clear n0_ n1_; (try clear hb); (try clear hb2); (try clear hk); (try clear hi); have hcz15_0 : w14.cell? ⟨gb140, 0, none⟩ = some (.int .u64 ((rd_T35 l0 x8_1).f0)) := (blk_cell BK140.out 0).trans rfl; have hcz15_1 : w14.cell? ⟨gb140, 1, none⟩ = some (.int .u64 ((rd_T35 l0 x8_1).f1)) := (blk_cell BK140.out 1).trans rfl; have hcz15_2 : w14.cell? ⟨gb140, 2, none⟩ = some (.slice A139_2 ((rd_T35 l0 x8_1).f2).length c139_2) := (blk_cell BK140.out 2).trans rfl; have hfz15_0 := blk_frozen BK140.out 0; have hfz15_1 := blk_frozen BK140.out 1; have hfz15_2 := blk_frozen BK140.out 2))
                go_ret
                exact ⟨by first | rfl | (simp [errW_none, errW_some] <;> rfl) | (simp [*, errW_none, errW_some] <;> rfl), by repeat (first | (with_reducible first | exact HB.out | apply below_alloc | apply pw_below_drewN | apply below_drew1 | refine below_set ?_ GE140.out) | exact HB.out)⟩
            · replace c6 := Bool.eq_false_iff.mpr c6
              subst c6
              have H1 : (some false) = some r := by rw [if_neg (show ¬ (false = true) by decide)] at H; exact H
              clear H
              have H := H1
              clear H1
              obtain rfl := Option.some.inj H
              have p139 : 0 ≤ (x8_1 : Int) := of_decide_eq_true (by first | (with_reducible assumption) | assumption)
              have q139 : x8_1 < (l0.length : Int) := of_decide_eq_true (by first | (with_reducible assumption) | assumption)
              obtain ⟨ad139, A139_2, c139_2, e139, hx139_0, hx139_1, hx139_2, hl139_2, hi139_2⟩ := at_T35 HR0.out x8_1 p139 q139
              cases e139
              (try replace hx139_0 := (HB.out.cell (World.block_lt_of_cell? w _ hx139_0)).trans hx139_0)
              (try replace hx139_1 := (HB.out.cell (World.block_lt_of_cell? w _ hx139_1)).trans hx139_1)
              (try replace hx139_2 := (HB.out.cell (World.block_lt_of_cell? w _ hx139_2)).trans hx139_2)
              have HR139_2 := Aside0.mk hi139_2
              have HC139_2 := Aside0.mk hl139_2
              clear hi139_2 hl139_2
              replace p139 := eq_true p139
              replace q139 := eq_true q139
              go_wp2_with (first | ((with_reducible refine gate_dst (N := 5) rfl ?_); refine box_event ?hg (N := 5) ?hd (cs := #[.int .u64 0, .int .u64 0, .slice none 0 0]) (t := 35) ?hr ?_; (case hd => rfl); (case hg => rfl); (case hr => first | (go_simp; done) | (go_simp; rfl)); intro gb140 hg w16 hbox hb; have n0_ := Aside0.mk (below_step (by repeat (first | (with_reducible first | exact HB.out | apply below_alloc | apply pw_below_drewN | apply below_drew1) | exact HB.out)) hb); have n1_ := Aside0.mk (hbox); have n2_ := Aside0.mk ((by rw [hg]; exact (below_size (by repeat (first | (with_reducible first | exact HB.out | apply below_alloc | apply pw_below_drewN | apply below_drew1) | exact HB.out))) : w.heap.size ≤ gb140)); have n3_ := Aside0.mk ((by rw [hg]; exact (below_size (by repeat (first | (with_reducible first | exact HB.out | apply below_alloc | apply pw_below_drewN | apply below_drew1) | exact HB.out))) : w.heap.size ≤ gb140)); clear HB; have HB := n0_; have BK140 := n1_; have GW140 := n2_; have GE140 := n3_; clear n0_ n1_ n2_ n3_; clear hb hbox hg; have hcz17_0 : w16.cell? ⟨gb140, 0, none⟩ = some (.int .u64 0) := (blk_cell BK140.out 0).trans rfl; have hcz17_1 : w16.cell? ⟨gb140, 1, none⟩ = some (.int .u64 0) := (blk_cell BK140.out 1).trans rfl; have hcz17_2 : w16.cell? ⟨gb140, 2, none⟩ = some (.slice none 0 0) := (blk_cell BK140.out 2).trans rfl; have hfz17_0 := blk_frozen BK140.out 0; have hfz17_1 := blk_frozen BK140.out 1; have hfz17_2 := blk_frozen BK140.out 2) | ((with_reducible refine gate_callee (f := 20) rfl ?_); refine goesL_ (some 13) rfl rfl Tryd.func20 (by kernel_rfl) rfl #[.agg #[.int .u64 ((rd_T35 l0 x8_1).f0), .int .u64 ((rd_T35 l0 x8_1).f1), .slice A139_2 ((rd_T35 l0 x8_1).f2).length c139_2]] rfl (by (try simp only [List.map_toArray, List.map_cons, List.map_nil]); first | done | rfl | (simp only [List.length_drop, List.length_take]; rfl)) ?_; (with_reducible refine (laws_rangeFair.calls k1 ((rd_T35 l0 x8_1).f0) ((rd_T35 l0 x8_1).f1) _ _ ((rd_T35 l0 x8_1).f2) false _ ?side1 ?side2 A5.out).mono ?_); (case side1 => exact Kd.C_below HR139_2.out (by repeat (first | (with_reducible first | exact HB.out | apply below_alloc | apply pw_below_drewN | apply below_drew1 | refine below_set ?_ GE140.out) | exact HB.out))); (case side2 => exact HC139_2.out); rintro e w18 ⟨rfl, hb⟩; refine ⟨_, rfl, ?_⟩; have n0_ := Aside0.mk (blk_below (g := gb140) (o := .cells #[.int .u64 ((rd_T35 l0 x8_1).f0), .int .u64 ((rd_T35 l0 x8_1).f1), .slice A139_2 ((rd_T35 l0 x8_1).f2).length c139_2] 35 (0, 0)) (by (with_reducible repeat (first | refine blk_drewN ?_ _ | refine blk_drew ?_ | refine blk_alloc ?_ _)); refine blk_put (cs := #[.int .u64 ((rd_T35 l0 x8_1).f0), .int .u64 ((rd_T35 l0 x8_1).f1), .slice none 0 0]) ?_ 2 _ rfl; (with_reducible repeat (first | refine blk_drewN ?_ _ | refine blk_drew ?_ | refine blk_alloc ?_ _)); refine blk_put (cs := #[.int .u64 ((rd_T35 l0 x8_1).f0), .int .u64 0, .slice none 0 0]) ?_ 1 _ rfl; (with_reducible repeat (first | refine blk_drewN ?_ _ | refine blk_drew ?_ | refine blk_alloc ?_ _)); refine blk_put (cs := #[.int .u64 0, .int .u64 0, .slice none 0 0]) ?_ 0 _ rfl; (with_reducible repeat (first | refine blk_drewN ?_ _ | refine blk_drew ?_ | refine blk_alloc ?_ _)); exact BK140.out) hb); have n1_ := Aside0.mk (below_step (by repeat (first | (with_reducible first | exact HB.out | apply below_alloc | apply pw_below_drewN | apply below_drew1 | refine below_set ?_ GE140.out) | exact HB.out)) hb); clear BK140; clear HB; have BK140 := n0_; have HB := n1_; clear n0_ n1_; (try clear hb); (try clear hb2); (try clear hk); (try clear hi)))
              go_ret
              exact ⟨by first | rfl | (simp [errW_none, errW_some] <;> rfl) | (simp [*, errW_none, errW_some] <;> rfl), by repeat (first | (with_reducible first | exact HB.out | apply below_alloc | apply pw_below_drewN | apply below_drew1 | refine below_set ?_ GE140.out) | exact HB.out)⟩
          · rw [if_neg c4] at H
            exact absurd H (by simp)
        · rw [if_neg c3] at H
          exact absurd H (by simp)
      · rw [if_neg c2] at H
        have c2b0 : decide (x8_1 < (l0.length : Int)) = false := decide_eq_false c2
        clear c2
        obtain rfl := Option.some.inj H
        go_wp2
        go_ret
        exact ⟨by first | rfl | (simp [errW_none, errW_some] <;> rfl) | (simp [*, errW_none, errW_some] <;> rfl), by repeat (first | (with_reducible first | exact HB.out | apply below_alloc | apply pw_below_drewN | apply below_drew1) | exact HB.out)⟩

/-! ### compact_Decompose: function 112 -/
def compact_Decompose.f (a0 : Int) (a1 : Int) : Option (Int × Int) := if a0 = 0 then (some (0, a1)) else ((bits_Len64.f (Go.bits .xor .u64 (IntKind.u64.wrap (a0 - 1)) a1)).bind fun t142 => (if 0 ≤ (IntKind.u64.wrap (wrap64 (t142 - 1))) then (some (Go.bits .and .u64 (Go.bits .xor .u64 18446744073709551615 (IntKind.u64.wrap (a0 - 1))) (IntKind.u64.wrap ((shl .u64 1 (IntKind.u64.wrap (wrap64 (t142 - 1)))) - 1)), Go.bits .and .u64 a1 (IntKind.u64.wrap ((shl .u64 1 (IntKind.u64.wrap (wrap64 (t142 - 1)))) - 1)))) else (none)))
set_option maxHeartbeats 8000000 in
set_option maxRecDepth 100000 in
theorem compact_Decompose.calls (a0 : Int) (a1 : Int) (r1 : Int) (r2 : Int) (w : World) (h : compact_Decompose.f a0 a1 = some (r1, r2)) :
    Calls Tryd.prog 112 #[.int .u64 a0, .int .u64 a1] w fun e w' => e = .returned (.tuple #[.int .u64 r1, .int .u64 r2]) ∧ Drawn0 w w' := by
  have H : (if a0 = 0 then (some (0, a1)) else ((bits_Len64.f (Go.bits .xor .u64 (IntKind.u64.wrap (a0 - 1)) a1)).bind fun t142 => (if 0 ≤ (IntKind.u64.wrap (wrap64 (t142 - 1))) then (some (Go.bits .and .u64 (Go.bits .xor .u64 18446744073709551615 (IntKind.u64.wrap (a0 - 1))) (IntKind.u64.wrap ((shl .u64 1 (IntKind.u64.wrap (wrap64 (t142 - 1)))) - 1)), Go.bits .and .u64 a1 (IntKind.u64.wrap ((shl .u64 1 (IntKind.u64.wrap (wrap64 (t142 - 1)))) - 1)))) else (none)))) = some (r1, r2) := h
  clear h
  by_cases c3 : a0 = 0
  · rw [if_pos c3] at H
    have c3b0 : (a0 == 0) = true := beq_iff_eq.mpr c3
    have c3b1 : (a0 != 0) = false := bne_eq_false_iff_eq.mpr c3
    clear c3
    simp only [Option.some.injEq, Prod.mk.injEq] at H
    obtain ⟨rfl, rfl⟩ := H
    go_enter Tryd.func112, Tryd.ntmps112
    go_wp2
    go_ret2
    exact ⟨by first | rfl | (simp; done) | (simp [*]; done), by repeat (first | exact Drawn0.refl _ | apply Drawn0.step)⟩
  · rw [if_neg c3] at H
    have c3b0 : (a0 == 0) = false := beq_eq_false_iff_ne.mpr c3
    have c3b1 : (a0 != 0) = true := bne_iff_ne.mpr c3
    replace H := Option.bind_eq_some_iff.mp H
    obtain ⟨t142, A40, H⟩ := H
    replace H : (if 0 ≤ (IntKind.u64.wrap (wrap64 (t142 - 1))) then (some (Go.bits .and .u64 (Go.bits .xor .u64 18446744073709551615 (IntKind.u64.wrap (a0 - 1))) (IntKind.u64.wrap ((shl .u64 1 (IntKind.u64.wrap (wrap64 (t142 - 1)))) - 1)), Go.bits .and .u64 a1 (IntKind.u64.wrap ((shl .u64 1 (IntKind.u64.wrap (wrap64 (t142 - 1)))) - 1)))) else (none)) = some (r1, r2) := H
    have A4 := Aside0.mk A40
    clear A40
    obtain ⟨ji5, hji5⟩ : ∃ j_ : Int, (IntKind.u64.wrap (wrap64 (t142 - 1))) = j_ := ⟨_, rfl⟩
    replace H : (if 0 ≤ (ji5) then (some (Go.bits .and .u64 (Go.bits .xor .u64 18446744073709551615 (IntKind.u64.wrap (a0 - 1))) (IntKind.u64.wrap ((shl .u64 1 (ji5)) - 1)), Go.bits .and .u64 a1 (IntKind.u64.wrap ((shl .u64 1 (ji5)) - 1)))) else (none)) = some (r1, r2) := by first | (rw [hji5] at H; exact H) | (simp only [hji5] at H ⊢; exact H)
    (try rw [hji5] at A4)
    by_cases c6 : 0 ≤ (ji5)
    · rw [if_pos c6] at H
      have c6b0 := eq_true c6
      have c6b1 : decide (0 ≤ (ji5)) = true := decide_eq_true c6
      clear c6
      obtain ⟨ji7, hji7⟩ : ∃ j_ : Int, (shl .u64 1 (ji5)) = j_ := ⟨_, rfl⟩
      replace H : (some (Go.bits .and .u64 (Go.bits .xor .u64 18446744073709551615 (IntKind.u64.wrap (a0 - 1))) (IntKind.u64.wrap ((ji7) - 1)), Go.bits .and .u64 a1 (IntKind.u64.wrap ((ji7) - 1)))) = some (r1, r2) := by first | (rw [hji7] at H; exact H) | (simp only [hji7] at H ⊢; exact H)
      (try rw [hji7] at A4)
      have hji7_ : (IntKind.u64.wrap (1 * 2 ^ min (ji5).toNat 64)) = ji7 := hji7
      have hji7z : (ji5) ≤ 64 → (IntKind.u64.wrap (1 * 2 ^ (ji5).toNat)) = ji7 := shl_small hji7
      have hji7u : (IntKind.u64.wrap (2 ^ min (ji5).toNat 64)) = ji7 := by have h_ := hji7_; rw [Int.one_mul] at h_; exact h_
      have hji7v : (ji5) ≤ 64 → (IntKind.u64.wrap (2 ^ (ji5).toNat)) = ji7 := fun hle_ => by have h_ := hji7z hle_; rw [Int.one_mul] at h_; exact h_
      simp only [Option.some.injEq, Prod.mk.injEq] at H
      obtain ⟨rfl, rfl⟩ := H
      go_enter Tryd.func112, Tryd.ntmps112
      go_wp2_with (first | ((with_reducible refine gate_callee (f := 116) rfl ?_); refine goesL_ (some 17) rfl rfl Tryd.func116 (by kernel_rfl) rfl #[.int .u64 (Go.bits .xor .u64 (IntKind.u64.wrap (a0 - 1)) a1)] rfl (by (try simp only [List.map_toArray, List.map_cons, List.map_nil]); first | done | rfl | (simp only [List.length_drop, List.length_take]; rfl)) ?_; (with_reducible refine (bits_Len64.calls (Go.bits .xor .u64 (IntKind.u64.wrap (a0 - 1)) a1) t142 _ A4.out).mono ?_); rintro e w' ⟨rfl, ⟨nd, rfl⟩⟩; refine ⟨_, rfl, ?_⟩))
      go_ret2
      exact ⟨by first | rfl | (simp; done) | (simp only [← hji5, ← hji7] <;> (first | rfl | simp)) | (simp [*]; done), by repeat (first | exact Drawn0.refl _ | apply Drawn0.step)⟩
    · rw [if_neg c6] at H
      exact absurd H (by simp)

/-! ### compact_RangeSize: function 88 -/
def compact_RangeSize.f (a0 : Int) (a1 : Int) : Option (Int) := (compact_Decompose.f a0 a1).bind fun bt143 => ((bits_OnesCount64.f bt143.1).bind fun t145 => ((bits_OnesCount64.f bt143.2).bind fun t146 => (some (wrap64 (t145 + t146)))))
set_option maxHeartbeats 8000000 in
set_option maxRecDepth 100000 in
theorem compact_RangeSize.calls (a0 : Int) (a1 : Int) (r : Int) (w : World) (h : compact_RangeSize.f a0 a1 = some r) :
    Calls Tryd.prog 88 #[.int .u64 a0, .int .u64 a1] w fun e w' => e = .returned (.int .i64 r) ∧ Drawn0 w w' := by
  have H : ((compact_Decompose.f a0 a1).bind fun bt143 => ((bits_OnesCount64.f bt143.1).bind fun t145 => ((bits_OnesCount64.f bt143.2).bind fun t146 => (some (wrap64 (t145 + t146)))))) = some r := h
  clear h
  replace H := Option.bind_eq_some_iff.mp H
  obtain ⟨⟨t143, t144⟩, A30, H⟩ := H
  replace H : ((bits_OnesCount64.f t143).bind fun t145 => ((bits_OnesCount64.f t144).bind fun t146 => (some (wrap64 (t145 + t146))))) = some r := H
  have A3 := Aside0.mk A30
  clear A30
  replace H := Option.bind_eq_some_iff.mp H
  obtain ⟨t145, A40, H⟩ := H
  replace H : ((bits_OnesCount64.f t144).bind fun t146 => (some (wrap64 (t145 + t146)))) = some r := H
  have A4 := Aside0.mk A40
  clear A40
  replace H := Option.bind_eq_some_iff.mp H
  obtain ⟨t146, A50, H⟩ := H
  replace H : (some (wrap64 (t145 + t146))) = some r := H
  have A5 := Aside0.mk A50
  clear A50
  obtain rfl := Option.some.inj H
  go_enter Tryd.func88, Tryd.ntmps88
  go_wp2_with (first | ((with_reducible refine gate_callee (f := 112) rfl ?_); refine goesL_ (some 10) rfl rfl Tryd.func112 (by kernel_rfl) rfl #[.int .u64 a0, .int .u64 a1] rfl (by (try simp only [List.map_toArray, List.map_cons, List.map_nil]); first | done | rfl | (simp only [List.length_drop, List.length_take]; rfl)) ?_; (with_reducible refine (compact_Decompose.calls a0 a1 t143 t144 _ A3.out).mono ?_); rintro e w' ⟨rfl, ⟨nd, rfl⟩⟩; refine ⟨_, rfl, ?_⟩) | ((with_reducible refine gate_callee (f := 113) rfl ?_); refine goesL_ (some 14) rfl rfl Tryd.func113 (by kernel_rfl) rfl #[.int .u64 t143] rfl (by (try simp only [List.map_toArray, List.map_cons, List.map_nil]); first | done | rfl | (simp only [List.length_drop, List.length_take]; rfl)) ?_; (with_reducible refine (bits_OnesCount64.calls t143 t145 _ A4.out).mono ?_); rintro e w' ⟨rfl, ⟨nd, rfl⟩⟩; refine ⟨_, rfl, ?_⟩) | ((with_reducible refine gate_callee (f := 113) rfl ?_); refine goesL_ (some 16) rfl rfl Tryd.func113 (by kernel_rfl) rfl #[.int .u64 t144] rfl (by (try simp only [List.map_toArray, List.map_cons, List.map_nil]); first | done | rfl | (simp only [List.length_drop, List.length_take]; rfl)) ?_; (with_reducible refine (bits_OnesCount64.calls t144 t146 _ A5.out).mono ?_); rintro e w' ⟨rfl, ⟨nd, rfl⟩⟩; refine ⟨_, rfl, ?_⟩))
  go_ret
  exact ⟨by first | rfl | (simp; done) | (simp [*]; done), by repeat (first | exact Drawn0.refl _ | apply Drawn0.step)⟩

-- NOT PRINTED: function 54 (compact_RangeFactory_NewRange)

/-! ### bits_TrailingZeros64: function 89, by the shelf's contract -/
def bits_TrailingZeros64.f (a0 : Int) : Option (Int) := if 0 ≤ a0 then (if a0 ≤ 18446744073709551615 then some ((Lib.ctz 64 a0.toNat : Nat) : Int) else none) else none
theorem bits_TrailingZeros64.calls (a0 : Int) (r : Int) (w : World) (HG_ : Glob w) (h : bits_TrailingZeros64.f a0 = some r) :
    Calls Tryd.prog 89 #[.int .u64 a0] w fun e w' => e = .returned (.int .i64 r) ∧ Drawn0 w w' := by
  unfold bits_TrailingZeros64.f at h
  by_cases c0 : 0 ≤ a0
  · rw [if_pos c0] at h
    by_cases c1 : a0 ≤ 18446744073709551615
    · rw [if_pos c1] at h
      obtain rfl := Option.some.inj h
      obtain ⟨n, rfl⟩ := Int.eq_ofNat_of_zero_le c0
      rw [Int.toNat_natCast]
      refine (Tryd.bits_TrailingZeros64 n (by omega) w (fun _ => HG_)).mono ?_
      rintro e w' ⟨rfl, rfl⟩
      exact ⟨rfl, Drawn0.refl _⟩
    · rw [if_neg c1] at h; exact absurd h (by simp)
  · rw [if_neg c0] at h; exact absurd h (by simp)

/-! ### compact_NewNodeID: function 90 -/
def compact_NewNodeID.f (a0 : Int) (a1 : Int) : Option (Int × Int) := some (a0, a1)
set_option maxHeartbeats 8000000 in
set_option maxRecDepth 100000 in
theorem compact_NewNodeID.calls (a0 : Int) (a1 : Int) (r1 : Int) (r2 : Int) (w : World) (h : compact_NewNodeID.f a0 a1 = some (r1, r2)) :
    Calls Tryd.prog 90 #[.int .u64 a0, .int .u64 a1] w fun e w' => e = .returned (.agg #[.int .u64 r1, .int .u64 r2]) ∧ Below w.heap.size w w' := by
  have hu108 := Tryd.underlying108
  have HB := Aside0.mk (Below.refl w.heap.size w)
  have H : (some (a0, a1)) = some (r1, r2) := h
  clear h
  simp only [Option.some.injEq, Prod.mk.injEq] at H
  obtain ⟨rfl, rfl⟩ := H
  go_enter Tryd.func90, Tryd.ntmps90
  go_wp2_with (first | ((with_reducible refine gate_dst (N := 4) rfl ?_); refine box_event ?hg (N := 4) ?hd (cs := #[.int .u64 0, .int .u64 0]) (t := 108) ?hr ?_; (case hd => rfl); (case hg => rfl); (case hr => first | (go_simp; done) | (go_simp; rfl)); intro gb147 hg w3 hbox hb; have n0_ := Aside0.mk (below_step (by repeat (first | (with_reducible first | exact HB.out | apply below_alloc | apply pw_below_drewN | apply below_drew1) | exact HB.out)) hb); have n1_ := Aside0.mk (hbox); have n2_ := Aside0.mk ((by rw [hg]; exact (below_size (by repeat (first | (with_reducible first | exact HB.out | apply below_alloc | apply pw_below_drewN | apply below_drew1) | exact HB.out))) : w.heap.size ≤ gb147)); have n3_ := Aside0.mk ((by rw [hg]; exact (below_size (by repeat (first | (with_reducible first | exact HB.out | apply below_alloc | apply pw_below_drewN | apply below_drew1) | exact HB.out))) : w.heap.size ≤ gb147)); clear HB; have HB := n0_; have BK147 := n1_; have GW147 := n2_; have GE147 := n3_; clear n0_ n1_ n2_ n3_; clear hb hbox hg; have hcz4_0 : w3.cell? ⟨gb147, 0, none⟩ = some (.int .u64 0) := (blk_cell BK147.out 0).trans rfl; have hcz4_1 : w3.cell? ⟨gb147, 1, none⟩ = some (.int .u64 0) := (blk_cell BK147.out 1).trans rfl; have hfz4_0 := blk_frozen BK147.out 0; have hfz4_1 := blk_frozen BK147.out 1))
  refine bodyPost_ret (results_cell_row rfl _ _ gb147 108 #[.int .u64 a0, .int .u64 a1] (0, 0) _ rfl (by (with_reducible repeat (first | refine blk_drewN ?_ _ | refine blk_drew ?_ | refine blk_alloc ?_ _)); refine blk_put (cs := #[.int .u64 a0, .int .u64 0]) ?_ 1 _ rfl; (with_reducible repeat (first | refine blk_drewN ?_ _ | refine blk_drew ?_ | refine blk_alloc ?_ _)); refine blk_put (cs := #[.int .u64 0, .int .u64 0]) ?_ 0 _ rfl; (with_reducible repeat (first | refine blk_drewN ?_ _ | refine blk_drew ?_ | refine blk_alloc ?_ _)); exact BK147.out) Tryd.underlying108 rfl (by kernel_rfl)) rfl ?_
  exact ⟨by first | rfl | (simp [errW_none, errW_some] <;> rfl) | (simp [*, errW_none, errW_some] <;> rfl), by repeat (first | (with_reducible first | exact HB.out | apply below_alloc | apply pw_below_drewN | apply below_drew1 | refine below_set ?_ GE147.out) | exact HB.out)⟩

-- NOT PRINTED: function 55 (compact_Range_GetRootHash)

-- NOT PRINTED: function 21 (impl_RootHash)

-- NOT PRINTED: function 99 (compact_Range_Begin)

-- NOT PRINTED: function 100 (compact_Range_End)

-- NOT PRINTED: function 101 (compact_Range_Hashes)

-- NOT PRINTED: function 65 (impl_fromRange)

/-! ### compact_getMergePath: function 115 -/
def compact_getMergePath.f (a0 : Int) (a1 : Int) (a2 : Int) : Option (Int × Int) := (bits_TrailingZeros64.f a1).bind fun t150 => (if a0 = 0 then ((bits_Len64.f (Go.bits .xor .u64 (IntKind.u64.wrap (a1 - 1)) a2)).bind fun t151 => (if t151 < 64 then (some (IntKind.u64.wrap (t150), IntKind.u64.wrap (wrap64 (t151 - 1)))) else (some (IntKind.u64.wrap (t150), 64 - 1)))) else ((bits_Len64.f (Go.bits .xor .u64 a1 (IntKind.u64.wrap (a0 - 1)))).bind fun t152 => ((bits_Len64.f (Go.bits .xor .u64 (IntKind.u64.wrap (a1 - 1)) a2)).bind fun t153 => (if t153 < t152 then (some (IntKind.u64.wrap (t150), IntKind.u64.wrap (wrap64 (t153 - 1)))) else (some (IntKind.u64.wrap (t150), IntKind.u64.wrap (wrap64 (t152 - 1))))))))
set_option maxHeartbeats 8000000 in
set_option maxRecDepth 100000 in
theorem compact_getMergePath.calls (a0 : Int) (a1 : Int) (a2 : Int) (r1 : Int) (r2 : Int) (w : World) (HG_ : Glob w) (h : compact_getMergePath.f a0 a1 a2 = some (r1, r2)) :
    Calls Tryd.prog 115 #[.int .u64 a0, .int .u64 a1, .int .u64 a2] w fun e w' => e = .returned (.tuple #[.int .u64 r1, .int .u64 r2]) ∧ Drawn0 w w' := by
  have HG := Aside0.mk HG_
  clear HG_
  have H : ((bits_TrailingZeros64.f a1).bind fun t150 => (if a0 = 0 then ((bits_Len64.f (Go.bits .xor .u64 (IntKind.u64.wrap (a1 - 1)) a2)).bind fun t151 => (if t151 < 64 then (some (IntKind.u64.wrap (t150), IntKind.u64.wrap (wrap64 (t151 - 1)))) else (some (IntKind.u64.wrap (t150), 64 - 1)))) else ((bits_Len64.f (Go.bits .xor .u64 a1 (IntKind.u64.wrap (a0 - 1)))).bind fun t152 => ((bits_Len64.f (Go.bits .xor .u64 (IntKind.u64.wrap (a1 - 1)) a2)).bind fun t153 => (if t153 < t152 then (some (IntKind.u64.wrap (t150), IntKind.u64.wrap (wrap64 (t153 - 1)))) else (some (IntKind.u64.wrap (t150), IntKind.u64.wrap (wrap64 (t152 - 1))))))))) = some (r1, r2) := h
  clear h
  replace H := Option.bind_eq_some_iff.mp H
  obtain ⟨t150, A40, H⟩ := H
  replace H : (if a0 = 0 then ((bits_Len64.f (Go.bits .xor .u64 (IntKind.u64.wrap (a1 - 1)) a2)).bind fun t151 => (if t151 < 64 then (some (IntKind.u64.wrap (t150), IntKind.u64.wrap (wrap64 (t151 - 1)))) else (some (IntKind.u64.wrap (t150), 64 - 1)))) else ((bits_Len64.f (Go.bits .xor .u64 a1 (IntKind.u64.wrap (a0 - 1)))).bind fun t152 => ((bits_Len64.f (Go.bits .xor .u64 (IntKind.u64.wrap (a1 - 1)) a2)).bind fun t153 => (if t153 < t152 then (some (IntKind.u64.wrap (t150), IntKind.u64.wrap (wrap64 (t153 - 1)))) else (some (IntKind.u64.wrap (t150), IntKind.u64.wrap (wrap64 (t152 - 1)))))))) = some (r1, r2) := H
  have A4 := Aside0.mk A40
  clear A40
  by_cases c5 : a0 = 0
  · rw [if_pos c5] at H
    have c5b0 : (a0 == 0) = true := beq_iff_eq.mpr c5
    have c5b1 : (a0 != 0) = false := bne_eq_false_iff_eq.mpr c5
    clear c5
    replace H := Option.bind_eq_some_iff.mp H
    obtain ⟨t151, A60, H⟩ := H
    replace H : (if t151 < 64 then (some (IntKind.u64.wrap (t150), IntKind.u64.wrap (wrap64 (t151 - 1)))) else (some (IntKind.u64.wrap (t150), 64 - 1))) = some (r1, r2) := H
    have A6 := Aside0.mk A60
    clear A60
    by_cases c7 : t151 < 64
    · rw [if_pos c7] at H
      have c7b0 : decide (t151 < 64) = true := decide_eq_true c7
      clear c7
      simp only [Option.some.injEq, Prod.mk.injEq] at H
      obtain ⟨rfl, rfl⟩ := H
      go_enter Tryd.func115, Tryd.ntmps115
      go_wp2_with (first | ((with_reducible refine gate_callee (f := 89) rfl ?_); refine goesL_ (some 12) rfl rfl Tryd.func89 (by kernel_rfl) rfl #[.int .u64 a1] rfl (by (try simp only [List.map_toArray, List.map_cons, List.map_nil]); first | done | rfl | (simp only [List.length_drop, List.length_take]; rfl)) ?_; (with_reducible refine (bits_TrailingZeros64.calls a1 t150 _ ?side1 A4.out).mono ?_); (case side1 => first | exact HG.out | exact Glob.drewN HG.out _ | exact Glob.below HG.out (by repeat (first | (with_reducible first | exact HB.out | apply below_alloc | apply pw_below_drewN | apply below_drew1) | exact HB.out))); rintro e w' ⟨rfl, ⟨nd, rfl⟩⟩; refine ⟨_, rfl, ?_⟩) | ((with_reducible refine gate_callee (f := 116) rfl ?_); refine goesL_ (some 24) rfl rfl Tryd.func116 (by kernel_rfl) rfl #[.int .u64 (Go.bits .xor .u64 (IntKind.u64.wrap (a1 - 1)) a2)] rfl (by (try simp only [List.map_toArray, List.map_cons, List.map_nil]); first | done | rfl | (simp only [List.length_drop, List.length_take]; rfl)) ?_; (with_reducible refine (bits_Len64.calls (Go.bits .xor .u64 (IntKind.u64.wrap (a1 - 1)) a2) t151 _ A6.out).mono ?_); rintro e w' ⟨rfl, ⟨nd, rfl⟩⟩; refine ⟨_, rfl, ?_⟩))
      go_ret2
      exact ⟨by first | rfl | (simp; done) | (simp [*]; done), by repeat (first | exact Drawn0.refl _ | apply Drawn0.step)⟩
    · rw [if_neg c7] at H
      have c7b0 : decide (t151 < 64) = false := decide_eq_false c7
      clear c7
      simp only [Option.some.injEq, Prod.mk.injEq] at H
      obtain ⟨rfl, rfl⟩ := H
      go_enter Tryd.func115, Tryd.ntmps115
      go_wp2_with (first | ((with_reducible refine gate_callee (f := 89) rfl ?_); refine goesL_ (some 12) rfl rfl Tryd.func89 (by kernel_rfl) rfl #[.int .u64 a1] rfl (by (try simp only [List.map_toArray, List.map_cons, List.map_nil]); first | done | rfl | (simp only [List.length_drop, List.length_take]; rfl)) ?_; (with_reducible refine (bits_TrailingZeros64.calls a1 t150 _ ?side1 A4.out).mono ?_); (case side1 => first | exact HG.out | exact Glob.drewN HG.out _ | exact Glob.below HG.out (by repeat (first | (with_reducible first | exact HB.out | apply below_alloc | apply pw_below_drewN | apply below_drew1) | exact HB.out))); rintro e w' ⟨rfl, ⟨nd, rfl⟩⟩; refine ⟨_, rfl, ?_⟩) | ((with_reducible refine gate_callee (f := 116) rfl ?_); refine goesL_ (some 24) rfl rfl Tryd.func116 (by kernel_rfl) rfl #[.int .u64 (Go.bits .xor .u64 (IntKind.u64.wrap (a1 - 1)) a2)] rfl (by (try simp only [List.map_toArray, List.map_cons, List.map_nil]); first | done | rfl | (simp only [List.length_drop, List.length_take]; rfl)) ?_; (with_reducible refine (bits_Len64.calls (Go.bits .xor .u64 (IntKind.u64.wrap (a1 - 1)) a2) t151 _ A6.out).mono ?_); rintro e w' ⟨rfl, ⟨nd, rfl⟩⟩; refine ⟨_, rfl, ?_⟩))
      go_ret2
      exact ⟨by first | rfl | (simp; done) | (simp [*]; done), by repeat (first | exact Drawn0.refl _ | apply Drawn0.step)⟩
  · rw [if_neg c5] at H
    have c5b0 : (a0 == 0) = false := beq_eq_false_iff_ne.mpr c5
    have c5b1 : (a0 != 0) = true := bne_iff_ne.mpr c5
    replace H := Option.bind_eq_some_iff.mp H
    obtain ⟨t152, A80, H⟩ := H
    replace H : ((bits_Len64.f (Go.bits .xor .u64 (IntKind.u64.wrap (a1 - 1)) a2)).bind fun t153 => (if t153 < t152 then (some (IntKind.u64.wrap (t150), IntKind.u64.wrap (wrap64 (t153 - 1)))) else (some (IntKind.u64.wrap (t150), IntKind.u64.wrap (wrap64 (t152 - 1)))))) = some (r1, r2) := H
    have A8 := Aside0.mk A80
    clear A80
    replace H := Option.bind_eq_some_iff.mp H
    obtain ⟨t153, A90, H⟩ := H
    replace H : (if t153 < t152 then (some (IntKind.u64.wrap (t150), IntKind.u64.wrap (wrap64 (t153 - 1)))) else (some (IntKind.u64.wrap (t150), IntKind.u64.wrap (wrap64 (t152 - 1))))) = some (r1, r2) := H
    have A9 := Aside0.mk A90
    clear A90
    by_cases c10 : t153 < t152
    · rw [if_pos c10] at H
      have c10b0 : decide (t153 < t152) = true := decide_eq_true c10
      clear c10
      simp only [Option.some.injEq, Prod.mk.injEq] at H
      obtain ⟨rfl, rfl⟩ := H
      go_enter Tryd.func115, Tryd.ntmps115
      go_wp2_with (first | ((with_reducible refine gate_callee (f := 89) rfl ?_); refine goesL_ (some 12) rfl rfl Tryd.func89 (by kernel_rfl) rfl #[.int .u64 a1] rfl (by (try simp only [List.map_toArray, List.map_cons, List.map_nil]); first | done | rfl | (simp only [List.length_drop, List.length_take]; rfl)) ?_; (with_reducible refine (bits_TrailingZeros64.calls a1 t150 _ ?side1 A4.out).mono ?_); (case side1 => first | exact HG.out | exact Glob.drewN HG.out _ | exact Glob.below HG.out (by repeat (first | (with_reducible first | exact HB.out | apply below_alloc | apply pw_below_drewN | apply below_drew1) | exact HB.out))); rintro e w' ⟨rfl, ⟨nd, rfl⟩⟩; refine ⟨_, rfl, ?_⟩) | ((with_reducible refine gate_callee (f := 116) rfl ?_); refine goesL_ (some 19) rfl rfl Tryd.func116 (by kernel_rfl) rfl #[.int .u64 (Go.bits .xor .u64 a1 (IntKind.u64.wrap (a0 - 1)))] rfl (by (try simp only [List.map_toArray, List.map_cons, List.map_nil]); first | done | rfl | (simp only [List.length_drop, List.length_take]; rfl)) ?_; (with_reducible refine (bits_Len64.calls (Go.bits .xor .u64 a1 (IntKind.u64.wrap (a0 - 1))) t152 _ A8.out).mono ?_); rintro e w' ⟨rfl, ⟨nd, rfl⟩⟩; refine ⟨_, rfl, ?_⟩) | ((with_reducible refine gate_callee (f := 116) rfl ?_); refine goesL_ (some 24) rfl rfl Tryd.func116 (by kernel_rfl) rfl #[.int .u64 (Go.bits .xor .u64 (IntKind.u64.wrap (a1 - 1)) a2)] rfl (by (try simp only [List.map_toArray, List.map_cons, List.map_nil]); first | done | rfl | (simp only [List.length_drop, List.length_take]; rfl)) ?_; (with_reducible refine (bits_Len64.calls (Go.bits .xor .u64 (IntKind.u64.wrap (a1 - 1)) a2) t153 _ A9.out).mono ?_); rintro e w' ⟨rfl, ⟨nd, rfl⟩⟩; refine ⟨_, rfl, ?_⟩))
      go_ret2
      exact ⟨by first | rfl | (simp; done) | (simp [*]; done), by repeat (first | exact Drawn0.refl _ | apply Drawn0.step)⟩
    · rw [if_neg c10] at H
      have c10b0 : decide (t153 < t152) = false := decide_eq_false c10
      clear c10
      simp only [Option.some.injEq, Prod.mk.injEq] at H
      obtain ⟨rfl, rfl⟩ := H
      go_enter Tryd.func115, Tryd.ntmps115
      go_wp2_with (first | ((with_reducible refine gate_callee (f := 89) rfl ?_); refine goesL_ (some 12) rfl rfl Tryd.func89 (by kernel_rfl) rfl #[.int .u64 a1] rfl (by (try simp only [List.map_toArray, List.map_cons, List.map_nil]); first | done | rfl | (simp only [List.length_drop, List.length_take]; rfl)) ?_; (with_reducible refine (bits_TrailingZeros64.calls a1 t150 _ ?side1 A4.out).mono ?_); (case side1 => first | exact HG.out | exact Glob.drewN HG.out _ | exact Glob.below HG.out (by repeat (first | (with_reducible first | exact HB.out | apply below_alloc | apply pw_below_drewN | apply below_drew1) | exact HB.out))); rintro e w' ⟨rfl, ⟨nd, rfl⟩⟩; refine ⟨_, rfl, ?_⟩) | ((with_reducible refine gate_callee (f := 116) rfl ?_); refine goesL_ (some 19) rfl rfl Tryd.func116 (by kernel_rfl) rfl #[.int .u64 (Go.bits .xor .u64 a1 (IntKind.u64.wrap (a0 - 1)))] rfl (by (try simp only [List.map_toArray, List.map_cons, List.map_nil]); first | done | rfl | (simp only [List.length_drop, List.length_take]; rfl)) ?_; (with_reducible refine (bits_Len64.calls (Go.bits .xor .u64 a1 (IntKind.u64.wrap (a0 - 1))) t152 _ A8.out).mono ?_); rintro e w' ⟨rfl, ⟨nd, rfl⟩⟩; refine ⟨_, rfl, ?_⟩) | ((with_reducible refine gate_callee (f := 116) rfl ?_); refine goesL_ (some 24) rfl rfl Tryd.func116 (by kernel_rfl) rfl #[.int .u64 (Go.bits .xor .u64 (IntKind.u64.wrap (a1 - 1)) a2)] rfl (by (try simp only [List.map_toArray, List.map_cons, List.map_nil]); first | done | rfl | (simp only [List.length_drop, List.length_take]; rfl)) ?_; (with_reducible refine (bits_Len64.calls (Go.bits .xor .u64 (IntKind.u64.wrap (a1 - 1)) a2) t153 _ A9.out).mono ?_); rintro e w' ⟨rfl, ⟨nd, rfl⟩⟩; refine ⟨_, rfl, ?_⟩))
      go_ret2
      exact ⟨by first | rfl | (simp; done) | (simp [*]; done), by repeat (first | exact Drawn0.refl _ | apply Drawn0.step)⟩

-- NOT PRINTED: function 98 (compact_Range_appendImpl)

-- NOT PRINTED: function 70 (compact_Range_AppendRange)

-- NOT PRINTED: function 33 (impl_AppendRange)

-- NOT PRINTED: function 40 (laws_growthRoot)

/-! ### laws_growthLeaf: function 41 -/
def laws_growthLeaf.f (a0 : Int) (l1 : List Int) : Option (Int × Int × (List (List Int))) := some (a0, IntKind.u64.wrap (a0 + 1), (([l1] : List (List Int))))
set_option maxHeartbeats 8000000 in
set_option maxRecDepth 100000 in
theorem laws_growthLeaf.calls (a0 : Int) (P1_ : Nat → Prop) (A1 : Option Addr) (c1 : Nat) (l1 : List Int) (r1 : Int) (r2 : Int) (r3 : List (List Int)) (w : World) (hs1 : Kd.V (Kd.int .u8) 5 w w.heap.size (fun k_ => P1_ k_) (.slice A1 l1.length c1) l1) (h : laws_growthLeaf.f a0 l1 = some (r1, r2, r3)) :
    Calls Tryd.prog 41 #[.int .u64 a0, .slice A1 l1.length c1] w fun e w' => ∃ v2_ : Value, e = .returned (.agg #[.int .u64 r1, .int .u64 r2, v2_]) ∧ Kd.N (Kd.slice 5 (Kd.int .u8)) 28 w' w.heap.size (fun k_ => (P1_ k_ ∨ w.heap.size ≤ k_)) v2_ r3 ∧ Below w.heap.size w w' := by
  have hu35 := Tryd.underlying35
  have HO1 := Aside0.mk (show Kd.V (Kd.int .u8) 5 w w.heap.size (fun k_ => (P1_ k_ ∨ w.heap.size ≤ k_)) (.slice A1 l1.length c1) l1 from Kd.V_mono hs1 (fun k_ hk => .inl hk))
  have HB := Aside0.mk (Below.refl w.heap.size w)
  have H : (some (a0, IntKind.u64.wrap (a0 + 1), (([l1] : List (List Int))))) = some (r1, r2, r3) := h
  clear h
  obtain ⟨y169, hy169⟩ : ∃ y_ : List (List Int), y_ = (([l1] : List (List Int))) := ⟨_, rfl⟩
  replace H : (some (a0, IntKind.u64.wrap (a0 + 1), y169)) = some (r1, r2, r3) := by first | (rw [hy169]; with_reducible exact H) | (have H2_ := (Option.bind_some _ _).symm.trans H; rw [hy169]; with_reducible exact H2_) | (have H2_ := (Option.bind_some _ _).symm.trans H; with_reducible exact H2_) | with_reducible exact H | (rw [hy169]; exact H) | exact H
  have Ny169 := Aside0.mk hy169
  clear hy169
  simp only [Option.some.injEq, Prod.mk.injEq] at H
  obtain ⟨rfl, rfl, rfl⟩ := H
  go_enter Tryd.func41, Tryd.ntmps41
  go_wp2_with (first | ((with_reducible refine gate_dst (N := 4) rfl ?_); refine box_event ?hg (N := 4) ?hd (cs := #[.int .u64 0, .int .u64 0, .slice none 0 0]) (t := 35) ?hr ?_; (case hd => rfl); (case hg => rfl); (case hr => first | (go_simp; done) | (go_simp; rfl)); intro gb168 hg w3 hbox hb; have n0_ := Aside0.mk (Kd.V_below (Kd.V_elderB (by (with_reducible repeat (first | apply Kd.V_alloc | apply Kd.V_drewN | apply Kd.V_drew)); exact HO1.out) gb168 (Nat.le_of_eq hg.symm)) hb); have n1_ := Aside0.mk (below_step (by repeat (first | (with_reducible first | exact HB.out | apply below_alloc | apply pw_below_drewN | apply below_drew1) | exact HB.out)) hb); have n2_ := Aside0.mk (hbox); have n3_ := Aside0.mk ((by rw [hg]; exact (below_size (by repeat (first | (with_reducible first | exact HB.out | apply below_alloc | apply pw_below_drewN | apply below_drew1) | exact HB.out))) : w.heap.size ≤ gb168)); have n4_ := Aside0.mk ((by rw [hg]; exact (below_size (by repeat (first | (with_reducible first | exact HB.out | apply below_alloc | apply pw_below_drewN | apply below_drew1) | exact HB.out))) : w.heap.size ≤ gb168)); clear HO1; clear HB; have HO1 := n0_; have HB := n1_; have BK168 := n2_; have GW168 := n3_; have GE168 := n4_; clear n0_ n1_ n2_ n3_ n4_; clear hb hbox hg) | ((with_reducible refine gate_dst (N := 9) rfl ?_); refine Kd.N_lit (Kd.slice 5 (Kd.int .u8)) _ 28 ?hg (N' := 9) ?hd (xs := ([l1] : List (List Int))) (inner := [.slice A1 l1.length c1]) (ok := (fun k_ => (P1_ k_ ∨ w.heap.size ≤ k_) ∧ k_ ≠ gb168)) (okp := (fun k_ => (P1_ k_ ∨ w.heap.size ≤ k_) ∧ k_ ≠ gb168)) ?hr ?hp (fun _ hk => hk) ((show ∀ k_, w3.heap.size ≤ k_ → (fun k_ => (P1_ k_ ∨ w.heap.size ≤ k_) ∧ k_ ≠ gb168) k_ from fun k_ hk => ⟨(.inr (Nat.le_trans (below_size (by repeat (first | (with_reducible first | exact HB.out | apply below_alloc | apply pw_below_drewN | apply below_drew1 | refine below_set ?_ GE168.out) | exact HB.out))) hk)), Kd.freshB (g := gb168) (o := .cells #[.int .u64 0, .int .u64 0, .slice none 0 0] 35 (0, 0)) (by (with_reducible repeat (first | refine blk_drewN ?_ _ | refine blk_drew ?_ | refine blk_alloc ?_ _)); exact BK168.out) k_ hk⟩) _ (Nat.le_refl _)) (Below.refl _ _) (Nat.le_refl _) (by simp) ?_; (case hd => rfl); (case hg => rfl); (case hr => first | (go_simp; done) | (go_simp; rfl)); (case hp => exact (Reps.one (show Kd.FK (Kd.slice 5 (Kd.int .u8)) _ _ l1 [.slice A1 l1.length c1] from (Kd.FK_slice_mk (Kd.V_reads' (Kd.V_mono (ok' := (fun k_ => (P1_ k_ ∨ w.heap.size ≤ k_) ∧ k_ ≠ gb168)) (HO1.out) (fun k_ hk => ⟨hk.1, hk.2⟩))).2.1 (Kd.V_F (Kd.V_mono (ok' := (fun k_ => (P1_ k_ ∨ w.heap.size ≤ k_) ∧ k_ ≠ gb168)) (HO1.out) (fun k_ hk => ⟨hk.1, hk.2⟩))))) (Reps.none _ _))); intro v170 w4 ho5 hb hg_ hnew_; clear hg_ hnew_; (first | rw [← Ny169.out] at ho5 | (simp only [Int.reduceToNat] at ho5; rw [← Ny169.out] at ho5)); have n0_ := Aside0.mk (Kd.V_elder' (by (with_reducible repeat (first | apply Kd.V_alloc | apply Kd.V_drewN | apply Kd.V_drew)); exact HO1.out) (Kd.N_base ho5) hb); have n1_ := Aside0.mk (Kd.N_lower ho5 (below_size (by repeat (first | (with_reducible first | exact HB.out | apply below_alloc | apply pw_below_drewN | apply below_drew1 | refine below_set ?_ GE168.out) | exact HB.out)))); have n2_ := Aside0.mk (blk_below (g := gb168) (o := .cells #[.int .u64 0, .int .u64 0, .slice none 0 0] 35 (0, 0)) (by (with_reducible repeat (first | refine blk_drewN ?_ _ | refine blk_drew ?_ | refine blk_alloc ?_ _)); exact BK168.out) hb); have n3_ := Aside0.mk (below_step (by repeat (first | (with_reducible first | exact HB.out | apply below_alloc | apply pw_below_drewN | apply below_drew1 | refine below_set ?_ GE168.out) | exact HB.out)) hb); clear HO1; clear BK168; clear HB; have HO1 := n0_; have HO171 := n1_; have BK168 := n2_; have HB := n3_; clear n0_ n1_ n2_ n3_; clear hb ho5; obtain ⟨Ao6, co6, eo6⟩ := Kd.N_slice HO171.out; subst eo6; have hcz7_0 : w4.cell? ⟨gb168, 0, none⟩ = some (.int .u64 0) := (blk_cell BK168.out 0).trans rfl; have hcz7_1 : w4.cell? ⟨gb168, 1, none⟩ = some (.int .u64 0) := (blk_cell BK168.out 1).trans rfl; have hcz7_2 : w4.cell? ⟨gb168, 2, none⟩ = some (.slice none 0 0) := (blk_cell BK168.out 2).trans rfl; have hfz7_0 := blk_frozen BK168.out 0; have hfz7_1 := blk_frozen BK168.out 1; have hfz7_2 := blk_frozen BK168.out 2))
  refine bodyPost_ret (results_cell_row rfl _ _ gb168 35 #[.int .u64 a0, .int .u64 (IntKind.u64.wrap (a0 + 1)), .slice Ao6 y169.length co6] (0, 0) _ rfl (by (with_reducible repeat (first | refine blk_drewN ?_ _ | refine blk_drew ?_ | refine blk_alloc ?_ _)); refine blk_put (cs := #[.int .u64 a0, .int .u64 (IntKind.u64.wrap (a0 + 1)), .slice none 0 0]) ?_ 2 _ rfl; (with_reducible repeat (first | refine blk_drewN ?_ _ | refine blk_drew ?_ | refine blk_alloc ?_ _)); refine blk_put (cs := #[.int .u64 a0, .int .u64 0, .slice none 0 0]) ?_ 1 _ rfl; (with_reducible repeat (first | refine blk_drewN ?_ _ | refine blk_drew ?_ | refine blk_alloc ?_ _)); refine blk_put (cs := #[.int .u64 0, .int .u64 0, .slice none 0 0]) ?_ 0 _ rfl; (with_reducible repeat (first | refine blk_drewN ?_ _ | refine blk_drew ?_ | refine blk_alloc ?_ _)); exact BK168.out) Tryd.underlying35 rfl (by kernel_rfl)) rfl ?_
  exact ⟨_, by first | rfl | (simp [errW_none, errW_some] <;> rfl) | (simp [*, errW_none, errW_some] <;> rfl), by (with_reducible repeat (first | apply Kd.N_alloc | apply Kd.N_drewN | apply Kd.N_drew)); exact Kd.N_mono (Kd.N_far (p := ⟨gb168, 2, none⟩) (Kd.N_far (p := ⟨gb168, 1, none⟩) (Kd.N_far (p := ⟨gb168, 0, none⟩) (Kd.N_mono HO171.out (fun k_ hk => (⟨hk, hk.2⟩ : _ ∧ k_ ≠ gb168))) (fun _ hk => hk.2) (.int .u64 a0)) (fun _ hk => hk.2) (.int .u64 (IntKind.u64.wrap (a0 + 1)))) (fun _ hk => hk.2) (.slice Ao6 y169.length co6)) (fun _ hk => hk.1.1), by repeat (first | (with_reducible first | exact HB.out | apply below_alloc | apply pw_below_drewN | apply below_drew1 | refine below_set ?_ GE168.out) | exact HB.out)⟩

-- NOT PRINTED: function 11 (laws_FnLastLeaf)

/-! ### impl_word: function 85, by hand -/
def impl_word.f (a0 : Int) (a1 : Int) : Option (List Int) := some (Hs.wordF a0 a1)
theorem impl_word.calls (a0 : Int) (a1 : Int) (r : List Int) (w : World) (h : impl_word.f a0 a1 = some r) :
    Calls Tryd.prog 85 #[.int .u64 a0, .int .i64 a1] w fun e w' => ∃ v0_ : Value, e = .returned (v0_) ∧ Kd.R (Kd.int .u8) 5 w' w.heap.size (fun _ => True) v0_ r ∧ Below w.heap.size w w' := by
  obtain rfl := Option.some.inj h
  exact Hs.word_calls a0 a1 w

/-! ### impl_mixed: function 86, by hand -/
def impl_mixed.f (a0 : Int) (l1 : List Int) : Option (Int) := if l1.length ≤ 140737488351232 then some (Hs.mixF a0 l1) else none
theorem impl_mixed.calls (a0 : Int) (A1 : Option Addr) (c1 : Nat) (l1 : List Int) (r : Int) (w : World) (hr1 : Kd.C (Kd.int .u8) w A1 l1.length l1) (hc1 : l1.length ≤ c1) (h : impl_mixed.f a0 l1 = some r) :
    Calls Tryd.prog 86 #[.int .u64 a0, .slice A1 l1.length c1] w fun e w' => e = .returned (.int .u64 r) ∧ Drawn0 w w' := by
  unfold impl_mixed.f at h
  split at h
  · obtain rfl := Option.some.inj h
    refine (Hs.mixed_calls a0 A1 c1 l1 w hr1 (by assumption)).mono ?_
    rintro e w' ⟨rfl, rfl⟩
    exact ⟨rfl, Drawn0.refl _⟩
  · cases h

end Go.Proofs.YtfhcpniibiobgaaDoor.Qf
