-- Written by wip/tools/myprint.py for this seat (the kit's print with changes); Lean checks it.
import Derived.Test.YtmcelgfekffinaaDoorQx0
import Derived.Test.YtmcelgfekffinaaDoorQx2
namespace Go.Proofs.YtmcelgfekffinaaDoor.Q
open Go.RowKit Go.Proofs.YtmcelgfekffinaaDoorW.PrintWords Go.Proofs.YtmcelgfekffinaaDoorW.PrintLast Go.Proofs.YtmcelgfekffinaaDoorW.PrintMore
attribute [local go_sem] max2_int min2_int max_two min_two max_three min_three max_four min_four   -- for this text's walks alone
set_option linter.unusedVariables false
set_option linter.unusedSimpArgs false

/-! ### laws_FnRangeNodesSplit: function 3 -/
mutual
def laws_FnRangeNodesSplit.j0 : Nat → Int → Int → Int → Bool → Option (Bool)
  | 0, _, _, _, _ => none
  | k + 1, x0, x1, x2, x22 => if x22 = true then (some true) else ((impl_RangeNodes.f k x0 x2 ([] : List (S27))).bind fun t153 => ((impl_RangeNodes.f k x0 x1 ([] : List (S27))).bind fun t156 => ((impl_RangeNodes.f k x1 x2 t156).bind fun t159 => (laws_FnRangeNodesSplit.l0 k x0 x1 x2 t153 t159 ([] : List (S27)) t153 (t153.length : Int) 0))))
def laws_FnRangeNodesSplit.l0 : Nat → Int → Int → Int → List (S27) → List (S27) → List (S27) → List (S27) → Int → Int → Option (Bool)
  | 0, _, _, _, _, _, _, _, _, _ => none
  | k + 1, x0, x1, x2, x7, x8, x9, x32, x33, x34 => if x34 < x33 then (if 0 ≤ x34 then (if x34 < (x32.length : Int) then ((spec_Leaves.f ((rd_T27 x32 x34).f0) ((rd_T27 x32 x34).f1)).bind fun bt164 => (if bt164.1 < x1 then (laws_FnRangeNodesSplit.j2 k x0 x1 x2 x7 x8 x9 x32 x33 x34 (decide (x1 < bt164.2)) ((rd_T27 x32 x34).f0) ((rd_T27 x32 x34).f1)) else (laws_FnRangeNodesSplit.j2 k x0 x1 x2 x7 x8 x9 x32 x33 x34 false ((rd_T27 x32 x34).f0) ((rd_T27 x32 x34).f1)))) else (none)) else (none)) else (laws_FnRangeNodesSplit.l1 k x0 x2 x7 x8 x9 x8 (x8.length : Int) 0)
def laws_FnRangeNodesSplit.j2 : Nat → Int → Int → Int → List (S27) → List (S27) → List (S27) → List (S27) → Int → Int → Bool → Int → Int → Option (Bool)
  | 0, _, _, _, _, _, _, _, _, _, _, _, _ => none
  | k + 1, x0, x1, x2, x7, x8, x9, x32, x33, x34, x49, x164000, x164001 => if x49 = true then (if x9.length < 8796093022208 then (laws_FnRangeNodesSplit.l0 k x0 x1 x2 x7 x8 (x9 ++ [(⟨x164000, x164001⟩ : S27)]) x32 x33 (wrap64 (x34 + 1))) else (none)) else ((spec_HasNode.f k x8 x164000 x164001).bind fun t170 => (if t170 = true then (laws_FnRangeNodesSplit.l0 k x0 x1 x2 x7 x8 x9 x32 x33 (wrap64 (x34 + 1))) else (some false)))
def laws_FnRangeNodesSplit.l1 : Nat → Int → Int → List (S27) → List (S27) → List (S27) → List (S27) → Int → Int → Option (Bool)
  | 0, _, _, _, _, _, _, _, _ => none
  | k + 1, x0, x2, x7, x8, x9, x59, x60, x61 => if x61 < x60 then (if 0 ≤ x61 then (if x61 < (x59.length : Int) then ((spec_HasNode.f k x7 ((rd_T27 x59 x61).f0) ((rd_T27 x59 x61).f1)).bind fun t173 => (if t173 = true then (laws_FnRangeNodesSplit.l1 k x0 x2 x7 x8 x9 x59 x60 (wrap64 (x61 + 1))) else (if (x9.length : Int) = 1 then (if 0 < (x9.length : Int) then (if ((rd_T27 x59 x61).f0) ≥ ((rd_T27 x9 0).f0) then (some false) else (if 0 ≤ (IntKind.u64.wrap (((rd_T27 x9 0).f0) - ((rd_T27 x59 x61).f0))) then (if (shr .u64 ((rd_T27 x59 x61).f1) (IntKind.u64.wrap (((rd_T27 x9 0).f0) - ((rd_T27 x59 x61).f0)))) = ((rd_T27 x9 0).f1) then (laws_FnRangeNodesSplit.l1 k x0 x2 x7 x8 x9 x59 x60 (wrap64 (x61 + 1))) else (some false)) else (none))) else (none)) else (some false)))) else (none)) else (none)) else (if (x9.length : Int) ≤ 1 then (if (x7.length : Int) ≤ (x8.length : Int) then ((impl_RangeSize.f x0 x2).bind fun t177 => (if (x7.length : Int) = t177 then (some ((decide ((x7.length : Int) > 0)) == (decide (x0 < x2)))) else (some false))) else (some false)) else (some false))
end
def laws_FnRangeNodesSplit.f (k : Nat) (a0 : Int) (a1 : Int) (a2 : Int) : Option (Bool) := if a0 > a1 then (laws_FnRangeNodesSplit.j0 k a0 a1 a2 true) else (laws_FnRangeNodesSplit.j0 k a0 a1 a2 (decide (a1 > a2)))
theorem laws_FnRangeNodesSplit.mono_l : ∀ k, (∀ y0 y1 y2 y3, LeO (laws_FnRangeNodesSplit.j0 k y0 y1 y2 y3) (laws_FnRangeNodesSplit.j0 (k + 1) y0 y1 y2 y3)) ∧ (∀ y0 y1 y2 y3 y4 y5 y6 y7 y8, LeO (laws_FnRangeNodesSplit.l0 k y0 y1 y2 y3 y4 y5 y6 y7 y8) (laws_FnRangeNodesSplit.l0 (k + 1) y0 y1 y2 y3 y4 y5 y6 y7 y8)) ∧ (∀ y0 y1 y2 y3 y4 y5 y6 y7 y8 y9 y10 y11, LeO (laws_FnRangeNodesSplit.j2 k y0 y1 y2 y3 y4 y5 y6 y7 y8 y9 y10 y11) (laws_FnRangeNodesSplit.j2 (k + 1) y0 y1 y2 y3 y4 y5 y6 y7 y8 y9 y10 y11)) ∧ (∀ y0 y1 y2 y3 y4 y5 y6 y7, LeO (laws_FnRangeNodesSplit.l1 k y0 y1 y2 y3 y4 y5 y6 y7) (laws_FnRangeNodesSplit.l1 (k + 1) y0 y1 y2 y3 y4 y5 y6 y7))
  | 0 => ⟨fun _ _ _ _ r h => by simp [laws_FnRangeNodesSplit.j0] at h, fun _ _ _ _ _ _ _ _ _ r h => by simp [laws_FnRangeNodesSplit.l0] at h, fun _ _ _ _ _ _ _ _ _ _ _ _ r h => by simp [laws_FnRangeNodesSplit.j2] at h, fun _ _ _ _ _ _ _ _ r h => by simp [laws_FnRangeNodesSplit.l1] at h⟩
  | k + 1 => by
    obtain ⟨ih0, ih1, ih2, ih3⟩ := laws_FnRangeNodesSplit.mono_l k
    refine ⟨?_, ?_, ?_, ?_⟩
    · intro y0 y1 y2 y3
      unfold laws_FnRangeNodesSplit.j0
      repeat' first
      | (with_reducible exact ih0 _ _ _ _)
      | (with_reducible exact ih1 _ _ _ _ _ _ _ _ _)
      | (with_reducible exact ih2 _ _ _ _ _ _ _ _ _ _ _ _)
      | (with_reducible exact ih3 _ _ _ _ _ _ _ _)
      | (with_reducible exact impl_RangeNodes.mono _ _ _ _)
      | (with_reducible exact spec_HasNode.mono _ _ _ _)
      | (with_reducible exact LeO.refl _)
      | (with_reducible exact LeO.none _)
      | (with_reducible refine LeO.ite ?_ ?_)
      | (with_reducible refine LeO.bind ?_ (fun _ => ?_))
      | exact ih0 _ _ _ _
      | exact ih1 _ _ _ _ _ _ _ _ _
      | exact ih2 _ _ _ _ _ _ _ _ _ _ _ _
      | exact ih3 _ _ _ _ _ _ _ _
      | exact impl_RangeNodes.mono _ _ _ _
      | exact spec_HasNode.mono _ _ _ _
      | exact LeO.none _
      | refine LeO.ite ?_ ?_
      | refine LeO.bind ?_ (fun _ => ?_)
    · intro y0 y1 y2 y3 y4 y5 y6 y7 y8
      unfold laws_FnRangeNodesSplit.l0
      repeat' first
      | (with_reducible exact ih0 _ _ _ _)
      | (with_reducible exact ih1 _ _ _ _ _ _ _ _ _)
      | (with_reducible exact ih2 _ _ _ _ _ _ _ _ _ _ _ _)
      | (with_reducible exact ih3 _ _ _ _ _ _ _ _)
      | (with_reducible exact impl_RangeNodes.mono _ _ _ _)
      | (with_reducible exact spec_HasNode.mono _ _ _ _)
      | (with_reducible exact LeO.refl _)
      | (with_reducible exact LeO.none _)
      | (with_reducible refine LeO.ite ?_ ?_)
      | (with_reducible refine LeO.bind ?_ (fun _ => ?_))
      | exact ih0 _ _ _ _
      | exact ih1 _ _ _ _ _ _ _ _ _
      | exact ih2 _ _ _ _ _ _ _ _ _ _ _ _
      | exact ih3 _ _ _ _ _ _ _ _
      | exact impl_RangeNodes.mono _ _ _ _
      | exact spec_HasNode.mono _ _ _ _
      | exact LeO.none _
      | refine LeO.ite ?_ ?_
      | refine LeO.bind ?_ (fun _ => ?_)
    · intro y0 y1 y2 y3 y4 y5 y6 y7 y8 y9 y10 y11
      unfold laws_FnRangeNodesSplit.j2
      repeat' first
      | (with_reducible exact ih0 _ _ _ _)
      | (with_reducible exact ih1 _ _ _ _ _ _ _ _ _)
      | (with_reducible exact ih2 _ _ _ _ _ _ _ _ _ _ _ _)
      | (with_reducible exact ih3 _ _ _ _ _ _ _ _)
      | (with_reducible exact impl_RangeNodes.mono _ _ _ _)
      | (with_reducible exact spec_HasNode.mono _ _ _ _)
      | (with_reducible exact LeO.refl _)
      | (with_reducible exact LeO.none _)
      | (with_reducible refine LeO.ite ?_ ?_)
      | (with_reducible refine LeO.bind ?_ (fun _ => ?_))
      | exact ih0 _ _ _ _
      | exact ih1 _ _ _ _ _ _ _ _ _
      | exact ih2 _ _ _ _ _ _ _ _ _ _ _ _
      | exact ih3 _ _ _ _ _ _ _ _
      | exact impl_RangeNodes.mono _ _ _ _
      | exact spec_HasNode.mono _ _ _ _
      | exact LeO.none _
      | refine LeO.ite ?_ ?_
      | refine LeO.bind ?_ (fun _ => ?_)
    · intro y0 y1 y2 y3 y4 y5 y6 y7
      unfold laws_FnRangeNodesSplit.l1
      repeat' first
      | (with_reducible exact ih0 _ _ _ _)
      | (with_reducible exact ih1 _ _ _ _ _ _ _ _ _)
      | (with_reducible exact ih2 _ _ _ _ _ _ _ _ _ _ _ _)
      | (with_reducible exact ih3 _ _ _ _ _ _ _ _)
      | (with_reducible exact impl_RangeNodes.mono _ _ _ _)
      | (with_reducible exact spec_HasNode.mono _ _ _ _)
      | (with_reducible exact LeO.refl _)
      | (with_reducible exact LeO.none _)
      | (with_reducible refine LeO.ite ?_ ?_)
      | (with_reducible refine LeO.bind ?_ (fun _ => ?_))
      | exact ih0 _ _ _ _
      | exact ih1 _ _ _ _ _ _ _ _ _
      | exact ih2 _ _ _ _ _ _ _ _ _ _ _ _
      | exact ih3 _ _ _ _ _ _ _ _
      | exact impl_RangeNodes.mono _ _ _ _
      | exact spec_HasNode.mono _ _ _ _
      | exact LeO.none _
      | refine LeO.ite ?_ ?_
      | refine LeO.bind ?_ (fun _ => ?_)
theorem laws_FnRangeNodesSplit.mono : ∀ a0 a1 a2 k, LeO (laws_FnRangeNodesSplit.f k a0 a1 a2) (laws_FnRangeNodesSplit.f (k + 1) a0 a1 a2) := by
  intro a0 a1 a2 k
  obtain ⟨ih0, ih1, ih2, ih3⟩ := laws_FnRangeNodesSplit.mono_l k
  unfold laws_FnRangeNodesSplit.f
  repeat' first
      | (with_reducible exact ih0 _ _ _ _)
      | (with_reducible exact ih1 _ _ _ _ _ _ _ _ _)
      | (with_reducible exact ih2 _ _ _ _ _ _ _ _ _ _ _ _)
      | (with_reducible exact ih3 _ _ _ _ _ _ _ _)
      | (with_reducible exact impl_RangeNodes.mono _ _ _ _)
      | (with_reducible exact spec_HasNode.mono _ _ _ _)
      | (with_reducible exact LeO.refl _)
      | (with_reducible exact LeO.none _)
      | (with_reducible refine LeO.ite ?_ ?_)
      | (with_reducible refine LeO.bind ?_ (fun _ => ?_))
      | exact ih0 _ _ _ _
      | exact ih1 _ _ _ _ _ _ _ _ _
      | exact ih2 _ _ _ _ _ _ _ _ _ _ _ _
      | exact ih3 _ _ _ _ _ _ _ _
      | exact impl_RangeNodes.mono _ _ _ _
      | exact spec_HasNode.mono _ _ _ _
      | exact LeO.none _
      | refine LeO.ite ?_ ?_
      | refine LeO.bind ?_ (fun _ => ?_)
def laws_FnRangeNodesSplit.T17 : Bool × List (List Nat × List Nat) := (true, [([], []), ([], []), ([0, 1], [0, 1]), ([2], [2]), ([3, 2], [3]), ([4], [4]), ([5, 4], [4, 5]), ([6, 4], [4, 6]), ([7, 4, 4], [4, 7]), ([8], [8]), ([9, 8], [8, 9]), ([8], [8]), ([11, 8], [8, 11]), ([12, 8], [8, 12]), ([13, 8], [8, 13]), ([10, 14, 8], [8, 10, 14]), ([8, 15, 4], [4, 8, 15]), ([16, 8, 4], [4, 16]), ([17], [17]), ([18, 17], [17, 18]), ([17], [17]), ([20, 17], [17, 20]), ([21, 17], [17, 21]), ([22, 17], [17, 22]), ([17], [17]), ([24, 17], [17, 24]), ([23, 25, 17], [17, 23, 25]), ([19, 26, 17], [17, 19, 26]), ([17], [17]), ([28, 17], [17, 28]), ([29, 17], [17, 29]), ([30, 17], [17, 30]), ([27, 31, 17], [17, 27, 31]), ([17, 32, 4], [4, 17, 32]), ([4, 33], [4, 33])])
def laws_FnRangeNodesSplit.B17 : List Nat := [0, 0, 3, 7, 15, 31, 63, 127, 255, 511, 1023, 511, 2559, 6655, 14847, 32767, 65535, 131071, 262143, 524287, 262143, 1310719, 3407871, 7602175, 262143, 17039359, 66322431, 134217727, 262143, 268697599, 805568511, 1879310335, 4294967295, 8589934591, 17179869183]
theorem laws_FnRangeNodesSplit.tab17 : rtab .any (opsOf Tryd.f3 17) = laws_FnRangeNodesSplit.T17 := by kernel_rfl
theorem laws_FnRangeNodesSplit.bits17 : waitsOk laws_FnRangeNodesSplit.T17.2 laws_FnRangeNodesSplit.B17 = true := by kernel_rfl
set_option maxHeartbeats 8000000 in
set_option maxRecDepth 100000 in
theorem laws_FnRangeNodesSplit.calls (k : Nat) (a0 : Int) (a1 : Int) (a2 : Int) (r : Bool) (w : World) (HG_ : Glob w) (h : laws_FnRangeNodesSplit.f k a0 a1 a2 = some r) :
    Calls Tryd.prog 3 #[.int .u64 a0, .int .u64 a1, .int .u64 a2] w fun e w' => e = .returned (.bool r) ∧ Below w.heap.size w w' := by
  have hu27 := Tryd.underlying27
  have hu29 := Tryd.underlying29
  have HG := Aside0.mk HG_
  clear HG_
  have HB := Aside0.mk (Below.refl w.heap.size w)
  have H : (if a0 > a1 then (laws_FnRangeNodesSplit.j0 k a0 a1 a2 true) else (laws_FnRangeNodesSplit.j0 k a0 a1 a2 (decide (a1 > a2)))) = some r := h
  clear h
  have HC4 := Aside0.mk H
  clear H
  go_enter Tryd.func3, Tryd.ntmps3
  go_upto_region 1 with (fail)
  go_cut [22] (fun v22 wc => ∃ (kq : Nat) (x22_3 : Bool), v22 = .bool x22_3 ∧ Aside0 (laws_FnRangeNodesSplit.j0 kq a0 a1 a2 x22_3 = some r) ∧ Aside0 (kq ≤ k) ∧ Aside0 (Below w.heap.size w wc))
  case first =>
    have H := HC4.out
    clear HC4
    by_cases c5 : a0 > a1
    · rw [if_pos c5] at H
      have c5b0 : decide (a1 < a0) = true := decide_eq_true c5
      clear c5
      (first | rw [c5b0] | (simp only [i64_w, i32_w]; rw [c5b0]) | skip)
      have H' := Aside0.mk H
      clear H
      go_wp2
      go_meet
      case rel => exact ⟨_, (true), (by first | rfl | (simp; done) | (simp [*]; done)), H', ⟨by first | omega | exact Nat.le_refl _⟩, ⟨by repeat (first | (with_reducible first | exact HB.out | apply below_alloc | apply pw_below_drewN | apply below_drew1) | exact HB.out)⟩⟩
    · rw [if_neg c5] at H
      have c5b0 : decide (a1 < a0) = false := decide_eq_false c5
      clear c5
      (first | rw [c5b0] | (simp only [i64_w, i32_w]; rw [c5b0]) | skip)
      have H' := Aside0.mk H
      clear H
      go_wp2
      go_meet
      case rel => exact ⟨_, (decide (a1 > a2)), (by first | rfl | (simp; done) | (simp [*]; done)), H', ⟨by first | omega | exact Nat.le_refl _⟩, ⟨by repeat (first | (with_reducible first | exact HB.out | apply below_alloc | apply pw_below_drewN | apply below_drew1) | exact HB.out)⟩⟩
  case rest =>
    clear HC4
    try clear p2
    try clear c3
    try clear c5
    try clear c5b0
    obtain ⟨kq, x22_3, rfl, HA, HJ3, HB⟩ := hcut
    cases kq with
    | zero => exact absurd HA.out (by simp [laws_FnRangeNodesSplit.j0])
    | succ kj3 =>
      have H := HA.out
      clear HA
      simp only [laws_FnRangeNodesSplit.j0] at H
      by_cases c6 : x22_3 = true
      · subst c6
        have H1 : (some true) = some r := by rw [if_pos rfl] at H; exact H
        clear H
        have H := H1
        clear H1
        obtain rfl := Option.some.inj H
        go_wp2
        go_ret
        exact ⟨by first | rfl | (simp [errW_none, errW_some] <;> rfl) | (simp [*, errW_none, errW_some] <;> rfl), by repeat (first | (with_reducible first | exact HB.out | apply below_alloc | apply pw_below_drewN | apply below_drew1) | exact HB.out)⟩
      · replace c6 := Bool.eq_false_iff.mpr c6
        subst c6
        have H1 : ((impl_RangeNodes.f kj3 a0 a2 ([] : List (S27))).bind fun t153 => ((impl_RangeNodes.f kj3 a0 a1 ([] : List (S27))).bind fun t156 => ((impl_RangeNodes.f kj3 a1 a2 t156).bind fun t159 => (laws_FnRangeNodesSplit.l0 kj3 a0 a1 a2 t153 t159 ([] : List (S27)) t153 (t153.length : Int) 0)))) = some r := by rw [if_neg (show ¬ (false = true) by decide)] at H; exact H
        clear H
        have H := H1
        clear H1
        replace H := Option.bind_eq_some_iff.mp H
        obtain ⟨t153, A70, H⟩ := H
        replace H : ((impl_RangeNodes.f kj3 a0 a1 ([] : List (S27))).bind fun t156 => ((impl_RangeNodes.f kj3 a1 a2 t156).bind fun t159 => (laws_FnRangeNodesSplit.l0 kj3 a0 a1 a2 t153 t159 ([] : List (S27)) t153 (t153.length : Int) 0))) = some r := H
        have A7 := Aside0.mk A70
        clear A70
        replace H := Option.bind_eq_some_iff.mp H
        obtain ⟨t156, A80, H⟩ := H
        replace H : ((impl_RangeNodes.f kj3 a1 a2 t156).bind fun t159 => (laws_FnRangeNodesSplit.l0 kj3 a0 a1 a2 t153 t159 ([] : List (S27)) t153 (t153.length : Int) 0)) = some r := H
        have A8 := Aside0.mk A80
        clear A80
        replace H := Option.bind_eq_some_iff.mp H
        obtain ⟨t159, A90, H⟩ := H
        replace H : (laws_FnRangeNodesSplit.l0 kj3 a0 a1 a2 t153 t159 ([] : List (S27)) t153 (t153.length : Int) 0) = some r := H
        have A9 := Aside0.mk A90
        clear A90
        have H' := Aside0.mk H
        clear H
        go_wp2_with (first | ((with_reducible refine gate_callee (f := 7) rfl ?_); refine goesL_ (some 25) rfl rfl Tryd.func7 (by kernel_rfl) rfl #[.int .u64 a0, .int .u64 a2, .slice none 0 0] rfl (by (try simp only [List.map_toArray, List.map_cons, List.map_nil]); first | done | rfl | (simp only [List.length_drop, List.length_take]; rfl)) ?_; (refine (impl_RangeNodes.calls kj3 a0 a2 _ _ ([] : List (S27)) t153 _ ?side1 ?side2 ?side3 A7.out).mono ?_); (case side1 => exact Kd.C_nil _ _); (case side2 => exact Nat.le_refl _); (case side3 => first | exact HG.out | exact Glob.drewN HG.out _ | exact Glob.below HG.out (by repeat (first | (with_reducible first | exact HB.out | apply below_alloc | apply pw_below_drewN | apply below_drew1) | exact HB.out))); rintro e w10 ⟨v154, rfl, ho0, hb⟩; refine ⟨_, rfl, ?_⟩; have n0_ := Aside0.mk (Kd.R_lower ho0 (below_size (by repeat (first | (with_reducible first | exact HB.out | apply below_alloc | apply pw_below_drewN | apply below_drew1) | exact HB.out)))); have n1_ := Aside0.mk (below_step (by repeat (first | (with_reducible first | exact HB.out | apply below_alloc | apply pw_below_drewN | apply below_drew1) | exact HB.out)) hb); clear HB; have HO155 := n0_; have HB := n1_; clear n0_ n1_; (try clear hb); (try clear hb2); (try clear hk); (try clear hi); (try clear ho0)) | ((with_reducible refine gate_callee (f := 7) rfl ?_); refine goesL_ (some 30) rfl rfl Tryd.func7 (by kernel_rfl) rfl #[.int .u64 a0, .int .u64 a1, .slice none 0 0] rfl (by (try simp only [List.map_toArray, List.map_cons, List.map_nil]); first | done | rfl | (simp only [List.length_drop, List.length_take]; rfl)) ?_; (refine (impl_RangeNodes.calls kj3 a0 a1 _ _ ([] : List (S27)) t156 _ ?side1 ?side2 ?side3 A8.out).mono ?_); (case side1 => exact Kd.C_nil _ _); (case side2 => exact Nat.le_refl _); (case side3 => first | exact HG.out | exact Glob.drewN HG.out _ | exact Glob.below HG.out (by repeat (first | (with_reducible first | exact HB.out | apply below_alloc | apply pw_below_drewN | apply below_drew1) | exact HB.out))); rintro e w11 ⟨v157, rfl, ho0, hb⟩; refine ⟨_, rfl, ?_⟩; have n0_ := Aside0.mk (Kd.R_elder' (by (with_reducible repeat (first | apply Kd.R_alloc | apply Kd.R_drewN | apply Kd.R_drew)); exact HO155.out) (Kd.R_base ho0) hb); have n1_ := Aside0.mk (Kd.R_lower (Kd.R_new' ho0 (Kd.R_lt (by (with_reducible repeat (first | apply Kd.R_alloc | apply Kd.R_drewN | apply Kd.R_drew)); exact HO155.out))) (below_size (by repeat (first | (with_reducible first | exact HB.out | apply below_alloc | apply pw_below_drewN | apply below_drew1) | exact HB.out)))); have n2_ := Aside0.mk (below_step (by repeat (first | (with_reducible first | exact HB.out | apply below_alloc | apply pw_below_drewN | apply below_drew1) | exact HB.out)) hb); clear HO155; clear HB; have HO155 := n0_; have HO158 := n1_; have HB := n2_; clear n0_ n1_ n2_; (try clear hb); (try clear hb2); (try clear hk); (try clear hi); (try clear ho0); obtain ⟨Ao12, co12, eo12⟩ := Kd.R_slice HO158.out; subst eo12) | ((with_reducible refine gate_callee (f := 7) rfl ?_); refine goesL_ (some 31) rfl rfl Tryd.func7 (by kernel_rfl) rfl #[.int .u64 a1, .int .u64 a2, .slice Ao12 t156.length co12] rfl (by (try simp only [List.map_toArray, List.map_cons, List.map_nil]); first | done | rfl | (simp only [List.length_drop, List.length_take]; rfl)) ?_; (with_reducible refine (impl_RangeNodes.calls kj3 a1 a2 _ _ t156 t159 _ ?side1 ?side2 ?side3 A9.out).mono ?_); (case side1 => repeat (first | exact (Kd.R_reads' HO158.out).2.2 | (with_reducible refine Kd.C_alloc ?_ _) | (with_reducible refine Kd.C_drewN ?_ _) | (with_reducible refine Kd.C_drew ?_))); (case side2 => exact (Kd.R_reads' HO158.out).2.1); (case side3 => first | exact HG.out | exact Glob.drewN HG.out _ | exact Glob.below HG.out (by repeat (first | (with_reducible first | exact HB.out | apply below_alloc | apply pw_below_drewN | apply below_drew1) | exact HB.out))); rintro e w13 ⟨v160, rfl, ho0, hb⟩; refine ⟨_, rfl, ?_⟩; have n0_ := Aside0.mk (Kd.R_elder' (by (with_reducible repeat (first | apply Kd.R_alloc | apply Kd.R_drewN | apply Kd.R_drew)); exact HO155.out) (Kd.R_base ho0) hb); have n1_ := Aside0.mk (Kd.R_elder' (by (with_reducible repeat (first | apply Kd.R_alloc | apply Kd.R_drewN | apply Kd.R_drew)); exact HO158.out) (Kd.R_base ho0) hb); have n2_ := Aside0.mk (Kd.R_lower (Kd.R_new' (Kd.R_new' ho0 (Kd.R_lt (by (with_reducible repeat (first | apply Kd.R_alloc | apply Kd.R_drewN | apply Kd.R_drew)); exact HO155.out))) (Kd.R_lt (by (with_reducible repeat (first | apply Kd.R_alloc | apply Kd.R_drewN | apply Kd.R_drew)); exact HO158.out))) (below_size (by repeat (first | (with_reducible first | exact HB.out | apply below_alloc | apply pw_below_drewN | apply below_drew1) | exact HB.out)))); have n3_ := Aside0.mk (below_step (by repeat (first | (with_reducible first | exact HB.out | apply below_alloc | apply pw_below_drewN | apply below_drew1) | exact HB.out)) hb); clear HO155; clear HO158; clear HB; have HO155 := n0_; have HO158 := n1_; have HO161 := n2_; have HB := n3_; clear n0_ n1_ n2_ n3_; (try clear hb); (try clear hb2); (try clear hk); (try clear hi); (try clear ho0); obtain ⟨Ao14, co14, eo14⟩ := Kd.R_slice HO155.out; subst eo14))
        (try simp only [Act.put, List.setIfInBounds_toArray, List.set_cons_zero, List.set_cons_succ])
        go_loopg [9, 34] kj3 (fun kq v9 v34 w' => ∃ (x9_2 : List (S27)) (x34_2 : Int), v34 = .int .i64 x34_2 ∧ Aside0 (laws_FnRangeNodesSplit.l0 kq a0 a1 a2 t153 t159 x9_2 t153 (t153.length : Int) x34_2 = some r) ∧ Aside0 (kq ≤ kj3) ∧ Aside0 (Kd.R k27 27 w' w.heap.size (fun k_ => some k_ ≠ (v160 : Value).ownBlock ∧ some k_ ≠ (v9 : Value).ownBlock) (.slice Ao14 t153.length co14) t153) ∧ Aside0 (Kd.R k27 27 w' w.heap.size (fun k_ => some k_ ≠ ((.slice Ao14 t153.length co14) : Value).ownBlock ∧ some k_ ≠ (v9 : Value).ownBlock ∧ some k_ ≠ ((.slice Ao14 t153.length co14) : Value).ownBlock) v160 t159) ∧ Aside0 (Kd.R k27 27 w' w.heap.size (fun k_ => some k_ ≠ ((.slice Ao14 t153.length co14) : Value).ownBlock ∧ some k_ ≠ (v160 : Value).ownBlock ∧ some k_ ≠ ((.slice Ao14 t153.length co14) : Value).ownBlock) v9 x9_2) ∧ Aside0 (Kd.R k27 27 w' w.heap.size (fun k_ => some k_ ≠ (v160 : Value).ownBlock ∧ some k_ ≠ (v9 : Value).ownBlock) (.slice Ao14 t153.length co14) t153) ∧ Aside0 (Below w.heap.size w w'))
        case atStart => exact ⟨(([] : List (S27))), (0), (by first | rfl | (simp; done) | (simp [*]; done)), H', ⟨Nat.le_refl _⟩, ⟨by (with_reducible repeat (first | apply Kd.R_alloc | apply Kd.R_drewN | apply Kd.R_drew)); exact Kd.R_mono HO155.out (fun _ hk => ⟨hk.2, (by simp [Value.ownBlock])⟩)⟩, ⟨by (with_reducible repeat (first | apply Kd.R_alloc | apply Kd.R_drewN | apply Kd.R_drew)); exact Kd.R_mono HO161.out (fun _ hk => ⟨hk.1.2, ⟨(by simp [Value.ownBlock]), hk.1.2⟩⟩)⟩, ⟨by first | exact Kd.R_nil _ _ _ _ _ | exact Kd.N_nil _ _ _ _ _ | exact Kd.V_nil _ _ _ _ _ | exact Kd.Q_nil _ _ _ _ _ | exact Kd.S_nil _ _ _ _ _⟩, ⟨by (with_reducible repeat (first | apply Kd.R_alloc | apply Kd.R_drewN | apply Kd.R_drew)); exact Kd.R_mono HO155.out (fun _ hk => ⟨hk.2, (by simp [Value.ownBlock])⟩)⟩, ⟨by repeat (first | (with_reducible first | exact HB.out | apply below_alloc | apply pw_below_drewN | apply below_drew1) | exact HB.out)⟩⟩
        case round =>
          clear H'
          try clear p2
          try clear c3
          try clear c5
          try clear c5b0
          try clear c6
          try clear c7
          try clear p2
          obtain ⟨x9_2, x34_2, rfl, HA, HK2, HO_7, HO_8, HO_9, HO_32, HB⟩ := hrel
          cases gk with
          | zero => exact absurd HA.out (by simp [laws_FnRangeNodesSplit.l0])
          | succ k2 =>
            have H := HA.out
            clear HA
            simp only [laws_FnRangeNodesSplit.l0] at H
            by_cases c15 : x34_2 < (t153.length : Int)
            · rw [if_pos c15] at H
              have c15b0 : decide (x34_2 < (t153.length : Int)) = true := decide_eq_true c15
              clear c15
              by_cases c16 : 0 ≤ x34_2
              · rw [if_pos c16] at H
                have c16b0 : decide (0 ≤ x34_2) = true := decide_eq_true c16
                clear c16
                by_cases c17 : x34_2 < (t153.length : Int)
                · rw [if_pos c17] at H
                  have c17b0 : decide (x34_2 < (t153.length : Int)) = true := decide_eq_true c17
                  clear c17
                  replace H := Option.bind_eq_some_iff.mp H
                  obtain ⟨⟨t164, t165⟩, A180, H⟩ := H
                  replace H : (if t164 < a1 then (laws_FnRangeNodesSplit.j2 k2 a0 a1 a2 t153 t159 x9_2 t153 (t153.length : Int) x34_2 (decide (a1 < t165)) ((rd_T27 t153 x34_2).f0) ((rd_T27 t153 x34_2).f1)) else (laws_FnRangeNodesSplit.j2 k2 a0 a1 a2 t153 t159 x9_2 t153 (t153.length : Int) x34_2 false ((rd_T27 t153 x34_2).f0) ((rd_T27 t153 x34_2).f1))) = some r := H
                  have A18 := Aside0.mk A180
                  clear A180
                  have HC19 := Aside0.mk H
                  clear H
                  have p162 : 0 ≤ (x34_2 : Int) := of_decide_eq_true (by first | (with_reducible assumption) | assumption)
                  have q162 : x34_2 < (t153.length : Int) := of_decide_eq_true (by first | (with_reducible assumption) | assumption)
                  obtain ⟨ad162, e162, hx162_0, hx162_1⟩ := at_T27 (Kd.R_reads' HO_32.out).2.2 x34_2 p162 q162
                  cases e162
                  replace p162 := eq_true p162
                  replace q162 := eq_true q162
                  go_upto_region 9 with (first | ((with_reducible refine gate_dst (N := 11) rfl ?_); (try (refine gate_guard (by rfl) ?_; dsimp only)); refine box_event ?hg (N := 11) ?hd (cs := #[.int .u64 0, .int .u64 0]) (t := 27) ?hr ?_; (case hd => rfl); (case hg => rfl); (case hr => first | (go_simp; done) | (go_simp; rfl)); intro gb163 hg w20 hbox hb; have n0_ := Aside0.mk (Kd.R_below (Kd.R_elderB (by (with_reducible repeat (first | apply Kd.R_alloc | apply Kd.R_drewN | apply Kd.R_drew)); exact HO_7.out) gb163 (Nat.le_of_eq hg.symm)) hb); have n1_ := Aside0.mk (Kd.R_below (Kd.R_elderB (by (with_reducible repeat (first | apply Kd.R_alloc | apply Kd.R_drewN | apply Kd.R_drew)); exact HO_8.out) gb163 (Nat.le_of_eq hg.symm)) hb); have n2_ := Aside0.mk (Kd.R_below (Kd.R_elderB (by (with_reducible repeat (first | apply Kd.R_alloc | apply Kd.R_drewN | apply Kd.R_drew)); exact HO_9.out) gb163 (Nat.le_of_eq hg.symm)) hb); have n3_ := Aside0.mk (Kd.R_below (Kd.R_elderB (by (with_reducible repeat (first | apply Kd.R_alloc | apply Kd.R_drewN | apply Kd.R_drew)); exact HO_32.out) gb163 (Nat.le_of_eq hg.symm)) hb); have n4_ := Aside0.mk (below_step (by repeat (first | (with_reducible first | exact HB.out | apply below_alloc | apply pw_below_drewN | apply below_drew1) | exact HB.out)) hb); have n5_ := Aside0.mk (hbox); have n6_ := Aside0.mk ((by rw [hg]; exact (below_size (by repeat (first | (with_reducible first | exact HB.out | apply below_alloc | apply pw_below_drewN | apply below_drew1) | exact HB.out))) : w.heap.size ≤ gb163)); have n7_ := Aside0.mk ((by rw [hg]; exact (below_size (by repeat (first | (with_reducible first | exact HB.out | apply below_alloc | apply pw_below_drewN | apply below_drew1) | exact HB.out))) : w.heap.size ≤ gb163)); clear HO_7; clear HO_8; clear HO_9; clear HO_32; clear HB; have HO_7 := n0_; have HO_8 := n1_; have HO_9 := n2_; have HO_32 := n3_; have HB := n4_; have BK163 := n5_; have GW163 := n6_; have GE163 := n7_; clear n0_ n1_ n2_ n3_ n4_ n5_ n6_ n7_; clear hb hbox hg; have hcz21_0 : w20.cell? ⟨gb163, 0, none⟩ = some (.int .u64 0) := (blk_cell BK163.out 0).trans rfl; have hcz21_1 : w20.cell? ⟨gb163, 1, none⟩ = some (.int .u64 0) := (blk_cell BK163.out 1).trans rfl; have hfz21_0 := blk_frozen BK163.out 0; have hfz21_1 := blk_frozen BK163.out 1) | ((with_reducible refine gate_callee (f := 8) rfl ?_); refine goesL_ (some 39) rfl rfl Tryd.func8 (by kernel_rfl) rfl #[.agg #[.int .u64 ((rd_T27 t153 x34_2).f0), .int .u64 ((rd_T27 t153 x34_2).f1)]] rfl (by (try simp only [List.map_toArray, List.map_cons, List.map_nil]); first | done | rfl | (simp only [List.length_drop, List.length_take]; rfl)) ?_; (with_reducible refine (spec_Leaves.calls ((rd_T27 t153 x34_2).f0) ((rd_T27 t153 x34_2).f1) t164 t165 _ A18.out).mono ?_); rintro e w22 ⟨rfl, hb⟩; refine ⟨_, rfl, ?_⟩; have n0_ := Aside0.mk (Kd.R_below (by (with_reducible repeat (first | apply Kd.R_alloc | apply Kd.R_drewN | apply Kd.R_drew)); exact (Kd.R_mono (Kd.R_far (p := ⟨gb163, 1, none⟩) (Kd.R_far (p := ⟨gb163, 0, none⟩) (Kd.R_mono HO_7.out (fun k_ hk => (⟨hk, hk.2⟩ : _ ∧ k_ ≠ gb163))) (fun _ hk => hk.2) (.int .u64 ((rd_T27 t153 x34_2).f0))) (fun _ hk => hk.2) (.int .u64 ((rd_T27 t153 x34_2).f1))) (fun _ h_ => h_.1))) hb); have n1_ := Aside0.mk (Kd.R_below (by (with_reducible repeat (first | apply Kd.R_alloc | apply Kd.R_drewN | apply Kd.R_drew)); exact (Kd.R_mono (Kd.R_far (p := ⟨gb163, 1, none⟩) (Kd.R_far (p := ⟨gb163, 0, none⟩) (Kd.R_mono HO_8.out (fun k_ hk => (⟨hk, hk.2⟩ : _ ∧ k_ ≠ gb163))) (fun _ hk => hk.2) (.int .u64 ((rd_T27 t153 x34_2).f0))) (fun _ hk => hk.2) (.int .u64 ((rd_T27 t153 x34_2).f1))) (fun _ h_ => h_.1))) hb); have n2_ := Aside0.mk (Kd.R_below (by (with_reducible repeat (first | apply Kd.R_alloc | apply Kd.R_drewN | apply Kd.R_drew)); exact (Kd.R_mono (Kd.R_far (p := ⟨gb163, 1, none⟩) (Kd.R_far (p := ⟨gb163, 0, none⟩) (Kd.R_mono HO_9.out (fun k_ hk => (⟨hk, hk.2⟩ : _ ∧ k_ ≠ gb163))) (fun _ hk => hk.2) (.int .u64 ((rd_T27 t153 x34_2).f0))) (fun _ hk => hk.2) (.int .u64 ((rd_T27 t153 x34_2).f1))) (fun _ h_ => h_.1))) hb); have n3_ := Aside0.mk (Kd.R_below (by (with_reducible repeat (first | apply Kd.R_alloc | apply Kd.R_drewN | apply Kd.R_drew)); exact (Kd.R_mono (Kd.R_far (p := ⟨gb163, 1, none⟩) (Kd.R_far (p := ⟨gb163, 0, none⟩) (Kd.R_mono HO_32.out (fun k_ hk => (⟨hk, hk.2⟩ : _ ∧ k_ ≠ gb163))) (fun _ hk => hk.2) (.int .u64 ((rd_T27 t153 x34_2).f0))) (fun _ hk => hk.2) (.int .u64 ((rd_T27 t153 x34_2).f1))) (fun _ h_ => h_.1))) hb); have n4_ := Aside0.mk (blk_below (g := gb163) (o := .cells #[.int .u64 ((rd_T27 t153 x34_2).f0), .int .u64 ((rd_T27 t153 x34_2).f1)] 27 (0, 0)) (by (with_reducible repeat (first | refine blk_drewN ?_ _ | refine blk_drew ?_ | refine blk_alloc ?_ _)); refine blk_put (cs := #[.int .u64 ((rd_T27 t153 x34_2).f0), .int .u64 0]) ?_ 1 _ rfl; (with_reducible repeat (first | refine blk_drewN ?_ _ | refine blk_drew ?_ | refine blk_alloc ?_ _)); refine blk_put (cs := #[.int .u64 0, .int .u64 0]) ?_ 0 _ rfl; (with_reducible repeat (first | refine blk_drewN ?_ _ | refine blk_drew ?_ | refine blk_alloc ?_ _)); exact BK163.out) hb); have n5_ := Aside0.mk (below_step (by repeat (first | (with_reducible first | exact HB.out | apply below_alloc | apply pw_below_drewN | apply below_drew1 | refine below_set ?_ GE163.out) | exact HB.out)) hb); clear HO_7; clear HO_8; clear HO_9; clear HO_32; clear BK163; clear HB; have HO_7 := n0_; have HO_8 := n1_; have HO_9 := n2_; have HO_32 := n3_; have BK163 := n4_; have HB := n5_; clear n0_ n1_ n2_ n3_ n4_ n5_; (try clear hb); (try clear hb2); (try clear hk); (try clear hi)) | ((with_reducible refine gate_dst (N := 12) rfl ?_); (try (refine gate_guard (by rfl) ?_; dsimp only)); refine box_event ?hg (N := 12) ?hd (cs := #[.int .u64 0, .int .u64 0]) (t := 29) ?hr ?_; (case hd => rfl); (case hg => rfl); (case hr => first | (go_simp; done) | (go_simp; rfl)); intro gb166 hg w23 hbox hb; have n0_ := Aside0.mk (Kd.R_below (by (with_reducible repeat (first | apply Kd.R_alloc | apply Kd.R_drewN | apply Kd.R_drew)); exact HO_7.out) hb); have n1_ := Aside0.mk (Kd.R_below (by (with_reducible repeat (first | apply Kd.R_alloc | apply Kd.R_drewN | apply Kd.R_drew)); exact HO_8.out) hb); have n2_ := Aside0.mk (Kd.R_below (by (with_reducible repeat (first | apply Kd.R_alloc | apply Kd.R_drewN | apply Kd.R_drew)); exact HO_9.out) hb); have n3_ := Aside0.mk (Kd.R_below (by (with_reducible repeat (first | apply Kd.R_alloc | apply Kd.R_drewN | apply Kd.R_drew)); exact HO_32.out) hb); have n4_ := Aside0.mk (blk_below (g := gb163) (o := .cells #[.int .u64 ((rd_T27 t153 x34_2).f0), .int .u64 ((rd_T27 t153 x34_2).f1)] 27 (0, 0)) (by (with_reducible repeat (first | refine blk_drewN ?_ _ | refine blk_drew ?_ | refine blk_alloc ?_ _)); exact BK163.out) hb); have n5_ := Aside0.mk (below_step (by repeat (first | (with_reducible first | exact HB.out | apply below_alloc | apply pw_below_drewN | apply below_drew1 | refine below_set ?_ GE163.out) | exact HB.out)) hb); have n6_ := Aside0.mk (hbox); have n7_ := Aside0.mk ((by rw [hg]; exact (below_size (by repeat (first | (with_reducible first | exact HB.out | apply below_alloc | apply pw_below_drewN | apply below_drew1 | refine below_set ?_ GE163.out) | exact HB.out))) : w.heap.size ≤ gb166)); have n8_ := Aside0.mk ((by rw [hg]; exact (below_size (by repeat (first | (with_reducible first | exact HB.out | apply below_alloc | apply pw_below_drewN | apply below_drew1 | refine below_set ?_ GE163.out) | exact HB.out))) : w.heap.size ≤ gb166)); have n9_ := Aside0.mk ((by rw [hg]; exact Nat.ne_of_lt (blk_lt (g := gb163) (o := .cells #[.int .u64 ((rd_T27 t153 x34_2).f0), .int .u64 ((rd_T27 t153 x34_2).f1)] 27 (0, 0)) (by (with_reducible repeat (first | refine blk_drewN ?_ _ | refine blk_drew ?_ | refine blk_alloc ?_ _)); exact BK163.out)) : gb163 ≠ gb166)); have n10_ := Aside0.mk ((by rw [hg]; exact Nat.ne_of_gt (blk_lt (g := gb163) (o := .cells #[.int .u64 ((rd_T27 t153 x34_2).f0), .int .u64 ((rd_T27 t153 x34_2).f1)] 27 (0, 0)) (by (with_reducible repeat (first | refine blk_drewN ?_ _ | refine blk_drew ?_ | refine blk_alloc ?_ _)); exact BK163.out)) : gb166 ≠ gb163)); clear HO_7; clear HO_8; clear HO_9; clear HO_32; clear BK163; clear HB; have HO_7 := n0_; have HO_8 := n1_; have HO_9 := n2_; have HO_32 := n3_; have BK163 := n4_; have HB := n5_; have BK166 := n6_; have GW166 := n7_; have GE166 := n8_; have NB163_166 := n9_; have NB166_163 := n10_; clear n0_ n1_ n2_ n3_ n4_ n5_ n6_ n7_ n8_ n9_ n10_; clear hb hbox hg; have hnb24 := NB166_163.out; have hnc24 := NB163_166.out; have hcz25_0 : w23.cell? ⟨gb166, 0, none⟩ = some (.int .u64 0) := (blk_cell BK166.out 0).trans rfl; have hcz25_1 : w23.cell? ⟨gb166, 1, none⟩ = some (.int .u64 0) := (blk_cell BK166.out 1).trans rfl; have hfz25_0 := blk_frozen BK166.out 0; have hfz25_1 := blk_frozen BK166.out 1))
                  (try simp only [Act.put, List.setIfInBounds_toArray, List.set_cons_zero, List.set_cons_succ])
                  go_cut [49] (fun v49 wc => ∃ (kq : Nat) (x49_18 : Bool), v49 = .bool x49_18 ∧ Aside0 (laws_FnRangeNodesSplit.j2 kq a0 a1 a2 t153 t159 x9_2 t153 (t153.length : Int) x34_2 x49_18 ((rd_T27 t153 x34_2).f0) ((rd_T27 t153 x34_2).f1) = some r) ∧ Aside0 (kq ≤ k2) ∧ Aside0 (Kd.R k27 27 wc w.heap.size (fun k_ => some k_ ≠ (v160 : Value).ownBlock ∧ some k_ ≠ (u9 : Value).ownBlock ∧ k_ ≠ gb163) (.slice (some ad162) t153.length co14) t153) ∧ Aside0 (Kd.R k27 27 wc w.heap.size (fun k_ => some k_ ≠ ((.slice (some ad162) t153.length co14) : Value).ownBlock ∧ some k_ ≠ (u9 : Value).ownBlock ∧ some k_ ≠ ((.slice (some ad162) t153.length co14) : Value).ownBlock ∧ k_ ≠ gb163) v160 t159) ∧ Aside0 (Kd.R k27 27 wc w.heap.size (fun k_ => some k_ ≠ ((.slice (some ad162) t153.length co14) : Value).ownBlock ∧ some k_ ≠ (v160 : Value).ownBlock ∧ some k_ ≠ ((.slice (some ad162) t153.length co14) : Value).ownBlock ∧ k_ ≠ gb163) u9 x9_2) ∧ Aside0 (Kd.R k27 27 wc w.heap.size (fun k_ => some k_ ≠ (v160 : Value).ownBlock ∧ some k_ ≠ (u9 : Value).ownBlock ∧ k_ ≠ gb163) (.slice (some ad162) t153.length co14) t153) ∧ Aside0 (wc.heap[gb163]? = some (.cells #[.int .u64 ((rd_T27 t153 x34_2).f0), .int .u64 ((rd_T27 t153 x34_2).f1)] 27 (0, 0))) ∧ Aside0 (wc.heap[gb166]? = some (.cells #[.int .u64 t164, .int .u64 t165] 29 (0, 0))) ∧ Aside0 (Below w.heap.size w wc))
                  case first =>
                    have H := HC19.out
                    clear HC19
                    by_cases c26 : t164 < a1
                    · rw [if_pos c26] at H
                      have c26b0 : decide (t164 < a1) = true := decide_eq_true c26
                      clear c26
                      (first | rw [c26b0] | (simp only [i64_w, i32_w]; rw [c26b0]) | skip)
                      have H' := Aside0.mk H
                      clear H
                      have hnb27 := NB166_163.out
                      have hnc27 := NB163_166.out
                      have hcz28_0 : w23.cell? ⟨gb166, 0, none⟩ = some (.int .u64 0) := (blk_cell BK166.out 0).trans rfl
                      have hcz28_1 : w23.cell? ⟨gb166, 1, none⟩ = some (.int .u64 0) := (blk_cell BK166.out 1).trans rfl
                      have hfz28_0 := blk_frozen BK166.out 0
                      have hfz28_1 := blk_frozen BK166.out 1
                      go_wp2
                      go_meet
                      case rel => exact ⟨_, (decide (a1 < t165)), (by first | rfl | (simp; done) | (simp [*]; done)), H', ⟨by have := HJ3.out; have := HK2.out; first | omega | exact Nat.le_refl _⟩, ⟨by (with_reducible repeat (first | apply Kd.R_alloc | apply Kd.R_drewN | apply Kd.R_drew)); exact Kd.R_mono (Kd.R_far (p := ⟨gb166, 1, none⟩) (Kd.R_far (p := ⟨gb166, 0, none⟩) (Kd.R_types HO_7.out BK166.out (by decide)) (fun _ hk => hk.2) (.int .u64 t164)) (fun _ hk => hk.2) (.int .u64 t165)) (fun _ hk => ⟨hk.1.1.1, ⟨hk.1.1.2, hk.1.2⟩⟩)⟩, ⟨by (with_reducible repeat (first | apply Kd.R_alloc | apply Kd.R_drewN | apply Kd.R_drew)); exact Kd.R_mono (Kd.R_far (p := ⟨gb166, 1, none⟩) (Kd.R_far (p := ⟨gb166, 0, none⟩) (Kd.R_types HO_8.out BK166.out (by decide)) (fun _ hk => hk.2) (.int .u64 t164)) (fun _ hk => hk.2) (.int .u64 t165)) (fun _ hk => ⟨hk.1.1.1, ⟨hk.1.1.2.1, ⟨hk.1.1.2.2, hk.1.2⟩⟩⟩)⟩, ⟨by (with_reducible repeat (first | apply Kd.R_alloc | apply Kd.R_drewN | apply Kd.R_drew)); exact Kd.R_mono (Kd.R_far (p := ⟨gb166, 1, none⟩) (Kd.R_far (p := ⟨gb166, 0, none⟩) (Kd.R_types HO_9.out BK166.out (by decide)) (fun _ hk => hk.2) (.int .u64 t164)) (fun _ hk => hk.2) (.int .u64 t165)) (fun _ hk => ⟨hk.1.1.1, ⟨hk.1.1.2.1, ⟨hk.1.1.2.2, hk.1.2⟩⟩⟩)⟩, ⟨by (with_reducible repeat (first | apply Kd.R_alloc | apply Kd.R_drewN | apply Kd.R_drew)); exact Kd.R_mono (Kd.R_far (p := ⟨gb166, 1, none⟩) (Kd.R_far (p := ⟨gb166, 0, none⟩) (Kd.R_types HO_32.out BK166.out (by decide)) (fun _ hk => hk.2) (.int .u64 t164)) (fun _ hk => hk.2) (.int .u64 t165)) (fun _ hk => ⟨hk.1.1.1, ⟨hk.1.1.2, hk.1.2⟩⟩)⟩, ⟨by (with_reducible repeat (first | refine blk_drewN ?_ _ | refine blk_drew ?_ | refine blk_alloc ?_ _)); refine blk_far ?_ NB163_166.out _; (with_reducible repeat (first | refine blk_drewN ?_ _ | refine blk_drew ?_ | refine blk_alloc ?_ _)); refine blk_far ?_ NB163_166.out _; (with_reducible repeat (first | refine blk_drewN ?_ _ | refine blk_drew ?_ | refine blk_alloc ?_ _)); exact BK163.out⟩, ⟨by (with_reducible repeat (first | refine blk_drewN ?_ _ | refine blk_drew ?_ | refine blk_alloc ?_ _)); refine blk_put (cs := #[.int .u64 t164, .int .u64 0]) ?_ 1 _ rfl; (with_reducible repeat (first | refine blk_drewN ?_ _ | refine blk_drew ?_ | refine blk_alloc ?_ _)); refine blk_put (cs := #[.int .u64 0, .int .u64 0]) ?_ 0 _ rfl; (with_reducible repeat (first | refine blk_drewN ?_ _ | refine blk_drew ?_ | refine blk_alloc ?_ _)); exact BK166.out⟩, ⟨by repeat (first | (with_reducible first | exact HB.out | apply below_alloc | apply pw_below_drewN | apply below_drew1 | refine below_set ?_ GE163.out | refine below_set ?_ GE166.out) | exact HB.out)⟩⟩
                    · rw [if_neg c26] at H
                      have c26b0 : decide (t164 < a1) = false := decide_eq_false c26
                      clear c26
                      (first | rw [c26b0] | (simp only [i64_w, i32_w]; rw [c26b0]) | skip)
                      have H' := Aside0.mk H
                      clear H
                      have hnb29 := NB166_163.out
                      have hnc29 := NB163_166.out
                      have hcz30_0 : w23.cell? ⟨gb166, 0, none⟩ = some (.int .u64 0) := (blk_cell BK166.out 0).trans rfl
                      have hcz30_1 : w23.cell? ⟨gb166, 1, none⟩ = some (.int .u64 0) := (blk_cell BK166.out 1).trans rfl
                      have hfz30_0 := blk_frozen BK166.out 0
                      have hfz30_1 := blk_frozen BK166.out 1
                      go_wp2
                      go_meet
                      case rel => exact ⟨_, (false), (by first | rfl | (simp; done) | (simp [*]; done)), H', ⟨by have := HJ3.out; have := HK2.out; first | omega | exact Nat.le_refl _⟩, ⟨by (with_reducible repeat (first | apply Kd.R_alloc | apply Kd.R_drewN | apply Kd.R_drew)); exact Kd.R_mono (Kd.R_far (p := ⟨gb166, 1, none⟩) (Kd.R_far (p := ⟨gb166, 0, none⟩) (Kd.R_types HO_7.out BK166.out (by decide)) (fun _ hk => hk.2) (.int .u64 t164)) (fun _ hk => hk.2) (.int .u64 t165)) (fun _ hk => ⟨hk.1.1.1, ⟨hk.1.1.2, hk.1.2⟩⟩)⟩, ⟨by (with_reducible repeat (first | apply Kd.R_alloc | apply Kd.R_drewN | apply Kd.R_drew)); exact Kd.R_mono (Kd.R_far (p := ⟨gb166, 1, none⟩) (Kd.R_far (p := ⟨gb166, 0, none⟩) (Kd.R_types HO_8.out BK166.out (by decide)) (fun _ hk => hk.2) (.int .u64 t164)) (fun _ hk => hk.2) (.int .u64 t165)) (fun _ hk => ⟨hk.1.1.1, ⟨hk.1.1.2.1, ⟨hk.1.1.2.2, hk.1.2⟩⟩⟩)⟩, ⟨by (with_reducible repeat (first | apply Kd.R_alloc | apply Kd.R_drewN | apply Kd.R_drew)); exact Kd.R_mono (Kd.R_far (p := ⟨gb166, 1, none⟩) (Kd.R_far (p := ⟨gb166, 0, none⟩) (Kd.R_types HO_9.out BK166.out (by decide)) (fun _ hk => hk.2) (.int .u64 t164)) (fun _ hk => hk.2) (.int .u64 t165)) (fun _ hk => ⟨hk.1.1.1, ⟨hk.1.1.2.1, ⟨hk.1.1.2.2, hk.1.2⟩⟩⟩)⟩, ⟨by (with_reducible repeat (first | apply Kd.R_alloc | apply Kd.R_drewN | apply Kd.R_drew)); exact Kd.R_mono (Kd.R_far (p := ⟨gb166, 1, none⟩) (Kd.R_far (p := ⟨gb166, 0, none⟩) (Kd.R_types HO_32.out BK166.out (by decide)) (fun _ hk => hk.2) (.int .u64 t164)) (fun _ hk => hk.2) (.int .u64 t165)) (fun _ hk => ⟨hk.1.1.1, ⟨hk.1.1.2, hk.1.2⟩⟩)⟩, ⟨by (with_reducible repeat (first | refine blk_drewN ?_ _ | refine blk_drew ?_ | refine blk_alloc ?_ _)); refine blk_far ?_ NB163_166.out _; (with_reducible repeat (first | refine blk_drewN ?_ _ | refine blk_drew ?_ | refine blk_alloc ?_ _)); refine blk_far ?_ NB163_166.out _; (with_reducible repeat (first | refine blk_drewN ?_ _ | refine blk_drew ?_ | refine blk_alloc ?_ _)); exact BK163.out⟩, ⟨by (with_reducible repeat (first | refine blk_drewN ?_ _ | refine blk_drew ?_ | refine blk_alloc ?_ _)); refine blk_put (cs := #[.int .u64 t164, .int .u64 0]) ?_ 1 _ rfl; (with_reducible repeat (first | refine blk_drewN ?_ _ | refine blk_drew ?_ | refine blk_alloc ?_ _)); refine blk_put (cs := #[.int .u64 0, .int .u64 0]) ?_ 0 _ rfl; (with_reducible repeat (first | refine blk_drewN ?_ _ | refine blk_drew ?_ | refine blk_alloc ?_ _)); exact BK166.out⟩, ⟨by repeat (first | (with_reducible first | exact HB.out | apply below_alloc | apply pw_below_drewN | apply below_drew1 | refine below_set ?_ GE163.out | refine below_set ?_ GE166.out) | exact HB.out)⟩⟩
                  case rest =>
                    clear HC19
                    try clear c1
                    try clear p1
                    try clear q1
                    try clear hx1
                    try clear c2
                    try clear p2
                    try clear c3
                    try clear c5
                    try clear c5b0
                    try clear c6
                    try clear c7
                    try clear c8
                    try clear c15
                    try clear c15b0
                    try clear c16
                    try clear c16b0
                    try clear p16
                    try clear q16
                    try clear hx16
                    try clear c17
                    try clear c17b0
                    try clear c24
                    try clear c26
                    try clear c26b0
                    try clear c27
                    try clear c29
                    try clear hcz21_0
                    try clear hcz21_1
                    try clear hcz25_0
                    try clear hcz25_1
                    try clear hcz28_0
                    try clear hcz28_1
                    try clear hcz30_0
                    try clear hcz30_1
                    try clear hfz21_0
                    try clear hfz21_1
                    try clear hfz25_0
                    try clear hfz25_1
                    try clear hfz28_0
                    try clear hfz28_1
                    try clear hfz30_0
                    try clear hfz30_1
                    try clear hx162_0
                    try clear hx162_1
                    try clear p162
                    try clear p2
                    try clear q162
                    obtain ⟨kq, x49_18, rfl, HA, HJ18, HO_7, HO_8, HO_9, HO_32, BK163, BK166, HB⟩ := hcut
                    cases kq with
                    | zero => exact absurd HA.out (by simp [laws_FnRangeNodesSplit.j2])
                    | succ kj18 =>
                      have H := HA.out
                      clear HA
                      simp only [laws_FnRangeNodesSplit.j2] at H
                      by_cases c31 : x49_18 = true
                      · subst c31
                        have H1 : (if x9_2.length < 8796093022208 then (laws_FnRangeNodesSplit.l0 kj18 a0 a1 a2 t153 t159 (x9_2 ++ [(⟨((rd_T27 t153 x34_2).f0), ((rd_T27 t153 x34_2).f1)⟩ : S27)]) t153 (t153.length : Int) (wrap64 (x34_2 + 1))) else (none)) = some r := by rw [if_pos rfl] at H; exact H
                        clear H
                        have H := H1
                        clear H1
                        by_cases c32 : x9_2.length < 8796093022208
                        · rw [if_pos c32] at H
                          have LMc32 := Aside0.mk c32
                          clear c32
                          obtain ⟨y167, hy167⟩ : ∃ y_ : List (S27), y_ = (x9_2 ++ [(⟨((rd_T27 t153 x34_2).f0), ((rd_T27 t153 x34_2).f1)⟩ : S27)]) := ⟨_, rfl⟩
                          replace H : (laws_FnRangeNodesSplit.l0 kj18 a0 a1 a2 t153 t159 y167 t153 (t153.length : Int) (wrap64 (x34_2 + 1))) = some r := by first | (rw [hy167]; with_reducible exact H) | (have H2_ := (Option.bind_some _ _).symm.trans H; rw [hy167]; with_reducible exact H2_) | (have H2_ := (Option.bind_some _ _).symm.trans H; with_reducible exact H2_) | with_reducible exact H | (rw [hy167]; exact H) | exact H
                          have Ny167 := Aside0.mk hy167
                          clear hy167
                          have H' := Aside0.mk H
                          clear H
                          have hnb33 := NB163_166.out
                          have hnc33 := NB166_163.out
                          have hcz34_0 : wc.cell? ⟨gb163, 0, none⟩ = some (.int .u64 ((rd_T27 t153 x34_2).f0)) := (blk_cell BK163.out 0).trans rfl
                          have hcz34_1 : wc.cell? ⟨gb163, 1, none⟩ = some (.int .u64 ((rd_T27 t153 x34_2).f1)) := (blk_cell BK163.out 1).trans rfl
                          have hfz34_0 := blk_frozen BK163.out 0
                          have hfz34_1 := blk_frozen BK163.out 1
                          go_wp2_with (first | ((with_reducible refine gate_builtin (b := .append) (xs := #[.tmp 50, .tmp 52]) rfl ?_); (try (refine gate_guard (by rfl) ?_; dsimp only)); at_builtin; refine Kd.R_append k27 (w0 := w) w.heap.size rfl (.tmp 50) (.tmp 52) 23 27 (.agg #[(.int .u64 0), (.int .u64 0)]) 16 rfl Tryd.underlying23 info27 rfl (by decide) (by omega) u9 x9_2 (⟨((rd_T27 t153 x34_2).f0), ((rd_T27 t153 x34_2).f1)⟩ : S27) [.int .u64 ((rd_T27 t153 x34_2).f0), .int .u64 ((rd_T27 t153 x34_2).f1)] (fun k_ => some k_ ≠ (.slice (some ad162) t153.length co14 : Value).ownBlock ∧ some k_ ≠ (v160 : Value).ownBlock ∧ some k_ ≠ (.slice (some ad162) t153.length co14 : Value).ownBlock ∧ k_ ≠ gb163) (fun _ => False) rfl rfl ?aP (fun _ hk => hk.elim) ?aF ?aO ?aB ?aS ?aL ?_; (case aP => exact k27_mkM _ _ _ (⟨((rd_T27 t153 x34_2).f0), ((rd_T27 t153 x34_2).f1)⟩ : S27)); (case aB => exact (by repeat (first | (with_reducible first | exact HB.out | apply below_alloc | apply pw_below_drewN | apply below_drew1 | refine below_set ?_ GE163.out | refine below_set ?_ GE166.out) | exact HB.out))); (case aF => exact (fun k_ hk => ⟨Kd.fresh' (Kd.R_lt (by (with_reducible repeat (first | apply Kd.R_alloc | apply Kd.R_drewN | apply Kd.R_drew)); exact HO_7.out)) k_ hk, Kd.fresh' (Kd.R_lt (by (with_reducible repeat (first | apply Kd.R_alloc | apply Kd.R_drewN | apply Kd.R_drew)); exact HO_8.out)) k_ hk, Kd.fresh' (Kd.R_lt (by (with_reducible repeat (first | apply Kd.R_alloc | apply Kd.R_drewN | apply Kd.R_drew)); exact HO_32.out)) k_ hk, Kd.freshB (g := gb163) (o := .cells #[.int .u64 ((rd_T27 t153 x34_2).f0), .int .u64 ((rd_T27 t153 x34_2).f1)] 27 (0, 0)) (by (with_reducible repeat (first | refine blk_drewN ?_ _ | refine blk_drew ?_ | refine blk_alloc ?_ _)); exact BK163.out) k_ hk⟩)); (case aO => exact (by (with_reducible repeat (first | apply Kd.R_alloc | apply Kd.R_drewN | apply Kd.R_drew)); exact HO_9.out)); (case aS => exact (below_size (by repeat (first | (with_reducible first | exact HB.out | apply below_alloc | apply pw_below_drewN | apply below_drew1 | refine below_set ?_ GE163.out | refine below_set ?_ GE166.out) | exact HB.out)))); (case aL => have := LMc32.out; omega); intro v168 w35 ho hb hg hat; rw [← Ny167.out] at ho; have n0_ := Aside0.mk (Kd.R_after (ok := (fun k_ => some k_ ≠ (v160 : Value).ownBlock ∧ k_ ≠ gb163)) (by (with_reducible repeat (first | apply Kd.R_alloc | apply Kd.R_drewN | apply Kd.R_drew)); exact Kd.R_mono HO_7.out (fun _ hk => ⟨⟨hk.1, hk.2.2⟩, hk.2.1⟩)) hg hat); have n1_ := Aside0.mk (Kd.R_after (ok := (fun k_ => some k_ ≠ (.slice (some ad162) t153.length co14 : Value).ownBlock ∧ some k_ ≠ (.slice (some ad162) t153.length co14 : Value).ownBlock ∧ k_ ≠ gb163)) (by (with_reducible repeat (first | apply Kd.R_alloc | apply Kd.R_drewN | apply Kd.R_drew)); exact Kd.R_mono HO_8.out (fun _ hk => ⟨⟨hk.1, ⟨hk.2.2.1, hk.2.2.2⟩⟩, hk.2.1⟩)) hg hat); have n2_ := Aside0.mk (Kd.R_after (ok := (fun k_ => some k_ ≠ (v160 : Value).ownBlock ∧ k_ ≠ gb163)) (by (with_reducible repeat (first | apply Kd.R_alloc | apply Kd.R_drewN | apply Kd.R_drew)); exact Kd.R_mono HO_32.out (fun _ hk => ⟨⟨hk.1, hk.2.2⟩, hk.2.1⟩)) hg hat); have n3_ := Aside0.mk (blk_grown (g := gb163) (o := .cells #[.int .u64 ((rd_T27 t153 x34_2).f0), .int .u64 ((rd_T27 t153 x34_2).f1)] 27 (0, 0)) (by (with_reducible repeat (first | refine blk_drewN ?_ _ | refine blk_drew ?_ | refine blk_alloc ?_ _)); exact BK163.out) hg (Kd.R_away HO_9.out (fun _ hk => hk.2.2.2))); have n4_ := Aside0.mk (blk_grown (g := gb166) (o := .cells #[.int .u64 t164, .int .u64 t165] 29 (0, 0)) (by (with_reducible repeat (first | refine blk_drewN ?_ _ | refine blk_drew ?_ | refine blk_alloc ?_ _)); exact BK166.out) hg (Kd.R_ne HO_9.out BK166.out (by decide))); have n5_ := Aside0.mk (hb); have n6_ := Aside0.mk (ho); clear HO_7; clear HO_8; clear HO_32; clear BK163; clear BK166; clear HB; clear HO_9; have HO_7 := n0_; have HO_8 := n1_; have HO_32 := n2_; have BK163 := n3_; have BK166 := n4_; have HB := n5_; have HO169 := n6_; clear n0_ n1_ n2_ n3_ n4_ n5_ n6_; clear ho hb hg hat))
                          go_roundg kj18
                          case measure => have := HJ3.out; have := HK2.out; have := HJ18.out; omega
                          case rel => exact ⟨(y167), (wrap64 (x34_2 + 1)), (by first | rfl | (simp; done) | (simp [*]; done)), H', ⟨by have := HJ3.out; have := HK2.out; have := HJ18.out; omega⟩, ⟨by (with_reducible repeat (first | apply Kd.R_alloc | apply Kd.R_drewN | apply Kd.R_drew)); exact Kd.R_mono HO_7.out (fun _ hk => ⟨hk.1.1, hk.2⟩)⟩, ⟨by (with_reducible repeat (first | apply Kd.R_alloc | apply Kd.R_drewN | apply Kd.R_drew)); exact Kd.R_mono HO_8.out (fun _ hk => ⟨hk.1.1, ⟨hk.2, hk.1.2.1⟩⟩)⟩, ⟨by (with_reducible repeat (first | apply Kd.R_alloc | apply Kd.R_drewN | apply Kd.R_drew)); exact Kd.R_mono HO169.out (fun _ hk => ⟨hk.1, ⟨hk.2.1, hk.2.2.1⟩⟩)⟩, ⟨by (with_reducible repeat (first | apply Kd.R_alloc | apply Kd.R_drewN | apply Kd.R_drew)); exact Kd.R_mono HO_32.out (fun _ hk => ⟨hk.1.1, hk.2⟩)⟩, ⟨by repeat (first | (with_reducible first | exact HB.out | apply below_alloc | apply pw_below_drewN | apply below_drew1 | refine below_set ?_ GE163.out | refine below_set ?_ GE166.out) | exact HB.out)⟩⟩
                        · rw [if_neg c32] at H
                          exact absurd H (by simp)
                      · replace c31 := Bool.eq_false_iff.mpr c31
                        subst c31
                        have H1 : ((spec_HasNode.f kj18 t159 ((rd_T27 t153 x34_2).f0) ((rd_T27 t153 x34_2).f1)).bind fun t170 => (if t170 = true then (laws_FnRangeNodesSplit.l0 kj18 a0 a1 a2 t153 t159 x9_2 t153 (t153.length : Int) (wrap64 (x34_2 + 1))) else (some false))) = some r := by rw [if_neg (show ¬ (false = true) by decide)] at H; exact H
                        clear H
                        have H := H1
                        clear H1
                        replace H := Option.bind_eq_some_iff.mp H
                        obtain ⟨t170, A360, H⟩ := H
                        replace H : (if t170 = true then (laws_FnRangeNodesSplit.l0 kj18 a0 a1 a2 t153 t159 x9_2 t153 (t153.length : Int) (wrap64 (x34_2 + 1))) else (some false)) = some r := H
                        have A36 := Aside0.mk A360
                        clear A360
                        by_cases c37 : t170 = true
                        · subst c37
                          have H1 : (laws_FnRangeNodesSplit.l0 kj18 a0 a1 a2 t153 t159 x9_2 t153 (t153.length : Int) (wrap64 (x34_2 + 1))) = some r := by rw [if_pos rfl] at H; exact H
                          clear H
                          have H := H1
                          clear H1
                          have H' := Aside0.mk H
                          clear H
                          have hnb38 := NB163_166.out
                          have hnc38 := NB166_163.out
                          have hcz39_0 : wc.cell? ⟨gb163, 0, none⟩ = some (.int .u64 ((rd_T27 t153 x34_2).f0)) := (blk_cell BK163.out 0).trans rfl
                          have hcz39_1 : wc.cell? ⟨gb163, 1, none⟩ = some (.int .u64 ((rd_T27 t153 x34_2).f1)) := (blk_cell BK163.out 1).trans rfl
                          have hfz39_0 := blk_frozen BK163.out 0
                          have hfz39_1 := blk_frozen BK163.out 1
                          obtain ⟨Ao40, co40, eo40⟩ := Kd.R_slice HO_8.out
                          subst eo40
                          go_wp2_with (first | ((with_reducible refine gate_callee (f := 9) rfl ?_); refine goesL_ (some 56) rfl rfl Tryd.func9 (by kernel_rfl) rfl #[.slice Ao40 t159.length co40, .agg #[.int .u64 ((rd_T27 t153 x34_2).f0), .int .u64 ((rd_T27 t153 x34_2).f1)]] rfl (by (try simp only [List.map_toArray, List.map_cons, List.map_nil]); first | done | rfl | (simp only [List.length_drop, List.length_take]; rfl)) ?_; (with_reducible refine (spec_HasNode.calls kj18 _ _ t159 ((rd_T27 t153 x34_2).f0) ((rd_T27 t153 x34_2).f1) true _ ?side1 ?side2 A36.out).mono ?_); (case side1 => repeat (first | exact (Kd.R_reads' HO_8.out).2.2 | (with_reducible refine Kd.C_alloc ?_ _) | (with_reducible refine Kd.C_drewN ?_ _) | (with_reducible refine Kd.C_drew ?_))); (case side2 => exact (Kd.R_reads' HO_8.out).2.1); rintro e w41 ⟨rfl, hb⟩; refine ⟨_, rfl, ?_⟩; have n0_ := Aside0.mk (Kd.R_below (by (with_reducible repeat (first | apply Kd.R_alloc | apply Kd.R_drewN | apply Kd.R_drew)); exact HO_7.out) hb); have n1_ := Aside0.mk (Kd.R_below (by (with_reducible repeat (first | apply Kd.R_alloc | apply Kd.R_drewN | apply Kd.R_drew)); exact HO_8.out) hb); have n2_ := Aside0.mk (Kd.R_below (by (with_reducible repeat (first | apply Kd.R_alloc | apply Kd.R_drewN | apply Kd.R_drew)); exact HO_9.out) hb); have n3_ := Aside0.mk (Kd.R_below (by (with_reducible repeat (first | apply Kd.R_alloc | apply Kd.R_drewN | apply Kd.R_drew)); exact HO_32.out) hb); have n4_ := Aside0.mk (blk_below (g := gb163) (o := .cells #[.int .u64 ((rd_T27 t153 x34_2).f0), .int .u64 ((rd_T27 t153 x34_2).f1)] 27 (0, 0)) (by (with_reducible repeat (first | refine blk_drewN ?_ _ | refine blk_drew ?_ | refine blk_alloc ?_ _)); exact BK163.out) hb); have n5_ := Aside0.mk (blk_below (g := gb166) (o := .cells #[.int .u64 t164, .int .u64 t165] 29 (0, 0)) (by (with_reducible repeat (first | refine blk_drewN ?_ _ | refine blk_drew ?_ | refine blk_alloc ?_ _)); exact BK166.out) hb); have n6_ := Aside0.mk (below_step (by repeat (first | (with_reducible first | exact HB.out | apply below_alloc | apply pw_below_drewN | apply below_drew1 | refine below_set ?_ GE163.out | refine below_set ?_ GE166.out) | exact HB.out)) hb); clear HO_7; clear HO_8; clear HO_9; clear HO_32; clear BK163; clear BK166; clear HB; have HO_7 := n0_; have HO_8 := n1_; have HO_9 := n2_; have HO_32 := n3_; have BK163 := n4_; have BK166 := n5_; have HB := n6_; clear n0_ n1_ n2_ n3_ n4_ n5_ n6_; (try clear hb); (try clear hb2); (try clear hk); (try clear hi)))
                          go_roundg kj18
                          case measure => have := HJ3.out; have := HK2.out; have := HJ18.out; omega
                          case rel => exact ⟨(x9_2), (wrap64 (x34_2 + 1)), (by first | rfl | (simp; done) | (simp [*]; done)), H', ⟨by have := HJ3.out; have := HK2.out; have := HJ18.out; omega⟩, ⟨by (with_reducible repeat (first | apply Kd.R_alloc | apply Kd.R_drewN | apply Kd.R_drew)); exact Kd.R_mono HO_7.out (fun _ hk => ⟨hk.1, hk.2.1⟩)⟩, ⟨by (with_reducible repeat (first | apply Kd.R_alloc | apply Kd.R_drewN | apply Kd.R_drew)); exact Kd.R_mono HO_8.out (fun _ hk => ⟨hk.1, ⟨hk.2.1, hk.2.2.1⟩⟩)⟩, ⟨by (with_reducible repeat (first | apply Kd.R_alloc | apply Kd.R_drewN | apply Kd.R_drew)); exact Kd.R_mono HO_9.out (fun _ hk => ⟨hk.1, ⟨hk.2.1, hk.2.2.1⟩⟩)⟩, ⟨by (with_reducible repeat (first | apply Kd.R_alloc | apply Kd.R_drewN | apply Kd.R_drew)); exact Kd.R_mono HO_32.out (fun _ hk => ⟨hk.1, hk.2.1⟩)⟩, ⟨by repeat (first | (with_reducible first | exact HB.out | apply below_alloc | apply pw_below_drewN | apply below_drew1 | refine below_set ?_ GE163.out | refine below_set ?_ GE166.out) | exact HB.out)⟩⟩
                        · replace c37 := Bool.eq_false_iff.mpr c37
                          subst c37
                          have H1 : (some false) = some r := by rw [if_neg (show ¬ (false = true) by decide)] at H; exact H
                          clear H
                          have H := H1
                          clear H1
                          obtain rfl := Option.some.inj H
                          have hnb42 := NB163_166.out
                          have hnc42 := NB166_163.out
                          have hcz43_0 : wc.cell? ⟨gb163, 0, none⟩ = some (.int .u64 ((rd_T27 t153 x34_2).f0)) := (blk_cell BK163.out 0).trans rfl
                          have hcz43_1 : wc.cell? ⟨gb163, 1, none⟩ = some (.int .u64 ((rd_T27 t153 x34_2).f1)) := (blk_cell BK163.out 1).trans rfl
                          have hfz43_0 := blk_frozen BK163.out 0
                          have hfz43_1 := blk_frozen BK163.out 1
                          obtain ⟨Ao44, co44, eo44⟩ := Kd.R_slice HO_8.out
                          subst eo44
                          go_wp2_with (first | ((with_reducible refine gate_callee (f := 9) rfl ?_); refine goesL_ (some 56) rfl rfl Tryd.func9 (by kernel_rfl) rfl #[.slice Ao44 t159.length co44, .agg #[.int .u64 ((rd_T27 t153 x34_2).f0), .int .u64 ((rd_T27 t153 x34_2).f1)]] rfl (by (try simp only [List.map_toArray, List.map_cons, List.map_nil]); first | done | rfl | (simp only [List.length_drop, List.length_take]; rfl)) ?_; (with_reducible refine (spec_HasNode.calls kj18 _ _ t159 ((rd_T27 t153 x34_2).f0) ((rd_T27 t153 x34_2).f1) false _ ?side1 ?side2 A36.out).mono ?_); (case side1 => repeat (first | exact (Kd.R_reads' HO_8.out).2.2 | (with_reducible refine Kd.C_alloc ?_ _) | (with_reducible refine Kd.C_drewN ?_ _) | (with_reducible refine Kd.C_drew ?_))); (case side2 => exact (Kd.R_reads' HO_8.out).2.1); rintro e w45 ⟨rfl, hb⟩; refine ⟨_, rfl, ?_⟩; have n0_ := Aside0.mk (Kd.R_below (by (with_reducible repeat (first | apply Kd.R_alloc | apply Kd.R_drewN | apply Kd.R_drew)); exact HO_7.out) hb); have n1_ := Aside0.mk (Kd.R_below (by (with_reducible repeat (first | apply Kd.R_alloc | apply Kd.R_drewN | apply Kd.R_drew)); exact HO_8.out) hb); have n2_ := Aside0.mk (Kd.R_below (by (with_reducible repeat (first | apply Kd.R_alloc | apply Kd.R_drewN | apply Kd.R_drew)); exact HO_9.out) hb); have n3_ := Aside0.mk (Kd.R_below (by (with_reducible repeat (first | apply Kd.R_alloc | apply Kd.R_drewN | apply Kd.R_drew)); exact HO_32.out) hb); have n4_ := Aside0.mk (blk_below (g := gb163) (o := .cells #[.int .u64 ((rd_T27 t153 x34_2).f0), .int .u64 ((rd_T27 t153 x34_2).f1)] 27 (0, 0)) (by (with_reducible repeat (first | refine blk_drewN ?_ _ | refine blk_drew ?_ | refine blk_alloc ?_ _)); exact BK163.out) hb); have n5_ := Aside0.mk (blk_below (g := gb166) (o := .cells #[.int .u64 t164, .int .u64 t165] 29 (0, 0)) (by (with_reducible repeat (first | refine blk_drewN ?_ _ | refine blk_drew ?_ | refine blk_alloc ?_ _)); exact BK166.out) hb); have n6_ := Aside0.mk (below_step (by repeat (first | (with_reducible first | exact HB.out | apply below_alloc | apply pw_below_drewN | apply below_drew1 | refine below_set ?_ GE163.out | refine below_set ?_ GE166.out) | exact HB.out)) hb); clear HO_7; clear HO_8; clear HO_9; clear HO_32; clear BK163; clear BK166; clear HB; have HO_7 := n0_; have HO_8 := n1_; have HO_9 := n2_; have HO_32 := n3_; have BK163 := n4_; have BK166 := n5_; have HB := n6_; clear n0_ n1_ n2_ n3_ n4_ n5_ n6_; (try clear hb); (try clear hb2); (try clear hk); (try clear hi)))
                          go_ret
                          exact ⟨by first | rfl | (simp [errW_none, errW_some] <;> rfl) | (simp [*, errW_none, errW_some] <;> rfl), by repeat (first | (with_reducible first | exact HB.out | apply below_alloc | apply pw_below_drewN | apply below_drew1 | refine below_set ?_ GE163.out | refine below_set ?_ GE166.out) | exact HB.out)⟩
                · rw [if_neg c17] at H
                  exact absurd H (by simp)
              · rw [if_neg c16] at H
                exact absurd H (by simp)
            · rw [if_neg c15] at H
              have c15b0 : decide (x34_2 < (t153.length : Int)) = false := decide_eq_false c15
              clear c15
              have H' := Aside0.mk H
              clear H
              obtain ⟨Ao46, co46, eo46⟩ := Kd.R_slice HO_8.out
              subst eo46
              go_wp2
              (try simp only [Act.put, List.setIfInBounds_toArray, List.set_cons_zero, List.set_cons_succ])
              go_loopg [61] k2 (fun kq v61 w' => ∃ (x61_3 : Int), v61 = .int .i64 x61_3 ∧ Aside0 (laws_FnRangeNodesSplit.l1 kq a0 a2 t153 t159 x9_2 t159 (t159.length : Int) x61_3 = some r) ∧ Aside0 (kq ≤ k2) ∧ Aside0 (Kd.R k27 27 w' w.heap.size (fun k_ => some k_ ≠ ((.slice Ao46 t159.length co46) : Value).ownBlock ∧ some k_ ≠ (u9 : Value).ownBlock ∧ some k_ ≠ ((.slice Ao46 t159.length co46) : Value).ownBlock) (.slice Ao14 t153.length co14) t153) ∧ Aside0 (Kd.R k27 27 w' w.heap.size (fun k_ => some k_ ≠ ((.slice Ao14 t153.length co14) : Value).ownBlock ∧ some k_ ≠ (u9 : Value).ownBlock) (.slice Ao46 t159.length co46) t159) ∧ Aside0 (Kd.R k27 27 w' w.heap.size (fun k_ => some k_ ≠ ((.slice Ao14 t153.length co14) : Value).ownBlock ∧ some k_ ≠ ((.slice Ao46 t159.length co46) : Value).ownBlock ∧ some k_ ≠ ((.slice Ao46 t159.length co46) : Value).ownBlock) u9 x9_2) ∧ Aside0 (Kd.R k27 27 w' w.heap.size (fun k_ => some k_ ≠ ((.slice Ao14 t153.length co14) : Value).ownBlock ∧ some k_ ≠ (u9 : Value).ownBlock) (.slice Ao46 t159.length co46) t159) ∧ Aside0 (Below w.heap.size w w'))
              case atStart => exact ⟨(0), (by first | rfl | (simp; done) | (simp [*]; done)), H', ⟨Nat.le_refl _⟩, ⟨by (with_reducible repeat (first | apply Kd.R_alloc | apply Kd.R_drewN | apply Kd.R_drew)); exact Kd.R_mono HO_7.out (fun _ hk => ⟨hk.1, ⟨hk.2, hk.1⟩⟩)⟩, ⟨by (with_reducible repeat (first | apply Kd.R_alloc | apply Kd.R_drewN | apply Kd.R_drew)); exact Kd.R_mono HO_8.out (fun _ hk => ⟨hk.1, hk.2.1⟩)⟩, ⟨by (with_reducible repeat (first | apply Kd.R_alloc | apply Kd.R_drewN | apply Kd.R_drew)); exact Kd.R_mono HO_9.out (fun _ hk => ⟨hk.1, ⟨hk.2.1, hk.2.1⟩⟩)⟩, ⟨by (with_reducible repeat (first | apply Kd.R_alloc | apply Kd.R_drewN | apply Kd.R_drew)); exact Kd.R_mono HO_8.out (fun _ hk => ⟨hk.1, hk.2.1⟩)⟩, ⟨by repeat (first | (with_reducible first | exact HB.out | apply below_alloc | apply pw_below_drewN | apply below_drew1) | exact HB.out)⟩⟩
              case round =>
                clear H'
                try clear c1
                try clear p1
                try clear q1
                try clear hx1
                try clear c2
                try clear p2
                try clear c3
                try clear c4
                try clear c5
                try clear c5b0
                try clear c6
                try clear p6
                try clear c7
                try clear c8
                try clear c9
                try clear c15
                try clear c15b0
                try clear c16
                try clear c16b0
                try clear p16
                try clear q16
                try clear hx16
                try clear c17
                try clear c17b0
                try clear c24
                try clear c26
                try clear c26b0
                try clear c27
                try clear c29
                try clear c31
                try clear c32
                try clear c33
                try clear c37
                try clear c38
                try clear c42
                try clear hcz21_0
                try clear hcz21_1
                try clear hcz25_0
                try clear hcz25_1
                try clear hcz28_0
                try clear hcz28_1
                try clear hcz30_0
                try clear hcz30_1
                try clear hcz34_0
                try clear hcz34_1
                try clear hcz39_0
                try clear hcz39_1
                try clear hcz43_0
                try clear hcz43_1
                try clear hfz21_0
                try clear hfz21_1
                try clear hfz25_0
                try clear hfz25_1
                try clear hfz28_0
                try clear hfz28_1
                try clear hfz30_0
                try clear hfz30_1
                try clear hfz34_0
                try clear hfz34_1
                try clear hfz39_0
                try clear hfz39_1
                try clear hfz43_0
                try clear hfz43_1
                try clear hx162_0
                try clear hx162_1
                try clear p1
                try clear p16
                try clear p162
                try clear p2
                try clear q1
                try clear q16
                try clear q162
                obtain ⟨x61_3, rfl, HA, HK3, HO_7, HO_8, HO_9, HO_59, HB⟩ := hrel
                cases gk with
                | zero => exact absurd HA.out (by simp [laws_FnRangeNodesSplit.l1])
                | succ k3 =>
                  have H := HA.out
                  clear HA
                  simp only [laws_FnRangeNodesSplit.l1] at H
                  by_cases c47 : x61_3 < (t159.length : Int)
                  · rw [if_pos c47] at H
                    have c47b0 : decide (x61_3 < (t159.length : Int)) = true := decide_eq_true c47
                    clear c47
                    by_cases c48 : 0 ≤ x61_3
                    · rw [if_pos c48] at H
                      have c48b0 : decide (0 ≤ x61_3) = true := decide_eq_true c48
                      clear c48
                      by_cases c49 : x61_3 < (t159.length : Int)
                      · rw [if_pos c49] at H
                        have c49b0 : decide (x61_3 < (t159.length : Int)) = true := decide_eq_true c49
                        clear c49
                        replace H := Option.bind_eq_some_iff.mp H
                        obtain ⟨t173, A500, H⟩ := H
                        replace H : (if t173 = true then (laws_FnRangeNodesSplit.l1 k3 a0 a2 t153 t159 x9_2 t159 (t159.length : Int) (wrap64 (x61_3 + 1))) else (if (x9_2.length : Int) = 1 then (if 0 < (x9_2.length : Int) then (if ((rd_T27 t159 x61_3).f0) ≥ ((rd_T27 x9_2 0).f0) then (some false) else (if 0 ≤ (IntKind.u64.wrap (((rd_T27 x9_2 0).f0) - ((rd_T27 t159 x61_3).f0))) then (if (shr .u64 ((rd_T27 t159 x61_3).f1) (IntKind.u64.wrap (((rd_T27 x9_2 0).f0) - ((rd_T27 t159 x61_3).f0)))) = ((rd_T27 x9_2 0).f1) then (laws_FnRangeNodesSplit.l1 k3 a0 a2 t153 t159 x9_2 t159 (t159.length : Int) (wrap64 (x61_3 + 1))) else (some false)) else (none))) else (none)) else (some false))) = some r := H
                        have A50 := Aside0.mk A500
                        clear A500
                        by_cases c51 : t173 = true
                        · subst c51
                          have H1 : (laws_FnRangeNodesSplit.l1 k3 a0 a2 t153 t159 x9_2 t159 (t159.length : Int) (wrap64 (x61_3 + 1))) = some r := by rw [if_pos rfl] at H; exact H
                          clear H
                          have H := H1
                          clear H1
                          have H' := Aside0.mk H
                          clear H
                          have p171 : 0 ≤ (x61_3 : Int) := of_decide_eq_true (by first | (with_reducible assumption) | assumption)
                          have q171 : x61_3 < (t159.length : Int) := of_decide_eq_true (by first | (with_reducible assumption) | assumption)
                          obtain ⟨ad171, e171, hx171_0, hx171_1⟩ := at_T27 (Kd.R_reads' HO_59.out).2.2 x61_3 p171 q171
                          cases e171
                          replace p171 := eq_true p171
                          replace q171 := eq_true q171
                          try go_wp2_with (first | ((with_reducible refine gate_dst (N := 14) rfl ?_); (try (refine gate_guard (by rfl) ?_; dsimp only)); refine box_event ?hg (N := 14) ?hd (cs := #[.int .u64 0, .int .u64 0]) (t := 27) ?hr ?_; (case hd => rfl); (case hg => rfl); (case hr => first | (go_simp; done) | (go_simp; rfl)); intro gb172 hg w52 hbox hb; have n0_ := Aside0.mk (Kd.R_below (Kd.R_elderB (by (with_reducible repeat (first | apply Kd.R_alloc | apply Kd.R_drewN | apply Kd.R_drew)); exact HO_7.out) gb172 (Nat.le_of_eq hg.symm)) hb); have n1_ := Aside0.mk (Kd.R_below (Kd.R_elderB (by (with_reducible repeat (first | apply Kd.R_alloc | apply Kd.R_drewN | apply Kd.R_drew)); exact HO_8.out) gb172 (Nat.le_of_eq hg.symm)) hb); have n2_ := Aside0.mk (Kd.R_below (Kd.R_elderB (by (with_reducible repeat (first | apply Kd.R_alloc | apply Kd.R_drewN | apply Kd.R_drew)); exact HO_9.out) gb172 (Nat.le_of_eq hg.symm)) hb); have n3_ := Aside0.mk (Kd.R_below (Kd.R_elderB (by (with_reducible repeat (first | apply Kd.R_alloc | apply Kd.R_drewN | apply Kd.R_drew)); exact HO_59.out) gb172 (Nat.le_of_eq hg.symm)) hb); have n4_ := Aside0.mk (below_step (by repeat (first | (with_reducible first | exact HB.out | apply below_alloc | apply pw_below_drewN | apply below_drew1) | exact HB.out)) hb); have n5_ := Aside0.mk (hbox); have n6_ := Aside0.mk ((by rw [hg]; exact (below_size (by repeat (first | (with_reducible first | exact HB.out | apply below_alloc | apply pw_below_drewN | apply below_drew1) | exact HB.out))) : w.heap.size ≤ gb172)); have n7_ := Aside0.mk ((by rw [hg]; exact (below_size (by repeat (first | (with_reducible first | exact HB.out | apply below_alloc | apply pw_below_drewN | apply below_drew1) | exact HB.out))) : w.heap.size ≤ gb172)); clear HO_7; clear HO_8; clear HO_9; clear HO_59; clear HB; have HO_7 := n0_; have HO_8 := n1_; have HO_9 := n2_; have HO_59 := n3_; have HB := n4_; have BK172 := n5_; have GW172 := n6_; have GE172 := n7_; clear n0_ n1_ n2_ n3_ n4_ n5_ n6_ n7_; clear hb hbox hg; have hcz53_0 : w52.cell? ⟨gb172, 0, none⟩ = some (.int .u64 0) := (blk_cell BK172.out 0).trans rfl; have hcz53_1 : w52.cell? ⟨gb172, 1, none⟩ = some (.int .u64 0) := (blk_cell BK172.out 1).trans rfl; have hfz53_0 := blk_frozen BK172.out 0; have hfz53_1 := blk_frozen BK172.out 1))
                          have n0_ : Aside0 (Kd.R k27 27 ((w52.setCell ⟨gb172, 0, none⟩ (.int .u64 ((rd_T27 t159 x61_3).f0))).setCell ⟨gb172, 1, none⟩ (.int .u64 ((rd_T27 t159 x61_3).f1))) w.heap.size (fun k_ => some k_ ≠ (.slice (some ad171) t159.length co46 : Value).ownBlock ∧ some k_ ≠ (u9 : Value).ownBlock ∧ some k_ ≠ (.slice (some ad171) t159.length co46 : Value).ownBlock ∧ k_ ≠ gb172) (.slice Ao14 t153.length co14) t153) := ⟨by (with_reducible repeat (first | apply Kd.R_alloc | apply Kd.R_drewN | apply Kd.R_drew)); exact Kd.R_mono (Kd.R_far (p := ⟨gb172, 1, none⟩) (Kd.R_far (p := ⟨gb172, 0, none⟩) (Kd.R_mono HO_7.out (fun k_ hk => (⟨hk, hk.2⟩ : _ ∧ k_ ≠ gb172))) (fun _ hk => hk.2) (.int .u64 ((rd_T27 t159 x61_3).f0))) (fun _ hk => hk.2) (.int .u64 ((rd_T27 t159 x61_3).f1))) (fun _ hk => ⟨hk.1.1.1, ⟨hk.1.1.2.1, ⟨hk.1.1.2.2, hk.1.2⟩⟩⟩)⟩
                          have n1_ : Aside0 (Kd.R k27 27 ((w52.setCell ⟨gb172, 0, none⟩ (.int .u64 ((rd_T27 t159 x61_3).f0))).setCell ⟨gb172, 1, none⟩ (.int .u64 ((rd_T27 t159 x61_3).f1))) w.heap.size (fun k_ => some k_ ≠ (.slice Ao14 t153.length co14 : Value).ownBlock ∧ some k_ ≠ (u9 : Value).ownBlock ∧ k_ ≠ gb172) (.slice (some ad171) t159.length co46) t159) := ⟨by (with_reducible repeat (first | apply Kd.R_alloc | apply Kd.R_drewN | apply Kd.R_drew)); exact Kd.R_mono (Kd.R_far (p := ⟨gb172, 1, none⟩) (Kd.R_far (p := ⟨gb172, 0, none⟩) (Kd.R_mono HO_8.out (fun k_ hk => (⟨hk, hk.2⟩ : _ ∧ k_ ≠ gb172))) (fun _ hk => hk.2) (.int .u64 ((rd_T27 t159 x61_3).f0))) (fun _ hk => hk.2) (.int .u64 ((rd_T27 t159 x61_3).f1))) (fun _ hk => ⟨hk.1.1.1, ⟨hk.1.1.2, hk.1.2⟩⟩)⟩
                          have n2_ : Aside0 (Kd.R k27 27 ((w52.setCell ⟨gb172, 0, none⟩ (.int .u64 ((rd_T27 t159 x61_3).f0))).setCell ⟨gb172, 1, none⟩ (.int .u64 ((rd_T27 t159 x61_3).f1))) w.heap.size (fun k_ => some k_ ≠ (.slice Ao14 t153.length co14 : Value).ownBlock ∧ some k_ ≠ (.slice (some ad171) t159.length co46 : Value).ownBlock ∧ some k_ ≠ (.slice (some ad171) t159.length co46 : Value).ownBlock ∧ k_ ≠ gb172) u9 x9_2) := ⟨by (with_reducible repeat (first | apply Kd.R_alloc | apply Kd.R_drewN | apply Kd.R_drew)); exact Kd.R_mono (Kd.R_far (p := ⟨gb172, 1, none⟩) (Kd.R_far (p := ⟨gb172, 0, none⟩) (Kd.R_mono HO_9.out (fun k_ hk => (⟨hk, hk.2⟩ : _ ∧ k_ ≠ gb172))) (fun _ hk => hk.2) (.int .u64 ((rd_T27 t159 x61_3).f0))) (fun _ hk => hk.2) (.int .u64 ((rd_T27 t159 x61_3).f1))) (fun _ hk => ⟨hk.1.1.1, ⟨hk.1.1.2.1, ⟨hk.1.1.2.2, hk.1.2⟩⟩⟩)⟩
                          have n3_ : Aside0 (Kd.R k27 27 ((w52.setCell ⟨gb172, 0, none⟩ (.int .u64 ((rd_T27 t159 x61_3).f0))).setCell ⟨gb172, 1, none⟩ (.int .u64 ((rd_T27 t159 x61_3).f1))) w.heap.size (fun k_ => some k_ ≠ (.slice Ao14 t153.length co14 : Value).ownBlock ∧ some k_ ≠ (u9 : Value).ownBlock ∧ k_ ≠ gb172) (.slice (some ad171) t159.length co46) t159) := ⟨by (with_reducible repeat (first | apply Kd.R_alloc | apply Kd.R_drewN | apply Kd.R_drew)); exact Kd.R_mono (Kd.R_far (p := ⟨gb172, 1, none⟩) (Kd.R_far (p := ⟨gb172, 0, none⟩) (Kd.R_mono HO_59.out (fun k_ hk => (⟨hk, hk.2⟩ : _ ∧ k_ ≠ gb172))) (fun _ hk => hk.2) (.int .u64 ((rd_T27 t159 x61_3).f0))) (fun _ hk => hk.2) (.int .u64 ((rd_T27 t159 x61_3).f1))) (fun _ hk => ⟨hk.1.1.1, ⟨hk.1.1.2, hk.1.2⟩⟩)⟩
                          have n4_ : Aside0 (((w52.setCell ⟨gb172, 0, none⟩ (.int .u64 ((rd_T27 t159 x61_3).f0))).setCell ⟨gb172, 1, none⟩ (.int .u64 ((rd_T27 t159 x61_3).f1))).heap[gb172]? = some (.cells #[.int .u64 ((rd_T27 t159 x61_3).f0), .int .u64 ((rd_T27 t159 x61_3).f1)] 27 (0, 0))) := ⟨by (with_reducible repeat (first | refine blk_drewN ?_ _ | refine blk_drew ?_ | refine blk_alloc ?_ _)); refine blk_put (cs := #[.int .u64 ((rd_T27 t159 x61_3).f0), .int .u64 0]) ?_ 1 _ rfl; (with_reducible repeat (first | refine blk_drewN ?_ _ | refine blk_drew ?_ | refine blk_alloc ?_ _)); refine blk_put (cs := #[.int .u64 0, .int .u64 0]) ?_ 0 _ rfl; (with_reducible repeat (first | refine blk_drewN ?_ _ | refine blk_drew ?_ | refine blk_alloc ?_ _)); exact BK172.out⟩
                          have n5_ : Aside0 (Below w.heap.size w ((w52.setCell ⟨gb172, 0, none⟩ (.int .u64 ((rd_T27 t159 x61_3).f0))).setCell ⟨gb172, 1, none⟩ (.int .u64 ((rd_T27 t159 x61_3).f1)))) := ⟨by repeat (first | (with_reducible first | exact HB.out | apply below_alloc | apply pw_below_drewN | apply below_drew1 | refine below_set ?_ GE172.out) | exact HB.out)⟩
                          (try clear HO_7)
                          (try clear HO_8)
                          (try clear HO_9)
                          (try clear HO_59)
                          (try clear BK172)
                          (try clear HB)
                          generalize ((w52.setCell ⟨gb172, 0, none⟩ (.int .u64 ((rd_T27 t159 x61_3).f0))).setCell ⟨gb172, 1, none⟩ (.int .u64 ((rd_T27 t159 x61_3).f1))) = w54 at n0_ n1_ n2_ n3_ n4_ n5_ ⊢
                          have HO_7 := n0_
                          have HO_8 := n1_
                          have HO_9 := n2_
                          have HO_59 := n3_
                          have BK172 := n4_
                          have HB := n5_
                          clear n0_ n1_ n2_ n3_ n4_ n5_
                          have n0_ := Aside0.mk (Kd.R_drew HO_7.out)
                          have n1_ := Aside0.mk (Kd.R_drew HO_8.out)
                          have n2_ := Aside0.mk (Kd.R_drew HO_9.out)
                          have n3_ := Aside0.mk (Kd.R_drew HO_59.out)
                          have n4_ := Aside0.mk (blk_drew BK172.out)
                          have n5_ := Aside0.mk (below_drew1 HB.out)
                          clear HO_7
                          clear HO_8
                          clear HO_9
                          clear HO_59
                          clear BK172
                          clear HB
                          have HO_7 := n0_
                          have HO_8 := n1_
                          have HO_9 := n2_
                          have HO_59 := n3_
                          have BK172 := n4_
                          have HB := n5_
                          clear n0_ n1_ n2_ n3_ n4_ n5_
                          refine start_ (n := 35) (S := fun w' => w'.cell? ⟨gb172, 0, none⟩ = some (.int .u64 ((rd_T27 t159 x61_3).f0)) ∧ w'.cell? ⟨gb172, 1, none⟩ = some (.int .u64 ((rd_T27 t159 x61_3).f1))) (ds := []) #[false, false, false, false, false, false, false, false, false, false, false, false, false, false, false, false, false, false, false, false, false, false, false, false, false, false, false, false, false, false, false, false, false, false, false] (by kernel_rfl) rfl rfl ⟨(blk_cell BK172.out 0).trans rfl, (blk_cell BK172.out 1).trans rfl⟩ (fun hHeld => ?_); refine with_tabW laws_FnRangeNodesSplit.tab17 laws_FnRangeNodesSplit.bits17 (fun HT_ HW_ => ?_)
                          generalize w54.drew = w55 at HO_7 HO_8 HO_9 HO_59 BK172 HB hHeld ⊢
                          refine pure_ (i := 0) (N := some 65) (v := ?_) (a' := ?_) #[true, false, false, false, false, false, false, false, false, false, false, false, false, false, false, false, false, false, false, false, false, false, false, false, false, false, false, false, false, false, false, false, false, false, false] rfl rfl (any_of HT_.out (by kernel_rfl)) (fun _ _ _ h => h) (Or.inl ⟨by rfl, ?_⟩) ?_ ?_
                          rotate_left
                          · intro w'
                            go_simp
                            with_reducible rfl
                          rotate_left
                          · simp only [Act.put, List.setIfInBounds_toArray, List.set_cons_zero, List.set_cons_succ, i64_w, i32_w]
                            rfl
                          refine take_ (i := 1) (N := some 66) (v := ?_) (a' := ?_) #[true, true, false, false, false, false, false, false, false, false, false, false, false, false, false, false, false, false, false, false, false, false, false, false, false, false, false, false, false, false, false, false, false, false, false] rfl rfl (take_ofW HT_.out HW_.out (by kernel_rfl)) (fun _ _ _ h => h) (Or.inl ⟨by rfl, ?_⟩) hHeld ?_ ?_
                          rotate_left
                          · rintro w' ⟨s0, s1⟩
                            go_simp
                            with_reducible rfl
                          rotate_left
                          · simp only [Act.put, List.setIfInBounds_toArray, List.set_cons_zero, List.set_cons_succ, i64_w, i32_w]
                            rfl
                          refine one_ (i := 2) (N := some 67) #[true, true, true, false, false, false, false, false, false, false, false, false, false, false, false, false, false, false, false, false, false, false, false, false, false, false, false, false, false, false, false, false, false, false, false] rfl rfl (one_of HT_.out (by kernel_rfl)) (by decide) (fun K hK => ?_)
                          refine goes_ Tryd.func9 (by kernel_rfl) rfl #[.slice Ao14 t153.length co14, .agg #[.int .u64 ((rd_T27 t159 x61_3).f0), .int .u64 ((rd_T27 t159 x61_3).f1)]] (by rfl) rfl rfl (by (try simp only [List.map_toArray, List.map_cons, List.map_nil]); first | done | rfl | (simp only [List.length_drop, List.length_take]; rfl)) ?_
                          with_reducible refine (spec_HasNode.calls k3 _ _ t153 ((rd_T27 t159 x61_3).f0) ((rd_T27 t159 x61_3).f1) true _ ?side1 ?side2 A50.out).mono ?_
                          (case side1 => repeat (first | exact (Kd.R_reads' HO_7.out).2.2 | (with_reducible refine Kd.C_alloc ?_ _) | (with_reducible refine Kd.C_drewN ?_ _) | (with_reducible refine Kd.C_drew ?_)))
                          (case side2 => exact (Kd.R_reads' HO_7.out).2.1)
                          rintro e w56 ⟨rfl, hb⟩
                          refine ⟨_, rfl, ?_⟩
                          have n0_ := Aside0.mk (Kd.R_below (by (with_reducible repeat (first | apply Kd.R_alloc | apply Kd.R_drewN | apply Kd.R_drew)); exact HO_7.out) hb)
                          have n1_ := Aside0.mk (Kd.R_below (by (with_reducible repeat (first | apply Kd.R_alloc | apply Kd.R_drewN | apply Kd.R_drew)); exact HO_8.out) hb)
                          have n2_ := Aside0.mk (Kd.R_below (by (with_reducible repeat (first | apply Kd.R_alloc | apply Kd.R_drewN | apply Kd.R_drew)); exact HO_9.out) hb)
                          have n3_ := Aside0.mk (Kd.R_below (by (with_reducible repeat (first | apply Kd.R_alloc | apply Kd.R_drewN | apply Kd.R_drew)); exact HO_59.out) hb)
                          have n4_ := Aside0.mk (blk_below (g := gb172) (o := .cells #[.int .u64 ((rd_T27 t159 x61_3).f0), .int .u64 ((rd_T27 t159 x61_3).f1)] 27 (0, 0)) (by (with_reducible repeat (first | refine blk_drewN ?_ _ | refine blk_drew ?_ | refine blk_alloc ?_ _)); exact BK172.out) hb)
                          have n5_ := Aside0.mk (below_step (by repeat (first | (with_reducible first | exact HB.out | apply below_alloc | apply pw_below_drewN | apply below_drew1 | refine below_set ?_ GE172.out) | exact HB.out)) hb)
                          clear HO_7
                          clear HO_8
                          clear HO_9
                          clear HO_59
                          clear BK172
                          clear HB
                          have HO_7 := n0_
                          have HO_8 := n1_
                          have HO_9 := n2_
                          have HO_59 := n3_
                          have BK172 := n4_
                          have HB := n5_
                          clear n0_ n1_ n2_ n3_ n4_ n5_
                          (try clear hb)
                          (try clear hb2)
                          (try clear hk)
                          (try clear hi)
                          refine hK.out _ _ ⟨(blk_cell BK172.out 0).trans rfl, (blk_cell BK172.out 1).trans rfl⟩ (fun hHeld => ?_)
                          clear hK K
                          refine norm_ (a' := ?_) ?_ ?_
                          rotate_left
                          · show Act.put _ (some 67) _ = _
                            simp only [Act.put, List.setIfInBounds_toArray, List.set_cons_zero, List.set_cons_succ, i64_w, i32_w]
                            rfl
                          refine pure_ (i := 3) (N := some 68) (v := ?_) (a' := ?_) #[true, true, true, true, false, false, false, false, false, false, false, false, false, false, false, false, false, false, false, false, false, false, false, false, false, false, false, false, false, false, false, false, false, false, false] rfl rfl (any_of HT_.out (by kernel_rfl)) (fun _ _ _ h => h) (Or.inl ⟨by rfl, ?_⟩) ?_ ?_
                          rotate_left
                          · intro w'
                            go_simp
                            with_reducible rfl
                          rotate_left
                          · simp only [Act.put, List.setIfInBounds_toArray, List.set_cons_zero, List.set_cons_succ, i64_w, i32_w]
                            rfl
                          refine pure_ (i := 4) (N := some 69) (v := ?_) (a' := ?_) #[true, true, true, true, true, false, false, false, false, false, false, false, false, false, false, false, false, false, false, false, false, false, false, false, false, false, false, false, false, false, false, false, false, false, false] rfl rfl (any_of HT_.out (by kernel_rfl)) (fun _ _ _ h => h) (Or.inl ⟨by rfl, ?_⟩) ?_ ?_
                          rotate_left
                          · intro w'
                            go_simp
                            with_reducible rfl
                          rotate_left
                          · simp only [Act.put, List.setIfInBounds_toArray, List.set_cons_zero, List.set_cons_succ, i64_w, i32_w]
                            rfl
                          refine pure_ (i := 5) (N := some 70) (v := undef) (a' := ?_) #[true, true, true, true, true, true, false, false, false, false, false, false, false, false, false, false, false, false, false, false, false, false, false, false, false, false, false, false, false, false, false, false, false, false, false] rfl rfl (any_of HT_.out (by kernel_rfl)) (fun _ _ _ h => h) (Or.inr ⟨by rfl, rfl⟩) ?_ ?_
                          rotate_left
                          · simp only [Act.put, List.setIfInBounds_toArray, List.set_cons_zero, List.set_cons_succ, i64_w, i32_w]
                            rfl
                          refine pure_ (i := 6) (N := some 71) (v := undef) (a' := ?_) #[true, true, true, true, true, true, true, false, false, false, false, false, false, false, false, false, false, false, false, false, false, false, false, false, false, false, false, false, false, false, false, false, false, false, false] rfl rfl (any_of HT_.out (by kernel_rfl)) (fun _ _ _ h => h) (Or.inr ⟨by rfl, rfl⟩) ?_ ?_
                          rotate_left
                          · simp only [Act.put, List.setIfInBounds_toArray, List.set_cons_zero, List.set_cons_succ, i64_w, i32_w]
                            rfl
                          refine pure_ (i := 7) (N := some 72) (v := undef) (a' := ?_) #[true, true, true, true, true, true, true, true, false, false, false, false, false, false, false, false, false, false, false, false, false, false, false, false, false, false, false, false, false, false, false, false, false, false, false] rfl rfl (any_of HT_.out (by kernel_rfl)) (fun _ _ _ h => h) (Or.inr ⟨by rfl, rfl⟩) ?_ ?_
                          rotate_left
                          · simp only [Act.put, List.setIfInBounds_toArray, List.set_cons_zero, List.set_cons_succ, i64_w, i32_w]
                            rfl
                          refine pure_ (i := 8) (N := some 73) (v := undef) (a' := ?_) #[true, true, true, true, true, true, true, true, true, false, false, false, false, false, false, false, false, false, false, false, false, false, false, false, false, false, false, false, false, false, false, false, false, false, false] rfl rfl (any_of HT_.out (by kernel_rfl)) (fun _ _ _ h => h) (Or.inr ⟨by rfl, rfl⟩) ?_ ?_
                          rotate_left
                          · simp only [Act.put, List.setIfInBounds_toArray, List.set_cons_zero, List.set_cons_succ, i64_w, i32_w]
                            rfl
                          refine pure_ (i := 9) (N := some 74) (v := undef) (a' := ?_) #[true, true, true, true, true, true, true, true, true, true, false, false, false, false, false, false, false, false, false, false, false, false, false, false, false, false, false, false, false, false, false, false, false, false, false] rfl rfl (any_of HT_.out (by kernel_rfl)) (fun _ _ _ h => h) (Or.inr ⟨by rfl, rfl⟩) ?_ ?_
                          rotate_left
                          · simp only [Act.put, List.setIfInBounds_toArray, List.set_cons_zero, List.set_cons_succ, i64_w, i32_w]
                            rfl
                          refine pure_ (i := 10) (N := some 75) (v := undef) (a' := ?_) #[true, true, true, true, true, true, true, true, true, true, true, false, false, false, false, false, false, false, false, false, false, false, false, false, false, false, false, false, false, false, false, false, false, false, false] rfl rfl (any_of HT_.out (by kernel_rfl)) (fun _ _ _ h => h) (Or.inr ⟨by rfl, rfl⟩) ?_ ?_
                          rotate_left
                          · simp only [Act.put, List.setIfInBounds_toArray, List.set_cons_zero, List.set_cons_succ, i64_w, i32_w]
                            rfl
                          refine pure_ (i := 11) (N := some 76) (v := undef) (a' := ?_) #[true, true, true, true, true, true, true, true, true, true, true, true, false, false, false, false, false, false, false, false, false, false, false, false, false, false, false, false, false, false, false, false, false, false, false] rfl rfl (any_of HT_.out (by kernel_rfl)) (fun _ _ _ h => h) (Or.inr ⟨by rfl, rfl⟩) ?_ ?_
                          rotate_left
                          · simp only [Act.put, List.setIfInBounds_toArray, List.set_cons_zero, List.set_cons_succ, i64_w, i32_w]
                            rfl
                          refine pure_ (i := 12) (N := some 77) (v := undef) (a' := ?_) #[true, true, true, true, true, true, true, true, true, true, true, true, true, false, false, false, false, false, false, false, false, false, false, false, false, false, false, false, false, false, false, false, false, false, false] rfl rfl (any_of HT_.out (by kernel_rfl)) (fun _ _ _ h => h) (Or.inr ⟨by rfl, rfl⟩) ?_ ?_
                          rotate_left
                          · simp only [Act.put, List.setIfInBounds_toArray, List.set_cons_zero, List.set_cons_succ, i64_w, i32_w]
                            rfl
                          refine pure_ (i := 13) (N := some 78) (v := undef) (a' := ?_) #[true, true, true, true, true, true, true, true, true, true, true, true, true, true, false, false, false, false, false, false, false, false, false, false, false, false, false, false, false, false, false, false, false, false, false] rfl rfl (any_of HT_.out (by kernel_rfl)) (fun _ _ _ h => h) (Or.inr ⟨by rfl, rfl⟩) ?_ ?_
                          rotate_left
                          · simp only [Act.put, List.setIfInBounds_toArray, List.set_cons_zero, List.set_cons_succ, i64_w, i32_w]
                            rfl
                          refine pure_ (i := 14) (N := some 79) (v := undef) (a' := ?_) #[true, true, true, true, true, true, true, true, true, true, true, true, true, true, true, false, false, false, false, false, false, false, false, false, false, false, false, false, false, false, false, false, false, false, false] rfl rfl (any_of HT_.out (by kernel_rfl)) (fun _ _ _ h => h) (Or.inr ⟨by rfl, rfl⟩) ?_ ?_
                          rotate_left
                          · simp only [Act.put, List.setIfInBounds_toArray, List.set_cons_zero, List.set_cons_succ, i64_w, i32_w]
                            rfl
                          refine pure_ (i := 15) (N := some 80) (v := undef) (a' := ?_) #[true, true, true, true, true, true, true, true, true, true, true, true, true, true, true, true, false, false, false, false, false, false, false, false, false, false, false, false, false, false, false, false, false, false, false] rfl rfl (any_of HT_.out (by kernel_rfl)) (fun _ _ _ h => h) (Or.inr ⟨by rfl, rfl⟩) ?_ ?_
                          rotate_left
                          · simp only [Act.put, List.setIfInBounds_toArray, List.set_cons_zero, List.set_cons_succ, i64_w, i32_w]
                            rfl
                          refine pure_ (i := 16) (N := some 81) (v := undef) (a' := ?_) #[true, true, true, true, true, true, true, true, true, true, true, true, true, true, true, true, true, false, false, false, false, false, false, false, false, false, false, false, false, false, false, false, false, false, false] rfl rfl (any_of HT_.out (by kernel_rfl)) (fun _ _ _ h => h) (Or.inr ⟨by rfl, rfl⟩) ?_ ?_
                          rotate_left
                          · simp only [Act.put, List.setIfInBounds_toArray, List.set_cons_zero, List.set_cons_succ, i64_w, i32_w]
                            rfl
                          refine pure_ (i := 17) (N := some 82) (v := undef) (a' := ?_) #[true, true, true, true, true, true, true, true, true, true, true, true, true, true, true, true, true, true, false, false, false, false, false, false, false, false, false, false, false, false, false, false, false, false, false] rfl rfl (any_of HT_.out (by kernel_rfl)) (fun _ _ _ h => h) (Or.inr ⟨by rfl, rfl⟩) ?_ ?_
                          rotate_left
                          · simp only [Act.put, List.setIfInBounds_toArray, List.set_cons_zero, List.set_cons_succ, i64_w, i32_w]
                            rfl
                          refine pure_ (i := 18) (N := some 83) (v := undef) (a' := ?_) #[true, true, true, true, true, true, true, true, true, true, true, true, true, true, true, true, true, true, true, false, false, false, false, false, false, false, false, false, false, false, false, false, false, false, false] rfl rfl (any_of HT_.out (by kernel_rfl)) (fun _ _ _ h => h) (Or.inr ⟨by rfl, rfl⟩) ?_ ?_
                          rotate_left
                          · simp only [Act.put, List.setIfInBounds_toArray, List.set_cons_zero, List.set_cons_succ, i64_w, i32_w]
                            rfl
                          refine pure_ (i := 19) (N := some 84) (v := undef) (a' := ?_) #[true, true, true, true, true, true, true, true, true, true, true, true, true, true, true, true, true, true, true, true, false, false, false, false, false, false, false, false, false, false, false, false, false, false, false] rfl rfl (any_of HT_.out (by kernel_rfl)) (fun _ _ _ h => h) (Or.inr ⟨by rfl, rfl⟩) ?_ ?_
                          rotate_left
                          · simp only [Act.put, List.setIfInBounds_toArray, List.set_cons_zero, List.set_cons_succ, i64_w, i32_w]
                            rfl
                          refine pure_ (i := 20) (N := some 85) (v := undef) (a' := ?_) #[true, true, true, true, true, true, true, true, true, true, true, true, true, true, true, true, true, true, true, true, true, false, false, false, false, false, false, false, false, false, false, false, false, false, false] rfl rfl (any_of HT_.out (by kernel_rfl)) (fun _ _ _ h => h) (Or.inr ⟨by rfl, rfl⟩) ?_ ?_
                          rotate_left
                          · simp only [Act.put, List.setIfInBounds_toArray, List.set_cons_zero, List.set_cons_succ, i64_w, i32_w]
                            rfl
                          refine pure_ (i := 21) (N := some 86) (v := undef) (a' := ?_) #[true, true, true, true, true, true, true, true, true, true, true, true, true, true, true, true, true, true, true, true, true, true, false, false, false, false, false, false, false, false, false, false, false, false, false] rfl rfl (any_of HT_.out (by kernel_rfl)) (fun _ _ _ h => h) (Or.inr ⟨by rfl, rfl⟩) ?_ ?_
                          rotate_left
                          · simp only [Act.put, List.setIfInBounds_toArray, List.set_cons_zero, List.set_cons_succ, i64_w, i32_w]
                            rfl
                          refine pure_ (i := 22) (N := some 87) (v := undef) (a' := ?_) #[true, true, true, true, true, true, true, true, true, true, true, true, true, true, true, true, true, true, true, true, true, true, true, false, false, false, false, false, false, false, false, false, false, false, false] rfl rfl (any_of HT_.out (by kernel_rfl)) (fun _ _ _ h => h) (Or.inr ⟨by rfl, rfl⟩) ?_ ?_
                          rotate_left
                          · simp only [Act.put, List.setIfInBounds_toArray, List.set_cons_zero, List.set_cons_succ, i64_w, i32_w]
                            rfl
                          refine pure_ (i := 23) (N := some 88) (v := undef) (a' := ?_) #[true, true, true, true, true, true, true, true, true, true, true, true, true, true, true, true, true, true, true, true, true, true, true, true, false, false, false, false, false, false, false, false, false, false, false] rfl rfl (any_of HT_.out (by kernel_rfl)) (fun _ _ _ h => h) (Or.inr ⟨by rfl, rfl⟩) ?_ ?_
                          rotate_left
                          · simp only [Act.put, List.setIfInBounds_toArray, List.set_cons_zero, List.set_cons_succ, i64_w, i32_w]
                            rfl
                          refine pure_ (i := 24) (N := some 89) (v := undef) (a' := ?_) #[true, true, true, true, true, true, true, true, true, true, true, true, true, true, true, true, true, true, true, true, true, true, true, true, true, false, false, false, false, false, false, false, false, false, false] rfl rfl (any_of HT_.out (by kernel_rfl)) (fun _ _ _ h => h) (Or.inr ⟨by rfl, rfl⟩) ?_ ?_
                          rotate_left
                          · simp only [Act.put, List.setIfInBounds_toArray, List.set_cons_zero, List.set_cons_succ, i64_w, i32_w]
                            rfl
                          refine pure_ (i := 25) (N := some 90) (v := undef) (a' := ?_) #[true, true, true, true, true, true, true, true, true, true, true, true, true, true, true, true, true, true, true, true, true, true, true, true, true, true, false, false, false, false, false, false, false, false, false] rfl rfl (any_of HT_.out (by kernel_rfl)) (fun _ _ _ h => h) (Or.inr ⟨by rfl, rfl⟩) ?_ ?_
                          rotate_left
                          · simp only [Act.put, List.setIfInBounds_toArray, List.set_cons_zero, List.set_cons_succ, i64_w, i32_w]
                            rfl
                          refine pure_ (i := 26) (N := some 91) (v := undef) (a' := ?_) #[true, true, true, true, true, true, true, true, true, true, true, true, true, true, true, true, true, true, true, true, true, true, true, true, true, true, true, false, false, false, false, false, false, false, false] rfl rfl (any_of HT_.out (by kernel_rfl)) (fun _ _ _ h => h) (Or.inr ⟨by rfl, rfl⟩) ?_ ?_
                          rotate_left
                          · simp only [Act.put, List.setIfInBounds_toArray, List.set_cons_zero, List.set_cons_succ, i64_w, i32_w]
                            rfl
                          refine pure_ (i := 27) (N := some 92) (v := undef) (a' := ?_) #[true, true, true, true, true, true, true, true, true, true, true, true, true, true, true, true, true, true, true, true, true, true, true, true, true, true, true, true, false, false, false, false, false, false, false] rfl rfl (any_of HT_.out (by kernel_rfl)) (fun _ _ _ h => h) (Or.inr ⟨by rfl, rfl⟩) ?_ ?_
                          rotate_left
                          · simp only [Act.put, List.setIfInBounds_toArray, List.set_cons_zero, List.set_cons_succ, i64_w, i32_w]
                            rfl
                          refine pure_ (i := 28) (N := some 93) (v := undef) (a' := ?_) #[true, true, true, true, true, true, true, true, true, true, true, true, true, true, true, true, true, true, true, true, true, true, true, true, true, true, true, true, true, false, false, false, false, false, false] rfl rfl (any_of HT_.out (by kernel_rfl)) (fun _ _ _ h => h) (Or.inr ⟨by rfl, rfl⟩) ?_ ?_
                          rotate_left
                          · simp only [Act.put, List.setIfInBounds_toArray, List.set_cons_zero, List.set_cons_succ, i64_w, i32_w]
                            rfl
                          refine pure_ (i := 29) (N := some 94) (v := undef) (a' := ?_) #[true, true, true, true, true, true, true, true, true, true, true, true, true, true, true, true, true, true, true, true, true, true, true, true, true, true, true, true, true, true, false, false, false, false, false] rfl rfl (any_of HT_.out (by kernel_rfl)) (fun _ _ _ h => h) (Or.inr ⟨by rfl, rfl⟩) ?_ ?_
                          rotate_left
                          · simp only [Act.put, List.setIfInBounds_toArray, List.set_cons_zero, List.set_cons_succ, i64_w, i32_w]
                            rfl
                          refine pure_ (i := 30) (N := some 95) (v := undef) (a' := ?_) #[true, true, true, true, true, true, true, true, true, true, true, true, true, true, true, true, true, true, true, true, true, true, true, true, true, true, true, true, true, true, true, false, false, false, false] rfl rfl (any_of HT_.out (by kernel_rfl)) (fun _ _ _ h => h) (Or.inr ⟨by rfl, rfl⟩) ?_ ?_
                          rotate_left
                          · simp only [Act.put, List.setIfInBounds_toArray, List.set_cons_zero, List.set_cons_succ, i64_w, i32_w]
                            rfl
                          refine pure_ (i := 31) (N := some 96) (v := undef) (a' := ?_) #[true, true, true, true, true, true, true, true, true, true, true, true, true, true, true, true, true, true, true, true, true, true, true, true, true, true, true, true, true, true, true, true, false, false, false] rfl rfl (any_of HT_.out (by kernel_rfl)) (fun _ _ _ h => h) (Or.inr ⟨by rfl, rfl⟩) ?_ ?_
                          rotate_left
                          · simp only [Act.put, List.setIfInBounds_toArray, List.set_cons_zero, List.set_cons_succ, i64_w, i32_w]
                            rfl
                          refine pure_ (i := 32) (N := some 97) (v := undef) (a' := ?_) #[true, true, true, true, true, true, true, true, true, true, true, true, true, true, true, true, true, true, true, true, true, true, true, true, true, true, true, true, true, true, true, true, true, false, false] rfl rfl (any_of HT_.out (by kernel_rfl)) (fun _ _ _ h => h) (Or.inr ⟨by rfl, rfl⟩) ?_ ?_
                          rotate_left
                          · simp only [Act.put, List.setIfInBounds_toArray, List.set_cons_zero, List.set_cons_succ, i64_w, i32_w]
                            rfl
                          refine pure_ (i := 33) (N := some 98) (v := undef) (a' := ?_) #[true, true, true, true, true, true, true, true, true, true, true, true, true, true, true, true, true, true, true, true, true, true, true, true, true, true, true, true, true, true, true, true, true, true, false] rfl rfl (any_of HT_.out (by kernel_rfl)) (fun _ _ _ h => h) (Or.inr ⟨by rfl, rfl⟩) ?_ ?_
                          rotate_left
                          · simp only [Act.put, List.setIfInBounds_toArray, List.set_cons_zero, List.set_cons_succ, i64_w, i32_w]
                            rfl
                          refine pure_ (i := 34) (N := some 99) (v := ?_) (a' := ?_) #[true, true, true, true, true, true, true, true, true, true, true, true, true, true, true, true, true, true, true, true, true, true, true, true, true, true, true, true, true, true, true, true, true, true, true] rfl rfl (any_of HT_.out (by kernel_rfl)) (fun _ _ _ h => h) (Or.inl ⟨by rfl, ?_⟩) ?_ ?_
                          rotate_left
                          · intro w'
                            go_simp
                            with_reducible rfl
                          rotate_left
                          · simp only [Act.put, List.setIfInBounds_toArray, List.set_cons_zero, List.set_cons_succ, i64_w, i32_w]
                            rfl
                          refine done_ (done_of HT_.out (by kernel_rfl)) ?_
                          try go_wp2
                          go_roundg k3
                          case measure => have := HJ3.out; have := HK2.out; have := HK3.out; omega
                          case rel => exact ⟨(wrap64 (x61_3 + 1)), (by first | rfl | (simp; done) | (simp [*]; done)), H', ⟨by have := HJ3.out; have := HK2.out; have := HK3.out; omega⟩, ⟨by (with_reducible repeat (first | apply Kd.R_alloc | apply Kd.R_drewN | apply Kd.R_drew)); exact Kd.R_mono HO_7.out (fun _ hk => ⟨hk.1, ⟨hk.2.1, hk.2.2.1⟩⟩)⟩, ⟨by (with_reducible repeat (first | apply Kd.R_alloc | apply Kd.R_drewN | apply Kd.R_drew)); exact Kd.R_mono HO_8.out (fun _ hk => ⟨hk.1, hk.2.1⟩)⟩, ⟨by (with_reducible repeat (first | apply Kd.R_alloc | apply Kd.R_drewN | apply Kd.R_drew)); exact Kd.R_mono HO_9.out (fun _ hk => ⟨hk.1, ⟨hk.2.1, hk.2.2.1⟩⟩)⟩, ⟨by (with_reducible repeat (first | apply Kd.R_alloc | apply Kd.R_drewN | apply Kd.R_drew)); exact Kd.R_mono HO_59.out (fun _ hk => ⟨hk.1, hk.2.1⟩)⟩, ⟨by repeat (first | (with_reducible first | exact HB.out | apply below_alloc | apply pw_below_drewN | apply below_drew1 | refine below_set ?_ GE172.out) | exact HB.out)⟩⟩
                        · replace c51 := Bool.eq_false_iff.mpr c51
                          subst c51
                          have H1 : (if (x9_2.length : Int) = 1 then (if 0 < (x9_2.length : Int) then (if ((rd_T27 t159 x61_3).f0) ≥ ((rd_T27 x9_2 0).f0) then (some false) else (if 0 ≤ (IntKind.u64.wrap (((rd_T27 x9_2 0).f0) - ((rd_T27 t159 x61_3).f0))) then (if (shr .u64 ((rd_T27 t159 x61_3).f1) (IntKind.u64.wrap (((rd_T27 x9_2 0).f0) - ((rd_T27 t159 x61_3).f0)))) = ((rd_T27 x9_2 0).f1) then (laws_FnRangeNodesSplit.l1 k3 a0 a2 t153 t159 x9_2 t159 (t159.length : Int) (wrap64 (x61_3 + 1))) else (some false)) else (none))) else (none)) else (some false)) = some r := by rw [if_neg (show ¬ (false = true) by decide)] at H; exact H
                          clear H
                          have H := H1
                          clear H1
                          by_cases c57 : (x9_2.length : Int) = 1
                          · rw [if_pos c57] at H
                            have c57b0 : ((x9_2.length : Int) == 1) = true := beq_iff_eq.mpr c57
                            have c57b1 : ((x9_2.length : Int) != 1) = false := bne_eq_false_iff_eq.mpr c57
                            clear c57
                            by_cases c58 : 0 < (x9_2.length : Int)
                            · rw [if_pos c58] at H
                              have c58b0 : decide (0 < (x9_2.length : Int)) = true := decide_eq_true c58
                              have c58b1 : decide (0 < x9_2.length) = true := decide_eq_true (by omega)
                              clear c58
                              by_cases c59 : ((rd_T27 t159 x61_3).f0) ≥ ((rd_T27 x9_2 0).f0)
                              · rw [if_pos c59] at H
                                have c59b0 : decide (((rd_T27 x9_2 0).f0) ≤ ((rd_T27 t159 x61_3).f0)) = true := decide_eq_true c59
                                clear c59
                                obtain rfl := Option.some.inj H
                                have p171 : 0 ≤ (x61_3 : Int) := of_decide_eq_true (by first | (with_reducible assumption) | assumption)
                                have q171 : x61_3 < (t159.length : Int) := of_decide_eq_true (by first | (with_reducible assumption) | assumption)
                                obtain ⟨ad171, e171, hx171_0, hx171_1⟩ := at_T27 (Kd.R_reads' HO_59.out).2.2 x61_3 p171 q171
                                cases e171
                                replace p171 := eq_true p171
                                replace q171 := eq_true q171
                                try go_wp2_with (first | ((with_reducible refine gate_dst (N := 14) rfl ?_); (try (refine gate_guard (by rfl) ?_; dsimp only)); refine box_event ?hg (N := 14) ?hd (cs := #[.int .u64 0, .int .u64 0]) (t := 27) ?hr ?_; (case hd => rfl); (case hg => rfl); (case hr => first | (go_simp; done) | (go_simp; rfl)); intro gb172 hg w60 hbox hb; have n0_ := Aside0.mk (Kd.R_below (Kd.R_elderB (by (with_reducible repeat (first | apply Kd.R_alloc | apply Kd.R_drewN | apply Kd.R_drew)); exact HO_7.out) gb172 (Nat.le_of_eq hg.symm)) hb); have n1_ := Aside0.mk (Kd.R_below (Kd.R_elderB (by (with_reducible repeat (first | apply Kd.R_alloc | apply Kd.R_drewN | apply Kd.R_drew)); exact HO_8.out) gb172 (Nat.le_of_eq hg.symm)) hb); have n2_ := Aside0.mk (Kd.R_below (Kd.R_elderB (by (with_reducible repeat (first | apply Kd.R_alloc | apply Kd.R_drewN | apply Kd.R_drew)); exact HO_9.out) gb172 (Nat.le_of_eq hg.symm)) hb); have n3_ := Aside0.mk (Kd.R_below (Kd.R_elderB (by (with_reducible repeat (first | apply Kd.R_alloc | apply Kd.R_drewN | apply Kd.R_drew)); exact HO_59.out) gb172 (Nat.le_of_eq hg.symm)) hb); have n4_ := Aside0.mk (below_step (by repeat (first | (with_reducible first | exact HB.out | apply below_alloc | apply pw_below_drewN | apply below_drew1) | exact HB.out)) hb); have n5_ := Aside0.mk (hbox); have n6_ := Aside0.mk ((by rw [hg]; exact (below_size (by repeat (first | (with_reducible first | exact HB.out | apply below_alloc | apply pw_below_drewN | apply below_drew1) | exact HB.out))) : w.heap.size ≤ gb172)); have n7_ := Aside0.mk ((by rw [hg]; exact (below_size (by repeat (first | (with_reducible first | exact HB.out | apply below_alloc | apply pw_below_drewN | apply below_drew1) | exact HB.out))) : w.heap.size ≤ gb172)); clear HO_7; clear HO_8; clear HO_9; clear HO_59; clear HB; have HO_7 := n0_; have HO_8 := n1_; have HO_9 := n2_; have HO_59 := n3_; have HB := n4_; have BK172 := n5_; have GW172 := n6_; have GE172 := n7_; clear n0_ n1_ n2_ n3_ n4_ n5_ n6_ n7_; clear hb hbox hg; have hcz61_0 : w60.cell? ⟨gb172, 0, none⟩ = some (.int .u64 0) := (blk_cell BK172.out 0).trans rfl; have hcz61_1 : w60.cell? ⟨gb172, 1, none⟩ = some (.int .u64 0) := (blk_cell BK172.out 1).trans rfl; have hfz61_0 := blk_frozen BK172.out 0; have hfz61_1 := blk_frozen BK172.out 1))
                                have n0_ : Aside0 (Kd.R k27 27 ((w60.setCell ⟨gb172, 0, none⟩ (.int .u64 ((rd_T27 t159 x61_3).f0))).setCell ⟨gb172, 1, none⟩ (.int .u64 ((rd_T27 t159 x61_3).f1))) w.heap.size (fun k_ => some k_ ≠ (.slice (some ad171) t159.length co46 : Value).ownBlock ∧ some k_ ≠ (u9 : Value).ownBlock ∧ some k_ ≠ (.slice (some ad171) t159.length co46 : Value).ownBlock ∧ k_ ≠ gb172) (.slice Ao14 t153.length co14) t153) := ⟨by (with_reducible repeat (first | apply Kd.R_alloc | apply Kd.R_drewN | apply Kd.R_drew)); exact Kd.R_mono (Kd.R_far (p := ⟨gb172, 1, none⟩) (Kd.R_far (p := ⟨gb172, 0, none⟩) (Kd.R_mono HO_7.out (fun k_ hk => (⟨hk, hk.2⟩ : _ ∧ k_ ≠ gb172))) (fun _ hk => hk.2) (.int .u64 ((rd_T27 t159 x61_3).f0))) (fun _ hk => hk.2) (.int .u64 ((rd_T27 t159 x61_3).f1))) (fun _ hk => ⟨hk.1.1.1, ⟨hk.1.1.2.1, ⟨hk.1.1.2.2, hk.1.2⟩⟩⟩)⟩
                                have n1_ : Aside0 (Kd.R k27 27 ((w60.setCell ⟨gb172, 0, none⟩ (.int .u64 ((rd_T27 t159 x61_3).f0))).setCell ⟨gb172, 1, none⟩ (.int .u64 ((rd_T27 t159 x61_3).f1))) w.heap.size (fun k_ => some k_ ≠ (.slice Ao14 t153.length co14 : Value).ownBlock ∧ some k_ ≠ (u9 : Value).ownBlock ∧ k_ ≠ gb172) (.slice (some ad171) t159.length co46) t159) := ⟨by (with_reducible repeat (first | apply Kd.R_alloc | apply Kd.R_drewN | apply Kd.R_drew)); exact Kd.R_mono (Kd.R_far (p := ⟨gb172, 1, none⟩) (Kd.R_far (p := ⟨gb172, 0, none⟩) (Kd.R_mono HO_8.out (fun k_ hk => (⟨hk, hk.2⟩ : _ ∧ k_ ≠ gb172))) (fun _ hk => hk.2) (.int .u64 ((rd_T27 t159 x61_3).f0))) (fun _ hk => hk.2) (.int .u64 ((rd_T27 t159 x61_3).f1))) (fun _ hk => ⟨hk.1.1.1, ⟨hk.1.1.2, hk.1.2⟩⟩)⟩
                                have n2_ : Aside0 (Kd.R k27 27 ((w60.setCell ⟨gb172, 0, none⟩ (.int .u64 ((rd_T27 t159 x61_3).f0))).setCell ⟨gb172, 1, none⟩ (.int .u64 ((rd_T27 t159 x61_3).f1))) w.heap.size (fun k_ => some k_ ≠ (.slice Ao14 t153.length co14 : Value).ownBlock ∧ some k_ ≠ (.slice (some ad171) t159.length co46 : Value).ownBlock ∧ some k_ ≠ (.slice (some ad171) t159.length co46 : Value).ownBlock ∧ k_ ≠ gb172) u9 x9_2) := ⟨by (with_reducible repeat (first | apply Kd.R_alloc | apply Kd.R_drewN | apply Kd.R_drew)); exact Kd.R_mono (Kd.R_far (p := ⟨gb172, 1, none⟩) (Kd.R_far (p := ⟨gb172, 0, none⟩) (Kd.R_mono HO_9.out (fun k_ hk => (⟨hk, hk.2⟩ : _ ∧ k_ ≠ gb172))) (fun _ hk => hk.2) (.int .u64 ((rd_T27 t159 x61_3).f0))) (fun _ hk => hk.2) (.int .u64 ((rd_T27 t159 x61_3).f1))) (fun _ hk => ⟨hk.1.1.1, ⟨hk.1.1.2.1, ⟨hk.1.1.2.2, hk.1.2⟩⟩⟩)⟩
                                have n3_ : Aside0 (Kd.R k27 27 ((w60.setCell ⟨gb172, 0, none⟩ (.int .u64 ((rd_T27 t159 x61_3).f0))).setCell ⟨gb172, 1, none⟩ (.int .u64 ((rd_T27 t159 x61_3).f1))) w.heap.size (fun k_ => some k_ ≠ (.slice Ao14 t153.length co14 : Value).ownBlock ∧ some k_ ≠ (u9 : Value).ownBlock ∧ k_ ≠ gb172) (.slice (some ad171) t159.length co46) t159) := ⟨by (with_reducible repeat (first | apply Kd.R_alloc | apply Kd.R_drewN | apply Kd.R_drew)); exact Kd.R_mono (Kd.R_far (p := ⟨gb172, 1, none⟩) (Kd.R_far (p := ⟨gb172, 0, none⟩) (Kd.R_mono HO_59.out (fun k_ hk => (⟨hk, hk.2⟩ : _ ∧ k_ ≠ gb172))) (fun _ hk => hk.2) (.int .u64 ((rd_T27 t159 x61_3).f0))) (fun _ hk => hk.2) (.int .u64 ((rd_T27 t159 x61_3).f1))) (fun _ hk => ⟨hk.1.1.1, ⟨hk.1.1.2, hk.1.2⟩⟩)⟩
                                have n4_ : Aside0 (((w60.setCell ⟨gb172, 0, none⟩ (.int .u64 ((rd_T27 t159 x61_3).f0))).setCell ⟨gb172, 1, none⟩ (.int .u64 ((rd_T27 t159 x61_3).f1))).heap[gb172]? = some (.cells #[.int .u64 ((rd_T27 t159 x61_3).f0), .int .u64 ((rd_T27 t159 x61_3).f1)] 27 (0, 0))) := ⟨by (with_reducible repeat (first | refine blk_drewN ?_ _ | refine blk_drew ?_ | refine blk_alloc ?_ _)); refine blk_put (cs := #[.int .u64 ((rd_T27 t159 x61_3).f0), .int .u64 0]) ?_ 1 _ rfl; (with_reducible repeat (first | refine blk_drewN ?_ _ | refine blk_drew ?_ | refine blk_alloc ?_ _)); refine blk_put (cs := #[.int .u64 0, .int .u64 0]) ?_ 0 _ rfl; (with_reducible repeat (first | refine blk_drewN ?_ _ | refine blk_drew ?_ | refine blk_alloc ?_ _)); exact BK172.out⟩
                                have n5_ : Aside0 (Below w.heap.size w ((w60.setCell ⟨gb172, 0, none⟩ (.int .u64 ((rd_T27 t159 x61_3).f0))).setCell ⟨gb172, 1, none⟩ (.int .u64 ((rd_T27 t159 x61_3).f1)))) := ⟨by repeat (first | (with_reducible first | exact HB.out | apply below_alloc | apply pw_below_drewN | apply below_drew1 | refine below_set ?_ GE172.out) | exact HB.out)⟩
                                (try clear HO_7)
                                (try clear HO_8)
                                (try clear HO_9)
                                (try clear HO_59)
                                (try clear BK172)
                                (try clear HB)
                                generalize ((w60.setCell ⟨gb172, 0, none⟩ (.int .u64 ((rd_T27 t159 x61_3).f0))).setCell ⟨gb172, 1, none⟩ (.int .u64 ((rd_T27 t159 x61_3).f1))) = w62 at n0_ n1_ n2_ n3_ n4_ n5_ ⊢
                                have HO_7 := n0_
                                have HO_8 := n1_
                                have HO_9 := n2_
                                have HO_59 := n3_
                                have BK172 := n4_
                                have HB := n5_
                                clear n0_ n1_ n2_ n3_ n4_ n5_
                                have n0_ := Aside0.mk (Kd.R_drew HO_7.out)
                                have n1_ := Aside0.mk (Kd.R_drew HO_8.out)
                                have n2_ := Aside0.mk (Kd.R_drew HO_9.out)
                                have n3_ := Aside0.mk (Kd.R_drew HO_59.out)
                                have n4_ := Aside0.mk (blk_drew BK172.out)
                                have n5_ := Aside0.mk (below_drew1 HB.out)
                                clear HO_7
                                clear HO_8
                                clear HO_9
                                clear HO_59
                                clear BK172
                                clear HB
                                have HO_7 := n0_
                                have HO_8 := n1_
                                have HO_9 := n2_
                                have HO_59 := n3_
                                have BK172 := n4_
                                have HB := n5_
                                clear n0_ n1_ n2_ n3_ n4_ n5_
                                have p174 : 0 ≤ (0 : Int) := (by omega)
                                have q174 : 0 < (x9_2.length : Int) := of_decide_eq_true (by first | (with_reducible assumption) | assumption)
                                (try (obtain ⟨Ao_, co_, eo_⟩ := Kd.R_slice HO_9.out; subst eo_))
                                obtain ⟨ad174, e174, hx174_0, hx174_1⟩ := at_T27 (Kd.R_reads' HO_9.out).2.2 0 p174 q174
                                cases e174
                                have qi174 : (0 < x9_2.length) = True := eq_true (by omega)
                                (try rw [show ((0 : Int)).toNat = 0 from rfl] at hx174_0)
                                (try rw [show 0 * 2 = 0 from rfl] at hx174_0)
                                (try rw [Addr.add_zero'] at hx174_0)
                                (try rw [show ((0 : Int)).toNat = 0 from rfl] at hx174_1)
                                (try rw [show 0 * 2 = 0 from rfl] at hx174_1)
                                (try rw [Addr.add_zero'] at hx174_1)
                                replace p174 := eq_true p174
                                replace q174 := eq_true q174
                                refine start_ (n := 35) (S := fun w' => w'.cell? ⟨gb172, 0, none⟩ = some (.int .u64 ((rd_T27 t159 x61_3).f0)) ∧ w'.cell? ⟨gb172, 1, none⟩ = some (.int .u64 ((rd_T27 t159 x61_3).f1)) ∧ w'.cell? ad174 = some (.int .u64 ((rd_T27 x9_2 0).f0)) ∧ w'.cell? ⟨ad174.block, ad174.off + 1, none⟩ = some (.int .u64 ((rd_T27 x9_2 0).f1))) (ds := []) #[false, false, false, false, false, false, false, false, false, false, false, false, false, false, false, false, false, false, false, false, false, false, false, false, false, false, false, false, false, false, false, false, false, false, false] (by kernel_rfl) rfl rfl ⟨(blk_cell BK172.out 0).trans rfl, (blk_cell BK172.out 1).trans rfl, hx174_0, hx174_1⟩ (fun hHeld => ?_); refine with_tabW laws_FnRangeNodesSplit.tab17 laws_FnRangeNodesSplit.bits17 (fun HT_ HW_ => ?_)
                                generalize w62.drew = w63 at HO_7 HO_8 HO_9 HO_59 BK172 HB hx174_0 hx174_1 hHeld ⊢
                                refine pure_ (i := 0) (N := some 65) (v := ?_) (a' := ?_) #[true, false, false, false, false, false, false, false, false, false, false, false, false, false, false, false, false, false, false, false, false, false, false, false, false, false, false, false, false, false, false, false, false, false, false] rfl rfl (any_of HT_.out (by kernel_rfl)) (fun _ _ _ h => h) (Or.inl ⟨by rfl, ?_⟩) ?_ ?_
                                rotate_left
                                · intro w'
                                  go_simp
                                  with_reducible rfl
                                rotate_left
                                · simp only [Act.put, List.setIfInBounds_toArray, List.set_cons_zero, List.set_cons_succ, i64_w, i32_w]
                                  rfl
                                refine take_ (i := 1) (N := some 66) (v := ?_) (a' := ?_) #[true, true, false, false, false, false, false, false, false, false, false, false, false, false, false, false, false, false, false, false, false, false, false, false, false, false, false, false, false, false, false, false, false, false, false] rfl rfl (take_ofW HT_.out HW_.out (by kernel_rfl)) (fun _ _ _ h => h) (Or.inl ⟨by rfl, ?_⟩) hHeld ?_ ?_
                                rotate_left
                                · rintro w' ⟨s0, s1, s2, s3⟩
                                  go_simp
                                  with_reducible rfl
                                rotate_left
                                · simp only [Act.put, List.setIfInBounds_toArray, List.set_cons_zero, List.set_cons_succ, i64_w, i32_w]
                                  rfl
                                refine one_ (i := 2) (N := some 67) #[true, true, true, false, false, false, false, false, false, false, false, false, false, false, false, false, false, false, false, false, false, false, false, false, false, false, false, false, false, false, false, false, false, false, false] rfl rfl (one_of HT_.out (by kernel_rfl)) (by decide) (fun K hK => ?_)
                                refine goes_ Tryd.func9 (by kernel_rfl) rfl #[.slice Ao14 t153.length co14, .agg #[.int .u64 ((rd_T27 t159 x61_3).f0), .int .u64 ((rd_T27 t159 x61_3).f1)]] (by rfl) rfl rfl (by (try simp only [List.map_toArray, List.map_cons, List.map_nil]); first | done | rfl | (simp only [List.length_drop, List.length_take]; rfl)) ?_
                                with_reducible refine (spec_HasNode.calls k3 _ _ t153 ((rd_T27 t159 x61_3).f0) ((rd_T27 t159 x61_3).f1) false _ ?side1 ?side2 A50.out).mono ?_
                                (case side1 => repeat (first | exact (Kd.R_reads' HO_7.out).2.2 | (with_reducible refine Kd.C_alloc ?_ _) | (with_reducible refine Kd.C_drewN ?_ _) | (with_reducible refine Kd.C_drew ?_)))
                                (case side2 => exact (Kd.R_reads' HO_7.out).2.1)
                                rintro e w64 ⟨rfl, hb⟩
                                have HS2_ := (hb.cell (World.block_lt_of_cell? _ _ (hHeld.2.2.1))).trans (hHeld.2.2.1)
                                have HS3_ := (hb.cell (World.block_lt_of_cell? _ _ (hHeld.2.2.2))).trans (hHeld.2.2.2)
                                refine ⟨_, rfl, ?_⟩
                                have n0_ := Aside0.mk (Kd.R_below (by (with_reducible repeat (first | apply Kd.R_alloc | apply Kd.R_drewN | apply Kd.R_drew)); exact HO_7.out) hb)
                                have n1_ := Aside0.mk (Kd.R_below (by (with_reducible repeat (first | apply Kd.R_alloc | apply Kd.R_drewN | apply Kd.R_drew)); exact HO_8.out) hb)
                                have n2_ := Aside0.mk (Kd.R_below (by (with_reducible repeat (first | apply Kd.R_alloc | apply Kd.R_drewN | apply Kd.R_drew)); exact HO_9.out) hb)
                                have n3_ := Aside0.mk (Kd.R_below (by (with_reducible repeat (first | apply Kd.R_alloc | apply Kd.R_drewN | apply Kd.R_drew)); exact HO_59.out) hb)
                                have n4_ := Aside0.mk (blk_below (g := gb172) (o := .cells #[.int .u64 ((rd_T27 t159 x61_3).f0), .int .u64 ((rd_T27 t159 x61_3).f1)] 27 (0, 0)) (by (with_reducible repeat (first | refine blk_drewN ?_ _ | refine blk_drew ?_ | refine blk_alloc ?_ _)); exact BK172.out) hb)
                                have n5_ := Aside0.mk (below_step (by repeat (first | (with_reducible first | exact HB.out | apply below_alloc | apply pw_below_drewN | apply below_drew1 | refine below_set ?_ GE172.out) | exact HB.out)) hb)
                                clear HO_7
                                clear HO_8
                                clear HO_9
                                clear HO_59
                                clear BK172
                                clear HB
                                have HO_7 := n0_
                                have HO_8 := n1_
                                have HO_9 := n2_
                                have HO_59 := n3_
                                have BK172 := n4_
                                have HB := n5_
                                clear n0_ n1_ n2_ n3_ n4_ n5_
                                (try clear hb)
                                (try clear hb2)
                                (try clear hk)
                                (try clear hi)
                                obtain ⟨Ao65, co65, eo65⟩ := Kd.R_slice HO_9.out
                                (first | subst eo65 | (injection eo65 with f1_ f2_ f3_; have f4_ := f1_.symm; have f5_ := f3_.symm; clear f1_ f2_ f3_; subst f4_; subst f5_))
                                refine hK.out _ _ ⟨(blk_cell BK172.out 0).trans rfl, (blk_cell BK172.out 1).trans rfl, HS2_, HS3_⟩ (fun hHeld => ?_)
                                clear hK K
                                refine norm_ (a' := ?_) ?_ ?_
                                rotate_left
                                · show Act.put _ (some 67) _ = _
                                  simp only [Act.put, List.setIfInBounds_toArray, List.set_cons_zero, List.set_cons_succ, i64_w, i32_w]
                                  rfl
                                refine pure_ (i := 3) (N := some 68) (v := ?_) (a' := ?_) #[true, true, true, true, false, false, false, false, false, false, false, false, false, false, false, false, false, false, false, false, false, false, false, false, false, false, false, false, false, false, false, false, false, false, false] rfl rfl (any_of HT_.out (by kernel_rfl)) (fun _ _ _ h => h) (Or.inl ⟨by rfl, ?_⟩) ?_ ?_
                                rotate_left
                                · intro w'
                                  go_simp
                                  with_reducible rfl
                                rotate_left
                                · simp only [Act.put, List.setIfInBounds_toArray, List.set_cons_zero, List.set_cons_succ, i64_w, i32_w]
                                  rfl
                                refine pure_ (i := 4) (N := some 69) (v := ?_) (a' := ?_) #[true, true, true, true, true, false, false, false, false, false, false, false, false, false, false, false, false, false, false, false, false, false, false, false, false, false, false, false, false, false, false, false, false, false, false] rfl rfl (any_of HT_.out (by kernel_rfl)) (fun _ _ _ h => h) (Or.inl ⟨by rfl, ?_⟩) ?_ ?_
                                rotate_left
                                · intro w'
                                  go_simp
                                  with_reducible rfl
                                rotate_left
                                · simp only [Act.put, List.setIfInBounds_toArray, List.set_cons_zero, List.set_cons_succ, i64_w, i32_w]
                                  rfl
                                refine pure_ (i := 5) (N := some 70) (v := ?_) (a' := ?_) #[true, true, true, true, true, true, false, false, false, false, false, false, false, false, false, false, false, false, false, false, false, false, false, false, false, false, false, false, false, false, false, false, false, false, false] rfl rfl (any_of HT_.out (by kernel_rfl)) (fun _ _ _ h => h) (Or.inl ⟨by rfl, ?_⟩) ?_ ?_
                                rotate_left
                                · intro w'
                                  go_simp
                                  with_reducible rfl
                                rotate_left
                                · simp only [Act.put, List.setIfInBounds_toArray, List.set_cons_zero, List.set_cons_succ, i64_w, i32_w]
                                  rfl
                                refine pure_ (i := 6) (N := some 71) (v := ?_) (a' := ?_) #[true, true, true, true, true, true, true, false, false, false, false, false, false, false, false, false, false, false, false, false, false, false, false, false, false, false, false, false, false, false, false, false, false, false, false] rfl rfl (any_of HT_.out (by kernel_rfl)) (fun _ _ _ h => h) (Or.inl ⟨by rfl, ?_⟩) ?_ ?_
                                rotate_left
                                · intro w'
                                  go_simp
                                  with_reducible rfl
                                rotate_left
                                · simp only [Act.put, List.setIfInBounds_toArray, List.set_cons_zero, List.set_cons_succ, i64_w, i32_w]
                                  rfl
                                refine pure_ (i := 7) (N := some 72) (v := ?_) (a' := ?_) #[true, true, true, true, true, true, true, true, false, false, false, false, false, false, false, false, false, false, false, false, false, false, false, false, false, false, false, false, false, false, false, false, false, false, false] rfl rfl (any_of HT_.out (by kernel_rfl)) (fun _ _ _ h => h) (Or.inl ⟨by rfl, ?_⟩) ?_ ?_
                                rotate_left
                                · intro w'
                                  go_simp
                                  with_reducible rfl
                                rotate_left
                                · simp only [Act.put, List.setIfInBounds_toArray, List.set_cons_zero, List.set_cons_succ, i64_w, i32_w]
                                  rfl
                                refine pure_ (i := 8) (N := some 73) (v := ?_) (a' := ?_) #[true, true, true, true, true, true, true, true, true, false, false, false, false, false, false, false, false, false, false, false, false, false, false, false, false, false, false, false, false, false, false, false, false, false, false] rfl rfl (any_of HT_.out (by kernel_rfl)) (fun _ _ _ h => h) (Or.inl ⟨by rfl, ?_⟩) ?_ ?_
                                rotate_left
                                · intro w'
                                  go_simp
                                  with_reducible rfl
                                rotate_left
                                · simp only [Act.put, List.setIfInBounds_toArray, List.set_cons_zero, List.set_cons_succ, i64_w, i32_w]
                                  rfl
                                refine pure_ (i := 9) (N := some 74) (v := ?_) (a' := ?_) #[true, true, true, true, true, true, true, true, true, true, false, false, false, false, false, false, false, false, false, false, false, false, false, false, false, false, false, false, false, false, false, false, false, false, false] rfl rfl (any_of HT_.out (by kernel_rfl)) (fun _ _ _ h => h) (Or.inl ⟨by rfl, ?_⟩) ?_ ?_
                                rotate_left
                                · intro w'
                                  go_simp
                                  with_reducible rfl
                                rotate_left
                                · simp only [Act.put, List.setIfInBounds_toArray, List.set_cons_zero, List.set_cons_succ, i64_w, i32_w]
                                  rfl
                                refine pure_ (i := 11) (N := some 76) (v := ?_) (a' := ?_) #[true, true, true, true, true, true, true, true, true, true, false, true, false, false, false, false, false, false, false, false, false, false, false, false, false, false, false, false, false, false, false, false, false, false, false] rfl rfl (any_of HT_.out (by kernel_rfl)) (fun _ _ _ h => h) (Or.inl ⟨by rfl, ?_⟩) ?_ ?_
                                rotate_left
                                · intro w'
                                  go_simp
                                  with_reducible rfl
                                rotate_left
                                · simp only [Act.put, List.setIfInBounds_toArray, List.set_cons_zero, List.set_cons_succ, i64_w, i32_w]
                                  rfl
                                refine pure_ (i := 12) (N := some 77) (v := ?_) (a' := ?_) #[true, true, true, true, true, true, true, true, true, true, false, true, true, false, false, false, false, false, false, false, false, false, false, false, false, false, false, false, false, false, false, false, false, false, false] rfl rfl (any_of HT_.out (by kernel_rfl)) (fun _ _ _ h => h) (Or.inl ⟨by rfl, ?_⟩) ?_ ?_
                                rotate_left
                                · intro w'
                                  go_simp
                                  with_reducible rfl
                                rotate_left
                                · simp only [Act.put, List.setIfInBounds_toArray, List.set_cons_zero, List.set_cons_succ, i64_w, i32_w]
                                  rfl
                                refine pure_ (i := 13) (N := some 78) (v := ?_) (a' := ?_) #[true, true, true, true, true, true, true, true, true, true, false, true, true, true, false, false, false, false, false, false, false, false, false, false, false, false, false, false, false, false, false, false, false, false, false] rfl rfl (any_of HT_.out (by kernel_rfl)) (fun _ _ _ h => h) (Or.inl ⟨by rfl, ?_⟩) ?_ ?_
                                rotate_left
                                · intro w'
                                  go_simp
                                  with_reducible rfl
                                rotate_left
                                · simp only [Act.put, List.setIfInBounds_toArray, List.set_cons_zero, List.set_cons_succ, i64_w, i32_w]
                                  rfl
                                refine take_ (i := 10) (N := some 75) (v := ?_) (a' := ?_) #[true, true, true, true, true, true, true, true, true, true, true, true, true, true, false, false, false, false, false, false, false, false, false, false, false, false, false, false, false, false, false, false, false, false, false] rfl rfl (take_ofW HT_.out HW_.out (by kernel_rfl)) (fun _ _ _ h => h) (Or.inl ⟨by rfl, ?_⟩) hHeld ?_ ?_
                                rotate_left
                                · rintro w' ⟨s0, s1, s2, s3⟩
                                  go_simp
                                  with_reducible rfl
                                rotate_left
                                · simp only [Act.put, List.setIfInBounds_toArray, List.set_cons_zero, List.set_cons_succ, i64_w, i32_w]
                                  rfl
                                refine take_ (i := 14) (N := some 79) (v := ?_) (a' := ?_) #[true, true, true, true, true, true, true, true, true, true, true, true, true, true, true, false, false, false, false, false, false, false, false, false, false, false, false, false, false, false, false, false, false, false, false] rfl rfl (take_ofW HT_.out HW_.out (by kernel_rfl)) (fun _ _ _ h => h) (Or.inl ⟨by rfl, ?_⟩) hHeld ?_ ?_
                                rotate_left
                                · rintro w' ⟨s0, s1, s2, s3⟩
                                  go_simp
                                  with_reducible rfl
                                rotate_left
                                · simp only [Act.put, List.setIfInBounds_toArray, List.set_cons_zero, List.set_cons_succ, i64_w, i32_w]
                                  rfl
                                refine pure_ (i := 15) (N := some 80) (v := ?_) (a' := ?_) #[true, true, true, true, true, true, true, true, true, true, true, true, true, true, true, true, false, false, false, false, false, false, false, false, false, false, false, false, false, false, false, false, false, false, false] rfl rfl (any_of HT_.out (by kernel_rfl)) (fun _ _ _ h => h) (Or.inl ⟨by rfl, ?_⟩) ?_ ?_
                                rotate_left
                                · intro w'
                                  go_simp
                                  with_reducible rfl
                                rotate_left
                                · simp only [Act.put, List.setIfInBounds_toArray, List.set_cons_zero, List.set_cons_succ, i64_w, i32_w]
                                  rfl
                                refine pure_ (i := 16) (N := some 81) (v := ?_) (a' := ?_) #[true, true, true, true, true, true, true, true, true, true, true, true, true, true, true, true, true, false, false, false, false, false, false, false, false, false, false, false, false, false, false, false, false, false, false] rfl rfl (any_of HT_.out (by kernel_rfl)) (fun _ _ _ h => h) (Or.inl ⟨by rfl, ?_⟩) ?_ ?_
                                rotate_left
                                · intro w'
                                  go_simp
                                  with_reducible rfl
                                rotate_left
                                · simp only [Act.put, List.setIfInBounds_toArray, List.set_cons_zero, List.set_cons_succ, i64_w, i32_w]
                                  rfl
                                refine pure_ (i := 17) (N := some 82) (v := ?_) (a' := ?_) #[true, true, true, true, true, true, true, true, true, true, true, true, true, true, true, true, true, true, false, false, false, false, false, false, false, false, false, false, false, false, false, false, false, false, false] rfl rfl (any_of HT_.out (by kernel_rfl)) (fun _ _ _ h => h) (Or.inl ⟨by rfl, ?_⟩) ?_ ?_
                                rotate_left
                                · intro w'
                                  go_simp
                                  with_reducible rfl
                                rotate_left
                                · simp only [Act.put, List.setIfInBounds_toArray, List.set_cons_zero, List.set_cons_succ, i64_w, i32_w]
                                  rfl
                                refine pure_ (i := 18) (N := some 83) (v := undef) (a' := ?_) #[true, true, true, true, true, true, true, true, true, true, true, true, true, true, true, true, true, true, true, false, false, false, false, false, false, false, false, false, false, false, false, false, false, false, false] rfl rfl (any_of HT_.out (by kernel_rfl)) (fun _ _ _ h => h) (Or.inr ⟨by rfl, rfl⟩) ?_ ?_
                                rotate_left
                                · simp only [Act.put, List.setIfInBounds_toArray, List.set_cons_zero, List.set_cons_succ, i64_w, i32_w]
                                  rfl
                                refine pure_ (i := 19) (N := some 84) (v := undef) (a' := ?_) #[true, true, true, true, true, true, true, true, true, true, true, true, true, true, true, true, true, true, true, true, false, false, false, false, false, false, false, false, false, false, false, false, false, false, false] rfl rfl (any_of HT_.out (by kernel_rfl)) (fun _ _ _ h => h) (Or.inr ⟨by rfl, rfl⟩) ?_ ?_
                                rotate_left
                                · simp only [Act.put, List.setIfInBounds_toArray, List.set_cons_zero, List.set_cons_succ, i64_w, i32_w]
                                  rfl
                                refine pure_ (i := 20) (N := some 85) (v := undef) (a' := ?_) #[true, true, true, true, true, true, true, true, true, true, true, true, true, true, true, true, true, true, true, true, true, false, false, false, false, false, false, false, false, false, false, false, false, false, false] rfl rfl (any_of HT_.out (by kernel_rfl)) (fun _ _ _ h => h) (Or.inr ⟨by rfl, rfl⟩) ?_ ?_
                                rotate_left
                                · simp only [Act.put, List.setIfInBounds_toArray, List.set_cons_zero, List.set_cons_succ, i64_w, i32_w]
                                  rfl
                                refine pure_ (i := 21) (N := some 86) (v := undef) (a' := ?_) #[true, true, true, true, true, true, true, true, true, true, true, true, true, true, true, true, true, true, true, true, true, true, false, false, false, false, false, false, false, false, false, false, false, false, false] rfl rfl (any_of HT_.out (by kernel_rfl)) (fun _ _ _ h => h) (Or.inr ⟨by rfl, rfl⟩) ?_ ?_
                                rotate_left
                                · simp only [Act.put, List.setIfInBounds_toArray, List.set_cons_zero, List.set_cons_succ, i64_w, i32_w]
                                  rfl
                                refine pure_ (i := 22) (N := some 87) (v := undef) (a' := ?_) #[true, true, true, true, true, true, true, true, true, true, true, true, true, true, true, true, true, true, true, true, true, true, true, false, false, false, false, false, false, false, false, false, false, false, false] rfl rfl (any_of HT_.out (by kernel_rfl)) (fun _ _ _ h => h) (Or.inr ⟨by rfl, rfl⟩) ?_ ?_
                                rotate_left
                                · simp only [Act.put, List.setIfInBounds_toArray, List.set_cons_zero, List.set_cons_succ, i64_w, i32_w]
                                  rfl
                                refine pure_ (i := 23) (N := some 88) (v := undef) (a' := ?_) #[true, true, true, true, true, true, true, true, true, true, true, true, true, true, true, true, true, true, true, true, true, true, true, true, false, false, false, false, false, false, false, false, false, false, false] rfl rfl (any_of HT_.out (by kernel_rfl)) (fun _ _ _ h => h) (Or.inr ⟨by rfl, rfl⟩) ?_ ?_
                                rotate_left
                                · simp only [Act.put, List.setIfInBounds_toArray, List.set_cons_zero, List.set_cons_succ, i64_w, i32_w]
                                  rfl
                                refine pure_ (i := 24) (N := some 89) (v := undef) (a' := ?_) #[true, true, true, true, true, true, true, true, true, true, true, true, true, true, true, true, true, true, true, true, true, true, true, true, true, false, false, false, false, false, false, false, false, false, false] rfl rfl (any_of HT_.out (by kernel_rfl)) (fun _ _ _ h => h) (Or.inr ⟨by rfl, rfl⟩) ?_ ?_
                                rotate_left
                                · simp only [Act.put, List.setIfInBounds_toArray, List.set_cons_zero, List.set_cons_succ, i64_w, i32_w]
                                  rfl
                                refine pure_ (i := 25) (N := some 90) (v := undef) (a' := ?_) #[true, true, true, true, true, true, true, true, true, true, true, true, true, true, true, true, true, true, true, true, true, true, true, true, true, true, false, false, false, false, false, false, false, false, false] rfl rfl (any_of HT_.out (by kernel_rfl)) (fun _ _ _ h => h) (Or.inr ⟨by rfl, rfl⟩) ?_ ?_
                                rotate_left
                                · simp only [Act.put, List.setIfInBounds_toArray, List.set_cons_zero, List.set_cons_succ, i64_w, i32_w]
                                  rfl
                                refine pure_ (i := 26) (N := some 91) (v := undef) (a' := ?_) #[true, true, true, true, true, true, true, true, true, true, true, true, true, true, true, true, true, true, true, true, true, true, true, true, true, true, true, false, false, false, false, false, false, false, false] rfl rfl (any_of HT_.out (by kernel_rfl)) (fun _ _ _ h => h) (Or.inr ⟨by rfl, rfl⟩) ?_ ?_
                                rotate_left
                                · simp only [Act.put, List.setIfInBounds_toArray, List.set_cons_zero, List.set_cons_succ, i64_w, i32_w]
                                  rfl
                                refine pure_ (i := 27) (N := some 92) (v := undef) (a' := ?_) #[true, true, true, true, true, true, true, true, true, true, true, true, true, true, true, true, true, true, true, true, true, true, true, true, true, true, true, true, false, false, false, false, false, false, false] rfl rfl (any_of HT_.out (by kernel_rfl)) (fun _ _ _ h => h) (Or.inr ⟨by rfl, rfl⟩) ?_ ?_
                                rotate_left
                                · simp only [Act.put, List.setIfInBounds_toArray, List.set_cons_zero, List.set_cons_succ, i64_w, i32_w]
                                  rfl
                                refine pure_ (i := 28) (N := some 93) (v := undef) (a' := ?_) #[true, true, true, true, true, true, true, true, true, true, true, true, true, true, true, true, true, true, true, true, true, true, true, true, true, true, true, true, true, false, false, false, false, false, false] rfl rfl (any_of HT_.out (by kernel_rfl)) (fun _ _ _ h => h) (Or.inr ⟨by rfl, rfl⟩) ?_ ?_
                                rotate_left
                                · simp only [Act.put, List.setIfInBounds_toArray, List.set_cons_zero, List.set_cons_succ, i64_w, i32_w]
                                  rfl
                                refine pure_ (i := 29) (N := some 94) (v := undef) (a' := ?_) #[true, true, true, true, true, true, true, true, true, true, true, true, true, true, true, true, true, true, true, true, true, true, true, true, true, true, true, true, true, true, false, false, false, false, false] rfl rfl (any_of HT_.out (by kernel_rfl)) (fun _ _ _ h => h) (Or.inr ⟨by rfl, rfl⟩) ?_ ?_
                                rotate_left
                                · simp only [Act.put, List.setIfInBounds_toArray, List.set_cons_zero, List.set_cons_succ, i64_w, i32_w]
                                  rfl
                                refine pure_ (i := 30) (N := some 95) (v := undef) (a' := ?_) #[true, true, true, true, true, true, true, true, true, true, true, true, true, true, true, true, true, true, true, true, true, true, true, true, true, true, true, true, true, true, true, false, false, false, false] rfl rfl (any_of HT_.out (by kernel_rfl)) (fun _ _ _ h => h) (Or.inr ⟨by rfl, rfl⟩) ?_ ?_
                                rotate_left
                                · simp only [Act.put, List.setIfInBounds_toArray, List.set_cons_zero, List.set_cons_succ, i64_w, i32_w]
                                  rfl
                                refine pure_ (i := 31) (N := some 96) (v := undef) (a' := ?_) #[true, true, true, true, true, true, true, true, true, true, true, true, true, true, true, true, true, true, true, true, true, true, true, true, true, true, true, true, true, true, true, true, false, false, false] rfl rfl (any_of HT_.out (by kernel_rfl)) (fun _ _ _ h => h) (Or.inr ⟨by rfl, rfl⟩) ?_ ?_
                                rotate_left
                                · simp only [Act.put, List.setIfInBounds_toArray, List.set_cons_zero, List.set_cons_succ, i64_w, i32_w]
                                  rfl
                                refine pure_ (i := 32) (N := some 97) (v := undef) (a' := ?_) #[true, true, true, true, true, true, true, true, true, true, true, true, true, true, true, true, true, true, true, true, true, true, true, true, true, true, true, true, true, true, true, true, true, false, false] rfl rfl (any_of HT_.out (by kernel_rfl)) (fun _ _ _ h => h) (Or.inr ⟨by rfl, rfl⟩) ?_ ?_
                                rotate_left
                                · simp only [Act.put, List.setIfInBounds_toArray, List.set_cons_zero, List.set_cons_succ, i64_w, i32_w]
                                  rfl
                                refine pure_ (i := 33) (N := some 98) (v := ?_) (a' := ?_) #[true, true, true, true, true, true, true, true, true, true, true, true, true, true, true, true, true, true, true, true, true, true, true, true, true, true, true, true, true, true, true, true, true, true, false] rfl rfl (any_of HT_.out (by kernel_rfl)) (fun _ _ _ h => h) (Or.inl ⟨by rfl, ?_⟩) ?_ ?_
                                rotate_left
                                · intro w'
                                  go_simp
                                  with_reducible rfl
                                rotate_left
                                · simp only [Act.put, List.setIfInBounds_toArray, List.set_cons_zero, List.set_cons_succ, i64_w, i32_w]
                                  rfl
                                refine pure_ (i := 34) (N := some 99) (v := ?_) (a' := ?_) #[true, true, true, true, true, true, true, true, true, true, true, true, true, true, true, true, true, true, true, true, true, true, true, true, true, true, true, true, true, true, true, true, true, true, true] rfl rfl (any_of HT_.out (by kernel_rfl)) (fun _ _ _ h => h) (Or.inl ⟨by rfl, ?_⟩) ?_ ?_
                                rotate_left
                                · intro w'
                                  go_simp
                                  with_reducible rfl
                                rotate_left
                                · simp only [Act.put, List.setIfInBounds_toArray, List.set_cons_zero, List.set_cons_succ, i64_w, i32_w]
                                  rfl
                                refine done_ (done_of HT_.out (by kernel_rfl)) ?_
                                try go_wp2
                                go_ret
                                exact ⟨by first | rfl | (simp [errW_none, errW_some] <;> rfl) | (simp [*, errW_none, errW_some] <;> rfl), by repeat (first | (with_reducible first | exact HB.out | apply below_alloc | apply pw_below_drewN | apply below_drew1 | refine below_set ?_ GE172.out) | exact HB.out)⟩
                              · rw [if_neg c59] at H
                                have c59b0 : decide (((rd_T27 x9_2 0).f0) ≤ ((rd_T27 t159 x61_3).f0)) = false := decide_eq_false c59
                                clear c59
                                obtain ⟨ji66, hji66⟩ : ∃ j_ : Int, (IntKind.u64.wrap (((rd_T27 x9_2 0).f0) - ((rd_T27 t159 x61_3).f0))) = j_ := ⟨_, rfl⟩
                                replace H : (if 0 ≤ (ji66) then (if (shr .u64 ((rd_T27 t159 x61_3).f1) (ji66)) = ((rd_T27 x9_2 0).f1) then (laws_FnRangeNodesSplit.l1 k3 a0 a2 t153 t159 x9_2 t159 (t159.length : Int) (wrap64 (x61_3 + 1))) else (some false)) else (none)) = some r := by first | (rw [hji66] at H; exact H) | (simp only [hji66] at H ⊢; exact H)
                                (try rw [hji66] at A50)
                                by_cases c67 : 0 ≤ (ji66)
                                · rw [if_pos c67] at H
                                  have c67b0 := eq_true c67
                                  have c67b1 : decide (0 ≤ (ji66)) = true := decide_eq_true c67
                                  clear c67
                                  obtain ⟨ji68, hji68⟩ : ∃ j_ : Int, (shr .u64 ((rd_T27 t159 x61_3).f1) (ji66)) = j_ := ⟨_, rfl⟩
                                  replace H : (if (ji68) = ((rd_T27 x9_2 0).f1) then (laws_FnRangeNodesSplit.l1 k3 a0 a2 t153 t159 x9_2 t159 (t159.length : Int) (wrap64 (x61_3 + 1))) else (some false)) = some r := by first | (rw [hji68] at H; exact H) | (simp only [hji68] at H ⊢; exact H)
                                  (try rw [hji68] at A50)
                                  have hji68_ : (((rd_T27 t159 x61_3).f1) / 2 ^ min (ji66).toNat 64) = ji68 := hji68
                                  have hji68z : (ji66) ≤ 64 → (((rd_T27 t159 x61_3).f1) / 2 ^ (ji66).toNat) = ji68 := shr_small hji68
                                  by_cases c69 : (ji68) = ((rd_T27 x9_2 0).f1)
                                  · rw [if_pos c69] at H
                                    have c69b0 : ((ji68) == ((rd_T27 x9_2 0).f1)) = true := beq_iff_eq.mpr c69
                                    have c69b1 : ((ji68) != ((rd_T27 x9_2 0).f1)) = false := bne_eq_false_iff_eq.mpr c69
                                    clear c69
                                    have H' := Aside0.mk H
                                    clear H
                                    have p171 : 0 ≤ (x61_3 : Int) := of_decide_eq_true (by first | (with_reducible assumption) | assumption)
                                    have q171 : x61_3 < (t159.length : Int) := of_decide_eq_true (by first | (with_reducible assumption) | assumption)
                                    obtain ⟨ad171, e171, hx171_0, hx171_1⟩ := at_T27 (Kd.R_reads' HO_59.out).2.2 x61_3 p171 q171
                                    cases e171
                                    replace p171 := eq_true p171
                                    replace q171 := eq_true q171
                                    try go_wp2_with (first | ((with_reducible refine gate_dst (N := 14) rfl ?_); (try (refine gate_guard (by rfl) ?_; dsimp only)); refine box_event ?hg (N := 14) ?hd (cs := #[.int .u64 0, .int .u64 0]) (t := 27) ?hr ?_; (case hd => rfl); (case hg => rfl); (case hr => first | (go_simp; done) | (go_simp; rfl)); intro gb172 hg w70 hbox hb; have n0_ := Aside0.mk (Kd.R_below (Kd.R_elderB (by (with_reducible repeat (first | apply Kd.R_alloc | apply Kd.R_drewN | apply Kd.R_drew)); exact HO_7.out) gb172 (Nat.le_of_eq hg.symm)) hb); have n1_ := Aside0.mk (Kd.R_below (Kd.R_elderB (by (with_reducible repeat (first | apply Kd.R_alloc | apply Kd.R_drewN | apply Kd.R_drew)); exact HO_8.out) gb172 (Nat.le_of_eq hg.symm)) hb); have n2_ := Aside0.mk (Kd.R_below (Kd.R_elderB (by (with_reducible repeat (first | apply Kd.R_alloc | apply Kd.R_drewN | apply Kd.R_drew)); exact HO_9.out) gb172 (Nat.le_of_eq hg.symm)) hb); have n3_ := Aside0.mk (Kd.R_below (Kd.R_elderB (by (with_reducible repeat (first | apply Kd.R_alloc | apply Kd.R_drewN | apply Kd.R_drew)); exact HO_59.out) gb172 (Nat.le_of_eq hg.symm)) hb); have n4_ := Aside0.mk (below_step (by repeat (first | (with_reducible first | exact HB.out | apply below_alloc | apply pw_below_drewN | apply below_drew1) | exact HB.out)) hb); have n5_ := Aside0.mk (hbox); have n6_ := Aside0.mk ((by rw [hg]; exact (below_size (by repeat (first | (with_reducible first | exact HB.out | apply below_alloc | apply pw_below_drewN | apply below_drew1) | exact HB.out))) : w.heap.size ≤ gb172)); have n7_ := Aside0.mk ((by rw [hg]; exact (below_size (by repeat (first | (with_reducible first | exact HB.out | apply below_alloc | apply pw_below_drewN | apply below_drew1) | exact HB.out))) : w.heap.size ≤ gb172)); clear HO_7; clear HO_8; clear HO_9; clear HO_59; clear HB; have HO_7 := n0_; have HO_8 := n1_; have HO_9 := n2_; have HO_59 := n3_; have HB := n4_; have BK172 := n5_; have GW172 := n6_; have GE172 := n7_; clear n0_ n1_ n2_ n3_ n4_ n5_ n6_ n7_; clear hb hbox hg; have hcz71_0 : w70.cell? ⟨gb172, 0, none⟩ = some (.int .u64 0) := (blk_cell BK172.out 0).trans rfl; have hcz71_1 : w70.cell? ⟨gb172, 1, none⟩ = some (.int .u64 0) := (blk_cell BK172.out 1).trans rfl; have hfz71_0 := blk_frozen BK172.out 0; have hfz71_1 := blk_frozen BK172.out 1))
                                    have n0_ : Aside0 (Kd.R k27 27 ((w70.setCell ⟨gb172, 0, none⟩ (.int .u64 ((rd_T27 t159 x61_3).f0))).setCell ⟨gb172, 1, none⟩ (.int .u64 ((rd_T27 t159 x61_3).f1))) w.heap.size (fun k_ => some k_ ≠ (.slice (some ad171) t159.length co46 : Value).ownBlock ∧ some k_ ≠ (u9 : Value).ownBlock ∧ some k_ ≠ (.slice (some ad171) t159.length co46 : Value).ownBlock ∧ k_ ≠ gb172) (.slice Ao14 t153.length co14) t153) := ⟨by (with_reducible repeat (first | apply Kd.R_alloc | apply Kd.R_drewN | apply Kd.R_drew)); exact Kd.R_mono (Kd.R_far (p := ⟨gb172, 1, none⟩) (Kd.R_far (p := ⟨gb172, 0, none⟩) (Kd.R_mono HO_7.out (fun k_ hk => (⟨hk, hk.2⟩ : _ ∧ k_ ≠ gb172))) (fun _ hk => hk.2) (.int .u64 ((rd_T27 t159 x61_3).f0))) (fun _ hk => hk.2) (.int .u64 ((rd_T27 t159 x61_3).f1))) (fun _ hk => ⟨hk.1.1.1, ⟨hk.1.1.2.1, ⟨hk.1.1.2.2, hk.1.2⟩⟩⟩)⟩
                                    have n1_ : Aside0 (Kd.R k27 27 ((w70.setCell ⟨gb172, 0, none⟩ (.int .u64 ((rd_T27 t159 x61_3).f0))).setCell ⟨gb172, 1, none⟩ (.int .u64 ((rd_T27 t159 x61_3).f1))) w.heap.size (fun k_ => some k_ ≠ (.slice Ao14 t153.length co14 : Value).ownBlock ∧ some k_ ≠ (u9 : Value).ownBlock ∧ k_ ≠ gb172) (.slice (some ad171) t159.length co46) t159) := ⟨by (with_reducible repeat (first | apply Kd.R_alloc | apply Kd.R_drewN | apply Kd.R_drew)); exact Kd.R_mono (Kd.R_far (p := ⟨gb172, 1, none⟩) (Kd.R_far (p := ⟨gb172, 0, none⟩) (Kd.R_mono HO_8.out (fun k_ hk => (⟨hk, hk.2⟩ : _ ∧ k_ ≠ gb172))) (fun _ hk => hk.2) (.int .u64 ((rd_T27 t159 x61_3).f0))) (fun _ hk => hk.2) (.int .u64 ((rd_T27 t159 x61_3).f1))) (fun _ hk => ⟨hk.1.1.1, ⟨hk.1.1.2, hk.1.2⟩⟩)⟩
                                    have n2_ : Aside0 (Kd.R k27 27 ((w70.setCell ⟨gb172, 0, none⟩ (.int .u64 ((rd_T27 t159 x61_3).f0))).setCell ⟨gb172, 1, none⟩ (.int .u64 ((rd_T27 t159 x61_3).f1))) w.heap.size (fun k_ => some k_ ≠ (.slice Ao14 t153.length co14 : Value).ownBlock ∧ some k_ ≠ (.slice (some ad171) t159.length co46 : Value).ownBlock ∧ some k_ ≠ (.slice (some ad171) t159.length co46 : Value).ownBlock ∧ k_ ≠ gb172) u9 x9_2) := ⟨by (with_reducible repeat (first | apply Kd.R_alloc | apply Kd.R_drewN | apply Kd.R_drew)); exact Kd.R_mono (Kd.R_far (p := ⟨gb172, 1, none⟩) (Kd.R_far (p := ⟨gb172, 0, none⟩) (Kd.R_mono HO_9.out (fun k_ hk => (⟨hk, hk.2⟩ : _ ∧ k_ ≠ gb172))) (fun _ hk => hk.2) (.int .u64 ((rd_T27 t159 x61_3).f0))) (fun _ hk => hk.2) (.int .u64 ((rd_T27 t159 x61_3).f1))) (fun _ hk => ⟨hk.1.1.1, ⟨hk.1.1.2.1, ⟨hk.1.1.2.2, hk.1.2⟩⟩⟩)⟩
                                    have n3_ : Aside0 (Kd.R k27 27 ((w70.setCell ⟨gb172, 0, none⟩ (.int .u64 ((rd_T27 t159 x61_3).f0))).setCell ⟨gb172, 1, none⟩ (.int .u64 ((rd_T27 t159 x61_3).f1))) w.heap.size (fun k_ => some k_ ≠ (.slice Ao14 t153.length co14 : Value).ownBlock ∧ some k_ ≠ (u9 : Value).ownBlock ∧ k_ ≠ gb172) (.slice (some ad171) t159.length co46) t159) := ⟨by (with_reducible repeat (first | apply Kd.R_alloc | apply Kd.R_drewN | apply Kd.R_drew)); exact Kd.R_mono (Kd.R_far (p := ⟨gb172, 1, none⟩) (Kd.R_far (p := ⟨gb172, 0, none⟩) (Kd.R_mono HO_59.out (fun k_ hk => (⟨hk, hk.2⟩ : _ ∧ k_ ≠ gb172))) (fun _ hk => hk.2) (.int .u64 ((rd_T27 t159 x61_3).f0))) (fun _ hk => hk.2) (.int .u64 ((rd_T27 t159 x61_3).f1))) (fun _ hk => ⟨hk.1.1.1, ⟨hk.1.1.2, hk.1.2⟩⟩)⟩
                                    have n4_ : Aside0 (((w70.setCell ⟨gb172, 0, none⟩ (.int .u64 ((rd_T27 t159 x61_3).f0))).setCell ⟨gb172, 1, none⟩ (.int .u64 ((rd_T27 t159 x61_3).f1))).heap[gb172]? = some (.cells #[.int .u64 ((rd_T27 t159 x61_3).f0), .int .u64 ((rd_T27 t159 x61_3).f1)] 27 (0, 0))) := ⟨by (with_reducible repeat (first | refine blk_drewN ?_ _ | refine blk_drew ?_ | refine blk_alloc ?_ _)); refine blk_put (cs := #[.int .u64 ((rd_T27 t159 x61_3).f0), .int .u64 0]) ?_ 1 _ rfl; (with_reducible repeat (first | refine blk_drewN ?_ _ | refine blk_drew ?_ | refine blk_alloc ?_ _)); refine blk_put (cs := #[.int .u64 0, .int .u64 0]) ?_ 0 _ rfl; (with_reducible repeat (first | refine blk_drewN ?_ _ | refine blk_drew ?_ | refine blk_alloc ?_ _)); exact BK172.out⟩
                                    have n5_ : Aside0 (Below w.heap.size w ((w70.setCell ⟨gb172, 0, none⟩ (.int .u64 ((rd_T27 t159 x61_3).f0))).setCell ⟨gb172, 1, none⟩ (.int .u64 ((rd_T27 t159 x61_3).f1)))) := ⟨by repeat (first | (with_reducible first | exact HB.out | apply below_alloc | apply pw_below_drewN | apply below_drew1 | refine below_set ?_ GE172.out) | exact HB.out)⟩
                                    (try clear HO_7)
                                    (try clear HO_8)
                                    (try clear HO_9)
                                    (try clear HO_59)
                                    (try clear BK172)
                                    (try clear HB)
                                    generalize ((w70.setCell ⟨gb172, 0, none⟩ (.int .u64 ((rd_T27 t159 x61_3).f0))).setCell ⟨gb172, 1, none⟩ (.int .u64 ((rd_T27 t159 x61_3).f1))) = w72 at n0_ n1_ n2_ n3_ n4_ n5_ ⊢
                                    have HO_7 := n0_
                                    have HO_8 := n1_
                                    have HO_9 := n2_
                                    have HO_59 := n3_
                                    have BK172 := n4_
                                    have HB := n5_
                                    clear n0_ n1_ n2_ n3_ n4_ n5_
                                    have n0_ := Aside0.mk (Kd.R_drew HO_7.out)
                                    have n1_ := Aside0.mk (Kd.R_drew HO_8.out)
                                    have n2_ := Aside0.mk (Kd.R_drew HO_9.out)
                                    have n3_ := Aside0.mk (Kd.R_drew HO_59.out)
                                    have n4_ := Aside0.mk (blk_drew BK172.out)
                                    have n5_ := Aside0.mk (below_drew1 HB.out)
                                    clear HO_7
                                    clear HO_8
                                    clear HO_9
                                    clear HO_59
                                    clear BK172
                                    clear HB
                                    have HO_7 := n0_
                                    have HO_8 := n1_
                                    have HO_9 := n2_
                                    have HO_59 := n3_
                                    have BK172 := n4_
                                    have HB := n5_
                                    clear n0_ n1_ n2_ n3_ n4_ n5_
                                    have p174 : 0 ≤ (0 : Int) := (by omega)
                                    have q174 : 0 < (x9_2.length : Int) := of_decide_eq_true (by first | (with_reducible assumption) | assumption)
                                    (try (obtain ⟨Ao_, co_, eo_⟩ := Kd.R_slice HO_9.out; subst eo_))
                                    obtain ⟨ad174, e174, hx174_0, hx174_1⟩ := at_T27 (Kd.R_reads' HO_9.out).2.2 0 p174 q174
                                    cases e174
                                    have qi174 : (0 < x9_2.length) = True := eq_true (by omega)
                                    (try rw [show ((0 : Int)).toNat = 0 from rfl] at hx174_0)
                                    (try rw [show 0 * 2 = 0 from rfl] at hx174_0)
                                    (try rw [Addr.add_zero'] at hx174_0)
                                    (try rw [show ((0 : Int)).toNat = 0 from rfl] at hx174_1)
                                    (try rw [show 0 * 2 = 0 from rfl] at hx174_1)
                                    (try rw [Addr.add_zero'] at hx174_1)
                                    replace p174 := eq_true p174
                                    replace q174 := eq_true q174
                                    have p175 : 0 ≤ (0 : Int) := (by omega)
                                    have q175 : 0 < (x9_2.length : Int) := of_decide_eq_true (by first | (with_reducible assumption) | assumption)
                                    (try (obtain ⟨Ao_, co_, eo_⟩ := Kd.R_slice HO_9.out; subst eo_))
                                    obtain ⟨ad175, e175, hx175_0, hx175_1⟩ := at_T27 (Kd.R_reads' HO_9.out).2.2 0 p175 q175
                                    obtain rfl : ad174 = ad175 := (by injection e175)
                                    have qi175 : (0 < x9_2.length) = True := eq_true (by omega)
                                    (try rw [show ((0 : Int)).toNat = 0 from rfl] at hx175_0)
                                    (try rw [show 0 * 2 = 0 from rfl] at hx175_0)
                                    (try rw [Addr.add_zero'] at hx175_0)
                                    (try rw [show ((0 : Int)).toNat = 0 from rfl] at hx175_1)
                                    (try rw [show 0 * 2 = 0 from rfl] at hx175_1)
                                    (try rw [Addr.add_zero'] at hx175_1)
                                    replace p175 := eq_true p175
                                    replace q175 := eq_true q175
                                    have p176 : 0 ≤ (0 : Int) := (by omega)
                                    have q176 : 0 < (x9_2.length : Int) := of_decide_eq_true (by first | (with_reducible assumption) | assumption)
                                    (try (obtain ⟨Ao_, co_, eo_⟩ := Kd.R_slice HO_9.out; subst eo_))
                                    obtain ⟨ad176, e176, hx176_0, hx176_1⟩ := at_T27 (Kd.R_reads' HO_9.out).2.2 0 p176 q176
                                    obtain rfl : ad174 = ad176 := (by injection e176)
                                    have qi176 : (0 < x9_2.length) = True := eq_true (by omega)
                                    (try rw [show ((0 : Int)).toNat = 0 from rfl] at hx176_0)
                                    (try rw [show 0 * 2 = 0 from rfl] at hx176_0)
                                    (try rw [Addr.add_zero'] at hx176_0)
                                    (try rw [show ((0 : Int)).toNat = 0 from rfl] at hx176_1)
                                    (try rw [show 0 * 2 = 0 from rfl] at hx176_1)
                                    (try rw [Addr.add_zero'] at hx176_1)
                                    replace p176 := eq_true p176
                                    replace q176 := eq_true q176
                                    refine start_ (n := 35) (S := fun w' => w'.cell? ⟨gb172, 0, none⟩ = some (.int .u64 ((rd_T27 t159 x61_3).f0)) ∧ w'.cell? ⟨gb172, 1, none⟩ = some (.int .u64 ((rd_T27 t159 x61_3).f1)) ∧ w'.cell? ad174 = some (.int .u64 ((rd_T27 x9_2 0).f0)) ∧ w'.cell? ⟨ad174.block, ad174.off + 1, none⟩ = some (.int .u64 ((rd_T27 x9_2 0).f1)) ∧ w'.cell? ad174 = some (.int .u64 ((rd_T27 x9_2 0).f0)) ∧ w'.cell? ⟨ad174.block, ad174.off + 1, none⟩ = some (.int .u64 ((rd_T27 x9_2 0).f1)) ∧ w'.cell? ad174 = some (.int .u64 ((rd_T27 x9_2 0).f0)) ∧ w'.cell? ⟨ad174.block, ad174.off + 1, none⟩ = some (.int .u64 ((rd_T27 x9_2 0).f1))) (ds := []) #[false, false, false, false, false, false, false, false, false, false, false, false, false, false, false, false, false, false, false, false, false, false, false, false, false, false, false, false, false, false, false, false, false, false, false] (by kernel_rfl) rfl rfl ⟨(blk_cell BK172.out 0).trans rfl, (blk_cell BK172.out 1).trans rfl, hx174_0, hx174_1, hx175_0, hx175_1, hx176_0, hx176_1⟩ (fun hHeld => ?_); refine with_tabW laws_FnRangeNodesSplit.tab17 laws_FnRangeNodesSplit.bits17 (fun HT_ HW_ => ?_)
                                    generalize w72.drew = w73 at HO_7 HO_8 HO_9 HO_59 BK172 HB hx174_0 hx174_1 hx175_0 hx175_1 hx176_0 hx176_1 hHeld ⊢
                                    refine pure_ (i := 0) (N := some 65) (v := ?_) (a' := ?_) #[true, false, false, false, false, false, false, false, false, false, false, false, false, false, false, false, false, false, false, false, false, false, false, false, false, false, false, false, false, false, false, false, false, false, false] rfl rfl (any_of HT_.out (by kernel_rfl)) (fun _ _ _ h => h) (Or.inl ⟨by rfl, ?_⟩) ?_ ?_
                                    rotate_left
                                    · intro w'
                                      go_simp
                                      with_reducible rfl
                                    rotate_left
                                    · simp only [Act.put, List.setIfInBounds_toArray, List.set_cons_zero, List.set_cons_succ, i64_w, i32_w]
                                      rfl
                                    refine take_ (i := 1) (N := some 66) (v := ?_) (a' := ?_) #[true, true, false, false, false, false, false, false, false, false, false, false, false, false, false, false, false, false, false, false, false, false, false, false, false, false, false, false, false, false, false, false, false, false, false] rfl rfl (take_ofW HT_.out HW_.out (by kernel_rfl)) (fun _ _ _ h => h) (Or.inl ⟨by rfl, ?_⟩) hHeld ?_ ?_
                                    rotate_left
                                    · rintro w' ⟨s0, s1, s2, s3, s4, s5, s6, s7⟩
                                      go_simp
                                      with_reducible rfl
                                    rotate_left
                                    · simp only [Act.put, List.setIfInBounds_toArray, List.set_cons_zero, List.set_cons_succ, i64_w, i32_w]
                                      rfl
                                    refine one_ (i := 2) (N := some 67) #[true, true, true, false, false, false, false, false, false, false, false, false, false, false, false, false, false, false, false, false, false, false, false, false, false, false, false, false, false, false, false, false, false, false, false] rfl rfl (one_of HT_.out (by kernel_rfl)) (by decide) (fun K hK => ?_)
                                    refine goes_ Tryd.func9 (by kernel_rfl) rfl #[.slice Ao14 t153.length co14, .agg #[.int .u64 ((rd_T27 t159 x61_3).f0), .int .u64 ((rd_T27 t159 x61_3).f1)]] (by rfl) rfl rfl (by (try simp only [List.map_toArray, List.map_cons, List.map_nil]); first | done | rfl | (simp only [List.length_drop, List.length_take]; rfl)) ?_
                                    with_reducible refine (spec_HasNode.calls k3 _ _ t153 ((rd_T27 t159 x61_3).f0) ((rd_T27 t159 x61_3).f1) false _ ?side1 ?side2 A50.out).mono ?_
                                    (case side1 => repeat (first | exact (Kd.R_reads' HO_7.out).2.2 | (with_reducible refine Kd.C_alloc ?_ _) | (with_reducible refine Kd.C_drewN ?_ _) | (with_reducible refine Kd.C_drew ?_)))
                                    (case side2 => exact (Kd.R_reads' HO_7.out).2.1)
                                    rintro e w74 ⟨rfl, hb⟩
                                    have HS2_ := (hb.cell (World.block_lt_of_cell? _ _ (hHeld.2.2.1))).trans (hHeld.2.2.1)
                                    have HS3_ := (hb.cell (World.block_lt_of_cell? _ _ (hHeld.2.2.2.1))).trans (hHeld.2.2.2.1)
                                    have HS4_ := (hb.cell (World.block_lt_of_cell? _ _ (hHeld.2.2.2.2.1))).trans (hHeld.2.2.2.2.1)
                                    have HS5_ := (hb.cell (World.block_lt_of_cell? _ _ (hHeld.2.2.2.2.2.1))).trans (hHeld.2.2.2.2.2.1)
                                    have HS6_ := (hb.cell (World.block_lt_of_cell? _ _ (hHeld.2.2.2.2.2.2.1))).trans (hHeld.2.2.2.2.2.2.1)
                                    have HS7_ := (hb.cell (World.block_lt_of_cell? _ _ (hHeld.2.2.2.2.2.2.2))).trans (hHeld.2.2.2.2.2.2.2)
                                    refine ⟨_, rfl, ?_⟩
                                    have n0_ := Aside0.mk (Kd.R_below (by (with_reducible repeat (first | apply Kd.R_alloc | apply Kd.R_drewN | apply Kd.R_drew)); exact HO_7.out) hb)
                                    have n1_ := Aside0.mk (Kd.R_below (by (with_reducible repeat (first | apply Kd.R_alloc | apply Kd.R_drewN | apply Kd.R_drew)); exact HO_8.out) hb)
                                    have n2_ := Aside0.mk (Kd.R_below (by (with_reducible repeat (first | apply Kd.R_alloc | apply Kd.R_drewN | apply Kd.R_drew)); exact HO_9.out) hb)
                                    have n3_ := Aside0.mk (Kd.R_below (by (with_reducible repeat (first | apply Kd.R_alloc | apply Kd.R_drewN | apply Kd.R_drew)); exact HO_59.out) hb)
                                    have n4_ := Aside0.mk (blk_below (g := gb172) (o := .cells #[.int .u64 ((rd_T27 t159 x61_3).f0), .int .u64 ((rd_T27 t159 x61_3).f1)] 27 (0, 0)) (by (with_reducible repeat (first | refine blk_drewN ?_ _ | refine blk_drew ?_ | refine blk_alloc ?_ _)); exact BK172.out) hb)
                                    have n5_ := Aside0.mk (below_step (by repeat (first | (with_reducible first | exact HB.out | apply below_alloc | apply pw_below_drewN | apply below_drew1 | refine below_set ?_ GE172.out) | exact HB.out)) hb)
                                    clear HO_7
                                    clear HO_8
                                    clear HO_9
                                    clear HO_59
                                    clear BK172
                                    clear HB
                                    have HO_7 := n0_
                                    have HO_8 := n1_
                                    have HO_9 := n2_
                                    have HO_59 := n3_
                                    have BK172 := n4_
                                    have HB := n5_
                                    clear n0_ n1_ n2_ n3_ n4_ n5_
                                    (try clear hb)
                                    (try clear hb2)
                                    (try clear hk)
                                    (try clear hi)
                                    obtain ⟨Ao75, co75, eo75⟩ := Kd.R_slice HO_9.out
                                    (first | subst eo75 | (injection eo75 with f1_ f2_ f3_; have f4_ := f1_.symm; have f5_ := f3_.symm; clear f1_ f2_ f3_; subst f4_; subst f5_))
                                    refine hK.out _ _ ⟨(blk_cell BK172.out 0).trans rfl, (blk_cell BK172.out 1).trans rfl, HS2_, HS3_, HS4_, HS5_, HS6_, HS7_⟩ (fun hHeld => ?_)
                                    clear hK K
                                    refine norm_ (a' := ?_) ?_ ?_
                                    rotate_left
                                    · show Act.put _ (some 67) _ = _
                                      simp only [Act.put, List.setIfInBounds_toArray, List.set_cons_zero, List.set_cons_succ, i64_w, i32_w]
                                      rfl
                                    refine pure_ (i := 3) (N := some 68) (v := ?_) (a' := ?_) #[true, true, true, true, false, false, false, false, false, false, false, false, false, false, false, false, false, false, false, false, false, false, false, false, false, false, false, false, false, false, false, false, false, false, false] rfl rfl (any_of HT_.out (by kernel_rfl)) (fun _ _ _ h => h) (Or.inl ⟨by rfl, ?_⟩) ?_ ?_
                                    rotate_left
                                    · intro w'
                                      go_simp
                                      with_reducible rfl
                                    rotate_left
                                    · simp only [Act.put, List.setIfInBounds_toArray, List.set_cons_zero, List.set_cons_succ, i64_w, i32_w]
                                      rfl
                                    refine pure_ (i := 4) (N := some 69) (v := ?_) (a' := ?_) #[true, true, true, true, true, false, false, false, false, false, false, false, false, false, false, false, false, false, false, false, false, false, false, false, false, false, false, false, false, false, false, false, false, false, false] rfl rfl (any_of HT_.out (by kernel_rfl)) (fun _ _ _ h => h) (Or.inl ⟨by rfl, ?_⟩) ?_ ?_
                                    rotate_left
                                    · intro w'
                                      go_simp
                                      with_reducible rfl
                                    rotate_left
                                    · simp only [Act.put, List.setIfInBounds_toArray, List.set_cons_zero, List.set_cons_succ, i64_w, i32_w]
                                      rfl
                                    refine pure_ (i := 5) (N := some 70) (v := ?_) (a' := ?_) #[true, true, true, true, true, true, false, false, false, false, false, false, false, false, false, false, false, false, false, false, false, false, false, false, false, false, false, false, false, false, false, false, false, false, false] rfl rfl (any_of HT_.out (by kernel_rfl)) (fun _ _ _ h => h) (Or.inl ⟨by rfl, ?_⟩) ?_ ?_
                                    rotate_left
                                    · intro w'
                                      go_simp
                                      with_reducible rfl
                                    rotate_left
                                    · simp only [Act.put, List.setIfInBounds_toArray, List.set_cons_zero, List.set_cons_succ, i64_w, i32_w]
                                      rfl
                                    refine pure_ (i := 6) (N := some 71) (v := ?_) (a' := ?_) #[true, true, true, true, true, true, true, false, false, false, false, false, false, false, false, false, false, false, false, false, false, false, false, false, false, false, false, false, false, false, false, false, false, false, false] rfl rfl (any_of HT_.out (by kernel_rfl)) (fun _ _ _ h => h) (Or.inl ⟨by rfl, ?_⟩) ?_ ?_
                                    rotate_left
                                    · intro w'
                                      go_simp
                                      with_reducible rfl
                                    rotate_left
                                    · simp only [Act.put, List.setIfInBounds_toArray, List.set_cons_zero, List.set_cons_succ, i64_w, i32_w]
                                      rfl
                                    refine pure_ (i := 7) (N := some 72) (v := ?_) (a' := ?_) #[true, true, true, true, true, true, true, true, false, false, false, false, false, false, false, false, false, false, false, false, false, false, false, false, false, false, false, false, false, false, false, false, false, false, false] rfl rfl (any_of HT_.out (by kernel_rfl)) (fun _ _ _ h => h) (Or.inl ⟨by rfl, ?_⟩) ?_ ?_
                                    rotate_left
                                    · intro w'
                                      go_simp
                                      with_reducible rfl
                                    rotate_left
                                    · simp only [Act.put, List.setIfInBounds_toArray, List.set_cons_zero, List.set_cons_succ, i64_w, i32_w]
                                      rfl
                                    refine pure_ (i := 8) (N := some 73) (v := ?_) (a' := ?_) #[true, true, true, true, true, true, true, true, true, false, false, false, false, false, false, false, false, false, false, false, false, false, false, false, false, false, false, false, false, false, false, false, false, false, false] rfl rfl (any_of HT_.out (by kernel_rfl)) (fun _ _ _ h => h) (Or.inl ⟨by rfl, ?_⟩) ?_ ?_
                                    rotate_left
                                    · intro w'
                                      go_simp
                                      with_reducible rfl
                                    rotate_left
                                    · simp only [Act.put, List.setIfInBounds_toArray, List.set_cons_zero, List.set_cons_succ, i64_w, i32_w]
                                      rfl
                                    refine pure_ (i := 9) (N := some 74) (v := ?_) (a' := ?_) #[true, true, true, true, true, true, true, true, true, true, false, false, false, false, false, false, false, false, false, false, false, false, false, false, false, false, false, false, false, false, false, false, false, false, false] rfl rfl (any_of HT_.out (by kernel_rfl)) (fun _ _ _ h => h) (Or.inl ⟨by rfl, ?_⟩) ?_ ?_
                                    rotate_left
                                    · intro w'
                                      go_simp
                                      with_reducible rfl
                                    rotate_left
                                    · simp only [Act.put, List.setIfInBounds_toArray, List.set_cons_zero, List.set_cons_succ, i64_w, i32_w]
                                      rfl
                                    refine pure_ (i := 11) (N := some 76) (v := ?_) (a' := ?_) #[true, true, true, true, true, true, true, true, true, true, false, true, false, false, false, false, false, false, false, false, false, false, false, false, false, false, false, false, false, false, false, false, false, false, false] rfl rfl (any_of HT_.out (by kernel_rfl)) (fun _ _ _ h => h) (Or.inl ⟨by rfl, ?_⟩) ?_ ?_
                                    rotate_left
                                    · intro w'
                                      go_simp
                                      with_reducible rfl
                                    rotate_left
                                    · simp only [Act.put, List.setIfInBounds_toArray, List.set_cons_zero, List.set_cons_succ, i64_w, i32_w]
                                      rfl
                                    refine pure_ (i := 12) (N := some 77) (v := ?_) (a' := ?_) #[true, true, true, true, true, true, true, true, true, true, false, true, true, false, false, false, false, false, false, false, false, false, false, false, false, false, false, false, false, false, false, false, false, false, false] rfl rfl (any_of HT_.out (by kernel_rfl)) (fun _ _ _ h => h) (Or.inl ⟨by rfl, ?_⟩) ?_ ?_
                                    rotate_left
                                    · intro w'
                                      go_simp
                                      with_reducible rfl
                                    rotate_left
                                    · simp only [Act.put, List.setIfInBounds_toArray, List.set_cons_zero, List.set_cons_succ, i64_w, i32_w]
                                      rfl
                                    refine pure_ (i := 13) (N := some 78) (v := ?_) (a' := ?_) #[true, true, true, true, true, true, true, true, true, true, false, true, true, true, false, false, false, false, false, false, false, false, false, false, false, false, false, false, false, false, false, false, false, false, false] rfl rfl (any_of HT_.out (by kernel_rfl)) (fun _ _ _ h => h) (Or.inl ⟨by rfl, ?_⟩) ?_ ?_
                                    rotate_left
                                    · intro w'
                                      go_simp
                                      with_reducible rfl
                                    rotate_left
                                    · simp only [Act.put, List.setIfInBounds_toArray, List.set_cons_zero, List.set_cons_succ, i64_w, i32_w]
                                      rfl
                                    refine take_ (i := 10) (N := some 75) (v := ?_) (a' := ?_) #[true, true, true, true, true, true, true, true, true, true, true, true, true, true, false, false, false, false, false, false, false, false, false, false, false, false, false, false, false, false, false, false, false, false, false] rfl rfl (take_ofW HT_.out HW_.out (by kernel_rfl)) (fun _ _ _ h => h) (Or.inl ⟨by rfl, ?_⟩) hHeld ?_ ?_
                                    rotate_left
                                    · rintro w' ⟨s0, s1, s2, s3, s4, s5, s6, s7⟩
                                      go_simp
                                      with_reducible rfl
                                    rotate_left
                                    · simp only [Act.put, List.setIfInBounds_toArray, List.set_cons_zero, List.set_cons_succ, i64_w, i32_w]
                                      rfl
                                    refine take_ (i := 14) (N := some 79) (v := ?_) (a' := ?_) #[true, true, true, true, true, true, true, true, true, true, true, true, true, true, true, false, false, false, false, false, false, false, false, false, false, false, false, false, false, false, false, false, false, false, false] rfl rfl (take_ofW HT_.out HW_.out (by kernel_rfl)) (fun _ _ _ h => h) (Or.inl ⟨by rfl, ?_⟩) hHeld ?_ ?_
                                    rotate_left
                                    · rintro w' ⟨s0, s1, s2, s3, s4, s5, s6, s7⟩
                                      go_simp
                                      with_reducible rfl
                                    rotate_left
                                    · simp only [Act.put, List.setIfInBounds_toArray, List.set_cons_zero, List.set_cons_succ, i64_w, i32_w]
                                      rfl
                                    refine pure_ (i := 15) (N := some 80) (v := ?_) (a' := ?_) #[true, true, true, true, true, true, true, true, true, true, true, true, true, true, true, true, false, false, false, false, false, false, false, false, false, false, false, false, false, false, false, false, false, false, false] rfl rfl (any_of HT_.out (by kernel_rfl)) (fun _ _ _ h => h) (Or.inl ⟨by rfl, ?_⟩) ?_ ?_
                                    rotate_left
                                    · intro w'
                                      go_simp
                                      with_reducible rfl
                                    rotate_left
                                    · simp only [Act.put, List.setIfInBounds_toArray, List.set_cons_zero, List.set_cons_succ, i64_w, i32_w]
                                      rfl
                                    refine pure_ (i := 16) (N := some 81) (v := ?_) (a' := ?_) #[true, true, true, true, true, true, true, true, true, true, true, true, true, true, true, true, true, false, false, false, false, false, false, false, false, false, false, false, false, false, false, false, false, false, false] rfl rfl (any_of HT_.out (by kernel_rfl)) (fun _ _ _ h => h) (Or.inl ⟨by rfl, ?_⟩) ?_ ?_
                                    rotate_left
                                    · intro w'
                                      go_simp
                                      with_reducible rfl
                                    rotate_left
                                    · simp only [Act.put, List.setIfInBounds_toArray, List.set_cons_zero, List.set_cons_succ, i64_w, i32_w]
                                      rfl
                                    refine pure_ (i := 17) (N := some 82) (v := ?_) (a' := ?_) #[true, true, true, true, true, true, true, true, true, true, true, true, true, true, true, true, true, true, false, false, false, false, false, false, false, false, false, false, false, false, false, false, false, false, false] rfl rfl (any_of HT_.out (by kernel_rfl)) (fun _ _ _ h => h) (Or.inl ⟨by rfl, ?_⟩) ?_ ?_
                                    rotate_left
                                    · intro w'
                                      go_simp
                                      with_reducible rfl
                                    rotate_left
                                    · simp only [Act.put, List.setIfInBounds_toArray, List.set_cons_zero, List.set_cons_succ, i64_w, i32_w]
                                      rfl
                                    refine pure_ (i := 18) (N := some 83) (v := ?_) (a' := ?_) #[true, true, true, true, true, true, true, true, true, true, true, true, true, true, true, true, true, true, true, false, false, false, false, false, false, false, false, false, false, false, false, false, false, false, false] rfl rfl (any_of HT_.out (by kernel_rfl)) (fun _ _ _ h => h) (Or.inl ⟨by rfl, ?_⟩) ?_ ?_
                                    rotate_left
                                    · intro w'
                                      go_simp
                                      with_reducible rfl
                                    rotate_left
                                    · simp only [Act.put, List.setIfInBounds_toArray, List.set_cons_zero, List.set_cons_succ, i64_w, i32_w]
                                      rfl
                                    refine pure_ (i := 20) (N := some 85) (v := ?_) (a' := ?_) #[true, true, true, true, true, true, true, true, true, true, true, true, true, true, true, true, true, true, true, false, true, false, false, false, false, false, false, false, false, false, false, false, false, false, false] rfl rfl (any_of HT_.out (by kernel_rfl)) (fun _ _ _ h => h) (Or.inl ⟨by rfl, ?_⟩) ?_ ?_
                                    rotate_left
                                    · intro w'
                                      go_simp
                                      with_reducible rfl
                                    rotate_left
                                    · simp only [Act.put, List.setIfInBounds_toArray, List.set_cons_zero, List.set_cons_succ, i64_w, i32_w]
                                      rfl
                                    refine pure_ (i := 21) (N := some 86) (v := ?_) (a' := ?_) #[true, true, true, true, true, true, true, true, true, true, true, true, true, true, true, true, true, true, true, false, true, true, false, false, false, false, false, false, false, false, false, false, false, false, false] rfl rfl (any_of HT_.out (by kernel_rfl)) (fun _ _ _ h => h) (Or.inl ⟨by rfl, ?_⟩) ?_ ?_
                                    rotate_left
                                    · intro w'
                                      go_simp
                                      with_reducible rfl
                                    rotate_left
                                    · simp only [Act.put, List.setIfInBounds_toArray, List.set_cons_zero, List.set_cons_succ, i64_w, i32_w]
                                      rfl
                                    refine pure_ (i := 22) (N := some 87) (v := ?_) (a' := ?_) #[true, true, true, true, true, true, true, true, true, true, true, true, true, true, true, true, true, true, true, false, true, true, true, false, false, false, false, false, false, false, false, false, false, false, false] rfl rfl (any_of HT_.out (by kernel_rfl)) (fun _ _ _ h => h) (Or.inl ⟨by rfl, ?_⟩) ?_ ?_
                                    rotate_left
                                    · intro w'
                                      go_simp
                                      with_reducible rfl
                                    rotate_left
                                    · simp only [Act.put, List.setIfInBounds_toArray, List.set_cons_zero, List.set_cons_succ, i64_w, i32_w]
                                      rfl
                                    refine pure_ (i := 24) (N := some 89) (v := ?_) (a' := ?_) #[true, true, true, true, true, true, true, true, true, true, true, true, true, true, true, true, true, true, true, false, true, true, true, false, true, false, false, false, false, false, false, false, false, false, false] rfl rfl (any_of HT_.out (by kernel_rfl)) (fun _ _ _ h => h) (Or.inl ⟨by rfl, ?_⟩) ?_ ?_
                                    rotate_left
                                    · intro w'
                                      go_simp
                                      with_reducible rfl
                                    rotate_left
                                    · simp only [Act.put, List.setIfInBounds_toArray, List.set_cons_zero, List.set_cons_succ, i64_w, i32_w]
                                      rfl
                                    refine pure_ (i := 28) (N := some 93) (v := ?_) (a' := ?_) #[true, true, true, true, true, true, true, true, true, true, true, true, true, true, true, true, true, true, true, false, true, true, true, false, true, false, false, false, true, false, false, false, false, false, false] rfl rfl (any_of HT_.out (by kernel_rfl)) (fun _ _ _ h => h) (Or.inl ⟨by rfl, ?_⟩) ?_ ?_
                                    rotate_left
                                    · intro w'
                                      go_simp
                                      with_reducible rfl
                                    rotate_left
                                    · simp only [Act.put, List.setIfInBounds_toArray, List.set_cons_zero, List.set_cons_succ, i64_w, i32_w]
                                      rfl
                                    refine pure_ (i := 29) (N := some 94) (v := ?_) (a' := ?_) #[true, true, true, true, true, true, true, true, true, true, true, true, true, true, true, true, true, true, true, false, true, true, true, false, true, false, false, false, true, true, false, false, false, false, false] rfl rfl (any_of HT_.out (by kernel_rfl)) (fun _ _ _ h => h) (Or.inl ⟨by rfl, ?_⟩) ?_ ?_
                                    rotate_left
                                    · intro w'
                                      go_simp
                                      with_reducible rfl
                                    rotate_left
                                    · simp only [Act.put, List.setIfInBounds_toArray, List.set_cons_zero, List.set_cons_succ, i64_w, i32_w]
                                      rfl
                                    refine pure_ (i := 30) (N := some 95) (v := ?_) (a' := ?_) #[true, true, true, true, true, true, true, true, true, true, true, true, true, true, true, true, true, true, true, false, true, true, true, false, true, false, false, false, true, true, true, false, false, false, false] rfl rfl (any_of HT_.out (by kernel_rfl)) (fun _ _ _ h => h) (Or.inl ⟨by rfl, ?_⟩) ?_ ?_
                                    rotate_left
                                    · intro w'
                                      go_simp
                                      with_reducible rfl
                                    rotate_left
                                    · simp only [Act.put, List.setIfInBounds_toArray, List.set_cons_zero, List.set_cons_succ, i64_w, i32_w]
                                      rfl
                                    refine take_ (i := 19) (N := some 84) (v := ?_) (a' := ?_) #[true, true, true, true, true, true, true, true, true, true, true, true, true, true, true, true, true, true, true, true, true, true, true, false, true, false, false, false, true, true, true, false, false, false, false] rfl rfl (take_ofW HT_.out HW_.out (by kernel_rfl)) (fun _ _ _ h => h) (Or.inl ⟨by rfl, ?_⟩) hHeld ?_ ?_
                                    rotate_left
                                    · rintro w' ⟨s0, s1, s2, s3, s4, s5, s6, s7⟩
                                      go_simp
                                      with_reducible rfl
                                    rotate_left
                                    · simp only [Act.put, List.setIfInBounds_toArray, List.set_cons_zero, List.set_cons_succ, i64_w, i32_w]
                                      rfl
                                    refine take_ (i := 23) (N := some 88) (v := ?_) (a' := ?_) #[true, true, true, true, true, true, true, true, true, true, true, true, true, true, true, true, true, true, true, true, true, true, true, true, true, false, false, false, true, true, true, false, false, false, false] rfl rfl (take_ofW HT_.out HW_.out (by kernel_rfl)) (fun _ _ _ h => h) (Or.inl ⟨by rfl, ?_⟩) hHeld ?_ ?_
                                    rotate_left
                                    · rintro w' ⟨s0, s1, s2, s3, s4, s5, s6, s7⟩
                                      go_simp
                                      with_reducible rfl
                                    rotate_left
                                    · simp only [Act.put, List.setIfInBounds_toArray, List.set_cons_zero, List.set_cons_succ, i64_w, i32_w]
                                      rfl
                                    refine take_ (i := 25) (N := some 90) (v := ?_) (a' := ?_) #[true, true, true, true, true, true, true, true, true, true, true, true, true, true, true, true, true, true, true, true, true, true, true, true, true, true, false, false, true, true, true, false, false, false, false] rfl rfl (take_ofW HT_.out HW_.out (by kernel_rfl)) (fun _ _ _ h => h) (Or.inl ⟨by rfl, ?_⟩) hHeld ?_ ?_
                                    rotate_left
                                    · rintro w' ⟨s0, s1, s2, s3, s4, s5, s6, s7⟩
                                      go_simp
                                      with_reducible rfl
                                    rotate_left
                                    · simp only [Act.put, List.setIfInBounds_toArray, List.set_cons_zero, List.set_cons_succ, i64_w, i32_w]
                                      rfl
                                    refine pure_ (i := 26) (N := some 91) (v := ?_) (a' := ?_) #[true, true, true, true, true, true, true, true, true, true, true, true, true, true, true, true, true, true, true, true, true, true, true, true, true, true, true, false, true, true, true, false, false, false, false] rfl rfl (any_of HT_.out (by kernel_rfl)) (fun _ _ _ h => h) (Or.inl ⟨by rfl, ?_⟩) ?_ ?_
                                    rotate_left
                                    · intro w'
                                      go_simp
                                      with_reducible rfl
                                    rotate_left
                                    · simp only [Act.put, List.setIfInBounds_toArray, List.set_cons_zero, List.set_cons_succ, i64_w, i32_w]
                                      rfl
                                    refine pure_ (i := 27) (N := some 92) (v := ?_) (a' := ?_) #[true, true, true, true, true, true, true, true, true, true, true, true, true, true, true, true, true, true, true, true, true, true, true, true, true, true, true, true, true, true, true, false, false, false, false] rfl rfl (any_of HT_.out (by kernel_rfl)) (fun _ _ _ h => h) (Or.inl ⟨by rfl, ?_⟩) ?_ ?_
                                    rotate_left
                                    · intro w'
                                      go_simp
                                      with_reducible rfl
                                    rotate_left
                                    · simp only [Act.put, List.setIfInBounds_toArray, List.set_cons_zero, List.set_cons_succ, i64_w, i32_w]
                                      rfl
                                    refine take_ (i := 31) (N := some 96) (v := ?_) (a' := ?_) #[true, true, true, true, true, true, true, true, true, true, true, true, true, true, true, true, true, true, true, true, true, true, true, true, true, true, true, true, true, true, true, true, false, false, false] rfl rfl (take_ofW HT_.out HW_.out (by kernel_rfl)) (fun _ _ _ h => h) (Or.inl ⟨by rfl, ?_⟩) hHeld ?_ ?_
                                    rotate_left
                                    · rintro w' ⟨s0, s1, s2, s3, s4, s5, s6, s7⟩
                                      go_simp
                                      with_reducible rfl
                                    rotate_left
                                    · simp only [Act.put, List.setIfInBounds_toArray, List.set_cons_zero, List.set_cons_succ, i64_w, i32_w]
                                      rfl
                                    refine pure_ (i := 32) (N := some 97) (v := ?_) (a' := ?_) #[true, true, true, true, true, true, true, true, true, true, true, true, true, true, true, true, true, true, true, true, true, true, true, true, true, true, true, true, true, true, true, true, true, false, false] rfl rfl (any_of HT_.out (by kernel_rfl)) (fun _ _ _ h => h) (Or.inl ⟨by rfl, ?_⟩) ?_ ?_
                                    rotate_left
                                    · intro w'
                                      go_simp
                                      with_reducible rfl
                                    rotate_left
                                    · simp only [Act.put, List.setIfInBounds_toArray, List.set_cons_zero, List.set_cons_succ, i64_w, i32_w]
                                      rfl
                                    refine pure_ (i := 33) (N := some 98) (v := ?_) (a' := ?_) #[true, true, true, true, true, true, true, true, true, true, true, true, true, true, true, true, true, true, true, true, true, true, true, true, true, true, true, true, true, true, true, true, true, true, false] rfl rfl (any_of HT_.out (by kernel_rfl)) (fun _ _ _ h => h) (Or.inl ⟨by rfl, ?_⟩) ?_ ?_
                                    rotate_left
                                    · intro w'
                                      go_simp
                                      with_reducible rfl
                                    rotate_left
                                    · simp only [Act.put, List.setIfInBounds_toArray, List.set_cons_zero, List.set_cons_succ, i64_w, i32_w]
                                      rfl
                                    refine pure_ (i := 34) (N := some 99) (v := ?_) (a' := ?_) #[true, true, true, true, true, true, true, true, true, true, true, true, true, true, true, true, true, true, true, true, true, true, true, true, true, true, true, true, true, true, true, true, true, true, true] rfl rfl (any_of HT_.out (by kernel_rfl)) (fun _ _ _ h => h) (Or.inl ⟨by rfl, ?_⟩) ?_ ?_
                                    rotate_left
                                    · intro w'
                                      go_simp
                                      with_reducible rfl
                                    rotate_left
                                    · simp only [Act.put, List.setIfInBounds_toArray, List.set_cons_zero, List.set_cons_succ, i64_w, i32_w]
                                      rfl
                                    refine done_ (done_of HT_.out (by kernel_rfl)) ?_
                                    try go_wp2
                                    go_roundg k3
                                    case measure => have := HJ3.out; have := HK2.out; have := HK3.out; omega
                                    case rel => exact ⟨(wrap64 (x61_3 + 1)), (by first | rfl | (simp; done) | (simp [*]; done)), H', ⟨by have := HJ3.out; have := HK2.out; have := HK3.out; omega⟩, ⟨by (with_reducible repeat (first | apply Kd.R_alloc | apply Kd.R_drewN | apply Kd.R_drew)); exact Kd.R_mono HO_7.out (fun _ hk => ⟨hk.1, ⟨hk.2.1, hk.2.2.1⟩⟩)⟩, ⟨by (with_reducible repeat (first | apply Kd.R_alloc | apply Kd.R_drewN | apply Kd.R_drew)); exact Kd.R_mono HO_8.out (fun _ hk => ⟨hk.1, hk.2.1⟩)⟩, ⟨by (with_reducible repeat (first | apply Kd.R_alloc | apply Kd.R_drewN | apply Kd.R_drew)); exact Kd.R_mono HO_9.out (fun _ hk => ⟨hk.1, ⟨hk.2.1, hk.2.2.1⟩⟩)⟩, ⟨by (with_reducible repeat (first | apply Kd.R_alloc | apply Kd.R_drewN | apply Kd.R_drew)); exact Kd.R_mono HO_59.out (fun _ hk => ⟨hk.1, hk.2.1⟩)⟩, ⟨by repeat (first | (with_reducible first | exact HB.out | apply below_alloc | apply pw_below_drewN | apply below_drew1 | refine below_set ?_ GE172.out) | exact HB.out)⟩⟩
                                  · rw [if_neg c69] at H
                                    have c69b0 : ((ji68) == ((rd_T27 x9_2 0).f1)) = false := beq_eq_false_iff_ne.mpr c69
                                    have c69b1 : ((ji68) != ((rd_T27 x9_2 0).f1)) = true := bne_iff_ne.mpr c69
                                    obtain rfl := Option.some.inj H
                                    have p171 : 0 ≤ (x61_3 : Int) := of_decide_eq_true (by first | (with_reducible assumption) | assumption)
                                    have q171 : x61_3 < (t159.length : Int) := of_decide_eq_true (by first | (with_reducible assumption) | assumption)
                                    obtain ⟨ad171, e171, hx171_0, hx171_1⟩ := at_T27 (Kd.R_reads' HO_59.out).2.2 x61_3 p171 q171
                                    cases e171
                                    replace p171 := eq_true p171
                                    replace q171 := eq_true q171
                                    try go_wp2_with (first | ((with_reducible refine gate_dst (N := 14) rfl ?_); (try (refine gate_guard (by rfl) ?_; dsimp only)); refine box_event ?hg (N := 14) ?hd (cs := #[.int .u64 0, .int .u64 0]) (t := 27) ?hr ?_; (case hd => rfl); (case hg => rfl); (case hr => first | (go_simp; done) | (go_simp; rfl)); intro gb172 hg w76 hbox hb; have n0_ := Aside0.mk (Kd.R_below (Kd.R_elderB (by (with_reducible repeat (first | apply Kd.R_alloc | apply Kd.R_drewN | apply Kd.R_drew)); exact HO_7.out) gb172 (Nat.le_of_eq hg.symm)) hb); have n1_ := Aside0.mk (Kd.R_below (Kd.R_elderB (by (with_reducible repeat (first | apply Kd.R_alloc | apply Kd.R_drewN | apply Kd.R_drew)); exact HO_8.out) gb172 (Nat.le_of_eq hg.symm)) hb); have n2_ := Aside0.mk (Kd.R_below (Kd.R_elderB (by (with_reducible repeat (first | apply Kd.R_alloc | apply Kd.R_drewN | apply Kd.R_drew)); exact HO_9.out) gb172 (Nat.le_of_eq hg.symm)) hb); have n3_ := Aside0.mk (Kd.R_below (Kd.R_elderB (by (with_reducible repeat (first | apply Kd.R_alloc | apply Kd.R_drewN | apply Kd.R_drew)); exact HO_59.out) gb172 (Nat.le_of_eq hg.symm)) hb); have n4_ := Aside0.mk (below_step (by repeat (first | (with_reducible first | exact HB.out | apply below_alloc | apply pw_below_drewN | apply below_drew1) | exact HB.out)) hb); have n5_ := Aside0.mk (hbox); have n6_ := Aside0.mk ((by rw [hg]; exact (below_size (by repeat (first | (with_reducible first | exact HB.out | apply below_alloc | apply pw_below_drewN | apply below_drew1) | exact HB.out))) : w.heap.size ≤ gb172)); have n7_ := Aside0.mk ((by rw [hg]; exact (below_size (by repeat (first | (with_reducible first | exact HB.out | apply below_alloc | apply pw_below_drewN | apply below_drew1) | exact HB.out))) : w.heap.size ≤ gb172)); clear HO_7; clear HO_8; clear HO_9; clear HO_59; clear HB; have HO_7 := n0_; have HO_8 := n1_; have HO_9 := n2_; have HO_59 := n3_; have HB := n4_; have BK172 := n5_; have GW172 := n6_; have GE172 := n7_; clear n0_ n1_ n2_ n3_ n4_ n5_ n6_ n7_; clear hb hbox hg; have hcz77_0 : w76.cell? ⟨gb172, 0, none⟩ = some (.int .u64 0) := (blk_cell BK172.out 0).trans rfl; have hcz77_1 : w76.cell? ⟨gb172, 1, none⟩ = some (.int .u64 0) := (blk_cell BK172.out 1).trans rfl; have hfz77_0 := blk_frozen BK172.out 0; have hfz77_1 := blk_frozen BK172.out 1))
                                    have n0_ : Aside0 (Kd.R k27 27 ((w76.setCell ⟨gb172, 0, none⟩ (.int .u64 ((rd_T27 t159 x61_3).f0))).setCell ⟨gb172, 1, none⟩ (.int .u64 ((rd_T27 t159 x61_3).f1))) w.heap.size (fun k_ => some k_ ≠ (.slice (some ad171) t159.length co46 : Value).ownBlock ∧ some k_ ≠ (u9 : Value).ownBlock ∧ some k_ ≠ (.slice (some ad171) t159.length co46 : Value).ownBlock ∧ k_ ≠ gb172) (.slice Ao14 t153.length co14) t153) := ⟨by (with_reducible repeat (first | apply Kd.R_alloc | apply Kd.R_drewN | apply Kd.R_drew)); exact Kd.R_mono (Kd.R_far (p := ⟨gb172, 1, none⟩) (Kd.R_far (p := ⟨gb172, 0, none⟩) (Kd.R_mono HO_7.out (fun k_ hk => (⟨hk, hk.2⟩ : _ ∧ k_ ≠ gb172))) (fun _ hk => hk.2) (.int .u64 ((rd_T27 t159 x61_3).f0))) (fun _ hk => hk.2) (.int .u64 ((rd_T27 t159 x61_3).f1))) (fun _ hk => ⟨hk.1.1.1, ⟨hk.1.1.2.1, ⟨hk.1.1.2.2, hk.1.2⟩⟩⟩)⟩
                                    have n1_ : Aside0 (Kd.R k27 27 ((w76.setCell ⟨gb172, 0, none⟩ (.int .u64 ((rd_T27 t159 x61_3).f0))).setCell ⟨gb172, 1, none⟩ (.int .u64 ((rd_T27 t159 x61_3).f1))) w.heap.size (fun k_ => some k_ ≠ (.slice Ao14 t153.length co14 : Value).ownBlock ∧ some k_ ≠ (u9 : Value).ownBlock ∧ k_ ≠ gb172) (.slice (some ad171) t159.length co46) t159) := ⟨by (with_reducible repeat (first | apply Kd.R_alloc | apply Kd.R_drewN | apply Kd.R_drew)); exact Kd.R_mono (Kd.R_far (p := ⟨gb172, 1, none⟩) (Kd.R_far (p := ⟨gb172, 0, none⟩) (Kd.R_mono HO_8.out (fun k_ hk => (⟨hk, hk.2⟩ : _ ∧ k_ ≠ gb172))) (fun _ hk => hk.2) (.int .u64 ((rd_T27 t159 x61_3).f0))) (fun _ hk => hk.2) (.int .u64 ((rd_T27 t159 x61_3).f1))) (fun _ hk => ⟨hk.1.1.1, ⟨hk.1.1.2, hk.1.2⟩⟩)⟩
                                    have n2_ : Aside0 (Kd.R k27 27 ((w76.setCell ⟨gb172, 0, none⟩ (.int .u64 ((rd_T27 t159 x61_3).f0))).setCell ⟨gb172, 1, none⟩ (.int .u64 ((rd_T27 t159 x61_3).f1))) w.heap.size (fun k_ => some k_ ≠ (.slice Ao14 t153.length co14 : Value).ownBlock ∧ some k_ ≠ (.slice (some ad171) t159.length co46 : Value).ownBlock ∧ some k_ ≠ (.slice (some ad171) t159.length co46 : Value).ownBlock ∧ k_ ≠ gb172) u9 x9_2) := ⟨by (with_reducible repeat (first | apply Kd.R_alloc | apply Kd.R_drewN | apply Kd.R_drew)); exact Kd.R_mono (Kd.R_far (p := ⟨gb172, 1, none⟩) (Kd.R_far (p := ⟨gb172, 0, none⟩) (Kd.R_mono HO_9.out (fun k_ hk => (⟨hk, hk.2⟩ : _ ∧ k_ ≠ gb172))) (fun _ hk => hk.2) (.int .u64 ((rd_T27 t159 x61_3).f0))) (fun _ hk => hk.2) (.int .u64 ((rd_T27 t159 x61_3).f1))) (fun _ hk => ⟨hk.1.1.1, ⟨hk.1.1.2.1, ⟨hk.1.1.2.2, hk.1.2⟩⟩⟩)⟩
                                    have n3_ : Aside0 (Kd.R k27 27 ((w76.setCell ⟨gb172, 0, none⟩ (.int .u64 ((rd_T27 t159 x61_3).f0))).setCell ⟨gb172, 1, none⟩ (.int .u64 ((rd_T27 t159 x61_3).f1))) w.heap.size (fun k_ => some k_ ≠ (.slice Ao14 t153.length co14 : Value).ownBlock ∧ some k_ ≠ (u9 : Value).ownBlock ∧ k_ ≠ gb172) (.slice (some ad171) t159.length co46) t159) := ⟨by (with_reducible repeat (first | apply Kd.R_alloc | apply Kd.R_drewN | apply Kd.R_drew)); exact Kd.R_mono (Kd.R_far (p := ⟨gb172, 1, none⟩) (Kd.R_far (p := ⟨gb172, 0, none⟩) (Kd.R_mono HO_59.out (fun k_ hk => (⟨hk, hk.2⟩ : _ ∧ k_ ≠ gb172))) (fun _ hk => hk.2) (.int .u64 ((rd_T27 t159 x61_3).f0))) (fun _ hk => hk.2) (.int .u64 ((rd_T27 t159 x61_3).f1))) (fun _ hk => ⟨hk.1.1.1, ⟨hk.1.1.2, hk.1.2⟩⟩)⟩
                                    have n4_ : Aside0 (((w76.setCell ⟨gb172, 0, none⟩ (.int .u64 ((rd_T27 t159 x61_3).f0))).setCell ⟨gb172, 1, none⟩ (.int .u64 ((rd_T27 t159 x61_3).f1))).heap[gb172]? = some (.cells #[.int .u64 ((rd_T27 t159 x61_3).f0), .int .u64 ((rd_T27 t159 x61_3).f1)] 27 (0, 0))) := ⟨by (with_reducible repeat (first | refine blk_drewN ?_ _ | refine blk_drew ?_ | refine blk_alloc ?_ _)); refine blk_put (cs := #[.int .u64 ((rd_T27 t159 x61_3).f0), .int .u64 0]) ?_ 1 _ rfl; (with_reducible repeat (first | refine blk_drewN ?_ _ | refine blk_drew ?_ | refine blk_alloc ?_ _)); refine blk_put (cs := #[.int .u64 0, .int .u64 0]) ?_ 0 _ rfl; (with_reducible repeat (first | refine blk_drewN ?_ _ | refine blk_drew ?_ | refine blk_alloc ?_ _)); exact BK172.out⟩
                                    have n5_ : Aside0 (Below w.heap.size w ((w76.setCell ⟨gb172, 0, none⟩ (.int .u64 ((rd_T27 t159 x61_3).f0))).setCell ⟨gb172, 1, none⟩ (.int .u64 ((rd_T27 t159 x61_3).f1)))) := ⟨by repeat (first | (with_reducible first | exact HB.out | apply below_alloc | apply pw_below_drewN | apply below_drew1 | refine below_set ?_ GE172.out) | exact HB.out)⟩
                                    (try clear HO_7)
                                    (try clear HO_8)
                                    (try clear HO_9)
                                    (try clear HO_59)
                                    (try clear BK172)
                                    (try clear HB)
                                    generalize ((w76.setCell ⟨gb172, 0, none⟩ (.int .u64 ((rd_T27 t159 x61_3).f0))).setCell ⟨gb172, 1, none⟩ (.int .u64 ((rd_T27 t159 x61_3).f1))) = w78 at n0_ n1_ n2_ n3_ n4_ n5_ ⊢
                                    have HO_7 := n0_
                                    have HO_8 := n1_
                                    have HO_9 := n2_
                                    have HO_59 := n3_
                                    have BK172 := n4_
                                    have HB := n5_
                                    clear n0_ n1_ n2_ n3_ n4_ n5_
                                    have n0_ := Aside0.mk (Kd.R_drew HO_7.out)
                                    have n1_ := Aside0.mk (Kd.R_drew HO_8.out)
                                    have n2_ := Aside0.mk (Kd.R_drew HO_9.out)
                                    have n3_ := Aside0.mk (Kd.R_drew HO_59.out)
                                    have n4_ := Aside0.mk (blk_drew BK172.out)
                                    have n5_ := Aside0.mk (below_drew1 HB.out)
                                    clear HO_7
                                    clear HO_8
                                    clear HO_9
                                    clear HO_59
                                    clear BK172
                                    clear HB
                                    have HO_7 := n0_
                                    have HO_8 := n1_
                                    have HO_9 := n2_
                                    have HO_59 := n3_
                                    have BK172 := n4_
                                    have HB := n5_
                                    clear n0_ n1_ n2_ n3_ n4_ n5_
                                    have p174 : 0 ≤ (0 : Int) := (by omega)
                                    have q174 : 0 < (x9_2.length : Int) := of_decide_eq_true (by first | (with_reducible assumption) | assumption)
                                    (try (obtain ⟨Ao_, co_, eo_⟩ := Kd.R_slice HO_9.out; subst eo_))
                                    obtain ⟨ad174, e174, hx174_0, hx174_1⟩ := at_T27 (Kd.R_reads' HO_9.out).2.2 0 p174 q174
                                    cases e174
                                    have qi174 : (0 < x9_2.length) = True := eq_true (by omega)
                                    (try rw [show ((0 : Int)).toNat = 0 from rfl] at hx174_0)
                                    (try rw [show 0 * 2 = 0 from rfl] at hx174_0)
                                    (try rw [Addr.add_zero'] at hx174_0)
                                    (try rw [show ((0 : Int)).toNat = 0 from rfl] at hx174_1)
                                    (try rw [show 0 * 2 = 0 from rfl] at hx174_1)
                                    (try rw [Addr.add_zero'] at hx174_1)
                                    replace p174 := eq_true p174
                                    replace q174 := eq_true q174
                                    have p175 : 0 ≤ (0 : Int) := (by omega)
                                    have q175 : 0 < (x9_2.length : Int) := of_decide_eq_true (by first | (with_reducible assumption) | assumption)
                                    (try (obtain ⟨Ao_, co_, eo_⟩ := Kd.R_slice HO_9.out; subst eo_))
                                    obtain ⟨ad175, e175, hx175_0, hx175_1⟩ := at_T27 (Kd.R_reads' HO_9.out).2.2 0 p175 q175
                                    obtain rfl : ad174 = ad175 := (by injection e175)
                                    have qi175 : (0 < x9_2.length) = True := eq_true (by omega)
                                    (try rw [show ((0 : Int)).toNat = 0 from rfl] at hx175_0)
                                    (try rw [show 0 * 2 = 0 from rfl] at hx175_0)
                                    (try rw [Addr.add_zero'] at hx175_0)
                                    (try rw [show ((0 : Int)).toNat = 0 from rfl] at hx175_1)
                                    (try rw [show 0 * 2 = 0 from rfl] at hx175_1)
                                    (try rw [Addr.add_zero'] at hx175_1)
                                    replace p175 := eq_true p175
                                    replace q175 := eq_true q175
                                    have p176 : 0 ≤ (0 : Int) := (by omega)
                                    have q176 : 0 < (x9_2.length : Int) := of_decide_eq_true (by first | (with_reducible assumption) | assumption)
                                    (try (obtain ⟨Ao_, co_, eo_⟩ := Kd.R_slice HO_9.out; subst eo_))
                                    obtain ⟨ad176, e176, hx176_0, hx176_1⟩ := at_T27 (Kd.R_reads' HO_9.out).2.2 0 p176 q176
                                    obtain rfl : ad174 = ad176 := (by injection e176)
                                    have qi176 : (0 < x9_2.length) = True := eq_true (by omega)
                                    (try rw [show ((0 : Int)).toNat = 0 from rfl] at hx176_0)
                                    (try rw [show 0 * 2 = 0 from rfl] at hx176_0)
                                    (try rw [Addr.add_zero'] at hx176_0)
                                    (try rw [show ((0 : Int)).toNat = 0 from rfl] at hx176_1)
                                    (try rw [show 0 * 2 = 0 from rfl] at hx176_1)
                                    (try rw [Addr.add_zero'] at hx176_1)
                                    replace p176 := eq_true p176
                                    replace q176 := eq_true q176
                                    refine start_ (n := 35) (S := fun w' => w'.cell? ⟨gb172, 0, none⟩ = some (.int .u64 ((rd_T27 t159 x61_3).f0)) ∧ w'.cell? ⟨gb172, 1, none⟩ = some (.int .u64 ((rd_T27 t159 x61_3).f1)) ∧ w'.cell? ad174 = some (.int .u64 ((rd_T27 x9_2 0).f0)) ∧ w'.cell? ⟨ad174.block, ad174.off + 1, none⟩ = some (.int .u64 ((rd_T27 x9_2 0).f1)) ∧ w'.cell? ad174 = some (.int .u64 ((rd_T27 x9_2 0).f0)) ∧ w'.cell? ⟨ad174.block, ad174.off + 1, none⟩ = some (.int .u64 ((rd_T27 x9_2 0).f1)) ∧ w'.cell? ad174 = some (.int .u64 ((rd_T27 x9_2 0).f0)) ∧ w'.cell? ⟨ad174.block, ad174.off + 1, none⟩ = some (.int .u64 ((rd_T27 x9_2 0).f1))) (ds := []) #[false, false, false, false, false, false, false, false, false, false, false, false, false, false, false, false, false, false, false, false, false, false, false, false, false, false, false, false, false, false, false, false, false, false, false] (by kernel_rfl) rfl rfl ⟨(blk_cell BK172.out 0).trans rfl, (blk_cell BK172.out 1).trans rfl, hx174_0, hx174_1, hx175_0, hx175_1, hx176_0, hx176_1⟩ (fun hHeld => ?_); refine with_tabW laws_FnRangeNodesSplit.tab17 laws_FnRangeNodesSplit.bits17 (fun HT_ HW_ => ?_)
                                    generalize w78.drew = w79 at HO_7 HO_8 HO_9 HO_59 BK172 HB hx174_0 hx174_1 hx175_0 hx175_1 hx176_0 hx176_1 hHeld ⊢
                                    refine pure_ (i := 0) (N := some 65) (v := ?_) (a' := ?_) #[true, false, false, false, false, false, false, false, false, false, false, false, false, false, false, false, false, false, false, false, false, false, false, false, false, false, false, false, false, false, false, false, false, false, false] rfl rfl (any_of HT_.out (by kernel_rfl)) (fun _ _ _ h => h) (Or.inl ⟨by rfl, ?_⟩) ?_ ?_
                                    rotate_left
                                    · intro w'
                                      go_simp
                                      with_reducible rfl
                                    rotate_left
                                    · simp only [Act.put, List.setIfInBounds_toArray, List.set_cons_zero, List.set_cons_succ, i64_w, i32_w]
                                      rfl
                                    refine take_ (i := 1) (N := some 66) (v := ?_) (a' := ?_) #[true, true, false, false, false, false, false, false, false, false, false, false, false, false, false, false, false, false, false, false, false, false, false, false, false, false, false, false, false, false, false, false, false, false, false] rfl rfl (take_ofW HT_.out HW_.out (by kernel_rfl)) (fun _ _ _ h => h) (Or.inl ⟨by rfl, ?_⟩) hHeld ?_ ?_
                                    rotate_left
                                    · rintro w' ⟨s0, s1, s2, s3, s4, s5, s6, s7⟩
                                      go_simp
                                      with_reducible rfl
                                    rotate_left
                                    · simp only [Act.put, List.setIfInBounds_toArray, List.set_cons_zero, List.set_cons_succ, i64_w, i32_w]
                                      rfl
                                    refine one_ (i := 2) (N := some 67) #[true, true, true, false, false, false, false, false, false, false, false, false, false, false, false, false, false, false, false, false, false, false, false, false, false, false, false, false, false, false, false, false, false, false, false] rfl rfl (one_of HT_.out (by kernel_rfl)) (by decide) (fun K hK => ?_)
                                    refine goes_ Tryd.func9 (by kernel_rfl) rfl #[.slice Ao14 t153.length co14, .agg #[.int .u64 ((rd_T27 t159 x61_3).f0), .int .u64 ((rd_T27 t159 x61_3).f1)]] (by rfl) rfl rfl (by (try simp only [List.map_toArray, List.map_cons, List.map_nil]); first | done | rfl | (simp only [List.length_drop, List.length_take]; rfl)) ?_
                                    with_reducible refine (spec_HasNode.calls k3 _ _ t153 ((rd_T27 t159 x61_3).f0) ((rd_T27 t159 x61_3).f1) false _ ?side1 ?side2 A50.out).mono ?_
                                    (case side1 => repeat (first | exact (Kd.R_reads' HO_7.out).2.2 | (with_reducible refine Kd.C_alloc ?_ _) | (with_reducible refine Kd.C_drewN ?_ _) | (with_reducible refine Kd.C_drew ?_)))
                                    (case side2 => exact (Kd.R_reads' HO_7.out).2.1)
                                    rintro e w80 ⟨rfl, hb⟩
                                    have HS2_ := (hb.cell (World.block_lt_of_cell? _ _ (hHeld.2.2.1))).trans (hHeld.2.2.1)
                                    have HS3_ := (hb.cell (World.block_lt_of_cell? _ _ (hHeld.2.2.2.1))).trans (hHeld.2.2.2.1)
                                    have HS4_ := (hb.cell (World.block_lt_of_cell? _ _ (hHeld.2.2.2.2.1))).trans (hHeld.2.2.2.2.1)
                                    have HS5_ := (hb.cell (World.block_lt_of_cell? _ _ (hHeld.2.2.2.2.2.1))).trans (hHeld.2.2.2.2.2.1)
                                    have HS6_ := (hb.cell (World.block_lt_of_cell? _ _ (hHeld.2.2.2.2.2.2.1))).trans (hHeld.2.2.2.2.2.2.1)
                                    have HS7_ := (hb.cell (World.block_lt_of_cell? _ _ (hHeld.2.2.2.2.2.2.2))).trans (hHeld.2.2.2.2.2.2.2)
                                    refine ⟨_, rfl, ?_⟩
                                    have n0_ := Aside0.mk (Kd.R_below (by (with_reducible repeat (first | apply Kd.R_alloc | apply Kd.R_drewN | apply Kd.R_drew)); exact HO_7.out) hb)
                                    have n1_ := Aside0.mk (Kd.R_below (by (with_reducible repeat (first | apply Kd.R_alloc | apply Kd.R_drewN | apply Kd.R_drew)); exact HO_8.out) hb)
                                    have n2_ := Aside0.mk (Kd.R_below (by (with_reducible repeat (first | apply Kd.R_alloc | apply Kd.R_drewN | apply Kd.R_drew)); exact HO_9.out) hb)
                                    have n3_ := Aside0.mk (Kd.R_below (by (with_reducible repeat (first | apply Kd.R_alloc | apply Kd.R_drewN | apply Kd.R_drew)); exact HO_59.out) hb)
                                    have n4_ := Aside0.mk (blk_below (g := gb172) (o := .cells #[.int .u64 ((rd_T27 t159 x61_3).f0), .int .u64 ((rd_T27 t159 x61_3).f1)] 27 (0, 0)) (by (with_reducible repeat (first | refine blk_drewN ?_ _ | refine blk_drew ?_ | refine blk_alloc ?_ _)); exact BK172.out) hb)
                                    have n5_ := Aside0.mk (below_step (by repeat (first | (with_reducible first | exact HB.out | apply below_alloc | apply pw_below_drewN | apply below_drew1 | refine below_set ?_ GE172.out) | exact HB.out)) hb)
                                    clear HO_7
                                    clear HO_8
                                    clear HO_9
                                    clear HO_59
                                    clear BK172
                                    clear HB
                                    have HO_7 := n0_
                                    have HO_8 := n1_
                                    have HO_9 := n2_
                                    have HO_59 := n3_
                                    have BK172 := n4_
                                    have HB := n5_
                                    clear n0_ n1_ n2_ n3_ n4_ n5_
                                    (try clear hb)
                                    (try clear hb2)
                                    (try clear hk)
                                    (try clear hi)
                                    obtain ⟨Ao81, co81, eo81⟩ := Kd.R_slice HO_9.out
                                    (first | subst eo81 | (injection eo81 with f1_ f2_ f3_; have f4_ := f1_.symm; have f5_ := f3_.symm; clear f1_ f2_ f3_; subst f4_; subst f5_))
                                    refine hK.out _ _ ⟨(blk_cell BK172.out 0).trans rfl, (blk_cell BK172.out 1).trans rfl, HS2_, HS3_, HS4_, HS5_, HS6_, HS7_⟩ (fun hHeld => ?_)
                                    clear hK K
                                    refine norm_ (a' := ?_) ?_ ?_
                                    rotate_left
                                    · show Act.put _ (some 67) _ = _
                                      simp only [Act.put, List.setIfInBounds_toArray, List.set_cons_zero, List.set_cons_succ, i64_w, i32_w]
                                      rfl
                                    refine pure_ (i := 3) (N := some 68) (v := ?_) (a' := ?_) #[true, true, true, true, false, false, false, false, false, false, false, false, false, false, false, false, false, false, false, false, false, false, false, false, false, false, false, false, false, false, false, false, false, false, false] rfl rfl (any_of HT_.out (by kernel_rfl)) (fun _ _ _ h => h) (Or.inl ⟨by rfl, ?_⟩) ?_ ?_
                                    rotate_left
                                    · intro w'
                                      go_simp
                                      with_reducible rfl
                                    rotate_left
                                    · simp only [Act.put, List.setIfInBounds_toArray, List.set_cons_zero, List.set_cons_succ, i64_w, i32_w]
                                      rfl
                                    refine pure_ (i := 4) (N := some 69) (v := ?_) (a' := ?_) #[true, true, true, true, true, false, false, false, false, false, false, false, false, false, false, false, false, false, false, false, false, false, false, false, false, false, false, false, false, false, false, false, false, false, false] rfl rfl (any_of HT_.out (by kernel_rfl)) (fun _ _ _ h => h) (Or.inl ⟨by rfl, ?_⟩) ?_ ?_
                                    rotate_left
                                    · intro w'
                                      go_simp
                                      with_reducible rfl
                                    rotate_left
                                    · simp only [Act.put, List.setIfInBounds_toArray, List.set_cons_zero, List.set_cons_succ, i64_w, i32_w]
                                      rfl
                                    refine pure_ (i := 5) (N := some 70) (v := ?_) (a' := ?_) #[true, true, true, true, true, true, false, false, false, false, false, false, false, false, false, false, false, false, false, false, false, false, false, false, false, false, false, false, false, false, false, false, false, false, false] rfl rfl (any_of HT_.out (by kernel_rfl)) (fun _ _ _ h => h) (Or.inl ⟨by rfl, ?_⟩) ?_ ?_
                                    rotate_left
                                    · intro w'
                                      go_simp
                                      with_reducible rfl
                                    rotate_left
                                    · simp only [Act.put, List.setIfInBounds_toArray, List.set_cons_zero, List.set_cons_succ, i64_w, i32_w]
                                      rfl
                                    refine pure_ (i := 6) (N := some 71) (v := ?_) (a' := ?_) #[true, true, true, true, true, true, true, false, false, false, false, false, false, false, false, false, false, false, false, false, false, false, false, false, false, false, false, false, false, false, false, false, false, false, false] rfl rfl (any_of HT_.out (by kernel_rfl)) (fun _ _ _ h => h) (Or.inl ⟨by rfl, ?_⟩) ?_ ?_
                                    rotate_left
                                    · intro w'
                                      go_simp
                                      with_reducible rfl
                                    rotate_left
                                    · simp only [Act.put, List.setIfInBounds_toArray, List.set_cons_zero, List.set_cons_succ, i64_w, i32_w]
                                      rfl
                                    refine pure_ (i := 7) (N := some 72) (v := ?_) (a' := ?_) #[true, true, true, true, true, true, true, true, false, false, false, false, false, false, false, false, false, false, false, false, false, false, false, false, false, false, false, false, false, false, false, false, false, false, false] rfl rfl (any_of HT_.out (by kernel_rfl)) (fun _ _ _ h => h) (Or.inl ⟨by rfl, ?_⟩) ?_ ?_
                                    rotate_left
                                    · intro w'
                                      go_simp
                                      with_reducible rfl
                                    rotate_left
                                    · simp only [Act.put, List.setIfInBounds_toArray, List.set_cons_zero, List.set_cons_succ, i64_w, i32_w]
                                      rfl
                                    refine pure_ (i := 8) (N := some 73) (v := ?_) (a' := ?_) #[true, true, true, true, true, true, true, true, true, false, false, false, false, false, false, false, false, false, false, false, false, false, false, false, false, false, false, false, false, false, false, false, false, false, false] rfl rfl (any_of HT_.out (by kernel_rfl)) (fun _ _ _ h => h) (Or.inl ⟨by rfl, ?_⟩) ?_ ?_
                                    rotate_left
                                    · intro w'
                                      go_simp
                                      with_reducible rfl
                                    rotate_left
                                    · simp only [Act.put, List.setIfInBounds_toArray, List.set_cons_zero, List.set_cons_succ, i64_w, i32_w]
                                      rfl
                                    refine pure_ (i := 9) (N := some 74) (v := ?_) (a' := ?_) #[true, true, true, true, true, true, true, true, true, true, false, false, false, false, false, false, false, false, false, false, false, false, false, false, false, false, false, false, false, false, false, false, false, false, false] rfl rfl (any_of HT_.out (by kernel_rfl)) (fun _ _ _ h => h) (Or.inl ⟨by rfl, ?_⟩) ?_ ?_
                                    rotate_left
                                    · intro w'
                                      go_simp
                                      with_reducible rfl
                                    rotate_left
                                    · simp only [Act.put, List.setIfInBounds_toArray, List.set_cons_zero, List.set_cons_succ, i64_w, i32_w]
                                      rfl
                                    refine pure_ (i := 11) (N := some 76) (v := ?_) (a' := ?_) #[true, true, true, true, true, true, true, true, true, true, false, true, false, false, false, false, false, false, false, false, false, false, false, false, false, false, false, false, false, false, false, false, false, false, false] rfl rfl (any_of HT_.out (by kernel_rfl)) (fun _ _ _ h => h) (Or.inl ⟨by rfl, ?_⟩) ?_ ?_
                                    rotate_left
                                    · intro w'
                                      go_simp
                                      with_reducible rfl
                                    rotate_left
                                    · simp only [Act.put, List.setIfInBounds_toArray, List.set_cons_zero, List.set_cons_succ, i64_w, i32_w]
                                      rfl
                                    refine pure_ (i := 12) (N := some 77) (v := ?_) (a' := ?_) #[true, true, true, true, true, true, true, true, true, true, false, true, true, false, false, false, false, false, false, false, false, false, false, false, false, false, false, false, false, false, false, false, false, false, false] rfl rfl (any_of HT_.out (by kernel_rfl)) (fun _ _ _ h => h) (Or.inl ⟨by rfl, ?_⟩) ?_ ?_
                                    rotate_left
                                    · intro w'
                                      go_simp
                                      with_reducible rfl
                                    rotate_left
                                    · simp only [Act.put, List.setIfInBounds_toArray, List.set_cons_zero, List.set_cons_succ, i64_w, i32_w]
                                      rfl
                                    refine pure_ (i := 13) (N := some 78) (v := ?_) (a' := ?_) #[true, true, true, true, true, true, true, true, true, true, false, true, true, true, false, false, false, false, false, false, false, false, false, false, false, false, false, false, false, false, false, false, false, false, false] rfl rfl (any_of HT_.out (by kernel_rfl)) (fun _ _ _ h => h) (Or.inl ⟨by rfl, ?_⟩) ?_ ?_
                                    rotate_left
                                    · intro w'
                                      go_simp
                                      with_reducible rfl
                                    rotate_left
                                    · simp only [Act.put, List.setIfInBounds_toArray, List.set_cons_zero, List.set_cons_succ, i64_w, i32_w]
                                      rfl
                                    refine take_ (i := 10) (N := some 75) (v := ?_) (a' := ?_) #[true, true, true, true, true, true, true, true, true, true, true, true, true, true, false, false, false, false, false, false, false, false, false, false, false, false, false, false, false, false, false, false, false, false, false] rfl rfl (take_ofW HT_.out HW_.out (by kernel_rfl)) (fun _ _ _ h => h) (Or.inl ⟨by rfl, ?_⟩) hHeld ?_ ?_
                                    rotate_left
                                    · rintro w' ⟨s0, s1, s2, s3, s4, s5, s6, s7⟩
                                      go_simp
                                      with_reducible rfl
                                    rotate_left
                                    · simp only [Act.put, List.setIfInBounds_toArray, List.set_cons_zero, List.set_cons_succ, i64_w, i32_w]
                                      rfl
                                    refine take_ (i := 14) (N := some 79) (v := ?_) (a' := ?_) #[true, true, true, true, true, true, true, true, true, true, true, true, true, true, true, false, false, false, false, false, false, false, false, false, false, false, false, false, false, false, false, false, false, false, false] rfl rfl (take_ofW HT_.out HW_.out (by kernel_rfl)) (fun _ _ _ h => h) (Or.inl ⟨by rfl, ?_⟩) hHeld ?_ ?_
                                    rotate_left
                                    · rintro w' ⟨s0, s1, s2, s3, s4, s5, s6, s7⟩
                                      go_simp
                                      with_reducible rfl
                                    rotate_left
                                    · simp only [Act.put, List.setIfInBounds_toArray, List.set_cons_zero, List.set_cons_succ, i64_w, i32_w]
                                      rfl
                                    refine pure_ (i := 15) (N := some 80) (v := ?_) (a' := ?_) #[true, true, true, true, true, true, true, true, true, true, true, true, true, true, true, true, false, false, false, false, false, false, false, false, false, false, false, false, false, false, false, false, false, false, false] rfl rfl (any_of HT_.out (by kernel_rfl)) (fun _ _ _ h => h) (Or.inl ⟨by rfl, ?_⟩) ?_ ?_
                                    rotate_left
                                    · intro w'
                                      go_simp
                                      with_reducible rfl
                                    rotate_left
                                    · simp only [Act.put, List.setIfInBounds_toArray, List.set_cons_zero, List.set_cons_succ, i64_w, i32_w]
                                      rfl
                                    refine pure_ (i := 16) (N := some 81) (v := ?_) (a' := ?_) #[true, true, true, true, true, true, true, true, true, true, true, true, true, true, true, true, true, false, false, false, false, false, false, false, false, false, false, false, false, false, false, false, false, false, false] rfl rfl (any_of HT_.out (by kernel_rfl)) (fun _ _ _ h => h) (Or.inl ⟨by rfl, ?_⟩) ?_ ?_
                                    rotate_left
                                    · intro w'
                                      go_simp
                                      with_reducible rfl
                                    rotate_left
                                    · simp only [Act.put, List.setIfInBounds_toArray, List.set_cons_zero, List.set_cons_succ, i64_w, i32_w]
                                      rfl
                                    refine pure_ (i := 17) (N := some 82) (v := ?_) (a' := ?_) #[true, true, true, true, true, true, true, true, true, true, true, true, true, true, true, true, true, true, false, false, false, false, false, false, false, false, false, false, false, false, false, false, false, false, false] rfl rfl (any_of HT_.out (by kernel_rfl)) (fun _ _ _ h => h) (Or.inl ⟨by rfl, ?_⟩) ?_ ?_
                                    rotate_left
                                    · intro w'
                                      go_simp
                                      with_reducible rfl
                                    rotate_left
                                    · simp only [Act.put, List.setIfInBounds_toArray, List.set_cons_zero, List.set_cons_succ, i64_w, i32_w]
                                      rfl
                                    refine pure_ (i := 18) (N := some 83) (v := ?_) (a' := ?_) #[true, true, true, true, true, true, true, true, true, true, true, true, true, true, true, true, true, true, true, false, false, false, false, false, false, false, false, false, false, false, false, false, false, false, false] rfl rfl (any_of HT_.out (by kernel_rfl)) (fun _ _ _ h => h) (Or.inl ⟨by rfl, ?_⟩) ?_ ?_
                                    rotate_left
                                    · intro w'
                                      go_simp
                                      with_reducible rfl
                                    rotate_left
                                    · simp only [Act.put, List.setIfInBounds_toArray, List.set_cons_zero, List.set_cons_succ, i64_w, i32_w]
                                      rfl
                                    refine pure_ (i := 20) (N := some 85) (v := ?_) (a' := ?_) #[true, true, true, true, true, true, true, true, true, true, true, true, true, true, true, true, true, true, true, false, true, false, false, false, false, false, false, false, false, false, false, false, false, false, false] rfl rfl (any_of HT_.out (by kernel_rfl)) (fun _ _ _ h => h) (Or.inl ⟨by rfl, ?_⟩) ?_ ?_
                                    rotate_left
                                    · intro w'
                                      go_simp
                                      with_reducible rfl
                                    rotate_left
                                    · simp only [Act.put, List.setIfInBounds_toArray, List.set_cons_zero, List.set_cons_succ, i64_w, i32_w]
                                      rfl
                                    refine pure_ (i := 21) (N := some 86) (v := ?_) (a' := ?_) #[true, true, true, true, true, true, true, true, true, true, true, true, true, true, true, true, true, true, true, false, true, true, false, false, false, false, false, false, false, false, false, false, false, false, false] rfl rfl (any_of HT_.out (by kernel_rfl)) (fun _ _ _ h => h) (Or.inl ⟨by rfl, ?_⟩) ?_ ?_
                                    rotate_left
                                    · intro w'
                                      go_simp
                                      with_reducible rfl
                                    rotate_left
                                    · simp only [Act.put, List.setIfInBounds_toArray, List.set_cons_zero, List.set_cons_succ, i64_w, i32_w]
                                      rfl
                                    refine pure_ (i := 22) (N := some 87) (v := ?_) (a' := ?_) #[true, true, true, true, true, true, true, true, true, true, true, true, true, true, true, true, true, true, true, false, true, true, true, false, false, false, false, false, false, false, false, false, false, false, false] rfl rfl (any_of HT_.out (by kernel_rfl)) (fun _ _ _ h => h) (Or.inl ⟨by rfl, ?_⟩) ?_ ?_
                                    rotate_left
                                    · intro w'
                                      go_simp
                                      with_reducible rfl
                                    rotate_left
                                    · simp only [Act.put, List.setIfInBounds_toArray, List.set_cons_zero, List.set_cons_succ, i64_w, i32_w]
                                      rfl
                                    refine pure_ (i := 24) (N := some 89) (v := ?_) (a' := ?_) #[true, true, true, true, true, true, true, true, true, true, true, true, true, true, true, true, true, true, true, false, true, true, true, false, true, false, false, false, false, false, false, false, false, false, false] rfl rfl (any_of HT_.out (by kernel_rfl)) (fun _ _ _ h => h) (Or.inl ⟨by rfl, ?_⟩) ?_ ?_
                                    rotate_left
                                    · intro w'
                                      go_simp
                                      with_reducible rfl
                                    rotate_left
                                    · simp only [Act.put, List.setIfInBounds_toArray, List.set_cons_zero, List.set_cons_succ, i64_w, i32_w]
                                      rfl
                                    refine pure_ (i := 28) (N := some 93) (v := ?_) (a' := ?_) #[true, true, true, true, true, true, true, true, true, true, true, true, true, true, true, true, true, true, true, false, true, true, true, false, true, false, false, false, true, false, false, false, false, false, false] rfl rfl (any_of HT_.out (by kernel_rfl)) (fun _ _ _ h => h) (Or.inl ⟨by rfl, ?_⟩) ?_ ?_
                                    rotate_left
                                    · intro w'
                                      go_simp
                                      with_reducible rfl
                                    rotate_left
                                    · simp only [Act.put, List.setIfInBounds_toArray, List.set_cons_zero, List.set_cons_succ, i64_w, i32_w]
                                      rfl
                                    refine pure_ (i := 29) (N := some 94) (v := ?_) (a' := ?_) #[true, true, true, true, true, true, true, true, true, true, true, true, true, true, true, true, true, true, true, false, true, true, true, false, true, false, false, false, true, true, false, false, false, false, false] rfl rfl (any_of HT_.out (by kernel_rfl)) (fun _ _ _ h => h) (Or.inl ⟨by rfl, ?_⟩) ?_ ?_
                                    rotate_left
                                    · intro w'
                                      go_simp
                                      with_reducible rfl
                                    rotate_left
                                    · simp only [Act.put, List.setIfInBounds_toArray, List.set_cons_zero, List.set_cons_succ, i64_w, i32_w]
                                      rfl
                                    refine pure_ (i := 30) (N := some 95) (v := ?_) (a' := ?_) #[true, true, true, true, true, true, true, true, true, true, true, true, true, true, true, true, true, true, true, false, true, true, true, false, true, false, false, false, true, true, true, false, false, false, false] rfl rfl (any_of HT_.out (by kernel_rfl)) (fun _ _ _ h => h) (Or.inl ⟨by rfl, ?_⟩) ?_ ?_
                                    rotate_left
                                    · intro w'
                                      go_simp
                                      with_reducible rfl
                                    rotate_left
                                    · simp only [Act.put, List.setIfInBounds_toArray, List.set_cons_zero, List.set_cons_succ, i64_w, i32_w]
                                      rfl
                                    refine take_ (i := 19) (N := some 84) (v := ?_) (a' := ?_) #[true, true, true, true, true, true, true, true, true, true, true, true, true, true, true, true, true, true, true, true, true, true, true, false, true, false, false, false, true, true, true, false, false, false, false] rfl rfl (take_ofW HT_.out HW_.out (by kernel_rfl)) (fun _ _ _ h => h) (Or.inl ⟨by rfl, ?_⟩) hHeld ?_ ?_
                                    rotate_left
                                    · rintro w' ⟨s0, s1, s2, s3, s4, s5, s6, s7⟩
                                      go_simp
                                      with_reducible rfl
                                    rotate_left
                                    · simp only [Act.put, List.setIfInBounds_toArray, List.set_cons_zero, List.set_cons_succ, i64_w, i32_w]
                                      rfl
                                    refine take_ (i := 23) (N := some 88) (v := ?_) (a' := ?_) #[true, true, true, true, true, true, true, true, true, true, true, true, true, true, true, true, true, true, true, true, true, true, true, true, true, false, false, false, true, true, true, false, false, false, false] rfl rfl (take_ofW HT_.out HW_.out (by kernel_rfl)) (fun _ _ _ h => h) (Or.inl ⟨by rfl, ?_⟩) hHeld ?_ ?_
                                    rotate_left
                                    · rintro w' ⟨s0, s1, s2, s3, s4, s5, s6, s7⟩
                                      go_simp
                                      with_reducible rfl
                                    rotate_left
                                    · simp only [Act.put, List.setIfInBounds_toArray, List.set_cons_zero, List.set_cons_succ, i64_w, i32_w]
                                      rfl
                                    refine take_ (i := 25) (N := some 90) (v := ?_) (a' := ?_) #[true, true, true, true, true, true, true, true, true, true, true, true, true, true, true, true, true, true, true, true, true, true, true, true, true, true, false, false, true, true, true, false, false, false, false] rfl rfl (take_ofW HT_.out HW_.out (by kernel_rfl)) (fun _ _ _ h => h) (Or.inl ⟨by rfl, ?_⟩) hHeld ?_ ?_
                                    rotate_left
                                    · rintro w' ⟨s0, s1, s2, s3, s4, s5, s6, s7⟩
                                      go_simp
                                      with_reducible rfl
                                    rotate_left
                                    · simp only [Act.put, List.setIfInBounds_toArray, List.set_cons_zero, List.set_cons_succ, i64_w, i32_w]
                                      rfl
                                    refine pure_ (i := 26) (N := some 91) (v := ?_) (a' := ?_) #[true, true, true, true, true, true, true, true, true, true, true, true, true, true, true, true, true, true, true, true, true, true, true, true, true, true, true, false, true, true, true, false, false, false, false] rfl rfl (any_of HT_.out (by kernel_rfl)) (fun _ _ _ h => h) (Or.inl ⟨by rfl, ?_⟩) ?_ ?_
                                    rotate_left
                                    · intro w'
                                      go_simp
                                      with_reducible rfl
                                    rotate_left
                                    · simp only [Act.put, List.setIfInBounds_toArray, List.set_cons_zero, List.set_cons_succ, i64_w, i32_w]
                                      rfl
                                    refine pure_ (i := 27) (N := some 92) (v := ?_) (a' := ?_) #[true, true, true, true, true, true, true, true, true, true, true, true, true, true, true, true, true, true, true, true, true, true, true, true, true, true, true, true, true, true, true, false, false, false, false] rfl rfl (any_of HT_.out (by kernel_rfl)) (fun _ _ _ h => h) (Or.inl ⟨by rfl, ?_⟩) ?_ ?_
                                    rotate_left
                                    · intro w'
                                      go_simp
                                      with_reducible rfl
                                    rotate_left
                                    · simp only [Act.put, List.setIfInBounds_toArray, List.set_cons_zero, List.set_cons_succ, i64_w, i32_w]
                                      rfl
                                    refine take_ (i := 31) (N := some 96) (v := ?_) (a' := ?_) #[true, true, true, true, true, true, true, true, true, true, true, true, true, true, true, true, true, true, true, true, true, true, true, true, true, true, true, true, true, true, true, true, false, false, false] rfl rfl (take_ofW HT_.out HW_.out (by kernel_rfl)) (fun _ _ _ h => h) (Or.inl ⟨by rfl, ?_⟩) hHeld ?_ ?_
                                    rotate_left
                                    · rintro w' ⟨s0, s1, s2, s3, s4, s5, s6, s7⟩
                                      go_simp
                                      with_reducible rfl
                                    rotate_left
                                    · simp only [Act.put, List.setIfInBounds_toArray, List.set_cons_zero, List.set_cons_succ, i64_w, i32_w]
                                      rfl
                                    refine pure_ (i := 32) (N := some 97) (v := ?_) (a' := ?_) #[true, true, true, true, true, true, true, true, true, true, true, true, true, true, true, true, true, true, true, true, true, true, true, true, true, true, true, true, true, true, true, true, true, false, false] rfl rfl (any_of HT_.out (by kernel_rfl)) (fun _ _ _ h => h) (Or.inl ⟨by rfl, ?_⟩) ?_ ?_
                                    rotate_left
                                    · intro w'
                                      go_simp
                                      with_reducible rfl
                                    rotate_left
                                    · simp only [Act.put, List.setIfInBounds_toArray, List.set_cons_zero, List.set_cons_succ, i64_w, i32_w]
                                      rfl
                                    refine pure_ (i := 33) (N := some 98) (v := ?_) (a' := ?_) #[true, true, true, true, true, true, true, true, true, true, true, true, true, true, true, true, true, true, true, true, true, true, true, true, true, true, true, true, true, true, true, true, true, true, false] rfl rfl (any_of HT_.out (by kernel_rfl)) (fun _ _ _ h => h) (Or.inl ⟨by rfl, ?_⟩) ?_ ?_
                                    rotate_left
                                    · intro w'
                                      go_simp
                                      with_reducible rfl
                                    rotate_left
                                    · simp only [Act.put, List.setIfInBounds_toArray, List.set_cons_zero, List.set_cons_succ, i64_w, i32_w]
                                      rfl
                                    refine pure_ (i := 34) (N := some 99) (v := ?_) (a' := ?_) #[true, true, true, true, true, true, true, true, true, true, true, true, true, true, true, true, true, true, true, true, true, true, true, true, true, true, true, true, true, true, true, true, true, true, true] rfl rfl (any_of HT_.out (by kernel_rfl)) (fun _ _ _ h => h) (Or.inl ⟨by rfl, ?_⟩) ?_ ?_
                                    rotate_left
                                    · intro w'
                                      go_simp
                                      with_reducible rfl
                                    rotate_left
                                    · simp only [Act.put, List.setIfInBounds_toArray, List.set_cons_zero, List.set_cons_succ, i64_w, i32_w]
                                      rfl
                                    refine done_ (done_of HT_.out (by kernel_rfl)) ?_
                                    try go_wp2
                                    go_ret
                                    exact ⟨by first | rfl | (simp [errW_none, errW_some] <;> rfl) | (simp only [← hji66, ← hji68]; first | rfl | (simp [errW_none, errW_some] <;> rfl)) | (simp [*, errW_none, errW_some] <;> rfl), by repeat (first | (with_reducible first | exact HB.out | apply below_alloc | apply pw_below_drewN | apply below_drew1 | refine below_set ?_ GE172.out) | exact HB.out)⟩
                                · rw [if_neg c67] at H
                                  exact absurd H (by simp)
                            · rw [if_neg c58] at H
                              exact absurd H (by simp)
                          · rw [if_neg c57] at H
                            have c57b0 : ((x9_2.length : Int) == 1) = false := beq_eq_false_iff_ne.mpr c57
                            have c57b1 : ((x9_2.length : Int) != 1) = true := bne_iff_ne.mpr c57
                            obtain rfl := Option.some.inj H
                            have p171 : 0 ≤ (x61_3 : Int) := of_decide_eq_true (by first | (with_reducible assumption) | assumption)
                            have q171 : x61_3 < (t159.length : Int) := of_decide_eq_true (by first | (with_reducible assumption) | assumption)
                            obtain ⟨ad171, e171, hx171_0, hx171_1⟩ := at_T27 (Kd.R_reads' HO_59.out).2.2 x61_3 p171 q171
                            cases e171
                            replace p171 := eq_true p171
                            replace q171 := eq_true q171
                            try go_wp2_with (first | ((with_reducible refine gate_dst (N := 14) rfl ?_); (try (refine gate_guard (by rfl) ?_; dsimp only)); refine box_event ?hg (N := 14) ?hd (cs := #[.int .u64 0, .int .u64 0]) (t := 27) ?hr ?_; (case hd => rfl); (case hg => rfl); (case hr => first | (go_simp; done) | (go_simp; rfl)); intro gb172 hg w82 hbox hb; have n0_ := Aside0.mk (Kd.R_below (Kd.R_elderB (by (with_reducible repeat (first | apply Kd.R_alloc | apply Kd.R_drewN | apply Kd.R_drew)); exact HO_7.out) gb172 (Nat.le_of_eq hg.symm)) hb); have n1_ := Aside0.mk (Kd.R_below (Kd.R_elderB (by (with_reducible repeat (first | apply Kd.R_alloc | apply Kd.R_drewN | apply Kd.R_drew)); exact HO_8.out) gb172 (Nat.le_of_eq hg.symm)) hb); have n2_ := Aside0.mk (Kd.R_below (Kd.R_elderB (by (with_reducible repeat (first | apply Kd.R_alloc | apply Kd.R_drewN | apply Kd.R_drew)); exact HO_9.out) gb172 (Nat.le_of_eq hg.symm)) hb); have n3_ := Aside0.mk (Kd.R_below (Kd.R_elderB (by (with_reducible repeat (first | apply Kd.R_alloc | apply Kd.R_drewN | apply Kd.R_drew)); exact HO_59.out) gb172 (Nat.le_of_eq hg.symm)) hb); have n4_ := Aside0.mk (below_step (by repeat (first | (with_reducible first | exact HB.out | apply below_alloc | apply pw_below_drewN | apply below_drew1) | exact HB.out)) hb); have n5_ := Aside0.mk (hbox); have n6_ := Aside0.mk ((by rw [hg]; exact (below_size (by repeat (first | (with_reducible first | exact HB.out | apply below_alloc | apply pw_below_drewN | apply below_drew1) | exact HB.out))) : w.heap.size ≤ gb172)); have n7_ := Aside0.mk ((by rw [hg]; exact (below_size (by repeat (first | (with_reducible first | exact HB.out | apply below_alloc | apply pw_below_drewN | apply below_drew1) | exact HB.out))) : w.heap.size ≤ gb172)); clear HO_7; clear HO_8; clear HO_9; clear HO_59; clear HB; have HO_7 := n0_; have HO_8 := n1_; have HO_9 := n2_; have HO_59 := n3_; have HB := n4_; have BK172 := n5_; have GW172 := n6_; have GE172 := n7_; clear n0_ n1_ n2_ n3_ n4_ n5_ n6_ n7_; clear hb hbox hg; have hcz83_0 : w82.cell? ⟨gb172, 0, none⟩ = some (.int .u64 0) := (blk_cell BK172.out 0).trans rfl; have hcz83_1 : w82.cell? ⟨gb172, 1, none⟩ = some (.int .u64 0) := (blk_cell BK172.out 1).trans rfl; have hfz83_0 := blk_frozen BK172.out 0; have hfz83_1 := blk_frozen BK172.out 1))
                            have n0_ : Aside0 (Kd.R k27 27 ((w82.setCell ⟨gb172, 0, none⟩ (.int .u64 ((rd_T27 t159 x61_3).f0))).setCell ⟨gb172, 1, none⟩ (.int .u64 ((rd_T27 t159 x61_3).f1))) w.heap.size (fun k_ => some k_ ≠ (.slice (some ad171) t159.length co46 : Value).ownBlock ∧ some k_ ≠ (u9 : Value).ownBlock ∧ some k_ ≠ (.slice (some ad171) t159.length co46 : Value).ownBlock ∧ k_ ≠ gb172) (.slice Ao14 t153.length co14) t153) := ⟨by (with_reducible repeat (first | apply Kd.R_alloc | apply Kd.R_drewN | apply Kd.R_drew)); exact Kd.R_mono (Kd.R_far (p := ⟨gb172, 1, none⟩) (Kd.R_far (p := ⟨gb172, 0, none⟩) (Kd.R_mono HO_7.out (fun k_ hk => (⟨hk, hk.2⟩ : _ ∧ k_ ≠ gb172))) (fun _ hk => hk.2) (.int .u64 ((rd_T27 t159 x61_3).f0))) (fun _ hk => hk.2) (.int .u64 ((rd_T27 t159 x61_3).f1))) (fun _ hk => ⟨hk.1.1.1, ⟨hk.1.1.2.1, ⟨hk.1.1.2.2, hk.1.2⟩⟩⟩)⟩
                            have n1_ : Aside0 (Kd.R k27 27 ((w82.setCell ⟨gb172, 0, none⟩ (.int .u64 ((rd_T27 t159 x61_3).f0))).setCell ⟨gb172, 1, none⟩ (.int .u64 ((rd_T27 t159 x61_3).f1))) w.heap.size (fun k_ => some k_ ≠ (.slice Ao14 t153.length co14 : Value).ownBlock ∧ some k_ ≠ (u9 : Value).ownBlock ∧ k_ ≠ gb172) (.slice (some ad171) t159.length co46) t159) := ⟨by (with_reducible repeat (first | apply Kd.R_alloc | apply Kd.R_drewN | apply Kd.R_drew)); exact Kd.R_mono (Kd.R_far (p := ⟨gb172, 1, none⟩) (Kd.R_far (p := ⟨gb172, 0, none⟩) (Kd.R_mono HO_8.out (fun k_ hk => (⟨hk, hk.2⟩ : _ ∧ k_ ≠ gb172))) (fun _ hk => hk.2) (.int .u64 ((rd_T27 t159 x61_3).f0))) (fun _ hk => hk.2) (.int .u64 ((rd_T27 t159 x61_3).f1))) (fun _ hk => ⟨hk.1.1.1, ⟨hk.1.1.2, hk.1.2⟩⟩)⟩
                            have n2_ : Aside0 (Kd.R k27 27 ((w82.setCell ⟨gb172, 0, none⟩ (.int .u64 ((rd_T27 t159 x61_3).f0))).setCell ⟨gb172, 1, none⟩ (.int .u64 ((rd_T27 t159 x61_3).f1))) w.heap.size (fun k_ => some k_ ≠ (.slice Ao14 t153.length co14 : Value).ownBlock ∧ some k_ ≠ (.slice (some ad171) t159.length co46 : Value).ownBlock ∧ some k_ ≠ (.slice (some ad171) t159.length co46 : Value).ownBlock ∧ k_ ≠ gb172) u9 x9_2) := ⟨by (with_reducible repeat (first | apply Kd.R_alloc | apply Kd.R_drewN | apply Kd.R_drew)); exact Kd.R_mono (Kd.R_far (p := ⟨gb172, 1, none⟩) (Kd.R_far (p := ⟨gb172, 0, none⟩) (Kd.R_mono HO_9.out (fun k_ hk => (⟨hk, hk.2⟩ : _ ∧ k_ ≠ gb172))) (fun _ hk => hk.2) (.int .u64 ((rd_T27 t159 x61_3).f0))) (fun _ hk => hk.2) (.int .u64 ((rd_T27 t159 x61_3).f1))) (fun _ hk => ⟨hk.1.1.1, ⟨hk.1.1.2.1, ⟨hk.1.1.2.2, hk.1.2⟩⟩⟩)⟩
                            have n3_ : Aside0 (Kd.R k27 27 ((w82.setCell ⟨gb172, 0, none⟩ (.int .u64 ((rd_T27 t159 x61_3).f0))).setCell ⟨gb172, 1, none⟩ (.int .u64 ((rd_T27 t159 x61_3).f1))) w.heap.size (fun k_ => some k_ ≠ (.slice Ao14 t153.length co14 : Value).ownBlock ∧ some k_ ≠ (u9 : Value).ownBlock ∧ k_ ≠ gb172) (.slice (some ad171) t159.length co46) t159) := ⟨by (with_reducible repeat (first | apply Kd.R_alloc | apply Kd.R_drewN | apply Kd.R_drew)); exact Kd.R_mono (Kd.R_far (p := ⟨gb172, 1, none⟩) (Kd.R_far (p := ⟨gb172, 0, none⟩) (Kd.R_mono HO_59.out (fun k_ hk => (⟨hk, hk.2⟩ : _ ∧ k_ ≠ gb172))) (fun _ hk => hk.2) (.int .u64 ((rd_T27 t159 x61_3).f0))) (fun _ hk => hk.2) (.int .u64 ((rd_T27 t159 x61_3).f1))) (fun _ hk => ⟨hk.1.1.1, ⟨hk.1.1.2, hk.1.2⟩⟩)⟩
                            have n4_ : Aside0 (((w82.setCell ⟨gb172, 0, none⟩ (.int .u64 ((rd_T27 t159 x61_3).f0))).setCell ⟨gb172, 1, none⟩ (.int .u64 ((rd_T27 t159 x61_3).f1))).heap[gb172]? = some (.cells #[.int .u64 ((rd_T27 t159 x61_3).f0), .int .u64 ((rd_T27 t159 x61_3).f1)] 27 (0, 0))) := ⟨by (with_reducible repeat (first | refine blk_drewN ?_ _ | refine blk_drew ?_ | refine blk_alloc ?_ _)); refine blk_put (cs := #[.int .u64 ((rd_T27 t159 x61_3).f0), .int .u64 0]) ?_ 1 _ rfl; (with_reducible repeat (first | refine blk_drewN ?_ _ | refine blk_drew ?_ | refine blk_alloc ?_ _)); refine blk_put (cs := #[.int .u64 0, .int .u64 0]) ?_ 0 _ rfl; (with_reducible repeat (first | refine blk_drewN ?_ _ | refine blk_drew ?_ | refine blk_alloc ?_ _)); exact BK172.out⟩
                            have n5_ : Aside0 (Below w.heap.size w ((w82.setCell ⟨gb172, 0, none⟩ (.int .u64 ((rd_T27 t159 x61_3).f0))).setCell ⟨gb172, 1, none⟩ (.int .u64 ((rd_T27 t159 x61_3).f1)))) := ⟨by repeat (first | (with_reducible first | exact HB.out | apply below_alloc | apply pw_below_drewN | apply below_drew1 | refine below_set ?_ GE172.out) | exact HB.out)⟩
                            (try clear HO_7)
                            (try clear HO_8)
                            (try clear HO_9)
                            (try clear HO_59)
                            (try clear BK172)
                            (try clear HB)
                            generalize ((w82.setCell ⟨gb172, 0, none⟩ (.int .u64 ((rd_T27 t159 x61_3).f0))).setCell ⟨gb172, 1, none⟩ (.int .u64 ((rd_T27 t159 x61_3).f1))) = w84 at n0_ n1_ n2_ n3_ n4_ n5_ ⊢
                            have HO_7 := n0_
                            have HO_8 := n1_
                            have HO_9 := n2_
                            have HO_59 := n3_
                            have BK172 := n4_
                            have HB := n5_
                            clear n0_ n1_ n2_ n3_ n4_ n5_
                            have n0_ := Aside0.mk (Kd.R_drew HO_7.out)
                            have n1_ := Aside0.mk (Kd.R_drew HO_8.out)
                            have n2_ := Aside0.mk (Kd.R_drew HO_9.out)
                            have n3_ := Aside0.mk (Kd.R_drew HO_59.out)
                            have n4_ := Aside0.mk (blk_drew BK172.out)
                            have n5_ := Aside0.mk (below_drew1 HB.out)
                            clear HO_7
                            clear HO_8
                            clear HO_9
                            clear HO_59
                            clear BK172
                            clear HB
                            have HO_7 := n0_
                            have HO_8 := n1_
                            have HO_9 := n2_
                            have HO_59 := n3_
                            have BK172 := n4_
                            have HB := n5_
                            clear n0_ n1_ n2_ n3_ n4_ n5_
                            refine start_ (n := 35) (S := fun w' => w'.cell? ⟨gb172, 0, none⟩ = some (.int .u64 ((rd_T27 t159 x61_3).f0)) ∧ w'.cell? ⟨gb172, 1, none⟩ = some (.int .u64 ((rd_T27 t159 x61_3).f1))) (ds := []) #[false, false, false, false, false, false, false, false, false, false, false, false, false, false, false, false, false, false, false, false, false, false, false, false, false, false, false, false, false, false, false, false, false, false, false] (by kernel_rfl) rfl rfl ⟨(blk_cell BK172.out 0).trans rfl, (blk_cell BK172.out 1).trans rfl⟩ (fun hHeld => ?_); refine with_tabW laws_FnRangeNodesSplit.tab17 laws_FnRangeNodesSplit.bits17 (fun HT_ HW_ => ?_)
                            generalize w84.drew = w85 at HO_7 HO_8 HO_9 HO_59 BK172 HB hHeld ⊢
                            refine pure_ (i := 0) (N := some 65) (v := ?_) (a' := ?_) #[true, false, false, false, false, false, false, false, false, false, false, false, false, false, false, false, false, false, false, false, false, false, false, false, false, false, false, false, false, false, false, false, false, false, false] rfl rfl (any_of HT_.out (by kernel_rfl)) (fun _ _ _ h => h) (Or.inl ⟨by rfl, ?_⟩) ?_ ?_
                            rotate_left
                            · intro w'
                              go_simp
                              with_reducible rfl
                            rotate_left
                            · simp only [Act.put, List.setIfInBounds_toArray, List.set_cons_zero, List.set_cons_succ, i64_w, i32_w]
                              rfl
                            refine take_ (i := 1) (N := some 66) (v := ?_) (a' := ?_) #[true, true, false, false, false, false, false, false, false, false, false, false, false, false, false, false, false, false, false, false, false, false, false, false, false, false, false, false, false, false, false, false, false, false, false] rfl rfl (take_ofW HT_.out HW_.out (by kernel_rfl)) (fun _ _ _ h => h) (Or.inl ⟨by rfl, ?_⟩) hHeld ?_ ?_
                            rotate_left
                            · rintro w' ⟨s0, s1⟩
                              go_simp
                              with_reducible rfl
                            rotate_left
                            · simp only [Act.put, List.setIfInBounds_toArray, List.set_cons_zero, List.set_cons_succ, i64_w, i32_w]
                              rfl
                            refine one_ (i := 2) (N := some 67) #[true, true, true, false, false, false, false, false, false, false, false, false, false, false, false, false, false, false, false, false, false, false, false, false, false, false, false, false, false, false, false, false, false, false, false] rfl rfl (one_of HT_.out (by kernel_rfl)) (by decide) (fun K hK => ?_)
                            refine goes_ Tryd.func9 (by kernel_rfl) rfl #[.slice Ao14 t153.length co14, .agg #[.int .u64 ((rd_T27 t159 x61_3).f0), .int .u64 ((rd_T27 t159 x61_3).f1)]] (by rfl) rfl rfl (by (try simp only [List.map_toArray, List.map_cons, List.map_nil]); first | done | rfl | (simp only [List.length_drop, List.length_take]; rfl)) ?_
                            with_reducible refine (spec_HasNode.calls k3 _ _ t153 ((rd_T27 t159 x61_3).f0) ((rd_T27 t159 x61_3).f1) false _ ?side1 ?side2 A50.out).mono ?_
                            (case side1 => repeat (first | exact (Kd.R_reads' HO_7.out).2.2 | (with_reducible refine Kd.C_alloc ?_ _) | (with_reducible refine Kd.C_drewN ?_ _) | (with_reducible refine Kd.C_drew ?_)))
                            (case side2 => exact (Kd.R_reads' HO_7.out).2.1)
                            rintro e w86 ⟨rfl, hb⟩
                            refine ⟨_, rfl, ?_⟩
                            have n0_ := Aside0.mk (Kd.R_below (by (with_reducible repeat (first | apply Kd.R_alloc | apply Kd.R_drewN | apply Kd.R_drew)); exact HO_7.out) hb)
                            have n1_ := Aside0.mk (Kd.R_below (by (with_reducible repeat (first | apply Kd.R_alloc | apply Kd.R_drewN | apply Kd.R_drew)); exact HO_8.out) hb)
                            have n2_ := Aside0.mk (Kd.R_below (by (with_reducible repeat (first | apply Kd.R_alloc | apply Kd.R_drewN | apply Kd.R_drew)); exact HO_9.out) hb)
                            have n3_ := Aside0.mk (Kd.R_below (by (with_reducible repeat (first | apply Kd.R_alloc | apply Kd.R_drewN | apply Kd.R_drew)); exact HO_59.out) hb)
                            have n4_ := Aside0.mk (blk_below (g := gb172) (o := .cells #[.int .u64 ((rd_T27 t159 x61_3).f0), .int .u64 ((rd_T27 t159 x61_3).f1)] 27 (0, 0)) (by (with_reducible repeat (first | refine blk_drewN ?_ _ | refine blk_drew ?_ | refine blk_alloc ?_ _)); exact BK172.out) hb)
                            have n5_ := Aside0.mk (below_step (by repeat (first | (with_reducible first | exact HB.out | apply below_alloc | apply pw_below_drewN | apply below_drew1 | refine below_set ?_ GE172.out) | exact HB.out)) hb)
                            clear HO_7
                            clear HO_8
                            clear HO_9
                            clear HO_59
                            clear BK172
                            clear HB
                            have HO_7 := n0_
                            have HO_8 := n1_
                            have HO_9 := n2_
                            have HO_59 := n3_
                            have BK172 := n4_
                            have HB := n5_
                            clear n0_ n1_ n2_ n3_ n4_ n5_
                            (try clear hb)
                            (try clear hb2)
                            (try clear hk)
                            (try clear hi)
                            obtain ⟨Ao87, co87, eo87⟩ := Kd.R_slice HO_9.out
                            (first | subst eo87 | (injection eo87 with f1_ f2_ f3_; have f4_ := f1_.symm; have f5_ := f3_.symm; clear f1_ f2_ f3_; subst f4_; subst f5_))
                            refine hK.out _ _ ⟨(blk_cell BK172.out 0).trans rfl, (blk_cell BK172.out 1).trans rfl⟩ (fun hHeld => ?_)
                            clear hK K
                            refine norm_ (a' := ?_) ?_ ?_
                            rotate_left
                            · show Act.put _ (some 67) _ = _
                              simp only [Act.put, List.setIfInBounds_toArray, List.set_cons_zero, List.set_cons_succ, i64_w, i32_w]
                              rfl
                            refine pure_ (i := 3) (N := some 68) (v := ?_) (a' := ?_) #[true, true, true, true, false, false, false, false, false, false, false, false, false, false, false, false, false, false, false, false, false, false, false, false, false, false, false, false, false, false, false, false, false, false, false] rfl rfl (any_of HT_.out (by kernel_rfl)) (fun _ _ _ h => h) (Or.inl ⟨by rfl, ?_⟩) ?_ ?_
                            rotate_left
                            · intro w'
                              go_simp
                              with_reducible rfl
                            rotate_left
                            · simp only [Act.put, List.setIfInBounds_toArray, List.set_cons_zero, List.set_cons_succ, i64_w, i32_w]
                              rfl
                            refine pure_ (i := 4) (N := some 69) (v := ?_) (a' := ?_) #[true, true, true, true, true, false, false, false, false, false, false, false, false, false, false, false, false, false, false, false, false, false, false, false, false, false, false, false, false, false, false, false, false, false, false] rfl rfl (any_of HT_.out (by kernel_rfl)) (fun _ _ _ h => h) (Or.inl ⟨by rfl, ?_⟩) ?_ ?_
                            rotate_left
                            · intro w'
                              go_simp
                              with_reducible rfl
                            rotate_left
                            · simp only [Act.put, List.setIfInBounds_toArray, List.set_cons_zero, List.set_cons_succ, i64_w, i32_w]
                              rfl
                            refine pure_ (i := 5) (N := some 70) (v := ?_) (a' := ?_) #[true, true, true, true, true, true, false, false, false, false, false, false, false, false, false, false, false, false, false, false, false, false, false, false, false, false, false, false, false, false, false, false, false, false, false] rfl rfl (any_of HT_.out (by kernel_rfl)) (fun _ _ _ h => h) (Or.inl ⟨by rfl, ?_⟩) ?_ ?_
                            rotate_left
                            · intro w'
                              go_simp
                              with_reducible rfl
                            rotate_left
                            · simp only [Act.put, List.setIfInBounds_toArray, List.set_cons_zero, List.set_cons_succ, i64_w, i32_w]
                              rfl
                            refine pure_ (i := 6) (N := some 71) (v := ?_) (a' := ?_) #[true, true, true, true, true, true, true, false, false, false, false, false, false, false, false, false, false, false, false, false, false, false, false, false, false, false, false, false, false, false, false, false, false, false, false] rfl rfl (any_of HT_.out (by kernel_rfl)) (fun _ _ _ h => h) (Or.inl ⟨by rfl, ?_⟩) ?_ ?_
                            rotate_left
                            · intro w'
                              go_simp
                              with_reducible rfl
                            rotate_left
                            · simp only [Act.put, List.setIfInBounds_toArray, List.set_cons_zero, List.set_cons_succ, i64_w, i32_w]
                              rfl
                            refine pure_ (i := 7) (N := some 72) (v := ?_) (a' := ?_) #[true, true, true, true, true, true, true, true, false, false, false, false, false, false, false, false, false, false, false, false, false, false, false, false, false, false, false, false, false, false, false, false, false, false, false] rfl rfl (any_of HT_.out (by kernel_rfl)) (fun _ _ _ h => h) (Or.inl ⟨by rfl, ?_⟩) ?_ ?_
                            rotate_left
                            · intro w'
                              go_simp
                              with_reducible rfl
                            rotate_left
                            · simp only [Act.put, List.setIfInBounds_toArray, List.set_cons_zero, List.set_cons_succ, i64_w, i32_w]
                              rfl
                            refine pure_ (i := 8) (N := some 73) (v := ?_) (a' := ?_) #[true, true, true, true, true, true, true, true, true, false, false, false, false, false, false, false, false, false, false, false, false, false, false, false, false, false, false, false, false, false, false, false, false, false, false] rfl rfl (any_of HT_.out (by kernel_rfl)) (fun _ _ _ h => h) (Or.inl ⟨by rfl, ?_⟩) ?_ ?_
                            rotate_left
                            · intro w'
                              go_simp
                              with_reducible rfl
                            rotate_left
                            · simp only [Act.put, List.setIfInBounds_toArray, List.set_cons_zero, List.set_cons_succ, i64_w, i32_w]
                              rfl
                            refine pure_ (i := 9) (N := some 74) (v := undef) (a' := ?_) #[true, true, true, true, true, true, true, true, true, true, false, false, false, false, false, false, false, false, false, false, false, false, false, false, false, false, false, false, false, false, false, false, false, false, false] rfl rfl (any_of HT_.out (by kernel_rfl)) (fun _ _ _ h => h) (Or.inr ⟨by rfl, rfl⟩) ?_ ?_
                            rotate_left
                            · simp only [Act.put, List.setIfInBounds_toArray, List.set_cons_zero, List.set_cons_succ, i64_w, i32_w]
                              rfl
                            refine pure_ (i := 10) (N := some 75) (v := undef) (a' := ?_) #[true, true, true, true, true, true, true, true, true, true, true, false, false, false, false, false, false, false, false, false, false, false, false, false, false, false, false, false, false, false, false, false, false, false, false] rfl rfl (any_of HT_.out (by kernel_rfl)) (fun _ _ _ h => h) (Or.inr ⟨by rfl, rfl⟩) ?_ ?_
                            rotate_left
                            · simp only [Act.put, List.setIfInBounds_toArray, List.set_cons_zero, List.set_cons_succ, i64_w, i32_w]
                              rfl
                            refine pure_ (i := 11) (N := some 76) (v := undef) (a' := ?_) #[true, true, true, true, true, true, true, true, true, true, true, true, false, false, false, false, false, false, false, false, false, false, false, false, false, false, false, false, false, false, false, false, false, false, false] rfl rfl (any_of HT_.out (by kernel_rfl)) (fun _ _ _ h => h) (Or.inr ⟨by rfl, rfl⟩) ?_ ?_
                            rotate_left
                            · simp only [Act.put, List.setIfInBounds_toArray, List.set_cons_zero, List.set_cons_succ, i64_w, i32_w]
                              rfl
                            refine pure_ (i := 12) (N := some 77) (v := undef) (a' := ?_) #[true, true, true, true, true, true, true, true, true, true, true, true, true, false, false, false, false, false, false, false, false, false, false, false, false, false, false, false, false, false, false, false, false, false, false] rfl rfl (any_of HT_.out (by kernel_rfl)) (fun _ _ _ h => h) (Or.inr ⟨by rfl, rfl⟩) ?_ ?_
                            rotate_left
                            · simp only [Act.put, List.setIfInBounds_toArray, List.set_cons_zero, List.set_cons_succ, i64_w, i32_w]
                              rfl
                            refine pure_ (i := 13) (N := some 78) (v := undef) (a' := ?_) #[true, true, true, true, true, true, true, true, true, true, true, true, true, true, false, false, false, false, false, false, false, false, false, false, false, false, false, false, false, false, false, false, false, false, false] rfl rfl (any_of HT_.out (by kernel_rfl)) (fun _ _ _ h => h) (Or.inr ⟨by rfl, rfl⟩) ?_ ?_
                            rotate_left
                            · simp only [Act.put, List.setIfInBounds_toArray, List.set_cons_zero, List.set_cons_succ, i64_w, i32_w]
                              rfl
                            refine pure_ (i := 14) (N := some 79) (v := undef) (a' := ?_) #[true, true, true, true, true, true, true, true, true, true, true, true, true, true, true, false, false, false, false, false, false, false, false, false, false, false, false, false, false, false, false, false, false, false, false] rfl rfl (any_of HT_.out (by kernel_rfl)) (fun _ _ _ h => h) (Or.inr ⟨by rfl, rfl⟩) ?_ ?_
                            rotate_left
                            · simp only [Act.put, List.setIfInBounds_toArray, List.set_cons_zero, List.set_cons_succ, i64_w, i32_w]
                              rfl
                            refine pure_ (i := 15) (N := some 80) (v := undef) (a' := ?_) #[true, true, true, true, true, true, true, true, true, true, true, true, true, true, true, true, false, false, false, false, false, false, false, false, false, false, false, false, false, false, false, false, false, false, false] rfl rfl (any_of HT_.out (by kernel_rfl)) (fun _ _ _ h => h) (Or.inr ⟨by rfl, rfl⟩) ?_ ?_
                            rotate_left
                            · simp only [Act.put, List.setIfInBounds_toArray, List.set_cons_zero, List.set_cons_succ, i64_w, i32_w]
                              rfl
                            refine pure_ (i := 16) (N := some 81) (v := ?_) (a' := ?_) #[true, true, true, true, true, true, true, true, true, true, true, true, true, true, true, true, true, false, false, false, false, false, false, false, false, false, false, false, false, false, false, false, false, false, false] rfl rfl (any_of HT_.out (by kernel_rfl)) (fun _ _ _ h => h) (Or.inl ⟨by rfl, ?_⟩) ?_ ?_
                            rotate_left
                            · intro w'
                              go_simp
                              with_reducible rfl
                            rotate_left
                            · simp only [Act.put, List.setIfInBounds_toArray, List.set_cons_zero, List.set_cons_succ, i64_w, i32_w]
                              rfl
                            refine pure_ (i := 17) (N := some 82) (v := ?_) (a' := ?_) #[true, true, true, true, true, true, true, true, true, true, true, true, true, true, true, true, true, true, false, false, false, false, false, false, false, false, false, false, false, false, false, false, false, false, false] rfl rfl (any_of HT_.out (by kernel_rfl)) (fun _ _ _ h => h) (Or.inl ⟨by rfl, ?_⟩) ?_ ?_
                            rotate_left
                            · intro w'
                              go_simp
                              with_reducible rfl
                            rotate_left
                            · simp only [Act.put, List.setIfInBounds_toArray, List.set_cons_zero, List.set_cons_succ, i64_w, i32_w]
                              rfl
                            refine pure_ (i := 18) (N := some 83) (v := undef) (a' := ?_) #[true, true, true, true, true, true, true, true, true, true, true, true, true, true, true, true, true, true, true, false, false, false, false, false, false, false, false, false, false, false, false, false, false, false, false] rfl rfl (any_of HT_.out (by kernel_rfl)) (fun _ _ _ h => h) (Or.inr ⟨by rfl, rfl⟩) ?_ ?_
                            rotate_left
                            · simp only [Act.put, List.setIfInBounds_toArray, List.set_cons_zero, List.set_cons_succ, i64_w, i32_w]
                              rfl
                            refine pure_ (i := 19) (N := some 84) (v := undef) (a' := ?_) #[true, true, true, true, true, true, true, true, true, true, true, true, true, true, true, true, true, true, true, true, false, false, false, false, false, false, false, false, false, false, false, false, false, false, false] rfl rfl (any_of HT_.out (by kernel_rfl)) (fun _ _ _ h => h) (Or.inr ⟨by rfl, rfl⟩) ?_ ?_
                            rotate_left
                            · simp only [Act.put, List.setIfInBounds_toArray, List.set_cons_zero, List.set_cons_succ, i64_w, i32_w]
                              rfl
                            refine pure_ (i := 20) (N := some 85) (v := undef) (a' := ?_) #[true, true, true, true, true, true, true, true, true, true, true, true, true, true, true, true, true, true, true, true, true, false, false, false, false, false, false, false, false, false, false, false, false, false, false] rfl rfl (any_of HT_.out (by kernel_rfl)) (fun _ _ _ h => h) (Or.inr ⟨by rfl, rfl⟩) ?_ ?_
                            rotate_left
                            · simp only [Act.put, List.setIfInBounds_toArray, List.set_cons_zero, List.set_cons_succ, i64_w, i32_w]
                              rfl
                            refine pure_ (i := 21) (N := some 86) (v := undef) (a' := ?_) #[true, true, true, true, true, true, true, true, true, true, true, true, true, true, true, true, true, true, true, true, true, true, false, false, false, false, false, false, false, false, false, false, false, false, false] rfl rfl (any_of HT_.out (by kernel_rfl)) (fun _ _ _ h => h) (Or.inr ⟨by rfl, rfl⟩) ?_ ?_
                            rotate_left
                            · simp only [Act.put, List.setIfInBounds_toArray, List.set_cons_zero, List.set_cons_succ, i64_w, i32_w]
                              rfl
                            refine pure_ (i := 22) (N := some 87) (v := undef) (a' := ?_) #[true, true, true, true, true, true, true, true, true, true, true, true, true, true, true, true, true, true, true, true, true, true, true, false, false, false, false, false, false, false, false, false, false, false, false] rfl rfl (any_of HT_.out (by kernel_rfl)) (fun _ _ _ h => h) (Or.inr ⟨by rfl, rfl⟩) ?_ ?_
                            rotate_left
                            · simp only [Act.put, List.setIfInBounds_toArray, List.set_cons_zero, List.set_cons_succ, i64_w, i32_w]
                              rfl
                            refine pure_ (i := 23) (N := some 88) (v := undef) (a' := ?_) #[true, true, true, true, true, true, true, true, true, true, true, true, true, true, true, true, true, true, true, true, true, true, true, true, false, false, false, false, false, false, false, false, false, false, false] rfl rfl (any_of HT_.out (by kernel_rfl)) (fun _ _ _ h => h) (Or.inr ⟨by rfl, rfl⟩) ?_ ?_
                            rotate_left
                            · simp only [Act.put, List.setIfInBounds_toArray, List.set_cons_zero, List.set_cons_succ, i64_w, i32_w]
                              rfl
                            refine pure_ (i := 24) (N := some 89) (v := undef) (a' := ?_) #[true, true, true, true, true, true, true, true, true, true, true, true, true, true, true, true, true, true, true, true, true, true, true, true, true, false, false, false, false, false, false, false, false, false, false] rfl rfl (any_of HT_.out (by kernel_rfl)) (fun _ _ _ h => h) (Or.inr ⟨by rfl, rfl⟩) ?_ ?_
                            rotate_left
                            · simp only [Act.put, List.setIfInBounds_toArray, List.set_cons_zero, List.set_cons_succ, i64_w, i32_w]
                              rfl
                            refine pure_ (i := 25) (N := some 90) (v := undef) (a' := ?_) #[true, true, true, true, true, true, true, true, true, true, true, true, true, true, true, true, true, true, true, true, true, true, true, true, true, true, false, false, false, false, false, false, false, false, false] rfl rfl (any_of HT_.out (by kernel_rfl)) (fun _ _ _ h => h) (Or.inr ⟨by rfl, rfl⟩) ?_ ?_
                            rotate_left
                            · simp only [Act.put, List.setIfInBounds_toArray, List.set_cons_zero, List.set_cons_succ, i64_w, i32_w]
                              rfl
                            refine pure_ (i := 26) (N := some 91) (v := undef) (a' := ?_) #[true, true, true, true, true, true, true, true, true, true, true, true, true, true, true, true, true, true, true, true, true, true, true, true, true, true, true, false, false, false, false, false, false, false, false] rfl rfl (any_of HT_.out (by kernel_rfl)) (fun _ _ _ h => h) (Or.inr ⟨by rfl, rfl⟩) ?_ ?_
                            rotate_left
                            · simp only [Act.put, List.setIfInBounds_toArray, List.set_cons_zero, List.set_cons_succ, i64_w, i32_w]
                              rfl
                            refine pure_ (i := 27) (N := some 92) (v := undef) (a' := ?_) #[true, true, true, true, true, true, true, true, true, true, true, true, true, true, true, true, true, true, true, true, true, true, true, true, true, true, true, true, false, false, false, false, false, false, false] rfl rfl (any_of HT_.out (by kernel_rfl)) (fun _ _ _ h => h) (Or.inr ⟨by rfl, rfl⟩) ?_ ?_
                            rotate_left
                            · simp only [Act.put, List.setIfInBounds_toArray, List.set_cons_zero, List.set_cons_succ, i64_w, i32_w]
                              rfl
                            refine pure_ (i := 28) (N := some 93) (v := undef) (a' := ?_) #[true, true, true, true, true, true, true, true, true, true, true, true, true, true, true, true, true, true, true, true, true, true, true, true, true, true, true, true, true, false, false, false, false, false, false] rfl rfl (any_of HT_.out (by kernel_rfl)) (fun _ _ _ h => h) (Or.inr ⟨by rfl, rfl⟩) ?_ ?_
                            rotate_left
                            · simp only [Act.put, List.setIfInBounds_toArray, List.set_cons_zero, List.set_cons_succ, i64_w, i32_w]
                              rfl
                            refine pure_ (i := 29) (N := some 94) (v := undef) (a' := ?_) #[true, true, true, true, true, true, true, true, true, true, true, true, true, true, true, true, true, true, true, true, true, true, true, true, true, true, true, true, true, true, false, false, false, false, false] rfl rfl (any_of HT_.out (by kernel_rfl)) (fun _ _ _ h => h) (Or.inr ⟨by rfl, rfl⟩) ?_ ?_
                            rotate_left
                            · simp only [Act.put, List.setIfInBounds_toArray, List.set_cons_zero, List.set_cons_succ, i64_w, i32_w]
                              rfl
                            refine pure_ (i := 30) (N := some 95) (v := undef) (a' := ?_) #[true, true, true, true, true, true, true, true, true, true, true, true, true, true, true, true, true, true, true, true, true, true, true, true, true, true, true, true, true, true, true, false, false, false, false] rfl rfl (any_of HT_.out (by kernel_rfl)) (fun _ _ _ h => h) (Or.inr ⟨by rfl, rfl⟩) ?_ ?_
                            rotate_left
                            · simp only [Act.put, List.setIfInBounds_toArray, List.set_cons_zero, List.set_cons_succ, i64_w, i32_w]
                              rfl
                            refine pure_ (i := 31) (N := some 96) (v := undef) (a' := ?_) #[true, true, true, true, true, true, true, true, true, true, true, true, true, true, true, true, true, true, true, true, true, true, true, true, true, true, true, true, true, true, true, true, false, false, false] rfl rfl (any_of HT_.out (by kernel_rfl)) (fun _ _ _ h => h) (Or.inr ⟨by rfl, rfl⟩) ?_ ?_
                            rotate_left
                            · simp only [Act.put, List.setIfInBounds_toArray, List.set_cons_zero, List.set_cons_succ, i64_w, i32_w]
                              rfl
                            refine pure_ (i := 32) (N := some 97) (v := undef) (a' := ?_) #[true, true, true, true, true, true, true, true, true, true, true, true, true, true, true, true, true, true, true, true, true, true, true, true, true, true, true, true, true, true, true, true, true, false, false] rfl rfl (any_of HT_.out (by kernel_rfl)) (fun _ _ _ h => h) (Or.inr ⟨by rfl, rfl⟩) ?_ ?_
                            rotate_left
                            · simp only [Act.put, List.setIfInBounds_toArray, List.set_cons_zero, List.set_cons_succ, i64_w, i32_w]
                              rfl
                            refine pure_ (i := 33) (N := some 98) (v := ?_) (a' := ?_) #[true, true, true, true, true, true, true, true, true, true, true, true, true, true, true, true, true, true, true, true, true, true, true, true, true, true, true, true, true, true, true, true, true, true, false] rfl rfl (any_of HT_.out (by kernel_rfl)) (fun _ _ _ h => h) (Or.inl ⟨by rfl, ?_⟩) ?_ ?_
                            rotate_left
                            · intro w'
                              go_simp
                              with_reducible rfl
                            rotate_left
                            · simp only [Act.put, List.setIfInBounds_toArray, List.set_cons_zero, List.set_cons_succ, i64_w, i32_w]
                              rfl
                            refine pure_ (i := 34) (N := some 99) (v := ?_) (a' := ?_) #[true, true, true, true, true, true, true, true, true, true, true, true, true, true, true, true, true, true, true, true, true, true, true, true, true, true, true, true, true, true, true, true, true, true, true] rfl rfl (any_of HT_.out (by kernel_rfl)) (fun _ _ _ h => h) (Or.inl ⟨by rfl, ?_⟩) ?_ ?_
                            rotate_left
                            · intro w'
                              go_simp
                              with_reducible rfl
                            rotate_left
                            · simp only [Act.put, List.setIfInBounds_toArray, List.set_cons_zero, List.set_cons_succ, i64_w, i32_w]
                              rfl
                            refine done_ (done_of HT_.out (by kernel_rfl)) ?_
                            try go_wp2
                            go_ret
                            exact ⟨by first | rfl | (simp [errW_none, errW_some] <;> rfl) | (simp [*, errW_none, errW_some] <;> rfl), by repeat (first | (with_reducible first | exact HB.out | apply below_alloc | apply pw_below_drewN | apply below_drew1 | refine below_set ?_ GE172.out) | exact HB.out)⟩
                      · rw [if_neg c49] at H
                        exact absurd H (by simp)
                    · rw [if_neg c48] at H
                      exact absurd H (by simp)
                  · rw [if_neg c47] at H
                    have c47b0 : decide (x61_3 < (t159.length : Int)) = false := decide_eq_false c47
                    clear c47
                    by_cases c88 : (x9_2.length : Int) ≤ 1
                    · rw [if_pos c88] at H
                      have c88b0 : decide ((x9_2.length : Int) ≤ 1) = true := decide_eq_true c88
                      have c88b1 : decide (x9_2.length ≤ 1) = true := decide_eq_true (by omega)
                      clear c88
                      by_cases c89 : (t153.length : Int) ≤ (t159.length : Int)
                      · rw [if_pos c89] at H
                        have c89b0 : decide ((t153.length : Int) ≤ (t159.length : Int)) = true := decide_eq_true c89
                        have c89b1 : decide (t153.length ≤ t159.length) = true := decide_eq_true (Int.ofNat_le.mp c89)
                        clear c89
                        replace H := Option.bind_eq_some_iff.mp H
                        obtain ⟨t177, A900, H⟩ := H
                        replace H : (if (t153.length : Int) = t177 then (some ((decide ((t153.length : Int) > 0)) == (decide (a0 < a2)))) else (some false)) = some r := H
                        have A90 := Aside0.mk A900
                        clear A900
                        by_cases c91 : (t153.length : Int) = t177
                        · rw [if_pos c91] at H
                          have c91b0 : ((t153.length : Int) == t177) = true := beq_iff_eq.mpr c91
                          have c91b1 : ((t153.length : Int) != t177) = false := bne_eq_false_iff_eq.mpr c91
                          clear c91
                          obtain rfl := Option.some.inj H
                          obtain ⟨Ao92, co92, eo92⟩ := Kd.R_slice HO_9.out
                          subst eo92
                          go_wp2_with (first | (go_at_call 10; (with_reducible refine (impl_RangeSize.calls a0 a2 t177 _ A90.out).mono ?_); rintro e w' ⟨rfl, ⟨nd, rfl⟩⟩))
                          go_ret
                          exact ⟨by first | rfl | (simp [errW_none, errW_some] <;> rfl) | (simp [*, errW_none, errW_some] <;> rfl), by repeat (first | (with_reducible first | exact HB.out | apply below_alloc | apply pw_below_drewN | apply below_drew1) | exact HB.out)⟩
                        · rw [if_neg c91] at H
                          have c91b0 : ((t153.length : Int) == t177) = false := beq_eq_false_iff_ne.mpr c91
                          have c91b1 : ((t153.length : Int) != t177) = true := bne_iff_ne.mpr c91
                          obtain rfl := Option.some.inj H
                          obtain ⟨Ao93, co93, eo93⟩ := Kd.R_slice HO_9.out
                          subst eo93
                          go_wp2_with (first | (go_at_call 10; (with_reducible refine (impl_RangeSize.calls a0 a2 t177 _ A90.out).mono ?_); rintro e w' ⟨rfl, ⟨nd, rfl⟩⟩))
                          go_ret
                          exact ⟨by first | rfl | (simp [errW_none, errW_some] <;> rfl) | (simp [*, errW_none, errW_some] <;> rfl), by repeat (first | (with_reducible first | exact HB.out | apply below_alloc | apply pw_below_drewN | apply below_drew1) | exact HB.out)⟩
                      · rw [if_neg c89] at H
                        have c89b0 : decide ((t153.length : Int) ≤ (t159.length : Int)) = false := decide_eq_false c89
                        have c89b1 : decide (t153.length ≤ t159.length) = false := decide_eq_false (fun h => c89 (Int.ofNat_le.mpr h))
                        clear c89
                        obtain rfl := Option.some.inj H
                        obtain ⟨Ao94, co94, eo94⟩ := Kd.R_slice HO_9.out
                        subst eo94
                        go_wp2
                        go_ret
                        exact ⟨by first | rfl | (simp [errW_none, errW_some] <;> rfl) | (simp [*, errW_none, errW_some] <;> rfl), by repeat (first | (with_reducible first | exact HB.out | apply below_alloc | apply pw_below_drewN | apply below_drew1) | exact HB.out)⟩
                    · rw [if_neg c88] at H
                      have c88b0 : decide ((x9_2.length : Int) ≤ 1) = false := decide_eq_false c88
                      have c88b1 : decide (x9_2.length ≤ 1) = false := decide_eq_false (by omega)
                      clear c88
                      obtain rfl := Option.some.inj H
                      obtain ⟨Ao95, co95, eo95⟩ := Kd.R_slice HO_9.out
                      subst eo95
                      go_wp2
                      go_ret
                      exact ⟨by first | rfl | (simp [errW_none, errW_some] <;> rfl) | (simp [*, errW_none, errW_some] <;> rfl), by repeat (first | (with_reducible first | exact HB.out | apply below_alloc | apply pw_below_drewN | apply below_drew1) | exact HB.out)⟩

/-- THE ONE PURE STATEMENT of laws_FnRangeNodesSplit: yours. -/
def laws_FnRangeNodesSplit.Pure : Prop := ∀ (a0 : Int) (a1 : Int) (a2 : Int), (Lit.int .u64 a0).wf = true → (Lit.int .u64 a1).wf = true → (Lit.int .u64 a2).wf = true → ∃ k, laws_FnRangeNodesSplit.f k a0 a1 a2 = some true
theorem laws_FnRangeNodesSplit.walk (P : laws_FnRangeNodesSplit.Pure) (a0 : Int) (a1 : Int) (a2 : Int) (w : World) (HG_ : Glob w) (w0 : (Lit.int .u64 a0).wf = true) (w1 : (Lit.int .u64 a1).wf = true) (w2 : (Lit.int .u64 a2).wf = true) :
    Calls Tryd.prog 3 #[.int .u64 a0, .int .u64 a1, .int .u64 a2] w fun e w' => e = .returned (.bool true) ∧ Below w.heap.size w w' := by
  obtain ⟨k, h⟩ := P a0 a1 a2 w0 w1 w2
  refine (laws_FnRangeNodesSplit.calls k a0 a1 a2 true w HG_ h).mono ?_
  rintro e w' ⟨rfl, hd⟩
  exact ⟨rfl, hd⟩

end Go.Proofs.YtmcelgfekffinaaDoor.Q
