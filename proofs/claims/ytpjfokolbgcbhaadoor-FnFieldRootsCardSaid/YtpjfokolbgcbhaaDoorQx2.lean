-- Written by wip/tools/myprint.py for this seat (the kit's print with changes); Lean checks it.
import Derived.Test.YtpjfokolbgcbhaaDoorQx0
import Derived.Test.YtpjfokolbgcbhaaDoorQx1
namespace Go.Proofs.YtpjfokolbgcbhaaDoor.Q
open Go.RowKit Go.Proofs.YtpjfokolbgcbhaaDoorW.PrintWords Go.Proofs.YtpjfokolbgcbhaaDoorW.PrintLast Go.Proofs.YtpjfokolbgcbhaaDoorW.PrintMore
attribute [local go_sem] max2_int min2_int max_two min_two max_three min_three max_four min_four   -- for this text's walks alone
set_option linter.unusedVariables false
set_option linter.unusedSimpArgs false

/-! ### laws_FnFieldRoots: function 4 -/
mutual
def laws_FnFieldRoots.l0 : Nat → List Int → Int → List Int → Int → Int → Option (Bool)
  | 0, _, _, _, _, _ => none
  | k + 1, x0, x3, x12, x13, x14 => if x14 < x13 then (if 0 ≤ x14 then (if x14 < (x12.length : Int) then (if (rd x12 x14) = 0 then (laws_FnFieldRoots.l0 k x0 x3 x12 x13 (wrap64 (x14 + 1))) else (laws_FnFieldRoots.l0 k x0 x14 x12 x13 (wrap64 (x14 + 1)))) else (none)) else (none)) else (if x3 < 0 then (laws_FnFieldRoots.j1 k x0 x3 true) else (laws_FnFieldRoots.j1 k x0 x3 (decide ((x0.length : Int) > 40))))
def laws_FnFieldRoots.j1 : Nat → List Int → Int → Bool → Option (Bool)
  | 0, _, _, _ => none
  | k + 1, x0, x3, x29 => if x29 = true then (some true) else (laws_FnFieldRoots.l1 k x0 x3 0 0)
def laws_FnFieldRoots.l1 : Nat → List Int → Int → Int → Int → Option (Bool)
  | 0, _, _, _, _ => none
  | k + 1, x0, x3, x6, x7 => if x7 < 256 then ((laws_value.f k x0 ((x7) % 256)).bind fun t126 => ((spec_Eval.f k x0 ((x7) % 256)).bind fun t127 => (if ((t126 == 0) != (t127 == 0)) = true then (some false) else (if t126 = 0 then (laws_FnFieldRoots.l1 k x0 x3 (wrap64 (x6 + 1)) (wrap64 (x7 + 1))) else (laws_FnFieldRoots.l1 k x0 x3 x6 (wrap64 (x7 + 1))))))) else (some (decide (x6 ≤ x3)))
end
def laws_FnFieldRoots.f (k : Nat) (l0 : List Int) : Option (Bool) := if (l0.length : Int) > 2147483647 then (some true) else (laws_FnFieldRoots.l0 k l0 (-1) l0 (l0.length : Int) 0)
theorem laws_FnFieldRoots.mono_l : ∀ k, (∀ y0 y1 y2 y3 y4, LeO (laws_FnFieldRoots.l0 k y0 y1 y2 y3 y4) (laws_FnFieldRoots.l0 (k + 1) y0 y1 y2 y3 y4)) ∧ (∀ y0 y1 y2, LeO (laws_FnFieldRoots.j1 k y0 y1 y2) (laws_FnFieldRoots.j1 (k + 1) y0 y1 y2)) ∧ (∀ y0 y1 y2 y3, LeO (laws_FnFieldRoots.l1 k y0 y1 y2 y3) (laws_FnFieldRoots.l1 (k + 1) y0 y1 y2 y3))
  | 0 => ⟨fun _ _ _ _ _ r h => by simp [laws_FnFieldRoots.l0] at h, fun _ _ _ r h => by simp [laws_FnFieldRoots.j1] at h, fun _ _ _ _ r h => by simp [laws_FnFieldRoots.l1] at h⟩
  | k + 1 => by
    obtain ⟨ih0, ih1, ih2⟩ := laws_FnFieldRoots.mono_l k
    refine ⟨?_, ?_, ?_⟩
    · intro y0 y1 y2 y3 y4
      unfold laws_FnFieldRoots.l0
      repeat' first
      | (with_reducible exact ih0 _ _ _ _ _)
      | (with_reducible exact ih1 _ _ _)
      | (with_reducible exact ih2 _ _ _ _)
      | (with_reducible exact laws_value.mono _ _ _)
      | (with_reducible exact spec_Eval.mono _ _ _)
      | (with_reducible exact LeO.refl _)
      | (with_reducible exact LeO.none _)
      | (with_reducible refine LeO.ite ?_ ?_)
      | (with_reducible refine LeO.bind ?_ (fun _ => ?_))
      | exact ih0 _ _ _ _ _
      | exact ih1 _ _ _
      | exact ih2 _ _ _ _
      | exact laws_value.mono _ _ _
      | exact spec_Eval.mono _ _ _
      | exact LeO.none _
      | refine LeO.ite ?_ ?_
      | refine LeO.bind ?_ (fun _ => ?_)
    · intro y0 y1 y2
      unfold laws_FnFieldRoots.j1
      repeat' first
      | (with_reducible exact ih0 _ _ _ _ _)
      | (with_reducible exact ih1 _ _ _)
      | (with_reducible exact ih2 _ _ _ _)
      | (with_reducible exact laws_value.mono _ _ _)
      | (with_reducible exact spec_Eval.mono _ _ _)
      | (with_reducible exact LeO.refl _)
      | (with_reducible exact LeO.none _)
      | (with_reducible refine LeO.ite ?_ ?_)
      | (with_reducible refine LeO.bind ?_ (fun _ => ?_))
      | exact ih0 _ _ _ _ _
      | exact ih1 _ _ _
      | exact ih2 _ _ _ _
      | exact laws_value.mono _ _ _
      | exact spec_Eval.mono _ _ _
      | exact LeO.none _
      | refine LeO.ite ?_ ?_
      | refine LeO.bind ?_ (fun _ => ?_)
    · intro y0 y1 y2 y3
      unfold laws_FnFieldRoots.l1
      repeat' first
      | (with_reducible exact ih0 _ _ _ _ _)
      | (with_reducible exact ih1 _ _ _)
      | (with_reducible exact ih2 _ _ _ _)
      | (with_reducible exact laws_value.mono _ _ _)
      | (with_reducible exact spec_Eval.mono _ _ _)
      | (with_reducible exact LeO.refl _)
      | (with_reducible exact LeO.none _)
      | (with_reducible refine LeO.ite ?_ ?_)
      | (with_reducible refine LeO.bind ?_ (fun _ => ?_))
      | exact ih0 _ _ _ _ _
      | exact ih1 _ _ _
      | exact ih2 _ _ _ _
      | exact laws_value.mono _ _ _
      | exact spec_Eval.mono _ _ _
      | exact LeO.none _
      | refine LeO.ite ?_ ?_
      | refine LeO.bind ?_ (fun _ => ?_)
theorem laws_FnFieldRoots.mono : ∀ a0 k, LeO (laws_FnFieldRoots.f k a0) (laws_FnFieldRoots.f (k + 1) a0) := by
  intro a0 k
  obtain ⟨ih0, ih1, ih2⟩ := laws_FnFieldRoots.mono_l k
  unfold laws_FnFieldRoots.f
  repeat' first
      | (with_reducible exact ih0 _ _ _ _ _)
      | (with_reducible exact ih1 _ _ _)
      | (with_reducible exact ih2 _ _ _ _)
      | (with_reducible exact laws_value.mono _ _ _)
      | (with_reducible exact spec_Eval.mono _ _ _)
      | (with_reducible exact LeO.refl _)
      | (with_reducible exact LeO.none _)
      | (with_reducible refine LeO.ite ?_ ?_)
      | (with_reducible refine LeO.bind ?_ (fun _ => ?_))
      | exact ih0 _ _ _ _ _
      | exact ih1 _ _ _
      | exact ih2 _ _ _ _
      | exact laws_value.mono _ _ _
      | exact spec_Eval.mono _ _ _
      | exact LeO.none _
      | refine LeO.ite ?_ ?_
      | refine LeO.bind ?_ (fun _ => ?_)
set_option maxHeartbeats 8000000 in
set_option maxRecDepth 100000 in
theorem laws_FnFieldRoots.calls (k : Nat) (A0 : Option Addr) (c0 : Nat) (l0 : List Int) (r : Bool) (w : World) (hr0 : Kd.C (Kd.int .u8) w A0 l0.length l0) (hc0 : l0.length ≤ c0) (HG_ : Glob w) (h : laws_FnFieldRoots.f k l0 = some r) :
    Calls Tryd.prog 4 #[.slice A0 l0.length c0] w fun e w' => e = .returned (.bool r) ∧ Drawn0 w w' := by
  have HG := Aside0.mk HG_
  clear HG_
  have HR0 := Aside0.mk hr0
  have HC0 := Aside0.mk hc0
  clear hr0 hc0
  have H : (if (l0.length : Int) > 2147483647 then (some true) else (laws_FnFieldRoots.l0 k l0 (-1) l0 (l0.length : Int) 0)) = some r := h
  clear h
  by_cases c2 : (l0.length : Int) > 2147483647
  · rw [if_pos c2] at H
    have c2b0 : decide (2147483647 < (l0.length : Int)) = true := decide_eq_true c2
    have c2b1 : decide (2147483647 < l0.length) = true := decide_eq_true (by omega)
    clear c2
    obtain rfl := Option.some.inj H
    go_enter Tryd.func4, Tryd.ntmps4
    go_wp2
    go_ret
    exact ⟨by first | rfl | (simp; done) | (simp [*]; done), by repeat (first | exact Drawn0.refl _ | apply Drawn0.step)⟩
  · rw [if_neg c2] at H
    have c2b0 : decide (2147483647 < (l0.length : Int)) = false := decide_eq_false c2
    have c2b1 : decide (2147483647 < l0.length) = false := decide_eq_false (by omega)
    clear c2
    have H' := Aside0.mk H
    clear H
    go_enter Tryd.func4, Tryd.ntmps4
    go_wp2
    (try simp only [Act.put, List.setIfInBounds_toArray, List.set_cons_zero, List.set_cons_succ])
    go_loopg [3, 14] k (fun kq v3 v14 w' => ∃ (x3_1 : Int) (x14_1 : Int), v3 = .int .i64 x3_1 ∧ v14 = .int .i64 x14_1 ∧ Aside0 (laws_FnFieldRoots.l0 kq l0 x3_1 l0 (l0.length : Int) x14_1 = some r) ∧ Aside0 (kq ≤ k) ∧ Drawn0 w w')
    case atStart => exact ⟨((-1)), (0), (by first | rfl | (simp; done) | (simp [*]; done)), (by first | rfl | (simp; done) | (simp [*]; done)), H', ⟨Nat.le_refl _⟩, by repeat (first | exact Drawn0.refl _ | apply Drawn0.step)⟩
    case round =>
      clear H'
      try clear c2
      try clear c2b0
      try clear c2b1
      try clear p2
      obtain ⟨x3_1, x14_1, rfl, rfl, HA, HK1, ⟨m1, rfl⟩⟩ := hrel
      cases gk with
      | zero => exact absurd HA.out (by simp [laws_FnFieldRoots.l0])
      | succ k1 =>
        have H := HA.out
        clear HA
        simp only [laws_FnFieldRoots.l0] at H
        by_cases c3 : x14_1 < (l0.length : Int)
        · rw [if_pos c3] at H
          have c3b0 : decide (x14_1 < (l0.length : Int)) = true := decide_eq_true c3
          clear c3
          by_cases c4 : 0 ≤ x14_1
          · rw [if_pos c4] at H
            have c4b0 : decide (0 ≤ x14_1) = true := decide_eq_true c4
            clear c4
            by_cases c5 : x14_1 < (l0.length : Int)
            · rw [if_pos c5] at H
              have c5b0 : decide (x14_1 < (l0.length : Int)) = true := decide_eq_true c5
              clear c5
              by_cases c6 : (rd l0 x14_1) = 0
              · rw [if_pos c6] at H
                have c6b0 : ((rd l0 x14_1) == 0) = true := beq_iff_eq.mpr c6
                have c6b1 : ((rd l0 x14_1) != 0) = false := bne_eq_false_iff_eq.mpr c6
                clear c6
                have H' := Aside0.mk H
                clear H
                have p125 : 0 ≤ (x14_1 : Int) := of_decide_eq_true (by first | (with_reducible assumption) | assumption)
                have q125 : x14_1 < (l0.length : Int) := of_decide_eq_true (by first | (with_reducible assumption) | assumption)
                obtain ⟨ad125, e125, hx125_0⟩ := Kd.at_int HR0.out x14_1 p125 q125
                cases e125
                replace p125 := eq_true p125
                replace q125 := eq_true q125
                go_wp2
                go_roundg k1
                case measure => have := HK1.out; omega
                case rel => exact ⟨(x3_1), (wrap64 (x14_1 + 1)), (by first | rfl | (simp; done) | (simp [*]; done)), (by first | rfl | (simp; done) | (simp [*]; done)), H', ⟨by have := HK1.out; omega⟩, by repeat (first | exact Drawn0.refl _ | apply Drawn0.step)⟩
              · rw [if_neg c6] at H
                have c6b0 : ((rd l0 x14_1) == 0) = false := beq_eq_false_iff_ne.mpr c6
                have c6b1 : ((rd l0 x14_1) != 0) = true := bne_iff_ne.mpr c6
                have H' := Aside0.mk H
                clear H
                have p125 : 0 ≤ (x14_1 : Int) := of_decide_eq_true (by first | (with_reducible assumption) | assumption)
                have q125 : x14_1 < (l0.length : Int) := of_decide_eq_true (by first | (with_reducible assumption) | assumption)
                obtain ⟨ad125, e125, hx125_0⟩ := Kd.at_int HR0.out x14_1 p125 q125
                cases e125
                replace p125 := eq_true p125
                replace q125 := eq_true q125
                go_wp2
                go_roundg k1
                case measure => have := HK1.out; omega
                case rel => exact ⟨(x14_1), (wrap64 (x14_1 + 1)), (by first | rfl | (simp; done) | (simp [*]; done)), (by first | rfl | (simp; done) | (simp [*]; done)), H', ⟨by have := HK1.out; omega⟩, by repeat (first | exact Drawn0.refl _ | apply Drawn0.step)⟩
            · rw [if_neg c5] at H
              exact absurd H (by simp)
          · rw [if_neg c4] at H
            exact absurd H (by simp)
        · rw [if_neg c3] at H
          have c3b0 : decide (x14_1 < (l0.length : Int)) = false := decide_eq_false c3
          clear c3
          have HC7 := Aside0.mk H
          clear H
          go_upto_region 10 with (fail)
          go_cut [29] (fun v29 wc => ∃ (kq : Nat) (x29_6 : Bool), v29 = .bool x29_6 ∧ Aside0 (laws_FnFieldRoots.j1 kq l0 x3_1 x29_6 = some r) ∧ Aside0 (kq ≤ k1) ∧ Drawn0 w wc)
          case first =>
            have H := HC7.out
            clear HC7
            by_cases c8 : x3_1 < 0
            · rw [if_pos c8] at H
              have c8b0 : decide (x3_1 < 0) = true := decide_eq_true c8
              clear c8
              (first | rw [c8b0] | (simp only [i64_w, i32_w]; rw [c8b0]) | skip)
              have H' := Aside0.mk H
              clear H
              go_wp2
              go_meet
              case rel => exact ⟨_, (true), (by first | rfl | (simp; done) | (simp [*]; done)), H', ⟨by have := HK1.out; first | omega | exact Nat.le_refl _⟩, by repeat (first | exact Drawn0.refl _ | apply Drawn0.step)⟩
            · rw [if_neg c8] at H
              have c8b0 : decide (x3_1 < 0) = false := decide_eq_false c8
              clear c8
              (first | rw [c8b0] | (simp only [i64_w, i32_w]; rw [c8b0]) | skip)
              have H' := Aside0.mk H
              clear H
              go_wp2
              go_meet
              case rel => exact ⟨_, (decide ((l0.length : Int) > 40)), (by first | rfl | (simp; done) | (simp [*]; done)), H', ⟨by have := HK1.out; first | omega | exact Nat.le_refl _⟩, by repeat (first | exact Drawn0.refl _ | apply Drawn0.step)⟩
          case rest =>
            clear HC7
            try clear p1
            try clear q1
            try clear hx1
            try clear c2
            try clear c2b0
            try clear c2b1
            try clear p2
            try clear c3
            try clear c3b0
            try clear c4
            try clear c4b0
            try clear c5
            try clear c5b0
            try clear c6
            try clear c6b0
            try clear c6b1
            try clear p6
            try clear c8
            try clear c8b0
            try clear hx125_0
            try clear p125
            try clear p2
            try clear q125
            obtain ⟨kq, x29_6, rfl, HA, HJ6, ⟨mc6, rfl⟩⟩ := hcut
            cases kq with
            | zero => exact absurd HA.out (by simp [laws_FnFieldRoots.j1])
            | succ kj6 =>
              have H := HA.out
              clear HA
              simp only [laws_FnFieldRoots.j1] at H
              by_cases c9 : x29_6 = true
              · subst c9
                have H1 : (some true) = some r := by rw [if_pos rfl] at H; exact H
                clear H
                have H := H1
                clear H1
                obtain rfl := Option.some.inj H
                go_wp2
                go_ret
                exact ⟨by first | rfl | (simp; done) | (simp [*]; done), by repeat (first | exact Drawn0.refl _ | apply Drawn0.step)⟩
              · replace c9 := Bool.eq_false_iff.mpr c9
                subst c9
                have H1 : (laws_FnFieldRoots.l1 kj6 l0 x3_1 0 0) = some r := by rw [if_neg (show ¬ (false = true) by decide)] at H; exact H
                clear H
                have H := H1
                clear H1
                have H' := Aside0.mk H
                clear H
                go_wp2
                (try simp only [Act.put, List.setIfInBounds_toArray, List.set_cons_zero, List.set_cons_succ])
                go_loopg [6, 7] kj6 (fun kq v6 v7 w' => ∃ (x6_3 : Int) (x7_3 : Int), v6 = .int .i64 x6_3 ∧ v7 = .int .i64 x7_3 ∧ Aside0 (laws_FnFieldRoots.l1 kq l0 x3_1 x6_3 x7_3 = some r) ∧ Aside0 (kq ≤ kj6) ∧ Drawn0 w w')
                case atStart => exact ⟨(0), (0), (by first | rfl | (simp; done) | (simp [*]; done)), (by first | rfl | (simp; done) | (simp [*]; done)), H', ⟨Nat.le_refl _⟩, by repeat (first | exact Drawn0.refl _ | apply Drawn0.step)⟩
                case round =>
                  clear H'
                  try clear p1
                  try clear q1
                  try clear hx1
                  try clear c2
                  try clear c2b0
                  try clear c2b1
                  try clear p2
                  try clear c3
                  try clear c3b0
                  try clear c4
                  try clear c4b0
                  try clear c5
                  try clear c5b0
                  try clear c6
                  try clear c6b0
                  try clear c6b1
                  try clear p6
                  try clear c8
                  try clear c8b0
                  try clear c9
                  try clear hx125_0
                  try clear p1
                  try clear p125
                  try clear p2
                  try clear p6
                  try clear q1
                  try clear q125
                  obtain ⟨x6_3, x7_3, rfl, rfl, HA, HK3, ⟨m3, rfl⟩⟩ := hrel
                  cases gk with
                  | zero => exact absurd HA.out (by simp [laws_FnFieldRoots.l1])
                  | succ k3 =>
                    have H := HA.out
                    clear HA
                    simp only [laws_FnFieldRoots.l1] at H
                    by_cases c10 : x7_3 < 256
                    · rw [if_pos c10] at H
                      have c10b0 : decide (x7_3 < 256) = true := decide_eq_true c10
                      clear c10
                      replace H := Option.bind_eq_some_iff.mp H
                      obtain ⟨t126, A110, H⟩ := H
                      replace H : ((spec_Eval.f k3 l0 ((x7_3) % 256)).bind fun t127 => (if ((t126 == 0) != (t127 == 0)) = true then (some false) else (if t126 = 0 then (laws_FnFieldRoots.l1 k3 l0 x3_1 (wrap64 (x6_3 + 1)) (wrap64 (x7_3 + 1))) else (laws_FnFieldRoots.l1 k3 l0 x3_1 x6_3 (wrap64 (x7_3 + 1)))))) = some r := H
                      have A11 := Aside0.mk A110
                      clear A110
                      replace H := Option.bind_eq_some_iff.mp H
                      obtain ⟨t127, A120, H⟩ := H
                      replace H : (if ((t126 == 0) != (t127 == 0)) = true then (some false) else (if t126 = 0 then (laws_FnFieldRoots.l1 k3 l0 x3_1 (wrap64 (x6_3 + 1)) (wrap64 (x7_3 + 1))) else (laws_FnFieldRoots.l1 k3 l0 x3_1 x6_3 (wrap64 (x7_3 + 1))))) = some r := H
                      have A12 := Aside0.mk A120
                      clear A120
                      by_cases c13 : ((t126 == 0) != (t127 == 0)) = true
                      · rw [if_pos c13] at H
                        have c13b0 : ((t126 == 0) != (t127 == 0)) = true := c13
                        (try (have c13b1 : decide ((t126 == 0) = (t127 == 0)) = false := by simpa using c13))
                        (try (have c13b2 : ((t126 == 0) == (t127 == 0)) = false := by simpa using c13))
                        (try (have c13b3 : ¬ ((t126 == 0) = (t127 == 0)) := by simpa using c13))
                        clear c13
                        obtain rfl := Option.some.inj H
                        go_wp2_with (first | ((with_reducible refine gate_callee (f := 11) rfl ?_); refine goesL_ (some 37) rfl rfl Tryd.func11 (by kernel_rfl) rfl #[.slice A0 l0.length c0, .int .u8 ((x7_3) % 256)] rfl (by (try simp only [List.map_toArray, List.map_cons, List.map_nil]); first | done | rfl | (simp only [List.length_drop, List.length_take]; rfl)) ?_; (with_reducible refine (laws_value.calls k3 _ _ l0 ((x7_3) % 256) t126 _ ?side1 ?side2 ?side3 A11.out).mono ?_); (case side1 => repeat (first | exact HR0.out | (with_reducible refine Kd.C_alloc ?_ _) | (with_reducible refine Kd.C_drewN ?_ _) | (with_reducible refine Kd.C_drew ?_))); (case side2 => exact HC0.out); (case side3 => first | exact HG.out | exact Glob.drewN HG.out _ | exact Glob.below HG.out (by repeat (first | (with_reducible first | exact HB.out | apply below_alloc | apply pw_below_drewN | apply below_drew1) | exact HB.out))); rintro e w' ⟨rfl, ⟨nd, rfl⟩⟩; refine ⟨_, rfl, ?_⟩) | ((with_reducible refine gate_callee (f := 12) rfl ?_); refine goesL_ (some 43) rfl rfl Tryd.func12 (by kernel_rfl) rfl #[.slice A0 l0.length c0, .int .u8 ((x7_3) % 256)] rfl (by (try simp only [List.map_toArray, List.map_cons, List.map_nil]); first | done | rfl | (simp only [List.length_drop, List.length_take]; rfl)) ?_; (with_reducible refine (spec_Eval.calls k3 _ _ l0 ((x7_3) % 256) t127 _ ?side1 ?side2 A12.out).mono ?_); (case side1 => repeat (first | exact HR0.out | (with_reducible refine Kd.C_alloc ?_ _) | (with_reducible refine Kd.C_drewN ?_ _) | (with_reducible refine Kd.C_drew ?_))); (case side2 => exact HC0.out); rintro e w' ⟨rfl, ⟨nd, rfl⟩⟩; refine ⟨_, rfl, ?_⟩))
                        go_ret
                        exact ⟨by first | rfl | (simp; done) | (simp [*]; done), by repeat (first | exact Drawn0.refl _ | apply Drawn0.step)⟩
                      · rw [if_neg c13] at H
                        have c13b0 : ((t126 == 0) != (t127 == 0)) = false := by simpa using c13
                        (try (have c13b1 : decide ((t126 == 0) = (t127 == 0)) = true := by simpa using c13))
                        (try (have c13b2 : ((t126 == 0) == (t127 == 0)) = true := by simpa using c13))
                        clear c13
                        by_cases c14 : t126 = 0
                        · rw [if_pos c14] at H
                          have c14b0 : (t126 == 0) = true := beq_iff_eq.mpr c14
                          have c14b1 : (t126 != 0) = false := bne_eq_false_iff_eq.mpr c14
                          have c14z : (t127 == 0) = true := by simpa [c14b0] using c13b0
                          clear c14
                          have H' := Aside0.mk H
                          clear H
                          go_wp2_with (first | ((with_reducible refine gate_callee (f := 11) rfl ?_); refine goesL_ (some 37) rfl rfl Tryd.func11 (by kernel_rfl) rfl #[.slice A0 l0.length c0, .int .u8 ((x7_3) % 256)] rfl (by (try simp only [List.map_toArray, List.map_cons, List.map_nil]); first | done | rfl | (simp only [List.length_drop, List.length_take]; rfl)) ?_; (with_reducible refine (laws_value.calls k3 _ _ l0 ((x7_3) % 256) t126 _ ?side1 ?side2 ?side3 A11.out).mono ?_); (case side1 => repeat (first | exact HR0.out | (with_reducible refine Kd.C_alloc ?_ _) | (with_reducible refine Kd.C_drewN ?_ _) | (with_reducible refine Kd.C_drew ?_))); (case side2 => exact HC0.out); (case side3 => first | exact HG.out | exact Glob.drewN HG.out _ | exact Glob.below HG.out (by repeat (first | (with_reducible first | exact HB.out | apply below_alloc | apply pw_below_drewN | apply below_drew1) | exact HB.out))); rintro e w' ⟨rfl, ⟨nd, rfl⟩⟩; refine ⟨_, rfl, ?_⟩) | ((with_reducible refine gate_callee (f := 12) rfl ?_); refine goesL_ (some 43) rfl rfl Tryd.func12 (by kernel_rfl) rfl #[.slice A0 l0.length c0, .int .u8 ((x7_3) % 256)] rfl (by (try simp only [List.map_toArray, List.map_cons, List.map_nil]); first | done | rfl | (simp only [List.length_drop, List.length_take]; rfl)) ?_; (with_reducible refine (spec_Eval.calls k3 _ _ l0 ((x7_3) % 256) t127 _ ?side1 ?side2 A12.out).mono ?_); (case side1 => repeat (first | exact HR0.out | (with_reducible refine Kd.C_alloc ?_ _) | (with_reducible refine Kd.C_drewN ?_ _) | (with_reducible refine Kd.C_drew ?_))); (case side2 => exact HC0.out); rintro e w' ⟨rfl, ⟨nd, rfl⟩⟩; refine ⟨_, rfl, ?_⟩))
                          go_roundg k3
                          case measure => have := HK1.out; have := HJ6.out; have := HK3.out; omega
                          case rel => exact ⟨(wrap64 (x6_3 + 1)), (wrap64 (x7_3 + 1)), (by first | rfl | (simp; done) | (simp [*]; done)), (by first | rfl | (simp; done) | (simp [*]; done)), H', ⟨by have := HK1.out; have := HJ6.out; have := HK3.out; omega⟩, by repeat (first | exact Drawn0.refl _ | apply Drawn0.step)⟩
                        · rw [if_neg c14] at H
                          have c14b0 : (t126 == 0) = false := beq_eq_false_iff_ne.mpr c14
                          have c14b1 : (t126 != 0) = true := bne_iff_ne.mpr c14
                          have c14z : (t127 == 0) = false := by simpa [c14b0] using c13b0
                          have H' := Aside0.mk H
                          clear H
                          go_wp2_with (first | ((with_reducible refine gate_callee (f := 11) rfl ?_); refine goesL_ (some 37) rfl rfl Tryd.func11 (by kernel_rfl) rfl #[.slice A0 l0.length c0, .int .u8 ((x7_3) % 256)] rfl (by (try simp only [List.map_toArray, List.map_cons, List.map_nil]); first | done | rfl | (simp only [List.length_drop, List.length_take]; rfl)) ?_; (with_reducible refine (laws_value.calls k3 _ _ l0 ((x7_3) % 256) t126 _ ?side1 ?side2 ?side3 A11.out).mono ?_); (case side1 => repeat (first | exact HR0.out | (with_reducible refine Kd.C_alloc ?_ _) | (with_reducible refine Kd.C_drewN ?_ _) | (with_reducible refine Kd.C_drew ?_))); (case side2 => exact HC0.out); (case side3 => first | exact HG.out | exact Glob.drewN HG.out _ | exact Glob.below HG.out (by repeat (first | (with_reducible first | exact HB.out | apply below_alloc | apply pw_below_drewN | apply below_drew1) | exact HB.out))); rintro e w' ⟨rfl, ⟨nd, rfl⟩⟩; refine ⟨_, rfl, ?_⟩) | ((with_reducible refine gate_callee (f := 12) rfl ?_); refine goesL_ (some 43) rfl rfl Tryd.func12 (by kernel_rfl) rfl #[.slice A0 l0.length c0, .int .u8 ((x7_3) % 256)] rfl (by (try simp only [List.map_toArray, List.map_cons, List.map_nil]); first | done | rfl | (simp only [List.length_drop, List.length_take]; rfl)) ?_; (with_reducible refine (spec_Eval.calls k3 _ _ l0 ((x7_3) % 256) t127 _ ?side1 ?side2 A12.out).mono ?_); (case side1 => repeat (first | exact HR0.out | (with_reducible refine Kd.C_alloc ?_ _) | (with_reducible refine Kd.C_drewN ?_ _) | (with_reducible refine Kd.C_drew ?_))); (case side2 => exact HC0.out); rintro e w' ⟨rfl, ⟨nd, rfl⟩⟩; refine ⟨_, rfl, ?_⟩))
                          go_roundg k3
                          case measure => have := HK1.out; have := HJ6.out; have := HK3.out; omega
                          case rel => exact ⟨(x6_3), (wrap64 (x7_3 + 1)), (by first | rfl | (simp; done) | (simp [*]; done)), (by first | rfl | (simp; done) | (simp [*]; done)), H', ⟨by have := HK1.out; have := HJ6.out; have := HK3.out; omega⟩, by repeat (first | exact Drawn0.refl _ | apply Drawn0.step)⟩
                    · rw [if_neg c10] at H
                      have c10b0 : decide (x7_3 < 256) = false := decide_eq_false c10
                      clear c10
                      obtain rfl := Option.some.inj H
                      go_wp2
                      go_ret
                      exact ⟨by first | rfl | (simp; done) | (simp [*]; done), by repeat (first | exact Drawn0.refl _ | apply Drawn0.step)⟩

/-- THE ONE PURE STATEMENT of laws_FnFieldRoots: yours. -/
def laws_FnFieldRoots.Pure : Prop := ∀ (l0 : List Int), l0.length ≤ maxLen → l0.length * 1 ≤ 140737488351232 → (∀ x ∈ l0, (Lit.int .u8 x).wf = true) → ∃ k, laws_FnFieldRoots.f k l0 = some true
theorem laws_FnFieldRoots.walk (P : laws_FnFieldRoots.Pure) (a0 : Option Addr) (len0 cap0 : Nat) (z0 : List Int) (w : World) (HG_ : Glob w) (w0 : (a0 = none ∧ len0 = 0 ∧ cap0 = 0 ∧ z0 = []) ∨ ∃ x, a0 = some x ∧ len0 ≤ cap0 ∧ cap0 ≤ maxLen ∧ z0.length = cap0 ∧ (∀ i, i < z0.length → w.cell? (x.add i) = some (.int .u8 (z0.getD i 0))) ∧ ∀ n ∈ z0, (Lit.int .u8 n).wf = true) (y0 : len0 * 1 ≤ 140737488351232) :
    Calls Tryd.prog 4 #[.slice a0 len0 cap0] w fun e w' => e = .returned (.bool true) ∧ Below w.heap.size w w' := by
  obtain ⟨l0, rfl, hr0, hm0, hw0, hc0⟩ := ReadsInt.ofRowC w0
  obtain ⟨k, h⟩ := P l0 hm0 y0 hw0
  refine (laws_FnFieldRoots.calls k _ _ l0 true w (Kd.C_of_reads (d := (0 : Int)) (h1 := fun _ => rfl) hr0) hc0 HG_ h).mono ?_
  rintro e w' ⟨rfl, hd⟩
  exact ⟨rfl, hd.below⟩

/-! ### reedsolomon_galExp: function 44, by hand -/
set_option maxRecDepth 100000 in
set_option maxHeartbeats 2000000 in
theorem exp_zero (a : Nat) (w : World) : Calls Tryd.prog 44 #[.int .u8 (a : Nat), .int .i64 0] w fun e w' => e = .returned (.int .u8 1) ∧ Drawn0 w w' := by
  go_enter Tryd.func44, Tryd.ntmps44
  go_wp2
  go_ret
  exact ⟨rfl, Drawn0.refl _⟩
set_option maxRecDepth 100000 in
set_option maxHeartbeats 2000000 in
theorem exp_of0 (n : Nat) (hn : ((n : Int) == 0) = false) (w : World) : Calls Tryd.prog 44 #[.int .u8 0, .int .i64 (n : Nat)] w fun e w' => e = .returned (.int .u8 0) ∧ Drawn0 w w' := by
  go_enter Tryd.func44, Tryd.ntmps44
  go_wp2
  go_ret
  exact ⟨rfl, Drawn0.refl _⟩
set_option maxRecDepth 100000 in
set_option maxHeartbeats 2000000 in
theorem exp_some (a n la e0 t : Nat) (ha : ((a : Int) == 0) = false) (hn : ((n : Int) == 0) = false) (ha2 : a < 256) (hla : la < 255) (hm : la * n = t) (ht : t ≤ 25500000)
    (w : World) (h1 : w.cell? ⟨0, a, none⟩ = some (.int .u8 (la : Nat))) (h3 : w.cell? ⟨1, t % 255, none⟩ = some (.int .u8 (e0 : Nat))) :
    Calls Tryd.prog 44 #[.int .u8 (a : Nat), .int .i64 (n : Nat)] w fun e w' => e = .returned (.int .u8 (e0 : Nat)) ∧ Drawn0 w w' := by
  have hmi : wrap64 ((la : Int) * (n : Int)) = (t : Int) := by
    rw [show (la : Int) * (n : Int) = ((la * n : Nat) : Int) by push_cast; rfl, hm]; unfold wrap64; omega
  have HM := Lib.hid hmi
  clear hmi hm
  go_enter Tryd.func44, Tryd.ntmps44
  go_wp2
  rw [HM.out]
  go_loop [6] (fun v => ∃ s : Nat, v = .int .i64 (s : Nat) ∧ s ≤ t ∧ s % 255 = t % 255) (fun v => (intOf v).toNat)
  case atStart => exact ⟨t, rfl, Nat.le_refl _, rfl⟩
  case round =>
    obtain ⟨s, rfl, hs, hmod⟩ := hrel
    have HMOD := Lib.hid hmod
    clear hmod
    by_cases hlt : 255 ≤ s
    · go_wp2
      go_round
      case rel => exact ⟨s - 255, by rw [show (s : Int) - 255 = ((s - 255 : Nat) : Int) by omega], by omega, by have := HMOD.out; omega⟩
      case measure => simp [intOf]; omega
    · have hst : s = t % 255 := by have := HMOD.out; omega
      have h4 : w.cell? ⟨1, s, none⟩ = some (.int .u8 (e0 : Nat)) := by rw [hst]; exact h3
      clear hst h3
      go_wp2
      go_ret
      exact ⟨rfl, Drawn0.refl _⟩
def reedsolomon_galExp.f (a0 : Int) (a1 : Int) : Option (Int) := if 0 ≤ a0 ∧ a0 ≤ 255 ∧ 0 ≤ a1 ∧ a1 ≤ 100000 then some ((gexp a0.toNat a1.toNat : Nat) : Int) else none
theorem reedsolomon_galExp.calls (a0 : Int) (a1 : Int) (r : Int) (w : World) (HG_ : Glob w) (h : reedsolomon_galExp.f a0 a1 = some r) :
    Calls Tryd.prog 44 #[.int .u8 a0, .int .i64 a1] w fun e w' => e = .returned (.int .u8 r) ∧ Drawn0 w w' := by
  unfold reedsolomon_galExp.f at h
  by_cases hc : 0 ≤ a0 ∧ a0 ≤ 255 ∧ 0 ≤ a1 ∧ a1 ≤ 100000
  · rw [if_pos hc] at h
    obtain ⟨c0, c1, c2, c3⟩ := hc
    obtain ⟨a, rfl⟩ := Int.eq_ofNat_of_zero_le c0
    obtain ⟨n, rfl⟩ := Int.eq_ofNat_of_zero_le c2
    rw [Int.toNat_natCast, Int.toNat_natCast] at h
    obtain rfl := Option.some.inj h
    unfold gexp
    by_cases hn : n = 0
    · subst hn; rw [if_pos rfl]; exact exp_zero a w
    by_cases ha : a = 0
    · subst ha; rw [if_neg hn, if_pos rfl]; exact exp_of0 n (by simpa using hn) w
    rw [if_neg hn, if_neg ha]
    have la := log_lt a
    have hl : logL.getD a 0 * n ≤ 254 * 100000 := Nat.mul_le_mul (by omega) (by omega)
    have hm : (if logL.getD a 0 * n < 255 then logL.getD a 0 * n else (logL.getD a 0 * n) % 255) = (logL.getD a 0 * n) % 255 := by
      split
      · rw [Nat.mod_eq_of_lt (by assumption)]
      · rfl
    rw [hm]
    exact exp_some a n _ _ _ (by simpa using ha) (by simpa using hn) (by omega) la rfl (by omega) w (HG_.1 a (by omega)) (HG_.2 _ (by have := Nat.mod_lt (logL.getD a 0 * n) (show 0 < 255 by omega); omega))
  · rw [if_neg hc] at h; exact absurd h (by simp)

/-! ### reedsolomon_DoorExp: function 29 -/
def reedsolomon_DoorExp.f (a0 : Int) (a1 : Int) : Option (Int) := (reedsolomon_galExp.f a0 a1).bind fun t128 => (some t128)
set_option maxHeartbeats 8000000 in
set_option maxRecDepth 100000 in
theorem reedsolomon_DoorExp.calls (a0 : Int) (a1 : Int) (r : Int) (w : World) (HG_ : Glob w) (h : reedsolomon_DoorExp.f a0 a1 = some r) :
    Calls Tryd.prog 29 #[.int .u8 a0, .int .i64 a1] w fun e w' => e = .returned (.int .u8 r) ∧ Drawn0 w w' := by
  have HG := Aside0.mk HG_
  clear HG_
  have H : ((reedsolomon_galExp.f a0 a1).bind fun t128 => (some t128)) = some r := h
  clear h
  replace H := Option.bind_eq_some_iff.mp H
  obtain ⟨t128, A30, H⟩ := H
  replace H : (some t128) = some r := H
  have A3 := Aside0.mk A30
  clear A30
  obtain rfl := Option.some.inj H
  go_enter Tryd.func29, Tryd.ntmps29
  go_wp2_with (first | ((with_reducible refine gate_callee (f := 44) rfl ?_); refine goesL_ (some 7) rfl rfl Tryd.func44 (by kernel_rfl) rfl #[.int .u8 a0, .int .i64 a1] rfl (by (try simp only [List.map_toArray, List.map_cons, List.map_nil]); first | done | rfl | (simp only [List.length_drop, List.length_take]; rfl)) ?_; (with_reducible refine (reedsolomon_galExp.calls a0 a1 t128 _ ?side1 A3.out).mono ?_); (case side1 => first | exact HG.out | exact Glob.drewN HG.out _ | exact Glob.below HG.out (by repeat (first | (with_reducible first | exact HB.out | apply below_alloc | apply pw_below_drewN | apply below_drew1) | exact HB.out))); rintro e w' ⟨rfl, ⟨nd, rfl⟩⟩; refine ⟨_, rfl, ?_⟩))
  go_ret
  exact ⟨by first | rfl | (simp; done) | (simp [*]; done), by repeat (first | exact Drawn0.refl _ | apply Drawn0.step)⟩

/-! ### impl_Exp: function 13 -/
def impl_Exp.f (a0 : Int) (a1 : Int) : Option (Int × Bool) := if a1 < 0 then (some (0, false)) else (if a1 > 100000 then (some (0, false)) else ((reedsolomon_DoorExp.f a0 a1).bind fun t129 => (some (t129, true))))
set_option maxHeartbeats 8000000 in
set_option maxRecDepth 100000 in
theorem impl_Exp.calls (a0 : Int) (a1 : Int) (r1 : Int) (r2 : Bool) (w : World) (HG_ : Glob w) (h : impl_Exp.f a0 a1 = some (r1, r2)) :
    Calls Tryd.prog 13 #[.int .u8 a0, .int .i64 a1] w fun e w' => e = .returned (.tuple #[.int .u8 r1, .bool r2]) ∧ Drawn0 w w' := by
  have HG := Aside0.mk HG_
  clear HG_
  have H : (if a1 < 0 then (some (0, false)) else (if a1 > 100000 then (some (0, false)) else ((reedsolomon_DoorExp.f a0 a1).bind fun t129 => (some (t129, true))))) = some (r1, r2) := h
  clear h
  by_cases c3 : a1 < 0
  · rw [if_pos c3] at H
    have c3b0 : decide (a1 < 0) = true := decide_eq_true c3
    clear c3
    simp only [Option.some.injEq, Prod.mk.injEq] at H
    obtain ⟨rfl, rfl⟩ := H
    go_enter Tryd.func13, Tryd.ntmps13
    go_wp2
    go_ret2
    exact ⟨by first | rfl | (simp; done) | (simp [*]; done), by repeat (first | exact Drawn0.refl _ | apply Drawn0.step)⟩
  · rw [if_neg c3] at H
    have c3b0 : decide (a1 < 0) = false := decide_eq_false c3
    clear c3
    by_cases c4 : a1 > 100000
    · rw [if_pos c4] at H
      have c4b0 : decide (100000 < a1) = true := decide_eq_true c4
      clear c4
      simp only [Option.some.injEq, Prod.mk.injEq] at H
      obtain ⟨rfl, rfl⟩ := H
      go_enter Tryd.func13, Tryd.ntmps13
      go_wp2
      go_ret2
      exact ⟨by first | rfl | (simp; done) | (simp [*]; done), by repeat (first | exact Drawn0.refl _ | apply Drawn0.step)⟩
    · rw [if_neg c4] at H
      have c4b0 : decide (100000 < a1) = false := decide_eq_false c4
      clear c4
      replace H := Option.bind_eq_some_iff.mp H
      obtain ⟨t129, A50, H⟩ := H
      replace H : (some (t129, true)) = some (r1, r2) := H
      have A5 := Aside0.mk A50
      clear A50
      simp only [Option.some.injEq, Prod.mk.injEq] at H
      obtain ⟨rfl, rfl⟩ := H
      go_enter Tryd.func13, Tryd.ntmps13
      go_wp2_with (first | ((with_reducible refine gate_callee (f := 29) rfl ?_); refine goesL_ (some 14) rfl rfl Tryd.func29 (by kernel_rfl) rfl #[.int .u8 a0, .int .i64 a1] rfl (by (try simp only [List.map_toArray, List.map_cons, List.map_nil]); first | done | rfl | (simp only [List.length_drop, List.length_take]; rfl)) ?_; (with_reducible refine (reedsolomon_DoorExp.calls a0 a1 t129 _ ?side1 A5.out).mono ?_); (case side1 => first | exact HG.out | exact Glob.drewN HG.out _ | exact Glob.below HG.out (by repeat (first | (with_reducible first | exact HB.out | apply below_alloc | apply pw_below_drewN | apply below_drew1) | exact HB.out))); rintro e w' ⟨rfl, ⟨nd, rfl⟩⟩; refine ⟨_, rfl, ?_⟩))
      go_ret2
      exact ⟨by first | rfl | (simp; done) | (simp [*]; done), by repeat (first | exact Drawn0.refl _ | apply Drawn0.step)⟩

/-! ### laws_FnFieldExponents: function 5 -/
def laws_FnFieldExponents.j0 : Nat → Int → Int → Int → Bool → Option (Bool)
  | 0, _, _, _, _ => none
  | k + 1, x0, x1, x2, x30 => if x30 = true then (some true) else ((impl_Exp.f x0 x1).bind fun bt130 => ((impl_Exp.f x0 x2).bind fun bt132 => ((impl_Exp.f x0 (wrap64 (x1 + x2))).bind fun bt134 => ((impl_Exp.f x0 (wrap64 (x1 * x2))).bind fun bt136 => ((impl_Exp.f bt130.1 x2).bind fun bt138 => (if bt130.2 = true then (if bt132.2 = true then (if bt134.2 = true then (if bt136.2 = true then (if bt138.2 = true then ((impl_Mul.f bt130.1 bt132.1).bind fun t140 => (if bt134.1 = t140 then (some (bt136.1 == bt138.1)) else (some false))) else (some false)) else (some false)) else (some false)) else (some false)) else (some false)))))))
def laws_FnFieldExponents.f (k : Nat) (a0 : Int) (a1 : Int) (a2 : Int) : Option (Bool) := if a1 < 0 then (laws_FnFieldExponents.j0 k a0 a1 a2 true) else (if a1 > 300 then (laws_FnFieldExponents.j0 k a0 a1 a2 true) else (if a2 < 0 then (laws_FnFieldExponents.j0 k a0 a1 a2 true) else (laws_FnFieldExponents.j0 k a0 a1 a2 (decide (a2 > 300)))))
theorem laws_FnFieldExponents.mono_l : ∀ k, (∀ y0 y1 y2 y3, LeO (laws_FnFieldExponents.j0 k y0 y1 y2 y3) (laws_FnFieldExponents.j0 (k + 1) y0 y1 y2 y3))
  | 0 => fun _ _ _ _ r h => by simp [laws_FnFieldExponents.j0] at h
  | k + 1 => by
    have ih0 := laws_FnFieldExponents.mono_l k
    · intro y0 y1 y2 y3
      unfold laws_FnFieldExponents.j0
      repeat' first
      | (with_reducible exact ih0 _ _ _ _)
      | (with_reducible exact LeO.refl _)
      | (with_reducible exact LeO.none _)
      | (with_reducible refine LeO.ite ?_ ?_)
      | (with_reducible refine LeO.bind ?_ (fun _ => ?_))
      | exact ih0 _ _ _ _
      | exact LeO.none _
      | refine LeO.ite ?_ ?_
      | refine LeO.bind ?_ (fun _ => ?_)
theorem laws_FnFieldExponents.mono : ∀ a0 a1 a2 k, LeO (laws_FnFieldExponents.f k a0 a1 a2) (laws_FnFieldExponents.f (k + 1) a0 a1 a2) := by
  intro a0 a1 a2 k
  have ih0 := laws_FnFieldExponents.mono_l k
  unfold laws_FnFieldExponents.f
  repeat' first
      | (with_reducible exact ih0 _ _ _ _)
      | (with_reducible exact LeO.refl _)
      | (with_reducible exact LeO.none _)
      | (with_reducible refine LeO.ite ?_ ?_)
      | (with_reducible refine LeO.bind ?_ (fun _ => ?_))
      | exact ih0 _ _ _ _
      | exact LeO.none _
      | refine LeO.ite ?_ ?_
      | refine LeO.bind ?_ (fun _ => ?_)
set_option maxHeartbeats 8000000 in
set_option maxRecDepth 100000 in
theorem laws_FnFieldExponents.calls (k : Nat) (a0 : Int) (a1 : Int) (a2 : Int) (r : Bool) (w : World) (HG_ : Glob w) (h : laws_FnFieldExponents.f k a0 a1 a2 = some r) :
    Calls Tryd.prog 5 #[.int .u8 a0, .int .i64 a1, .int .i64 a2] w fun e w' => e = .returned (.bool r) ∧ Drawn0 w w' := by
  have HG := Aside0.mk HG_
  clear HG_
  have H : (if a1 < 0 then (laws_FnFieldExponents.j0 k a0 a1 a2 true) else (if a1 > 300 then (laws_FnFieldExponents.j0 k a0 a1 a2 true) else (if a2 < 0 then (laws_FnFieldExponents.j0 k a0 a1 a2 true) else (laws_FnFieldExponents.j0 k a0 a1 a2 (decide (a2 > 300)))))) = some r := h
  clear h
  have HC4 := Aside0.mk H
  clear H
  go_enter Tryd.func5, Tryd.ntmps5
  go_upto_region 1 with (fail)
  go_cut [30] (fun v30 wc => ∃ (kq : Nat) (x30_3 : Bool), v30 = .bool x30_3 ∧ Aside0 (laws_FnFieldExponents.j0 kq a0 a1 a2 x30_3 = some r) ∧ Aside0 (kq ≤ k) ∧ Drawn0 w wc)
  case first =>
    have H := HC4.out
    clear HC4
    by_cases c5 : a1 < 0
    · rw [if_pos c5] at H
      have c5b0 : decide (a1 < 0) = true := decide_eq_true c5
      clear c5
      (first | rw [c5b0] | (simp only [i64_w, i32_w]; rw [c5b0]) | skip)
      have H' := Aside0.mk H
      clear H
      go_wp2
      go_meet
      case rel => exact ⟨_, (true), (by first | rfl | (simp; done) | (simp [*]; done)), H', ⟨by first | omega | exact Nat.le_refl _⟩, by repeat (first | exact Drawn0.refl _ | apply Drawn0.step)⟩
    · rw [if_neg c5] at H
      have c5b0 : decide (a1 < 0) = false := decide_eq_false c5
      clear c5
      (first | rw [c5b0] | (simp only [i64_w, i32_w]; rw [c5b0]) | skip)
      by_cases c6 : a1 > 300
      · rw [if_pos c6] at H
        have c6b0 : decide (300 < a1) = true := decide_eq_true c6
        clear c6
        have H' := Aside0.mk H
        clear H
        go_wp2
        go_meet
        case rel => exact ⟨_, (true), (by first | rfl | (simp; done) | (simp [*]; done)), H', ⟨by first | omega | exact Nat.le_refl _⟩, by repeat (first | exact Drawn0.refl _ | apply Drawn0.step)⟩
      · rw [if_neg c6] at H
        have c6b0 : decide (300 < a1) = false := decide_eq_false c6
        clear c6
        by_cases c7 : a2 < 0
        · rw [if_pos c7] at H
          have c7b0 : decide (a2 < 0) = true := decide_eq_true c7
          clear c7
          have H' := Aside0.mk H
          clear H
          go_wp2
          go_meet
          case rel => exact ⟨_, (true), (by first | rfl | (simp; done) | (simp [*]; done)), H', ⟨by first | omega | exact Nat.le_refl _⟩, by repeat (first | exact Drawn0.refl _ | apply Drawn0.step)⟩
        · rw [if_neg c7] at H
          have c7b0 : decide (a2 < 0) = false := decide_eq_false c7
          clear c7
          have H' := Aside0.mk H
          clear H
          go_wp2
          go_meet
          case rel => exact ⟨_, (decide (a2 > 300)), (by first | rfl | (simp; done) | (simp [*]; done)), H', ⟨by first | omega | exact Nat.le_refl _⟩, by repeat (first | exact Drawn0.refl _ | apply Drawn0.step)⟩
  case rest =>
    clear HC4
    try clear p2
    try clear c5
    try clear c5b0
    try clear c6
    try clear c6b0
    try clear c7
    try clear c7b0
    obtain ⟨kq, x30_3, rfl, HA, HJ3, ⟨mc3, rfl⟩⟩ := hcut
    cases kq with
    | zero => exact absurd HA.out (by simp [laws_FnFieldExponents.j0])
    | succ kj3 =>
      have H := HA.out
      clear HA
      simp only [laws_FnFieldExponents.j0] at H
      by_cases c8 : x30_3 = true
      · subst c8
        have H1 : (some true) = some r := by rw [if_pos rfl] at H; exact H
        clear H
        have H := H1
        clear H1
        obtain rfl := Option.some.inj H
        go_wp2
        go_ret
        exact ⟨by first | rfl | (simp; done) | (simp [*]; done), by repeat (first | exact Drawn0.refl _ | apply Drawn0.step)⟩
      · replace c8 := Bool.eq_false_iff.mpr c8
        subst c8
        have H1 : ((impl_Exp.f a0 a1).bind fun bt130 => ((impl_Exp.f a0 a2).bind fun bt132 => ((impl_Exp.f a0 (wrap64 (a1 + a2))).bind fun bt134 => ((impl_Exp.f a0 (wrap64 (a1 * a2))).bind fun bt136 => ((impl_Exp.f bt130.1 a2).bind fun bt138 => (if bt130.2 = true then (if bt132.2 = true then (if bt134.2 = true then (if bt136.2 = true then (if bt138.2 = true then ((impl_Mul.f bt130.1 bt132.1).bind fun t140 => (if bt134.1 = t140 then (some (bt136.1 == bt138.1)) else (some false))) else (some false)) else (some false)) else (some false)) else (some false)) else (some false))))))) = some r := by rw [if_neg (show ¬ (false = true) by decide)] at H; exact H
        clear H
        have H := H1
        clear H1
        replace H := Option.bind_eq_some_iff.mp H
        obtain ⟨⟨t130, t131⟩, A90, H⟩ := H
        replace H : ((impl_Exp.f a0 a2).bind fun bt132 => ((impl_Exp.f a0 (wrap64 (a1 + a2))).bind fun bt134 => ((impl_Exp.f a0 (wrap64 (a1 * a2))).bind fun bt136 => ((impl_Exp.f t130 a2).bind fun bt138 => (if t131 = true then (if bt132.2 = true then (if bt134.2 = true then (if bt136.2 = true then (if bt138.2 = true then ((impl_Mul.f t130 bt132.1).bind fun t140 => (if bt134.1 = t140 then (some (bt136.1 == bt138.1)) else (some false))) else (some false)) else (some false)) else (some false)) else (some false)) else (some false)))))) = some r := H
        have A9 := Aside0.mk A90
        clear A90
        replace H := Option.bind_eq_some_iff.mp H
        obtain ⟨⟨t132, t133⟩, A100, H⟩ := H
        replace H : ((impl_Exp.f a0 (wrap64 (a1 + a2))).bind fun bt134 => ((impl_Exp.f a0 (wrap64 (a1 * a2))).bind fun bt136 => ((impl_Exp.f t130 a2).bind fun bt138 => (if t131 = true then (if t133 = true then (if bt134.2 = true then (if bt136.2 = true then (if bt138.2 = true then ((impl_Mul.f t130 t132).bind fun t140 => (if bt134.1 = t140 then (some (bt136.1 == bt138.1)) else (some false))) else (some false)) else (some false)) else (some false)) else (some false)) else (some false))))) = some r := H
        have A10 := Aside0.mk A100
        clear A100
        replace H := Option.bind_eq_some_iff.mp H
        obtain ⟨⟨t134, t135⟩, A110, H⟩ := H
        replace H : ((impl_Exp.f a0 (wrap64 (a1 * a2))).bind fun bt136 => ((impl_Exp.f t130 a2).bind fun bt138 => (if t131 = true then (if t133 = true then (if t135 = true then (if bt136.2 = true then (if bt138.2 = true then ((impl_Mul.f t130 t132).bind fun t140 => (if t134 = t140 then (some (bt136.1 == bt138.1)) else (some false))) else (some false)) else (some false)) else (some false)) else (some false)) else (some false)))) = some r := H
        have A11 := Aside0.mk A110
        clear A110
        replace H := Option.bind_eq_some_iff.mp H
        obtain ⟨⟨t136, t137⟩, A120, H⟩ := H
        replace H : ((impl_Exp.f t130 a2).bind fun bt138 => (if t131 = true then (if t133 = true then (if t135 = true then (if t137 = true then (if bt138.2 = true then ((impl_Mul.f t130 t132).bind fun t140 => (if t134 = t140 then (some (t136 == bt138.1)) else (some false))) else (some false)) else (some false)) else (some false)) else (some false)) else (some false))) = some r := H
        have A12 := Aside0.mk A120
        clear A120
        replace H := Option.bind_eq_some_iff.mp H
        obtain ⟨⟨t138, t139⟩, A130, H⟩ := H
        replace H : (if t131 = true then (if t133 = true then (if t135 = true then (if t137 = true then (if t139 = true then ((impl_Mul.f t130 t132).bind fun t140 => (if t134 = t140 then (some (t136 == t138)) else (some false))) else (some false)) else (some false)) else (some false)) else (some false)) else (some false)) = some r := H
        have A13 := Aside0.mk A130
        clear A130
        by_cases c14 : t131 = true
        · subst c14
          have H1 : (if t133 = true then (if t135 = true then (if t137 = true then (if t139 = true then ((impl_Mul.f t130 t132).bind fun t140 => (if t134 = t140 then (some (t136 == t138)) else (some false))) else (some false)) else (some false)) else (some false)) else (some false)) = some r := by rw [if_pos rfl] at H; exact H
          clear H
          have H := H1
          clear H1
          by_cases c15 : t133 = true
          · subst c15
            have H1 : (if t135 = true then (if t137 = true then (if t139 = true then ((impl_Mul.f t130 t132).bind fun t140 => (if t134 = t140 then (some (t136 == t138)) else (some false))) else (some false)) else (some false)) else (some false)) = some r := by rw [if_pos rfl] at H; exact H
            clear H
            have H := H1
            clear H1
            by_cases c16 : t135 = true
            · subst c16
              have H1 : (if t137 = true then (if t139 = true then ((impl_Mul.f t130 t132).bind fun t140 => (if t134 = t140 then (some (t136 == t138)) else (some false))) else (some false)) else (some false)) = some r := by rw [if_pos rfl] at H; exact H
              clear H
              have H := H1
              clear H1
              by_cases c17 : t137 = true
              · subst c17
                have H1 : (if t139 = true then ((impl_Mul.f t130 t132).bind fun t140 => (if t134 = t140 then (some (t136 == t138)) else (some false))) else (some false)) = some r := by rw [if_pos rfl] at H; exact H
                clear H
                have H := H1
                clear H1
                by_cases c18 : t139 = true
                · subst c18
                  have H1 : ((impl_Mul.f t130 t132).bind fun t140 => (if t134 = t140 then (some (t136 == t138)) else (some false))) = some r := by rw [if_pos rfl] at H; exact H
                  clear H
                  have H := H1
                  clear H1
                  replace H := Option.bind_eq_some_iff.mp H
                  obtain ⟨t140, A190, H⟩ := H
                  replace H : (if t134 = t140 then (some (t136 == t138)) else (some false)) = some r := H
                  have A19 := Aside0.mk A190
                  clear A190
                  by_cases c20 : t134 = t140
                  · rw [if_pos c20] at H
                    have c20b0 : (t134 == t140) = true := beq_iff_eq.mpr c20
                    have c20b1 : (t134 != t140) = false := bne_eq_false_iff_eq.mpr c20
                    clear c20
                    obtain rfl := Option.some.inj H
                    go_wp2_with (first | ((with_reducible refine gate_callee (f := 13) rfl ?_); refine goesL_ (some 34) rfl rfl Tryd.func13 (by kernel_rfl) rfl #[.int .u8 a0, .int .i64 a1] rfl (by (try simp only [List.map_toArray, List.map_cons, List.map_nil]); first | done | rfl | (simp only [List.length_drop, List.length_take]; rfl)) ?_; (with_reducible refine (impl_Exp.calls a0 a1 t130 true _ ?side1 A9.out).mono ?_); (case side1 => first | exact HG.out | exact Glob.drewN HG.out _ | exact Glob.below HG.out (by repeat (first | (with_reducible first | exact HB.out | apply below_alloc | apply pw_below_drewN | apply below_drew1) | exact HB.out))); rintro e w' ⟨rfl, ⟨nd, rfl⟩⟩; refine ⟨_, rfl, ?_⟩) | ((with_reducible refine gate_callee (f := 13) rfl ?_); refine goesL_ (some 40) rfl rfl Tryd.func13 (by kernel_rfl) rfl #[.int .u8 a0, .int .i64 a2] rfl (by (try simp only [List.map_toArray, List.map_cons, List.map_nil]); first | done | rfl | (simp only [List.length_drop, List.length_take]; rfl)) ?_; (with_reducible refine (impl_Exp.calls a0 a2 t132 true _ ?side1 A10.out).mono ?_); (case side1 => first | exact HG.out | exact Glob.drewN HG.out _ | exact Glob.below HG.out (by repeat (first | (with_reducible first | exact HB.out | apply below_alloc | apply pw_below_drewN | apply below_drew1) | exact HB.out))); rintro e w' ⟨rfl, ⟨nd, rfl⟩⟩; refine ⟨_, rfl, ?_⟩) | ((with_reducible refine gate_callee (f := 13) rfl ?_); refine goesL_ (some 48) rfl rfl Tryd.func13 (by kernel_rfl) rfl #[.int .u8 a0, .int .i64 (wrap64 (a1 + a2))] rfl (by (try simp only [List.map_toArray, List.map_cons, List.map_nil]); first | done | rfl | (simp only [List.length_drop, List.length_take]; rfl)) ?_; (with_reducible refine (impl_Exp.calls a0 (wrap64 (a1 + a2)) t134 true _ ?side1 A11.out).mono ?_); (case side1 => first | exact HG.out | exact Glob.drewN HG.out _ | exact Glob.below HG.out (by repeat (first | (with_reducible first | exact HB.out | apply below_alloc | apply pw_below_drewN | apply below_drew1) | exact HB.out))); rintro e w' ⟨rfl, ⟨nd, rfl⟩⟩; refine ⟨_, rfl, ?_⟩) | ((with_reducible refine gate_callee (f := 13) rfl ?_); refine goesL_ (some 56) rfl rfl Tryd.func13 (by kernel_rfl) rfl #[.int .u8 a0, .int .i64 (wrap64 (a1 * a2))] rfl (by (try simp only [List.map_toArray, List.map_cons, List.map_nil]); first | done | rfl | (simp only [List.length_drop, List.length_take]; rfl)) ?_; (with_reducible refine (impl_Exp.calls a0 (wrap64 (a1 * a2)) t136 true _ ?side1 A12.out).mono ?_); (case side1 => first | exact HG.out | exact Glob.drewN HG.out _ | exact Glob.below HG.out (by repeat (first | (with_reducible first | exact HB.out | apply below_alloc | apply pw_below_drewN | apply below_drew1) | exact HB.out))); rintro e w' ⟨rfl, ⟨nd, rfl⟩⟩; refine ⟨_, rfl, ?_⟩) | ((with_reducible refine gate_callee (f := 13) rfl ?_); refine goesL_ (some 62) rfl rfl Tryd.func13 (by kernel_rfl) rfl #[.int .u8 t130, .int .i64 a2] rfl (by (try simp only [List.map_toArray, List.map_cons, List.map_nil]); first | done | rfl | (simp only [List.length_drop, List.length_take]; rfl)) ?_; (with_reducible refine (impl_Exp.calls t130 a2 t138 true _ ?side1 A13.out).mono ?_); (case side1 => first | exact HG.out | exact Glob.drewN HG.out _ | exact Glob.below HG.out (by repeat (first | (with_reducible first | exact HB.out | apply below_alloc | apply pw_below_drewN | apply below_drew1) | exact HB.out))); rintro e w' ⟨rfl, ⟨nd, rfl⟩⟩; refine ⟨_, rfl, ?_⟩) | (go_at_call 9; (with_reducible refine (impl_Mul.calls t130 t132 t140 _ ?side1 A19.out).mono ?_); (case side1 => first | exact HG.out | exact Glob.drewN HG.out _ | exact Glob.below HG.out (by repeat (first | (with_reducible first | exact HB.out | apply below_alloc | apply pw_below_drewN | apply below_drew1) | exact HB.out))); rintro e w' ⟨rfl, ⟨nd, rfl⟩⟩))
                    go_ret
                    exact ⟨by first | rfl | (simp; done) | (simp [*]; done), by repeat (first | exact Drawn0.refl _ | apply Drawn0.step)⟩
                  · rw [if_neg c20] at H
                    have c20b0 : (t134 == t140) = false := beq_eq_false_iff_ne.mpr c20
                    have c20b1 : (t134 != t140) = true := bne_iff_ne.mpr c20
                    obtain rfl := Option.some.inj H
                    go_wp2_with (first | ((with_reducible refine gate_callee (f := 13) rfl ?_); refine goesL_ (some 34) rfl rfl Tryd.func13 (by kernel_rfl) rfl #[.int .u8 a0, .int .i64 a1] rfl (by (try simp only [List.map_toArray, List.map_cons, List.map_nil]); first | done | rfl | (simp only [List.length_drop, List.length_take]; rfl)) ?_; (with_reducible refine (impl_Exp.calls a0 a1 t130 true _ ?side1 A9.out).mono ?_); (case side1 => first | exact HG.out | exact Glob.drewN HG.out _ | exact Glob.below HG.out (by repeat (first | (with_reducible first | exact HB.out | apply below_alloc | apply pw_below_drewN | apply below_drew1) | exact HB.out))); rintro e w' ⟨rfl, ⟨nd, rfl⟩⟩; refine ⟨_, rfl, ?_⟩) | ((with_reducible refine gate_callee (f := 13) rfl ?_); refine goesL_ (some 40) rfl rfl Tryd.func13 (by kernel_rfl) rfl #[.int .u8 a0, .int .i64 a2] rfl (by (try simp only [List.map_toArray, List.map_cons, List.map_nil]); first | done | rfl | (simp only [List.length_drop, List.length_take]; rfl)) ?_; (with_reducible refine (impl_Exp.calls a0 a2 t132 true _ ?side1 A10.out).mono ?_); (case side1 => first | exact HG.out | exact Glob.drewN HG.out _ | exact Glob.below HG.out (by repeat (first | (with_reducible first | exact HB.out | apply below_alloc | apply pw_below_drewN | apply below_drew1) | exact HB.out))); rintro e w' ⟨rfl, ⟨nd, rfl⟩⟩; refine ⟨_, rfl, ?_⟩) | ((with_reducible refine gate_callee (f := 13) rfl ?_); refine goesL_ (some 48) rfl rfl Tryd.func13 (by kernel_rfl) rfl #[.int .u8 a0, .int .i64 (wrap64 (a1 + a2))] rfl (by (try simp only [List.map_toArray, List.map_cons, List.map_nil]); first | done | rfl | (simp only [List.length_drop, List.length_take]; rfl)) ?_; (with_reducible refine (impl_Exp.calls a0 (wrap64 (a1 + a2)) t134 true _ ?side1 A11.out).mono ?_); (case side1 => first | exact HG.out | exact Glob.drewN HG.out _ | exact Glob.below HG.out (by repeat (first | (with_reducible first | exact HB.out | apply below_alloc | apply pw_below_drewN | apply below_drew1) | exact HB.out))); rintro e w' ⟨rfl, ⟨nd, rfl⟩⟩; refine ⟨_, rfl, ?_⟩) | ((with_reducible refine gate_callee (f := 13) rfl ?_); refine goesL_ (some 56) rfl rfl Tryd.func13 (by kernel_rfl) rfl #[.int .u8 a0, .int .i64 (wrap64 (a1 * a2))] rfl (by (try simp only [List.map_toArray, List.map_cons, List.map_nil]); first | done | rfl | (simp only [List.length_drop, List.length_take]; rfl)) ?_; (with_reducible refine (impl_Exp.calls a0 (wrap64 (a1 * a2)) t136 true _ ?side1 A12.out).mono ?_); (case side1 => first | exact HG.out | exact Glob.drewN HG.out _ | exact Glob.below HG.out (by repeat (first | (with_reducible first | exact HB.out | apply below_alloc | apply pw_below_drewN | apply below_drew1) | exact HB.out))); rintro e w' ⟨rfl, ⟨nd, rfl⟩⟩; refine ⟨_, rfl, ?_⟩) | ((with_reducible refine gate_callee (f := 13) rfl ?_); refine goesL_ (some 62) rfl rfl Tryd.func13 (by kernel_rfl) rfl #[.int .u8 t130, .int .i64 a2] rfl (by (try simp only [List.map_toArray, List.map_cons, List.map_nil]); first | done | rfl | (simp only [List.length_drop, List.length_take]; rfl)) ?_; (with_reducible refine (impl_Exp.calls t130 a2 t138 true _ ?side1 A13.out).mono ?_); (case side1 => first | exact HG.out | exact Glob.drewN HG.out _ | exact Glob.below HG.out (by repeat (first | (with_reducible first | exact HB.out | apply below_alloc | apply pw_below_drewN | apply below_drew1) | exact HB.out))); rintro e w' ⟨rfl, ⟨nd, rfl⟩⟩; refine ⟨_, rfl, ?_⟩) | (go_at_call 9; (with_reducible refine (impl_Mul.calls t130 t132 t140 _ ?side1 A19.out).mono ?_); (case side1 => first | exact HG.out | exact Glob.drewN HG.out _ | exact Glob.below HG.out (by repeat (first | (with_reducible first | exact HB.out | apply below_alloc | apply pw_below_drewN | apply below_drew1) | exact HB.out))); rintro e w' ⟨rfl, ⟨nd, rfl⟩⟩))
                    go_ret
                    exact ⟨by first | rfl | (simp; done) | (simp [*]; done), by repeat (first | exact Drawn0.refl _ | apply Drawn0.step)⟩
                · replace c18 := Bool.eq_false_iff.mpr c18
                  subst c18
                  have H1 : (some false) = some r := by rw [if_neg (show ¬ (false = true) by decide)] at H; exact H
                  clear H
                  have H := H1
                  clear H1
                  obtain rfl := Option.some.inj H
                  go_wp2_with (first | ((with_reducible refine gate_callee (f := 13) rfl ?_); refine goesL_ (some 34) rfl rfl Tryd.func13 (by kernel_rfl) rfl #[.int .u8 a0, .int .i64 a1] rfl (by (try simp only [List.map_toArray, List.map_cons, List.map_nil]); first | done | rfl | (simp only [List.length_drop, List.length_take]; rfl)) ?_; (with_reducible refine (impl_Exp.calls a0 a1 t130 true _ ?side1 A9.out).mono ?_); (case side1 => first | exact HG.out | exact Glob.drewN HG.out _ | exact Glob.below HG.out (by repeat (first | (with_reducible first | exact HB.out | apply below_alloc | apply pw_below_drewN | apply below_drew1) | exact HB.out))); rintro e w' ⟨rfl, ⟨nd, rfl⟩⟩; refine ⟨_, rfl, ?_⟩) | ((with_reducible refine gate_callee (f := 13) rfl ?_); refine goesL_ (some 40) rfl rfl Tryd.func13 (by kernel_rfl) rfl #[.int .u8 a0, .int .i64 a2] rfl (by (try simp only [List.map_toArray, List.map_cons, List.map_nil]); first | done | rfl | (simp only [List.length_drop, List.length_take]; rfl)) ?_; (with_reducible refine (impl_Exp.calls a0 a2 t132 true _ ?side1 A10.out).mono ?_); (case side1 => first | exact HG.out | exact Glob.drewN HG.out _ | exact Glob.below HG.out (by repeat (first | (with_reducible first | exact HB.out | apply below_alloc | apply pw_below_drewN | apply below_drew1) | exact HB.out))); rintro e w' ⟨rfl, ⟨nd, rfl⟩⟩; refine ⟨_, rfl, ?_⟩) | ((with_reducible refine gate_callee (f := 13) rfl ?_); refine goesL_ (some 48) rfl rfl Tryd.func13 (by kernel_rfl) rfl #[.int .u8 a0, .int .i64 (wrap64 (a1 + a2))] rfl (by (try simp only [List.map_toArray, List.map_cons, List.map_nil]); first | done | rfl | (simp only [List.length_drop, List.length_take]; rfl)) ?_; (with_reducible refine (impl_Exp.calls a0 (wrap64 (a1 + a2)) t134 true _ ?side1 A11.out).mono ?_); (case side1 => first | exact HG.out | exact Glob.drewN HG.out _ | exact Glob.below HG.out (by repeat (first | (with_reducible first | exact HB.out | apply below_alloc | apply pw_below_drewN | apply below_drew1) | exact HB.out))); rintro e w' ⟨rfl, ⟨nd, rfl⟩⟩; refine ⟨_, rfl, ?_⟩) | ((with_reducible refine gate_callee (f := 13) rfl ?_); refine goesL_ (some 56) rfl rfl Tryd.func13 (by kernel_rfl) rfl #[.int .u8 a0, .int .i64 (wrap64 (a1 * a2))] rfl (by (try simp only [List.map_toArray, List.map_cons, List.map_nil]); first | done | rfl | (simp only [List.length_drop, List.length_take]; rfl)) ?_; (with_reducible refine (impl_Exp.calls a0 (wrap64 (a1 * a2)) t136 true _ ?side1 A12.out).mono ?_); (case side1 => first | exact HG.out | exact Glob.drewN HG.out _ | exact Glob.below HG.out (by repeat (first | (with_reducible first | exact HB.out | apply below_alloc | apply pw_below_drewN | apply below_drew1) | exact HB.out))); rintro e w' ⟨rfl, ⟨nd, rfl⟩⟩; refine ⟨_, rfl, ?_⟩) | ((with_reducible refine gate_callee (f := 13) rfl ?_); refine goesL_ (some 62) rfl rfl Tryd.func13 (by kernel_rfl) rfl #[.int .u8 t130, .int .i64 a2] rfl (by (try simp only [List.map_toArray, List.map_cons, List.map_nil]); first | done | rfl | (simp only [List.length_drop, List.length_take]; rfl)) ?_; (with_reducible refine (impl_Exp.calls t130 a2 t138 false _ ?side1 A13.out).mono ?_); (case side1 => first | exact HG.out | exact Glob.drewN HG.out _ | exact Glob.below HG.out (by repeat (first | (with_reducible first | exact HB.out | apply below_alloc | apply pw_below_drewN | apply below_drew1) | exact HB.out))); rintro e w' ⟨rfl, ⟨nd, rfl⟩⟩; refine ⟨_, rfl, ?_⟩))
                  go_ret
                  exact ⟨by first | rfl | (simp; done) | (simp [*]; done), by repeat (first | exact Drawn0.refl _ | apply Drawn0.step)⟩
              · replace c17 := Bool.eq_false_iff.mpr c17
                subst c17
                have H1 : (some false) = some r := by rw [if_neg (show ¬ (false = true) by decide)] at H; exact H
                clear H
                have H := H1
                clear H1
                obtain rfl := Option.some.inj H
                go_wp2_with (first | ((with_reducible refine gate_callee (f := 13) rfl ?_); refine goesL_ (some 34) rfl rfl Tryd.func13 (by kernel_rfl) rfl #[.int .u8 a0, .int .i64 a1] rfl (by (try simp only [List.map_toArray, List.map_cons, List.map_nil]); first | done | rfl | (simp only [List.length_drop, List.length_take]; rfl)) ?_; (with_reducible refine (impl_Exp.calls a0 a1 t130 true _ ?side1 A9.out).mono ?_); (case side1 => first | exact HG.out | exact Glob.drewN HG.out _ | exact Glob.below HG.out (by repeat (first | (with_reducible first | exact HB.out | apply below_alloc | apply pw_below_drewN | apply below_drew1) | exact HB.out))); rintro e w' ⟨rfl, ⟨nd, rfl⟩⟩; refine ⟨_, rfl, ?_⟩) | ((with_reducible refine gate_callee (f := 13) rfl ?_); refine goesL_ (some 40) rfl rfl Tryd.func13 (by kernel_rfl) rfl #[.int .u8 a0, .int .i64 a2] rfl (by (try simp only [List.map_toArray, List.map_cons, List.map_nil]); first | done | rfl | (simp only [List.length_drop, List.length_take]; rfl)) ?_; (with_reducible refine (impl_Exp.calls a0 a2 t132 true _ ?side1 A10.out).mono ?_); (case side1 => first | exact HG.out | exact Glob.drewN HG.out _ | exact Glob.below HG.out (by repeat (first | (with_reducible first | exact HB.out | apply below_alloc | apply pw_below_drewN | apply below_drew1) | exact HB.out))); rintro e w' ⟨rfl, ⟨nd, rfl⟩⟩; refine ⟨_, rfl, ?_⟩) | ((with_reducible refine gate_callee (f := 13) rfl ?_); refine goesL_ (some 48) rfl rfl Tryd.func13 (by kernel_rfl) rfl #[.int .u8 a0, .int .i64 (wrap64 (a1 + a2))] rfl (by (try simp only [List.map_toArray, List.map_cons, List.map_nil]); first | done | rfl | (simp only [List.length_drop, List.length_take]; rfl)) ?_; (with_reducible refine (impl_Exp.calls a0 (wrap64 (a1 + a2)) t134 true _ ?side1 A11.out).mono ?_); (case side1 => first | exact HG.out | exact Glob.drewN HG.out _ | exact Glob.below HG.out (by repeat (first | (with_reducible first | exact HB.out | apply below_alloc | apply pw_below_drewN | apply below_drew1) | exact HB.out))); rintro e w' ⟨rfl, ⟨nd, rfl⟩⟩; refine ⟨_, rfl, ?_⟩) | ((with_reducible refine gate_callee (f := 13) rfl ?_); refine goesL_ (some 56) rfl rfl Tryd.func13 (by kernel_rfl) rfl #[.int .u8 a0, .int .i64 (wrap64 (a1 * a2))] rfl (by (try simp only [List.map_toArray, List.map_cons, List.map_nil]); first | done | rfl | (simp only [List.length_drop, List.length_take]; rfl)) ?_; (with_reducible refine (impl_Exp.calls a0 (wrap64 (a1 * a2)) t136 false _ ?side1 A12.out).mono ?_); (case side1 => first | exact HG.out | exact Glob.drewN HG.out _ | exact Glob.below HG.out (by repeat (first | (with_reducible first | exact HB.out | apply below_alloc | apply pw_below_drewN | apply below_drew1) | exact HB.out))); rintro e w' ⟨rfl, ⟨nd, rfl⟩⟩; refine ⟨_, rfl, ?_⟩) | ((with_reducible refine gate_callee (f := 13) rfl ?_); refine goesL_ (some 62) rfl rfl Tryd.func13 (by kernel_rfl) rfl #[.int .u8 t130, .int .i64 a2] rfl (by (try simp only [List.map_toArray, List.map_cons, List.map_nil]); first | done | rfl | (simp only [List.length_drop, List.length_take]; rfl)) ?_; (with_reducible refine (impl_Exp.calls t130 a2 t138 t139 _ ?side1 A13.out).mono ?_); (case side1 => first | exact HG.out | exact Glob.drewN HG.out _ | exact Glob.below HG.out (by repeat (first | (with_reducible first | exact HB.out | apply below_alloc | apply pw_below_drewN | apply below_drew1) | exact HB.out))); rintro e w' ⟨rfl, ⟨nd, rfl⟩⟩; refine ⟨_, rfl, ?_⟩))
                go_ret
                exact ⟨by first | rfl | (simp; done) | (simp [*]; done), by repeat (first | exact Drawn0.refl _ | apply Drawn0.step)⟩
            · replace c16 := Bool.eq_false_iff.mpr c16
              subst c16
              have H1 : (some false) = some r := by rw [if_neg (show ¬ (false = true) by decide)] at H; exact H
              clear H
              have H := H1
              clear H1
              obtain rfl := Option.some.inj H
              go_wp2_with (first | ((with_reducible refine gate_callee (f := 13) rfl ?_); refine goesL_ (some 34) rfl rfl Tryd.func13 (by kernel_rfl) rfl #[.int .u8 a0, .int .i64 a1] rfl (by (try simp only [List.map_toArray, List.map_cons, List.map_nil]); first | done | rfl | (simp only [List.length_drop, List.length_take]; rfl)) ?_; (with_reducible refine (impl_Exp.calls a0 a1 t130 true _ ?side1 A9.out).mono ?_); (case side1 => first | exact HG.out | exact Glob.drewN HG.out _ | exact Glob.below HG.out (by repeat (first | (with_reducible first | exact HB.out | apply below_alloc | apply pw_below_drewN | apply below_drew1) | exact HB.out))); rintro e w' ⟨rfl, ⟨nd, rfl⟩⟩; refine ⟨_, rfl, ?_⟩) | ((with_reducible refine gate_callee (f := 13) rfl ?_); refine goesL_ (some 40) rfl rfl Tryd.func13 (by kernel_rfl) rfl #[.int .u8 a0, .int .i64 a2] rfl (by (try simp only [List.map_toArray, List.map_cons, List.map_nil]); first | done | rfl | (simp only [List.length_drop, List.length_take]; rfl)) ?_; (with_reducible refine (impl_Exp.calls a0 a2 t132 true _ ?side1 A10.out).mono ?_); (case side1 => first | exact HG.out | exact Glob.drewN HG.out _ | exact Glob.below HG.out (by repeat (first | (with_reducible first | exact HB.out | apply below_alloc | apply pw_below_drewN | apply below_drew1) | exact HB.out))); rintro e w' ⟨rfl, ⟨nd, rfl⟩⟩; refine ⟨_, rfl, ?_⟩) | ((with_reducible refine gate_callee (f := 13) rfl ?_); refine goesL_ (some 48) rfl rfl Tryd.func13 (by kernel_rfl) rfl #[.int .u8 a0, .int .i64 (wrap64 (a1 + a2))] rfl (by (try simp only [List.map_toArray, List.map_cons, List.map_nil]); first | done | rfl | (simp only [List.length_drop, List.length_take]; rfl)) ?_; (with_reducible refine (impl_Exp.calls a0 (wrap64 (a1 + a2)) t134 false _ ?side1 A11.out).mono ?_); (case side1 => first | exact HG.out | exact Glob.drewN HG.out _ | exact Glob.below HG.out (by repeat (first | (with_reducible first | exact HB.out | apply below_alloc | apply pw_below_drewN | apply below_drew1) | exact HB.out))); rintro e w' ⟨rfl, ⟨nd, rfl⟩⟩; refine ⟨_, rfl, ?_⟩) | ((with_reducible refine gate_callee (f := 13) rfl ?_); refine goesL_ (some 56) rfl rfl Tryd.func13 (by kernel_rfl) rfl #[.int .u8 a0, .int .i64 (wrap64 (a1 * a2))] rfl (by (try simp only [List.map_toArray, List.map_cons, List.map_nil]); first | done | rfl | (simp only [List.length_drop, List.length_take]; rfl)) ?_; (with_reducible refine (impl_Exp.calls a0 (wrap64 (a1 * a2)) t136 t137 _ ?side1 A12.out).mono ?_); (case side1 => first | exact HG.out | exact Glob.drewN HG.out _ | exact Glob.below HG.out (by repeat (first | (with_reducible first | exact HB.out | apply below_alloc | apply pw_below_drewN | apply below_drew1) | exact HB.out))); rintro e w' ⟨rfl, ⟨nd, rfl⟩⟩; refine ⟨_, rfl, ?_⟩) | ((with_reducible refine gate_callee (f := 13) rfl ?_); refine goesL_ (some 62) rfl rfl Tryd.func13 (by kernel_rfl) rfl #[.int .u8 t130, .int .i64 a2] rfl (by (try simp only [List.map_toArray, List.map_cons, List.map_nil]); first | done | rfl | (simp only [List.length_drop, List.length_take]; rfl)) ?_; (with_reducible refine (impl_Exp.calls t130 a2 t138 t139 _ ?side1 A13.out).mono ?_); (case side1 => first | exact HG.out | exact Glob.drewN HG.out _ | exact Glob.below HG.out (by repeat (first | (with_reducible first | exact HB.out | apply below_alloc | apply pw_below_drewN | apply below_drew1) | exact HB.out))); rintro e w' ⟨rfl, ⟨nd, rfl⟩⟩; refine ⟨_, rfl, ?_⟩))
              go_ret
              exact ⟨by first | rfl | (simp; done) | (simp [*]; done), by repeat (first | exact Drawn0.refl _ | apply Drawn0.step)⟩
          · replace c15 := Bool.eq_false_iff.mpr c15
            subst c15
            have H1 : (some false) = some r := by rw [if_neg (show ¬ (false = true) by decide)] at H; exact H
            clear H
            have H := H1
            clear H1
            obtain rfl := Option.some.inj H
            go_wp2_with (first | ((with_reducible refine gate_callee (f := 13) rfl ?_); refine goesL_ (some 34) rfl rfl Tryd.func13 (by kernel_rfl) rfl #[.int .u8 a0, .int .i64 a1] rfl (by (try simp only [List.map_toArray, List.map_cons, List.map_nil]); first | done | rfl | (simp only [List.length_drop, List.length_take]; rfl)) ?_; (with_reducible refine (impl_Exp.calls a0 a1 t130 true _ ?side1 A9.out).mono ?_); (case side1 => first | exact HG.out | exact Glob.drewN HG.out _ | exact Glob.below HG.out (by repeat (first | (with_reducible first | exact HB.out | apply below_alloc | apply pw_below_drewN | apply below_drew1) | exact HB.out))); rintro e w' ⟨rfl, ⟨nd, rfl⟩⟩; refine ⟨_, rfl, ?_⟩) | ((with_reducible refine gate_callee (f := 13) rfl ?_); refine goesL_ (some 40) rfl rfl Tryd.func13 (by kernel_rfl) rfl #[.int .u8 a0, .int .i64 a2] rfl (by (try simp only [List.map_toArray, List.map_cons, List.map_nil]); first | done | rfl | (simp only [List.length_drop, List.length_take]; rfl)) ?_; (with_reducible refine (impl_Exp.calls a0 a2 t132 false _ ?side1 A10.out).mono ?_); (case side1 => first | exact HG.out | exact Glob.drewN HG.out _ | exact Glob.below HG.out (by repeat (first | (with_reducible first | exact HB.out | apply below_alloc | apply pw_below_drewN | apply below_drew1) | exact HB.out))); rintro e w' ⟨rfl, ⟨nd, rfl⟩⟩; refine ⟨_, rfl, ?_⟩) | ((with_reducible refine gate_callee (f := 13) rfl ?_); refine goesL_ (some 48) rfl rfl Tryd.func13 (by kernel_rfl) rfl #[.int .u8 a0, .int .i64 (wrap64 (a1 + a2))] rfl (by (try simp only [List.map_toArray, List.map_cons, List.map_nil]); first | done | rfl | (simp only [List.length_drop, List.length_take]; rfl)) ?_; (with_reducible refine (impl_Exp.calls a0 (wrap64 (a1 + a2)) t134 t135 _ ?side1 A11.out).mono ?_); (case side1 => first | exact HG.out | exact Glob.drewN HG.out _ | exact Glob.below HG.out (by repeat (first | (with_reducible first | exact HB.out | apply below_alloc | apply pw_below_drewN | apply below_drew1) | exact HB.out))); rintro e w' ⟨rfl, ⟨nd, rfl⟩⟩; refine ⟨_, rfl, ?_⟩) | ((with_reducible refine gate_callee (f := 13) rfl ?_); refine goesL_ (some 56) rfl rfl Tryd.func13 (by kernel_rfl) rfl #[.int .u8 a0, .int .i64 (wrap64 (a1 * a2))] rfl (by (try simp only [List.map_toArray, List.map_cons, List.map_nil]); first | done | rfl | (simp only [List.length_drop, List.length_take]; rfl)) ?_; (with_reducible refine (impl_Exp.calls a0 (wrap64 (a1 * a2)) t136 t137 _ ?side1 A12.out).mono ?_); (case side1 => first | exact HG.out | exact Glob.drewN HG.out _ | exact Glob.below HG.out (by repeat (first | (with_reducible first | exact HB.out | apply below_alloc | apply pw_below_drewN | apply below_drew1) | exact HB.out))); rintro e w' ⟨rfl, ⟨nd, rfl⟩⟩; refine ⟨_, rfl, ?_⟩) | ((with_reducible refine gate_callee (f := 13) rfl ?_); refine goesL_ (some 62) rfl rfl Tryd.func13 (by kernel_rfl) rfl #[.int .u8 t130, .int .i64 a2] rfl (by (try simp only [List.map_toArray, List.map_cons, List.map_nil]); first | done | rfl | (simp only [List.length_drop, List.length_take]; rfl)) ?_; (with_reducible refine (impl_Exp.calls t130 a2 t138 t139 _ ?side1 A13.out).mono ?_); (case side1 => first | exact HG.out | exact Glob.drewN HG.out _ | exact Glob.below HG.out (by repeat (first | (with_reducible first | exact HB.out | apply below_alloc | apply pw_below_drewN | apply below_drew1) | exact HB.out))); rintro e w' ⟨rfl, ⟨nd, rfl⟩⟩; refine ⟨_, rfl, ?_⟩))
            go_ret
            exact ⟨by first | rfl | (simp; done) | (simp [*]; done), by repeat (first | exact Drawn0.refl _ | apply Drawn0.step)⟩
        · replace c14 := Bool.eq_false_iff.mpr c14
          subst c14
          have H1 : (some false) = some r := by rw [if_neg (show ¬ (false = true) by decide)] at H; exact H
          clear H
          have H := H1
          clear H1
          obtain rfl := Option.some.inj H
          go_wp2_with (first | ((with_reducible refine gate_callee (f := 13) rfl ?_); refine goesL_ (some 34) rfl rfl Tryd.func13 (by kernel_rfl) rfl #[.int .u8 a0, .int .i64 a1] rfl (by (try simp only [List.map_toArray, List.map_cons, List.map_nil]); first | done | rfl | (simp only [List.length_drop, List.length_take]; rfl)) ?_; (with_reducible refine (impl_Exp.calls a0 a1 t130 false _ ?side1 A9.out).mono ?_); (case side1 => first | exact HG.out | exact Glob.drewN HG.out _ | exact Glob.below HG.out (by repeat (first | (with_reducible first | exact HB.out | apply below_alloc | apply pw_below_drewN | apply below_drew1) | exact HB.out))); rintro e w' ⟨rfl, ⟨nd, rfl⟩⟩; refine ⟨_, rfl, ?_⟩) | ((with_reducible refine gate_callee (f := 13) rfl ?_); refine goesL_ (some 40) rfl rfl Tryd.func13 (by kernel_rfl) rfl #[.int .u8 a0, .int .i64 a2] rfl (by (try simp only [List.map_toArray, List.map_cons, List.map_nil]); first | done | rfl | (simp only [List.length_drop, List.length_take]; rfl)) ?_; (with_reducible refine (impl_Exp.calls a0 a2 t132 t133 _ ?side1 A10.out).mono ?_); (case side1 => first | exact HG.out | exact Glob.drewN HG.out _ | exact Glob.below HG.out (by repeat (first | (with_reducible first | exact HB.out | apply below_alloc | apply pw_below_drewN | apply below_drew1) | exact HB.out))); rintro e w' ⟨rfl, ⟨nd, rfl⟩⟩; refine ⟨_, rfl, ?_⟩) | ((with_reducible refine gate_callee (f := 13) rfl ?_); refine goesL_ (some 48) rfl rfl Tryd.func13 (by kernel_rfl) rfl #[.int .u8 a0, .int .i64 (wrap64 (a1 + a2))] rfl (by (try simp only [List.map_toArray, List.map_cons, List.map_nil]); first | done | rfl | (simp only [List.length_drop, List.length_take]; rfl)) ?_; (with_reducible refine (impl_Exp.calls a0 (wrap64 (a1 + a2)) t134 t135 _ ?side1 A11.out).mono ?_); (case side1 => first | exact HG.out | exact Glob.drewN HG.out _ | exact Glob.below HG.out (by repeat (first | (with_reducible first | exact HB.out | apply below_alloc | apply pw_below_drewN | apply below_drew1) | exact HB.out))); rintro e w' ⟨rfl, ⟨nd, rfl⟩⟩; refine ⟨_, rfl, ?_⟩) | ((with_reducible refine gate_callee (f := 13) rfl ?_); refine goesL_ (some 56) rfl rfl Tryd.func13 (by kernel_rfl) rfl #[.int .u8 a0, .int .i64 (wrap64 (a1 * a2))] rfl (by (try simp only [List.map_toArray, List.map_cons, List.map_nil]); first | done | rfl | (simp only [List.length_drop, List.length_take]; rfl)) ?_; (with_reducible refine (impl_Exp.calls a0 (wrap64 (a1 * a2)) t136 t137 _ ?side1 A12.out).mono ?_); (case side1 => first | exact HG.out | exact Glob.drewN HG.out _ | exact Glob.below HG.out (by repeat (first | (with_reducible first | exact HB.out | apply below_alloc | apply pw_below_drewN | apply below_drew1) | exact HB.out))); rintro e w' ⟨rfl, ⟨nd, rfl⟩⟩; refine ⟨_, rfl, ?_⟩) | ((with_reducible refine gate_callee (f := 13) rfl ?_); refine goesL_ (some 62) rfl rfl Tryd.func13 (by kernel_rfl) rfl #[.int .u8 t130, .int .i64 a2] rfl (by (try simp only [List.map_toArray, List.map_cons, List.map_nil]); first | done | rfl | (simp only [List.length_drop, List.length_take]; rfl)) ?_; (with_reducible refine (impl_Exp.calls t130 a2 t138 t139 _ ?side1 A13.out).mono ?_); (case side1 => first | exact HG.out | exact Glob.drewN HG.out _ | exact Glob.below HG.out (by repeat (first | (with_reducible first | exact HB.out | apply below_alloc | apply pw_below_drewN | apply below_drew1) | exact HB.out))); rintro e w' ⟨rfl, ⟨nd, rfl⟩⟩; refine ⟨_, rfl, ?_⟩))
          go_ret
          exact ⟨by first | rfl | (simp; done) | (simp [*]; done), by repeat (first | exact Drawn0.refl _ | apply Drawn0.step)⟩

/-- THE ONE PURE STATEMENT of laws_FnFieldExponents: yours. -/
def laws_FnFieldExponents.Pure : Prop := ∀ (a0 : Int) (a1 : Int) (a2 : Int), (Lit.int .u8 a0).wf = true → (Lit.int .i64 a1).wf = true → (Lit.int .i64 a2).wf = true → ∃ k, laws_FnFieldExponents.f k a0 a1 a2 = some true
theorem laws_FnFieldExponents.walk (P : laws_FnFieldExponents.Pure) (a0 : Int) (a1 : Int) (a2 : Int) (w : World) (HG_ : Glob w) (w0 : (Lit.int .u8 a0).wf = true) (w1 : (Lit.int .i64 a1).wf = true) (w2 : (Lit.int .i64 a2).wf = true) :
    Calls Tryd.prog 5 #[.int .u8 a0, .int .i64 a1, .int .i64 a2] w fun e w' => e = .returned (.bool true) ∧ Below w.heap.size w w' := by
  obtain ⟨k, h⟩ := P a0 a1 a2 w0 w1 w2
  refine (laws_FnFieldExponents.calls k a0 a1 a2 true w HG_ h).mono ?_
  rintro e w' ⟨rfl, hd⟩
  exact ⟨rfl, hd.below⟩

end Go.Proofs.YtpjfokolbgcbhaaDoor.Q
