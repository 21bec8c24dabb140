-- Written by wip/tools/myprint.py for this seat (the kit's print with changes); Lean checks it.
import Derived.Test.YtpjfokolbgcbhaaDoorQvx0
import Derived.Test.YtpjfokolbgcbhaaDoorQvx2
namespace Go.Proofs.YtpjfokolbgcbhaaDoor.Qv
open Go.RowKit Go.Proofs.YtpjfokolbgcbhaaDoorW.PrintWords Go.Proofs.YtpjfokolbgcbhaaDoorW.PrintLast Go.Proofs.YtpjfokolbgcbhaaDoorW.PrintMore
attribute [local go_sem] max2_int min2_int max_two min_two max_three min_three max_four min_four   -- for this text's walks alone
set_option linter.unusedVariables false
set_option linter.unusedSimpArgs false

/-! ### laws_FnVandermonde: function 6 -/
mutual
def laws_FnVandermonde.j0 : Nat → Int → Int → List (List Int) → Bool → Bool → Option (Bool)
  | 0, _, _, _, _, _ => none
  | k + 1, x0, x1, x5, x6, x30 => if x30 = true then (some (!x6)) else (if x6 = true then (laws_FnVandermonde.j1 k x1 x5 ((x5.length : Int) != x0)) else (laws_FnVandermonde.j1 k x1 x5 true))
def laws_FnVandermonde.j1 : Nat → Int → List (List Int) → Bool → Option (Bool)
  | 0, _, _, _ => none
  | k + 1, x1, x5, x40 => if x40 = true then (some false) else (laws_FnVandermonde.l0 k x1 x5 (x5.length : Int) 0)
def laws_FnVandermonde.l0 : Nat → Int → List (List Int) → Int → Int → Option (Bool)
  | 0, _, _, _, _ => none
  | k + 1, x1, x5, x42, x43 => if x43 < x42 then (if 0 ≤ x43 then (if x43 < (x5.length : Int) then (if ((rd_L2 x5 x43).length : Int) = x1 then (laws_FnVandermonde.l1 k x1 x5 x43 1 x42 x43 (rd_L2 x5 x43) ((rd_L2 x5 x43).length : Int) 0) else (some false)) else (none)) else (none)) else (some true)
def laws_FnVandermonde.l1 : Nat → Int → List (List Int) → Int → Int → Int → Int → List Int → Int → Int → Option (Bool)
  | 0, _, _, _, _, _, _, _, _, _ => none
  | k + 1, x1, x5, x7, x8, x42, x43, x56, x57, x58 => if x58 < x57 then (if 0 ≤ x58 then (if x58 < (x56.length : Int) then (if (rd x56 x58) = x8 then ((spec_Mul.f k x8 ((x7) % 256)).bind fun t147 => (laws_FnVandermonde.l1 k x1 x5 x7 t147 x42 x43 x56 x57 (wrap64 (x58 + 1)))) else (some false)) else (none)) else (none)) else (laws_FnVandermonde.l0 k x1 x5 x42 (wrap64 (x43 + 1)))
end
def laws_FnVandermonde.f (k : Nat) (a0 : Int) (a1 : Int) : Option (Bool) := (impl_Vandermonde.f k a0 a1).bind fun bt140 => (if a0 < 1 then (laws_FnVandermonde.j0 k a0 a1 bt140.1 bt140.2 true) else (if a0 > 256 then (laws_FnVandermonde.j0 k a0 a1 bt140.1 bt140.2 true) else (if a1 < 1 then (laws_FnVandermonde.j0 k a0 a1 bt140.1 bt140.2 true) else (laws_FnVandermonde.j0 k a0 a1 bt140.1 bt140.2 (decide (a1 > 256))))))
theorem laws_FnVandermonde.mono_l : ∀ k, (∀ y0 y1 y2 y3 y4, LeO (laws_FnVandermonde.j0 k y0 y1 y2 y3 y4) (laws_FnVandermonde.j0 (k + 1) y0 y1 y2 y3 y4)) ∧ (∀ y0 y1 y2, LeO (laws_FnVandermonde.j1 k y0 y1 y2) (laws_FnVandermonde.j1 (k + 1) y0 y1 y2)) ∧ (∀ y0 y1 y2 y3, LeO (laws_FnVandermonde.l0 k y0 y1 y2 y3) (laws_FnVandermonde.l0 (k + 1) y0 y1 y2 y3)) ∧ (∀ y0 y1 y2 y3 y4 y5 y6 y7 y8, LeO (laws_FnVandermonde.l1 k y0 y1 y2 y3 y4 y5 y6 y7 y8) (laws_FnVandermonde.l1 (k + 1) y0 y1 y2 y3 y4 y5 y6 y7 y8))
  | 0 => ⟨fun _ _ _ _ _ r h => by simp [laws_FnVandermonde.j0] at h, fun _ _ _ r h => by simp [laws_FnVandermonde.j1] at h, fun _ _ _ _ r h => by simp [laws_FnVandermonde.l0] at h, fun _ _ _ _ _ _ _ _ _ r h => by simp [laws_FnVandermonde.l1] at h⟩
  | k + 1 => by
    obtain ⟨ih0, ih1, ih2, ih3⟩ := laws_FnVandermonde.mono_l k
    refine ⟨?_, ?_, ?_, ?_⟩
    · intro y0 y1 y2 y3 y4
      unfold laws_FnVandermonde.j0
      repeat' first
      | (with_reducible exact ih0 _ _ _ _ _)
      | (with_reducible exact ih1 _ _ _)
      | (with_reducible exact ih2 _ _ _ _)
      | (with_reducible exact ih3 _ _ _ _ _ _ _ _ _)
      | (with_reducible exact impl_Vandermonde.mono _ _ _)
      | (with_reducible exact spec_Mul.mono _ _ _)
      | (with_reducible exact LeO.refl _)
      | (with_reducible exact LeO.none _)
      | (with_reducible refine LeO.ite ?_ ?_)
      | (with_reducible refine LeO.bind ?_ (fun _ => ?_))
      | exact ih0 _ _ _ _ _
      | exact ih1 _ _ _
      | exact ih2 _ _ _ _
      | exact ih3 _ _ _ _ _ _ _ _ _
      | exact impl_Vandermonde.mono _ _ _
      | exact spec_Mul.mono _ _ _
      | exact LeO.none _
      | refine LeO.ite ?_ ?_
      | refine LeO.bind ?_ (fun _ => ?_)
    · intro y0 y1 y2
      unfold laws_FnVandermonde.j1
      repeat' first
      | (with_reducible exact ih0 _ _ _ _ _)
      | (with_reducible exact ih1 _ _ _)
      | (with_reducible exact ih2 _ _ _ _)
      | (with_reducible exact ih3 _ _ _ _ _ _ _ _ _)
      | (with_reducible exact impl_Vandermonde.mono _ _ _)
      | (with_reducible exact spec_Mul.mono _ _ _)
      | (with_reducible exact LeO.refl _)
      | (with_reducible exact LeO.none _)
      | (with_reducible refine LeO.ite ?_ ?_)
      | (with_reducible refine LeO.bind ?_ (fun _ => ?_))
      | exact ih0 _ _ _ _ _
      | exact ih1 _ _ _
      | exact ih2 _ _ _ _
      | exact ih3 _ _ _ _ _ _ _ _ _
      | exact impl_Vandermonde.mono _ _ _
      | exact spec_Mul.mono _ _ _
      | exact LeO.none _
      | refine LeO.ite ?_ ?_
      | refine LeO.bind ?_ (fun _ => ?_)
    · intro y0 y1 y2 y3
      unfold laws_FnVandermonde.l0
      repeat' first
      | (with_reducible exact ih0 _ _ _ _ _)
      | (with_reducible exact ih1 _ _ _)
      | (with_reducible exact ih2 _ _ _ _)
      | (with_reducible exact ih3 _ _ _ _ _ _ _ _ _)
      | (with_reducible exact impl_Vandermonde.mono _ _ _)
      | (with_reducible exact spec_Mul.mono _ _ _)
      | (with_reducible exact LeO.refl _)
      | (with_reducible exact LeO.none _)
      | (with_reducible refine LeO.ite ?_ ?_)
      | (with_reducible refine LeO.bind ?_ (fun _ => ?_))
      | exact ih0 _ _ _ _ _
      | exact ih1 _ _ _
      | exact ih2 _ _ _ _
      | exact ih3 _ _ _ _ _ _ _ _ _
      | exact impl_Vandermonde.mono _ _ _
      | exact spec_Mul.mono _ _ _
      | exact LeO.none _
      | refine LeO.ite ?_ ?_
      | refine LeO.bind ?_ (fun _ => ?_)
    · intro y0 y1 y2 y3 y4 y5 y6 y7 y8
      unfold laws_FnVandermonde.l1
      repeat' first
      | (with_reducible exact ih0 _ _ _ _ _)
      | (with_reducible exact ih1 _ _ _)
      | (with_reducible exact ih2 _ _ _ _)
      | (with_reducible exact ih3 _ _ _ _ _ _ _ _ _)
      | (with_reducible exact impl_Vandermonde.mono _ _ _)
      | (with_reducible exact spec_Mul.mono _ _ _)
      | (with_reducible exact LeO.refl _)
      | (with_reducible exact LeO.none _)
      | (with_reducible refine LeO.ite ?_ ?_)
      | (with_reducible refine LeO.bind ?_ (fun _ => ?_))
      | exact ih0 _ _ _ _ _
      | exact ih1 _ _ _
      | exact ih2 _ _ _ _
      | exact ih3 _ _ _ _ _ _ _ _ _
      | exact impl_Vandermonde.mono _ _ _
      | exact spec_Mul.mono _ _ _
      | exact LeO.none _
      | refine LeO.ite ?_ ?_
      | refine LeO.bind ?_ (fun _ => ?_)
theorem laws_FnVandermonde.mono : ∀ a0 a1 k, LeO (laws_FnVandermonde.f k a0 a1) (laws_FnVandermonde.f (k + 1) a0 a1) := by
  intro a0 a1 k
  obtain ⟨ih0, ih1, ih2, ih3⟩ := laws_FnVandermonde.mono_l k
  unfold laws_FnVandermonde.f
  repeat' first
      | (with_reducible exact ih0 _ _ _ _ _)
      | (with_reducible exact ih1 _ _ _)
      | (with_reducible exact ih2 _ _ _ _)
      | (with_reducible exact ih3 _ _ _ _ _ _ _ _ _)
      | (with_reducible exact impl_Vandermonde.mono _ _ _)
      | (with_reducible exact spec_Mul.mono _ _ _)
      | (with_reducible exact LeO.refl _)
      | (with_reducible exact LeO.none _)
      | (with_reducible refine LeO.ite ?_ ?_)
      | (with_reducible refine LeO.bind ?_ (fun _ => ?_))
      | exact ih0 _ _ _ _ _
      | exact ih1 _ _ _
      | exact ih2 _ _ _ _
      | exact ih3 _ _ _ _ _ _ _ _ _
      | exact impl_Vandermonde.mono _ _ _
      | exact spec_Mul.mono _ _ _
      | exact LeO.none _
      | refine LeO.ite ?_ ?_
      | refine LeO.bind ?_ (fun _ => ?_)
set_option maxHeartbeats 8000000 in
set_option maxRecDepth 100000 in
theorem laws_FnVandermonde.calls (k : Nat) (a0 : Int) (a1 : Int) (r : Bool) (w : World) (HG_ : Glob w) (h : laws_FnVandermonde.f k a0 a1 = some r) :
    Calls Tryd.prog 6 #[.int .i64 a0, .int .i64 a1] w fun e w' => e = .returned (.bool r) ∧ Below w.heap.size w w' := by
  have HG := Aside0.mk HG_
  clear HG_
  have HB := Aside0.mk (Below.refl w.heap.size w)
  have H : ((impl_Vandermonde.f k a0 a1).bind fun bt140 => (if a0 < 1 then (laws_FnVandermonde.j0 k a0 a1 bt140.1 bt140.2 true) else (if a0 > 256 then (laws_FnVandermonde.j0 k a0 a1 bt140.1 bt140.2 true) else (if a1 < 1 then (laws_FnVandermonde.j0 k a0 a1 bt140.1 bt140.2 true) else (laws_FnVandermonde.j0 k a0 a1 bt140.1 bt140.2 (decide (a1 > 256))))))) = some r := h
  clear h
  replace H := Option.bind_eq_some_iff.mp H
  obtain ⟨⟨t140, t141⟩, A30, H⟩ := H
  replace H : (if a0 < 1 then (laws_FnVandermonde.j0 k a0 a1 t140 t141 true) else (if a0 > 256 then (laws_FnVandermonde.j0 k a0 a1 t140 t141 true) else (if a1 < 1 then (laws_FnVandermonde.j0 k a0 a1 t140 t141 true) else (laws_FnVandermonde.j0 k a0 a1 t140 t141 (decide (a1 > 256)))))) = some r := H
  have A3 := Aside0.mk A30
  clear A30
  have HC4 := Aside0.mk H
  clear H
  go_enter Tryd.func6, Tryd.ntmps6
  go_upto_region 2 with (first | ((with_reducible refine gate_callee (f := 14) rfl ?_); refine goesL_ (some 14) rfl rfl Tryd.func14 (by kernel_rfl) rfl #[.int .i64 a0, .int .i64 a1] rfl (by (try simp only [List.map_toArray, List.map_cons, List.map_nil]); first | done | rfl | (simp only [List.length_drop, List.length_take]; rfl)) ?_; (with_reducible refine (impl_Vandermonde.calls k a0 a1 t140 t141 _ ?side1 A3.out).mono ?_); (case side1 => first | exact HG.out | exact Glob.drewN HG.out _ | exact Glob.below HG.out (by repeat (first | (with_reducible first | exact HB.out | apply below_alloc | apply pw_below_drewN | apply below_drew1) | exact HB.out))); rintro e w5 ⟨v142, rfl, ho0, hb⟩; refine ⟨_, rfl, ?_⟩; have n0_ := Aside0.mk (Kd.S_lower ho0 (below_size (by repeat (first | (with_reducible first | exact HB.out | apply below_alloc | apply pw_below_drewN | apply below_drew1) | exact HB.out)))); have n1_ := Aside0.mk (below_step (by repeat (first | (with_reducible first | exact HB.out | apply below_alloc | apply pw_below_drewN | apply below_drew1) | exact HB.out)) hb); clear HB; have HO143 := n0_; have HB := n1_; clear n0_ n1_; (try clear hb); (try clear hb2); (try clear hk); (try clear hi); (try clear ho0)))
  (try simp only [Act.put, List.setIfInBounds_toArray, List.set_cons_zero, List.set_cons_succ])
  go_cut [30] (fun v30 wc => ∃ (kq : Nat) (x30_3 : Bool), v30 = .bool x30_3 ∧ Aside0 (laws_FnVandermonde.j0 kq a0 a1 t140 t141 x30_3 = some r) ∧ Aside0 (kq ≤ k) ∧ Aside0 (Kd.S (Kd.slice 5 (Kd.int .u8)) 24 wc w.heap.size (fun _ => True) v142 t140) ∧ Aside0 (Below w.heap.size w wc))
  case first =>
    have H := HC4.out
    clear HC4
    by_cases c6 : a0 < 1
    · rw [if_pos c6] at H
      have c6b0 : decide (a0 < 1) = true := decide_eq_true c6
      clear c6
      (first | rw [c6b0] | (simp only [i64_w, i32_w]; rw [c6b0]) | skip)
      have H' := Aside0.mk H
      clear H
      go_wp2
      go_meet
      case rel => exact ⟨_, (true), (by first | rfl | (simp; done) | (simp [*]; done)), H', ⟨by first | omega | exact Nat.le_refl _⟩, ⟨by (with_reducible repeat (first | apply Kd.S_alloc | apply Kd.S_drewN | apply Kd.S_drew)); exact HO143.out⟩, ⟨by repeat (first | (with_reducible first | exact HB.out | apply below_alloc | apply pw_below_drewN | apply below_drew1) | exact HB.out)⟩⟩
    · rw [if_neg c6] at H
      have c6b0 : decide (a0 < 1) = false := decide_eq_false c6
      clear c6
      (first | rw [c6b0] | (simp only [i64_w, i32_w]; rw [c6b0]) | skip)
      by_cases c7 : a0 > 256
      · rw [if_pos c7] at H
        have c7b0 : decide (256 < a0) = true := decide_eq_true c7
        clear c7
        have H' := Aside0.mk H
        clear H
        go_wp2
        go_meet
        case rel => exact ⟨_, (true), (by first | rfl | (simp; done) | (simp [*]; done)), H', ⟨by first | omega | exact Nat.le_refl _⟩, ⟨by (with_reducible repeat (first | apply Kd.S_alloc | apply Kd.S_drewN | apply Kd.S_drew)); exact HO143.out⟩, ⟨by repeat (first | (with_reducible first | exact HB.out | apply below_alloc | apply pw_below_drewN | apply below_drew1) | exact HB.out)⟩⟩
      · rw [if_neg c7] at H
        have c7b0 : decide (256 < a0) = false := decide_eq_false c7
        clear c7
        by_cases c8 : a1 < 1
        · rw [if_pos c8] at H
          have c8b0 : decide (a1 < 1) = true := decide_eq_true c8
          clear c8
          have H' := Aside0.mk H
          clear H
          go_wp2
          go_meet
          case rel => exact ⟨_, (true), (by first | rfl | (simp; done) | (simp [*]; done)), H', ⟨by first | omega | exact Nat.le_refl _⟩, ⟨by (with_reducible repeat (first | apply Kd.S_alloc | apply Kd.S_drewN | apply Kd.S_drew)); exact HO143.out⟩, ⟨by repeat (first | (with_reducible first | exact HB.out | apply below_alloc | apply pw_below_drewN | apply below_drew1) | exact HB.out)⟩⟩
        · rw [if_neg c8] at H
          have c8b0 : decide (a1 < 1) = false := decide_eq_false c8
          clear c8
          have H' := Aside0.mk H
          clear H
          go_wp2
          go_meet
          case rel => exact ⟨_, (decide (a1 > 256)), (by first | rfl | (simp; done) | (simp [*]; done)), H', ⟨by first | omega | exact Nat.le_refl _⟩, ⟨by (with_reducible repeat (first | apply Kd.S_alloc | apply Kd.S_drewN | apply Kd.S_drew)); exact HO143.out⟩, ⟨by repeat (first | (with_reducible first | exact HB.out | apply below_alloc | apply pw_below_drewN | apply below_drew1) | exact HB.out)⟩⟩
  case rest =>
    clear HC4
    try clear c1
    try clear p2
    try clear c6
    try clear c6b0
    try clear c7
    try clear c7b0
    try clear c8
    try clear c8b0
    obtain ⟨kq, x30_3, rfl, HA, HJ3, HO_5, HB⟩ := hcut
    cases kq with
    | zero => exact absurd HA.out (by simp [laws_FnVandermonde.j0])
    | succ kj3 =>
      have H := HA.out
      clear HA
      simp only [laws_FnVandermonde.j0] at H
      by_cases c9 : x30_3 = true
      · subst c9
        have H1 : (some (!t141)) = some r := by rw [if_pos rfl] at H; exact H
        clear H
        have H := H1
        clear H1
        obtain rfl := Option.some.inj H
        go_wp2
        go_ret
        exact ⟨by first | rfl | (simp [errW_none, errW_some] <;> rfl) | (simp [*, errW_none, errW_some] <;> rfl), by repeat (first | (with_reducible first | exact HB.out | apply below_alloc | apply pw_below_drewN | apply below_drew1) | exact HB.out)⟩
      · replace c9 := Bool.eq_false_iff.mpr c9
        subst c9
        have H1 : (if t141 = true then (laws_FnVandermonde.j1 kj3 a1 t140 ((t140.length : Int) != a0)) else (laws_FnVandermonde.j1 kj3 a1 t140 true)) = some r := by rw [if_neg (show ¬ (false = true) by decide)] at H; exact H
        clear H
        have H := H1
        clear H1
        have HC10 := Aside0.mk H
        clear H
        go_upto_region 4 with (fail)
        go_cut [40] (fun v40 wc => ∃ (kq : Nat) (x40_9 : Bool), v40 = .bool x40_9 ∧ Aside0 (laws_FnVandermonde.j1 kq a1 t140 x40_9 = some r) ∧ Aside0 (kq ≤ kj3) ∧ Aside0 (Kd.S (Kd.slice 5 (Kd.int .u8)) 24 wc w.heap.size (fun _ => True) v142 t140) ∧ Aside0 (Below w.heap.size w wc))
        case first =>
          have H := HC10.out
          clear HC10
          by_cases c11 : t141 = true
          · subst c11
            have H1 : (laws_FnVandermonde.j1 kj3 a1 t140 ((t140.length : Int) != a0)) = some r := by rw [if_pos rfl] at H; exact H
            clear H
            have H := H1
            clear H1
            have H' := Aside0.mk H
            clear H
            obtain ⟨Ao12, co12, eo12⟩ := Kd.S_slice HO_5.out
            subst eo12
            go_wp2
            go_meet
            case rel => exact ⟨_, (((t140.length : Int) != a0)), (by first | rfl | (simp; done) | (simp [*]; done)), H', ⟨by have := HJ3.out; first | omega | exact Nat.le_refl _⟩, ⟨by (with_reducible repeat (first | apply Kd.S_alloc | apply Kd.S_drewN | apply Kd.S_drew)); exact HO_5.out⟩, ⟨by repeat (first | (with_reducible first | exact HB.out | apply below_alloc | apply pw_below_drewN | apply below_drew1) | exact HB.out)⟩⟩
          · replace c11 := Bool.eq_false_iff.mpr c11
            subst c11
            have H1 : (laws_FnVandermonde.j1 kj3 a1 t140 true) = some r := by rw [if_neg (show ¬ (false = true) by decide)] at H; exact H
            clear H
            have H := H1
            clear H1
            have H' := Aside0.mk H
            clear H
            go_wp2
            go_meet
            case rel => exact ⟨_, (true), (by first | rfl | (simp; done) | (simp [*]; done)), H', ⟨by have := HJ3.out; first | omega | exact Nat.le_refl _⟩, ⟨by (with_reducible repeat (first | apply Kd.S_alloc | apply Kd.S_drewN | apply Kd.S_drew)); exact HO_5.out⟩, ⟨by repeat (first | (with_reducible first | exact HB.out | apply below_alloc | apply pw_below_drewN | apply below_drew1) | exact HB.out)⟩⟩
        case rest =>
          clear HC10
          try clear c1
          try clear p2
          try clear c6
          try clear c6b0
          try clear c7
          try clear c7b0
          try clear c8
          try clear c8b0
          try clear c9
          try clear c11
          try clear p2
          obtain ⟨kq, x40_9, rfl, HA, HJ9, HO_5, HB⟩ := hcut
          cases kq with
          | zero => exact absurd HA.out (by simp [laws_FnVandermonde.j1])
          | succ kj9 =>
            have H := HA.out
            clear HA
            simp only [laws_FnVandermonde.j1] at H
            by_cases c13 : x40_9 = true
            · subst c13
              have H1 : (some false) = some r := by rw [if_pos rfl] at H; exact H
              clear H
              have H := H1
              clear H1
              obtain rfl := Option.some.inj H
              go_wp2
              go_ret
              exact ⟨by first | rfl | (simp [errW_none, errW_some] <;> rfl) | (simp [*, errW_none, errW_some] <;> rfl), by repeat (first | (with_reducible first | exact HB.out | apply below_alloc | apply pw_below_drewN | apply below_drew1) | exact HB.out)⟩
            · replace c13 := Bool.eq_false_iff.mpr c13
              subst c13
              have H1 : (laws_FnVandermonde.l0 kj9 a1 t140 (t140.length : Int) 0) = some r := by rw [if_neg (show ¬ (false = true) by decide)] at H; exact H
              clear H
              have H := H1
              clear H1
              have H' := Aside0.mk H
              clear H
              obtain ⟨Ao14, co14, eo14⟩ := Kd.S_slice HO_5.out
              subst eo14
              go_wp2
              (try simp only [Act.put, List.setIfInBounds_toArray, List.set_cons_zero, List.set_cons_succ])
              go_loopg [43] kj9 (fun kq v43 w' => ∃ (x43_3 : Int), v43 = .int .i64 x43_3 ∧ Aside0 (laws_FnVandermonde.l0 kq a1 t140 (t140.length : Int) x43_3 = some r) ∧ Aside0 (kq ≤ kj9) ∧ Aside0 (Kd.S (Kd.slice 5 (Kd.int .u8)) 24 w' w.heap.size (fun _ => True) (.slice Ao14 t140.length co14) t140) ∧ Aside0 (Below w.heap.size w w'))
              case atStart => exact ⟨(0), (by first | rfl | (simp; done) | (simp [*]; done)), H', ⟨Nat.le_refl _⟩, ⟨by (with_reducible repeat (first | apply Kd.S_alloc | apply Kd.S_drewN | apply Kd.S_drew)); exact HO_5.out⟩, ⟨by repeat (first | (with_reducible first | exact HB.out | apply below_alloc | apply pw_below_drewN | apply below_drew1) | exact HB.out)⟩⟩
              case round =>
                clear H'
                try clear c1
                try clear p2
                try clear c6
                try clear c6b0
                try clear c7
                try clear c7b0
                try clear c8
                try clear c8b0
                try clear c9
                try clear c11
                try clear c13
                try clear c14
                try clear p2
                obtain ⟨x43_3, rfl, HA, HK3, HO_5, HB⟩ := hrel
                cases gk with
                | zero => exact absurd HA.out (by simp [laws_FnVandermonde.l0])
                | succ k3 =>
                  have H := HA.out
                  clear HA
                  simp only [laws_FnVandermonde.l0] at H
                  by_cases c15 : x43_3 < (t140.length : Int)
                  · rw [if_pos c15] at H
                    have c15b0 : decide (x43_3 < (t140.length : Int)) = true := decide_eq_true c15
                    clear c15
                    by_cases c16 : 0 ≤ x43_3
                    · rw [if_pos c16] at H
                      have c16b0 : decide (0 ≤ x43_3) = true := decide_eq_true c16
                      clear c16
                      by_cases c17 : x43_3 < (t140.length : Int)
                      · rw [if_pos c17] at H
                        have c17b0 : decide (x43_3 < (t140.length : Int)) = true := decide_eq_true c17
                        clear c17
                        by_cases c18 : ((rd_L2 t140 x43_3).length : Int) = a1
                        · rw [if_pos c18] at H
                          have c18b0 : (((rd_L2 t140 x43_3).length : Int) == a1) = true := beq_iff_eq.mpr c18
                          have c18b1 : (((rd_L2 t140 x43_3).length : Int) != a1) = false := bne_eq_false_iff_eq.mpr c18
                          clear c18
                          have H' := Aside0.mk H
                          clear H
                          have p144 : 0 ≤ (x43_3 : Int) := of_decide_eq_true (by first | (with_reducible assumption) | assumption)
                          have q144 : x43_3 < (t140.length : Int) := of_decide_eq_true (by first | (with_reducible assumption) | assumption)
                          obtain ⟨ad144, A144_0, c144_0, e144, hx144_0, hl144_0, hi144_0⟩ := at_L2 (Kd.S_reads' HO_5.out).2.2 x43_3 p144 q144
                          cases e144
                          obtain ⟨ce144, hce144, hMe144, hcc144⟩ := Kd.S_get HO_5.out [] x43_3 p144 (by first | exact q144 | exact of_decide_eq_true (by first | (with_reducible assumption) | assumption) | (have e_ := (Kd.S_reads' HO_5.out).1; omega))
                          obtain ⟨ve144_0, rfl, ge144_0⟩ := hMe144
                          have hv144_0 := hcc144 0 _ rfl
                          rw [Nat.add_zero, show ((Kd.slice 5 (Kd.int .u8))).sz = 1 from rfl, Nat.mul_one] at hv144_0
                          replace hv144_0 := Option.some.inj (hv144_0.symm.trans hx144_0)
                          rw [hv144_0] at ge144_0
                          have HL144_0 := Aside0.mk (show Kd.R (Kd.int .u8) 5 _ _ _ _ (rd_L2 t140 x43_3) from ge144_0)
                          clear hv144_0 ge144_0
                          clear hcc144 hce144
                          have HR144_0 := Aside0.mk hi144_0
                          have HC144_0 := Aside0.mk hl144_0
                          clear hi144_0 hl144_0
                          replace p144 := eq_true p144
                          replace q144 := eq_true q144
                          have p145 : 0 ≤ (x43_3 : Int) := of_decide_eq_true (by first | (with_reducible assumption) | assumption)
                          have q145 : x43_3 < (t140.length : Int) := of_decide_eq_true (by first | (with_reducible assumption) | assumption)
                          obtain ⟨ad145, A145_0, c145_0, e145, hx145_0, hl145_0, hi145_0⟩ := at_L2 (Kd.S_reads' HO_5.out).2.2 x43_3 p145 q145
                          obtain rfl : ad144 = ad145 := (by injection e145)
                          obtain ⟨ce145, hce145, hMe145, hcc145⟩ := Kd.S_get HO_5.out [] x43_3 p145 (by first | exact q145 | exact of_decide_eq_true (by first | (with_reducible assumption) | assumption) | (have e_ := (Kd.S_reads' HO_5.out).1; omega))
                          obtain ⟨ve145_0, rfl, ge145_0⟩ := hMe145
                          have hv145_0 := hcc145 0 _ rfl
                          rw [Nat.add_zero, show ((Kd.slice 5 (Kd.int .u8))).sz = 1 from rfl, Nat.mul_one] at hv145_0
                          replace hv145_0 := Option.some.inj (hv145_0.symm.trans hx145_0)
                          rw [hv145_0] at ge145_0
                          have HL145_0 := Aside0.mk (show Kd.R (Kd.int .u8) 5 _ _ _ _ (rd_L2 t140 x43_3) from ge145_0)
                          clear hv145_0 ge145_0
                          clear hcc145 hce145
                          have HR145_0 := Aside0.mk hi145_0
                          have HC145_0 := Aside0.mk hl145_0
                          clear hi145_0 hl145_0
                          replace p145 := eq_true p145
                          replace q145 := eq_true q145
                          have ea_ := Option.some.inj (hx144_0.symm.trans hx145_0)
                          injection ea_ with ea_ en_ ec_
                          subst ea_
                          subst ec_
                          clear en_
                          go_wp2
                          (try simp only [Act.put, List.setIfInBounds_toArray, List.set_cons_zero, List.set_cons_succ])
                          go_loopg [8, 58] k3 (fun kq v8 v58 w' => ∃ (x8_4 : Int) (x58_4 : Int), v8 = .int .u8 x8_4 ∧ v58 = .int .i64 x58_4 ∧ Aside0 (laws_FnVandermonde.l1 kq a1 t140 x43_3 x8_4 (t140.length : Int) x43_3 (rd_L2 t140 x43_3) ((rd_L2 t140 x43_3).length : Int) x58_4 = some r) ∧ Aside0 (kq ≤ k3) ∧ Aside0 (Kd.S (Kd.slice 5 (Kd.int .u8)) 24 w' w.heap.size (fun _ => True) (.slice (some ad144) t140.length co14) t140) ∧ Aside0 (Kd.C (Kd.int .u8) w' A144_0 (rd_L2 t140 x43_3).length (rd_L2 t140 x43_3)) ∧ Aside0 (Kd.C (Kd.int .u8) w' A144_0 (rd_L2 t140 x43_3).length (rd_L2 t140 x43_3)) ∧ Aside0 (Below w.heap.size w w'))
                          case atStart => exact ⟨(1), (0), (by first | rfl | (simp; done) | (simp [*]; done)), (by first | rfl | (simp; done) | (simp [*]; done)), H', ⟨Nat.le_refl _⟩, ⟨by (with_reducible repeat (first | apply Kd.S_alloc | apply Kd.S_drewN | apply Kd.S_drew)); exact HO_5.out⟩, ⟨by repeat (first | (with_reducible exact HR144_0.out) | (with_reducible refine Kd.C_alloc ?_ _) | (with_reducible refine Kd.C_drewN ?_ _) | (with_reducible refine Kd.C_drew ?_) | exact HR144_0.out)⟩, ⟨by repeat (first | (with_reducible exact HR145_0.out) | (with_reducible refine Kd.C_alloc ?_ _) | (with_reducible refine Kd.C_drewN ?_ _) | (with_reducible refine Kd.C_drew ?_) | exact HR145_0.out)⟩, ⟨by repeat (first | (with_reducible first | exact HB.out | apply below_alloc | apply pw_below_drewN | apply below_drew1) | exact HB.out)⟩⟩
                          case round =>
                            clear H'
                            try clear c1
                            try clear p1
                            try clear q1
                            try clear hx1
                            try clear p2
                            try clear c6
                            try clear c6b0
                            try clear c7
                            try clear c7b0
                            try clear c8
                            try clear c8b0
                            try clear c9
                            try clear c11
                            try clear c13
                            try clear c14
                            try clear p14
                            try clear q14
                            try clear hx14
                            try clear c15
                            try clear c15b0
                            try clear c16
                            try clear c16b0
                            try clear c17
                            try clear c17b0
                            try clear c18
                            try clear c18b0
                            try clear c18b1
                            try clear hx144_0
                            try clear hx145_0
                            try clear p144
                            try clear p145
                            try clear p2
                            try clear q144
                            try clear q145
                            obtain ⟨x8_4, x58_4, rfl, rfl, HA, HK4, HO_5, HR144_0, HR145_0, HB⟩ := hrel
                            cases gk with
                            | zero => exact absurd HA.out (by simp [laws_FnVandermonde.l1])
                            | succ k4 =>
                              have H := HA.out
                              clear HA
                              simp only [laws_FnVandermonde.l1] at H
                              by_cases c19 : x58_4 < ((rd_L2 t140 x43_3).length : Int)
                              · rw [if_pos c19] at H
                                have c19b0 : decide (x58_4 < ((rd_L2 t140 x43_3).length : Int)) = true := decide_eq_true c19
                                clear c19
                                by_cases c20 : 0 ≤ x58_4
                                · rw [if_pos c20] at H
                                  have c20b0 : decide (0 ≤ x58_4) = true := decide_eq_true c20
                                  clear c20
                                  by_cases c21 : x58_4 < ((rd_L2 t140 x43_3).length : Int)
                                  · rw [if_pos c21] at H
                                    have c21b0 : decide (x58_4 < ((rd_L2 t140 x43_3).length : Int)) = true := decide_eq_true c21
                                    clear c21
                                    by_cases c22 : (rd (rd_L2 t140 x43_3) x58_4) = x8_4
                                    · rw [if_pos c22] at H
                                      have c22b0 : ((rd (rd_L2 t140 x43_3) x58_4) == x8_4) = true := beq_iff_eq.mpr c22
                                      have c22b1 : ((rd (rd_L2 t140 x43_3) x58_4) != x8_4) = false := bne_eq_false_iff_eq.mpr c22
                                      clear c22
                                      replace H := Option.bind_eq_some_iff.mp H
                                      obtain ⟨t147, A230, H⟩ := H
                                      replace H : (laws_FnVandermonde.l1 k4 a1 t140 x43_3 t147 (t140.length : Int) x43_3 (rd_L2 t140 x43_3) ((rd_L2 t140 x43_3).length : Int) (wrap64 (x58_4 + 1))) = some r := H
                                      have A23 := Aside0.mk A230
                                      clear A230
                                      have H' := Aside0.mk H
                                      clear H
                                      have p146 : 0 ≤ (x58_4 : Int) := of_decide_eq_true (by first | (with_reducible assumption) | assumption)
                                      have q146 : x58_4 < ((rd_L2 t140 x43_3).length : Int) := of_decide_eq_true (by first | (with_reducible assumption) | assumption)
                                      obtain ⟨ad146, e146, hx146_0⟩ := Kd.at_int HR145_0.out x58_4 p146 q146
                                      cases e146
                                      (try replace hx146_0 := (HB.out.cell (World.block_lt_of_cell? w _ hx146_0)).trans hx146_0)
                                      replace p146 := eq_true p146
                                      replace q146 := eq_true q146
                                      go_wp2_with (first | ((with_reducible refine gate_callee (f := 15) rfl ?_); refine goesL_ (some 68) rfl rfl Tryd.func15 (by kernel_rfl) rfl #[.int .u8 x8_4, .int .u8 ((x43_3) % 256)] rfl (by (try simp only [List.map_toArray, List.map_cons, List.map_nil]); first | done | rfl | (simp only [List.length_drop, List.length_take]; rfl)) ?_; (with_reducible refine (spec_Mul.calls k4 x8_4 ((x43_3) % 256) t147 _ A23.out).mono ?_); rintro e w' ⟨rfl, ⟨nd, rfl⟩⟩; refine ⟨_, rfl, ?_⟩))
                                      go_roundg k4
                                      case measure => have := HJ3.out; have := HJ9.out; have := HK3.out; have := HK4.out; omega
                                      case rel => exact ⟨(t147), (wrap64 (x58_4 + 1)), (by first | rfl | (simp; done) | (simp [*]; done)), (by first | rfl | (simp; done) | (simp [*]; done)), H', ⟨by have := HJ3.out; have := HJ9.out; have := HK3.out; have := HK4.out; omega⟩, ⟨by (with_reducible repeat (first | apply Kd.S_alloc | apply Kd.S_drewN | apply Kd.S_drew)); exact HO_5.out⟩, ⟨by repeat (first | (with_reducible exact HR144_0.out) | (with_reducible refine Kd.C_alloc ?_ _) | (with_reducible refine Kd.C_drewN ?_ _) | (with_reducible refine Kd.C_drew ?_) | exact HR144_0.out)⟩, ⟨by repeat (first | (with_reducible exact HR145_0.out) | (with_reducible refine Kd.C_alloc ?_ _) | (with_reducible refine Kd.C_drewN ?_ _) | (with_reducible refine Kd.C_drew ?_) | exact HR145_0.out)⟩, ⟨by repeat (first | (with_reducible first | exact HB.out | apply below_alloc | apply pw_below_drewN | apply below_drew1) | exact HB.out)⟩⟩
                                    · rw [if_neg c22] at H
                                      have c22b0 : ((rd (rd_L2 t140 x43_3) x58_4) == x8_4) = false := beq_eq_false_iff_ne.mpr c22
                                      have c22b1 : ((rd (rd_L2 t140 x43_3) x58_4) != x8_4) = true := bne_iff_ne.mpr c22
                                      obtain rfl := Option.some.inj H
                                      have p146 : 0 ≤ (x58_4 : Int) := of_decide_eq_true (by first | (with_reducible assumption) | assumption)
                                      have q146 : x58_4 < ((rd_L2 t140 x43_3).length : Int) := of_decide_eq_true (by first | (with_reducible assumption) | assumption)
                                      obtain ⟨ad146, e146, hx146_0⟩ := Kd.at_int HR145_0.out x58_4 p146 q146
                                      cases e146
                                      (try replace hx146_0 := (HB.out.cell (World.block_lt_of_cell? w _ hx146_0)).trans hx146_0)
                                      replace p146 := eq_true p146
                                      replace q146 := eq_true q146
                                      go_wp2
                                      go_ret
                                      exact ⟨by first | rfl | (simp [errW_none, errW_some] <;> rfl) | (simp [*, errW_none, errW_some] <;> rfl), by repeat (first | (with_reducible first | exact HB.out | apply below_alloc | apply pw_below_drewN | apply below_drew1) | exact HB.out)⟩
                                  · rw [if_neg c21] at H
                                    exact absurd H (by simp)
                                · rw [if_neg c20] at H
                                  exact absurd H (by simp)
                              · rw [if_neg c19] at H
                                have c19b0 : decide (x58_4 < ((rd_L2 t140 x43_3).length : Int)) = false := decide_eq_false c19
                                clear c19
                                have H' := Aside0.mk H
                                clear H
                                go_wp2
                                go_roundg k4
                                case measure => have := HJ3.out; have := HJ9.out; have := HK3.out; have := HK4.out; omega
                                case rel => exact ⟨(wrap64 (x43_3 + 1)), (by first | rfl | (simp; done) | (simp [*]; done)), H', ⟨by have := HJ3.out; have := HJ9.out; have := HK3.out; have := HK4.out; omega⟩, ⟨by (with_reducible repeat (first | apply Kd.S_alloc | apply Kd.S_drewN | apply Kd.S_drew)); exact HO_5.out⟩, ⟨by repeat (first | (with_reducible first | exact HB.out | apply below_alloc | apply pw_below_drewN | apply below_drew1) | exact HB.out)⟩⟩
                        · rw [if_neg c18] at H
                          have c18b0 : (((rd_L2 t140 x43_3).length : Int) == a1) = false := beq_eq_false_iff_ne.mpr c18
                          have c18b1 : (((rd_L2 t140 x43_3).length : Int) != a1) = true := bne_iff_ne.mpr c18
                          obtain rfl := Option.some.inj H
                          have p144 : 0 ≤ (x43_3 : Int) := of_decide_eq_true (by first | (with_reducible assumption) | assumption)
                          have q144 : x43_3 < (t140.length : Int) := of_decide_eq_true (by first | (with_reducible assumption) | assumption)
                          obtain ⟨ad144, A144_0, c144_0, e144, hx144_0, hl144_0, hi144_0⟩ := at_L2 (Kd.S_reads' HO_5.out).2.2 x43_3 p144 q144
                          cases e144
                          obtain ⟨ce144, hce144, hMe144, hcc144⟩ := Kd.S_get HO_5.out [] x43_3 p144 (by first | exact q144 | exact of_decide_eq_true (by first | (with_reducible assumption) | assumption) | (have e_ := (Kd.S_reads' HO_5.out).1; omega))
                          obtain ⟨ve144_0, rfl, ge144_0⟩ := hMe144
                          have hv144_0 := hcc144 0 _ rfl
                          rw [Nat.add_zero, show ((Kd.slice 5 (Kd.int .u8))).sz = 1 from rfl, Nat.mul_one] at hv144_0
                          replace hv144_0 := Option.some.inj (hv144_0.symm.trans hx144_0)
                          rw [hv144_0] at ge144_0
                          have HL144_0 := Aside0.mk (show Kd.R (Kd.int .u8) 5 _ _ _ _ (rd_L2 t140 x43_3) from ge144_0)
                          clear hv144_0 ge144_0
                          clear hcc144 hce144
                          have HR144_0 := Aside0.mk hi144_0
                          have HC144_0 := Aside0.mk hl144_0
                          clear hi144_0 hl144_0
                          replace p144 := eq_true p144
                          replace q144 := eq_true q144
                          go_wp2
                          go_ret
                          exact ⟨by first | rfl | (simp [errW_none, errW_some] <;> rfl) | (simp [*, errW_none, errW_some] <;> rfl), by repeat (first | (with_reducible first | exact HB.out | apply below_alloc | apply pw_below_drewN | apply below_drew1) | exact HB.out)⟩
                      · rw [if_neg c17] at H
                        exact absurd H (by simp)
                    · rw [if_neg c16] at H
                      exact absurd H (by simp)
                  · rw [if_neg c15] at H
                    have c15b0 : decide (x43_3 < (t140.length : Int)) = false := decide_eq_false c15
                    clear c15
                    obtain rfl := Option.some.inj H
                    go_wp2
                    go_ret
                    exact ⟨by first | rfl | (simp [errW_none, errW_some] <;> rfl) | (simp [*, errW_none, errW_some] <;> rfl), by repeat (first | (with_reducible first | exact HB.out | apply below_alloc | apply pw_below_drewN | apply below_drew1) | exact HB.out)⟩

/-- THE ONE PURE STATEMENT of laws_FnVandermonde: yours. -/
def laws_FnVandermonde.Pure : Prop := ∀ (a0 : Int) (a1 : Int), (Lit.int .i64 a0).wf = true → (Lit.int .i64 a1).wf = true → ∃ k, laws_FnVandermonde.f k a0 a1 = some true
theorem laws_FnVandermonde.walk (P : laws_FnVandermonde.Pure) (a0 : Int) (a1 : Int) (w : World) (HG_ : Glob w) (w0 : (Lit.int .i64 a0).wf = true) (w1 : (Lit.int .i64 a1).wf = true) :
    Calls Tryd.prog 6 #[.int .i64 a0, .int .i64 a1] w fun e w' => e = .returned (.bool true) ∧ Below w.heap.size w w' := by
  obtain ⟨k, h⟩ := P a0 a1 w0 w1
  refine (laws_FnVandermonde.calls k a0 a1 true w HG_ h).mono ?_
  rintro e w' ⟨rfl, hd⟩
  exact ⟨rfl, hd⟩

end Go.Proofs.YtpjfokolbgcbhaaDoor.Qv
