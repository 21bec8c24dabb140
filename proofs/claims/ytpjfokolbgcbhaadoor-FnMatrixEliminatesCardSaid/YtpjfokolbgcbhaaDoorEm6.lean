-- Written by wip/tools/myprint.py for this seat (the kit's print with changes); Lean checks it.
import Derived.Test.YtpjfokolbgcbhaaDoorEm0
namespace Go.Proofs.YtpjfokolbgcbhaaDoor.Qm
open Go.RowKit Go.Proofs.YtpjfokolbgcbhaaDoorW.PrintWords Go.Proofs.YtpjfokolbgcbhaaDoorW.PrintLast Go.Proofs.YtpjfokolbgcbhaaDoorW.PrintMore
attribute [local go_sem] max2_int min2_int max_two min_two max_three min_three max_four min_four   -- for this text's walks alone
set_option linter.unusedVariables false
set_option linter.unusedSimpArgs false

/-! ### spec_remainder: function 32 -/
def spec_remainder.l0 : Nat → Int → Int → Int → Int → Option (Int)
  | 0, _, _, _, _ => none
  | k + 1, x0, x1, x2, x7 => if x7 ≥ x2 then (if 0 ≤ x7 then (if (Go.bits .and .u64 (shr .u64 x0 x7) 1) = 1 then (if 0 ≤ (wrap64 (x7 - x2)) then (spec_remainder.l0 k (Go.bits .xor .u64 x0 (shl .u64 x1 (wrap64 (x7 - x2)))) x1 x2 (wrap64 (x7 - 1))) else (none)) else (spec_remainder.l0 k x0 x1 x2 (wrap64 (x7 - 1)))) else (none)) else (some x0)
def spec_remainder.f (k : Nat) (a0 : Int) (a1 : Int) (a2 : Int) : Option (Int) := spec_remainder.l0 k a0 a1 a2 63
theorem spec_remainder.mono_l : ∀ k, (∀ y0 y1 y2 y3, LeO (spec_remainder.l0 k y0 y1 y2 y3) (spec_remainder.l0 (k + 1) y0 y1 y2 y3))
  | 0 => fun _ _ _ _ r h => by simp [spec_remainder.l0] at h
  | k + 1 => by
    have ih0 := spec_remainder.mono_l k
    · intro y0 y1 y2 y3
      unfold spec_remainder.l0
      repeat' first
      | (with_reducible exact ih0 _ _ _ _)
      | (with_reducible exact LeO.refl _)
      | (with_reducible exact LeO.none _)
      | (with_reducible refine LeO.ite ?_ ?_)
      | (with_reducible refine LeO.bind ?_ (fun _ => ?_))
      | exact ih0 _ _ _ _
      | exact LeO.none _
      | refine LeO.ite ?_ ?_
      | refine LeO.bind ?_ (fun _ => ?_)
theorem spec_remainder.mono : ∀ a0 a1 a2 k, LeO (spec_remainder.f k a0 a1 a2) (spec_remainder.f (k + 1) a0 a1 a2) := by
  intro a0 a1 a2 k
  have ih0 := spec_remainder.mono_l k
  unfold spec_remainder.f
  repeat' first
      | (with_reducible exact ih0 _ _ _ _)
      | (with_reducible exact LeO.refl _)
      | (with_reducible exact LeO.none _)
      | (with_reducible refine LeO.ite ?_ ?_)
      | (with_reducible refine LeO.bind ?_ (fun _ => ?_))
      | exact ih0 _ _ _ _
      | exact LeO.none _
      | refine LeO.ite ?_ ?_
      | refine LeO.bind ?_ (fun _ => ?_)
set_option maxHeartbeats 8000000 in
set_option maxRecDepth 100000 in
theorem spec_remainder.calls (k : Nat) (a0 : Int) (a1 : Int) (a2 : Int) (r : Int) (w : World) (h : spec_remainder.f k a0 a1 a2 = some r) :
    Calls Tryd.prog 32 #[.int .u64 a0, .int .u64 a1, .int .i64 a2] w fun e w' => e = .returned (.int .u64 r) ∧ Drawn0 w w' := by
  have H : (spec_remainder.l0 k a0 a1 a2 63) = some r := h
  clear h
  have H' := Aside0.mk H
  clear H
  go_enter Tryd.func32, Tryd.ntmps32
  go_wp2
  (try simp only [Act.put, List.setIfInBounds_toArray, List.set_cons_zero, List.set_cons_succ])
  go_loopg [0, 7] k (fun kq v0 v7 w' => ∃ (x0_1 : Int) (x7_1 : Int), v0 = .int .u64 x0_1 ∧ v7 = .int .i64 x7_1 ∧ Aside0 (spec_remainder.l0 kq x0_1 a1 a2 x7_1 = some r) ∧ Aside0 (kq ≤ k) ∧ Drawn0 w w')
  case atStart => exact ⟨(a0), (63), (by first | rfl | (simp; done) | (simp [*]; done)), (by first | rfl | (simp; done) | (simp [*]; done)), H', ⟨Nat.le_refl _⟩, by repeat (first | exact Drawn0.refl _ | apply Drawn0.step)⟩
  case round =>
    clear H'
    try clear p2
    try clear c3
    obtain ⟨x0_1, x7_1, rfl, rfl, HA, HK1, ⟨m1, rfl⟩⟩ := hrel
    cases gk with
    | zero => exact absurd HA.out (by simp [spec_remainder.l0])
    | succ k1 =>
      have H := HA.out
      clear HA
      simp only [spec_remainder.l0] at H
      by_cases c4 : x7_1 ≥ a2
      · rw [if_pos c4] at H
        have c4b0 : decide (a2 ≤ x7_1) = true := decide_eq_true c4
        clear c4
        by_cases c5 : 0 ≤ x7_1
        · rw [if_pos c5] at H
          have c5b0 := eq_true c5
          have c5b1 : decide (0 ≤ x7_1) = true := decide_eq_true c5
          clear c5
          obtain ⟨ji6, hji6⟩ : ∃ j_ : Int, (shr .u64 x0_1 x7_1) = j_ := ⟨_, rfl⟩
          replace H : (if (Go.bits .and .u64 (ji6) 1) = 1 then (if 0 ≤ (wrap64 (x7_1 - a2)) then (spec_remainder.l0 k1 (Go.bits .xor .u64 x0_1 (shl .u64 a1 (wrap64 (x7_1 - a2)))) a1 a2 (wrap64 (x7_1 - 1))) else (none)) else (spec_remainder.l0 k1 x0_1 a1 a2 (wrap64 (x7_1 - 1)))) = some r := by first | (rw [hji6] at H; exact H) | (simp only [hji6] at H ⊢; exact H)
          have hji6_ : (x0_1 / 2 ^ min x7_1.toNat 64) = ji6 := hji6
          have hji6z : x7_1 ≤ 64 → (x0_1 / 2 ^ x7_1.toNat) = ji6 := shr_small hji6
          by_cases c7 : (Go.bits .and .u64 (ji6) 1) = 1
          · rw [if_pos c7] at H
            have c7b0 : ((Go.bits .and .u64 (ji6) 1) == 1) = true := beq_iff_eq.mpr c7
            have c7b1 : ((Go.bits .and .u64 (ji6) 1) != 1) = false := bne_eq_false_iff_eq.mpr c7
            clear c7
            obtain ⟨ji8, hji8⟩ : ∃ j_ : Int, (wrap64 (x7_1 - a2)) = j_ := ⟨_, rfl⟩
            replace H : (if 0 ≤ (ji8) then (spec_remainder.l0 k1 (Go.bits .xor .u64 x0_1 (shl .u64 a1 (ji8))) a1 a2 (wrap64 (x7_1 - 1))) else (none)) = some r := by first | (rw [hji8] at H; exact H) | (simp only [hji8] at H ⊢; exact H)
            have hji8w : (IntKind.i64.wrap (x7_1 - a2)) = ji8 := (i64_w _).trans hji8
            by_cases c9 : 0 ≤ (ji8)
            · rw [if_pos c9] at H
              have c9b0 := eq_true c9
              have c9b1 : decide (0 ≤ (ji8)) = true := decide_eq_true c9
              clear c9
              obtain ⟨ji10, hji10⟩ : ∃ j_ : Int, (shl .u64 a1 (ji8)) = j_ := ⟨_, rfl⟩
              replace H : (spec_remainder.l0 k1 (Go.bits .xor .u64 x0_1 (ji10)) a1 a2 (wrap64 (x7_1 - 1))) = some r := by first | (rw [hji10] at H; exact H) | (simp only [hji10] at H ⊢; exact H)
              have hji10_ : (IntKind.u64.wrap (a1 * 2 ^ min (ji8).toNat 64)) = ji10 := hji10
              have hji10z : (ji8) ≤ 64 → (IntKind.u64.wrap (a1 * 2 ^ (ji8).toNat)) = ji10 := shl_small hji10
              have H' := Aside0.mk H
              clear H
              go_wp2
              go_roundg k1
              case measure => have := HK1.out; omega
              case rel => exact ⟨(Go.bits .xor .u64 x0_1 (ji10)), (wrap64 (x7_1 - 1)), (by first | rfl | (simp; done) | (simp only [← hji10] <;> (first | rfl | simp)) | (simp [*]; done)), (by first | rfl | (simp; done) | (simp [*]; done)), H', ⟨by have := HK1.out; omega⟩, by repeat (first | exact Drawn0.refl _ | apply Drawn0.step)⟩
            · rw [if_neg c9] at H
              exact absurd H (by simp)
          · rw [if_neg c7] at H
            have c7b0 : ((Go.bits .and .u64 (ji6) 1) == 1) = false := beq_eq_false_iff_ne.mpr c7
            have c7b1 : ((Go.bits .and .u64 (ji6) 1) != 1) = true := bne_iff_ne.mpr c7
            have H' := Aside0.mk H
            clear H
            go_wp2
            go_roundg k1
            case measure => have := HK1.out; omega
            case rel => exact ⟨(x0_1), (wrap64 (x7_1 - 1)), (by first | rfl | (simp; done) | (simp [*]; done)), (by first | rfl | (simp; done) | (simp [*]; done)), H', ⟨by have := HK1.out; omega⟩, by repeat (first | exact Drawn0.refl _ | apply Drawn0.step)⟩
        · rw [if_neg c5] at H
          exact absurd H (by simp)
      · rw [if_neg c4] at H
        have c4b0 : decide (a2 ≤ x7_1) = false := decide_eq_false c4
        clear c4
        obtain rfl := Option.some.inj H
        go_wp2
        go_ret
        exact ⟨by first | rfl | (simp; done) | (simp [*]; done), by repeat (first | exact Drawn0.refl _ | apply Drawn0.step)⟩

/-! ### spec_product: function 33 -/
def spec_product.l0 : Nat → Int → Int → Int → Int → Option (Int)
  | 0, _, _, _, _ => none
  | k + 1, x0, x1, x5, x6 => if x6 < 32 then (if 0 ≤ x6 then (if (Go.bits .and .u32 (shr .u32 x1 x6) 1) = 1 then (spec_product.l0 k x0 x1 (Go.bits .xor .u64 x5 (shl .u64 (IntKind.u64.wrap (x0)) x6)) (wrap64 (x6 + 1))) else (spec_product.l0 k x0 x1 x5 (wrap64 (x6 + 1)))) else (none)) else (some x5)
def spec_product.f (k : Nat) (a0 : Int) (a1 : Int) : Option (Int) := spec_product.l0 k a0 a1 0 0
theorem spec_product.mono_l : ∀ k, (∀ y0 y1 y2 y3, LeO (spec_product.l0 k y0 y1 y2 y3) (spec_product.l0 (k + 1) y0 y1 y2 y3))
  | 0 => fun _ _ _ _ r h => by simp [spec_product.l0] at h
  | k + 1 => by
    have ih0 := spec_product.mono_l k
    · intro y0 y1 y2 y3
      unfold spec_product.l0
      repeat' first
      | (with_reducible exact ih0 _ _ _ _)
      | (with_reducible exact LeO.refl _)
      | (with_reducible exact LeO.none _)
      | (with_reducible refine LeO.ite ?_ ?_)
      | (with_reducible refine LeO.bind ?_ (fun _ => ?_))
      | exact ih0 _ _ _ _
      | exact LeO.none _
      | refine LeO.ite ?_ ?_
      | refine LeO.bind ?_ (fun _ => ?_)
theorem spec_product.mono : ∀ a0 a1 k, LeO (spec_product.f k a0 a1) (spec_product.f (k + 1) a0 a1) := by
  intro a0 a1 k
  have ih0 := spec_product.mono_l k
  unfold spec_product.f
  repeat' first
      | (with_reducible exact ih0 _ _ _ _)
      | (with_reducible exact LeO.refl _)
      | (with_reducible exact LeO.none _)
      | (with_reducible refine LeO.ite ?_ ?_)
      | (with_reducible refine LeO.bind ?_ (fun _ => ?_))
      | exact ih0 _ _ _ _
      | exact LeO.none _
      | refine LeO.ite ?_ ?_
      | refine LeO.bind ?_ (fun _ => ?_)
set_option maxHeartbeats 8000000 in
set_option maxRecDepth 100000 in
theorem spec_product.calls (k : Nat) (a0 : Int) (a1 : Int) (r : Int) (w : World) (h : spec_product.f k a0 a1 = some r) :
    Calls Tryd.prog 33 #[.int .u32 a0, .int .u32 a1] w fun e w' => e = .returned (.int .u64 r) ∧ Drawn0 w w' := by
  have H : (spec_product.l0 k a0 a1 0 0) = some r := h
  clear h
  have H' := Aside0.mk H
  clear H
  go_enter Tryd.func33, Tryd.ntmps33
  go_wp2
  (try simp only [Act.put, List.setIfInBounds_toArray, List.set_cons_zero, List.set_cons_succ])
  go_loopg [5, 6] k (fun kq v5 v6 w' => ∃ (x5_1 : Int) (x6_1 : Int), v5 = .int .u64 x5_1 ∧ v6 = .int .i64 x6_1 ∧ Aside0 (spec_product.l0 kq a0 a1 x5_1 x6_1 = some r) ∧ Aside0 (kq ≤ k) ∧ Drawn0 w w')
  case atStart => exact ⟨(0), (0), (by first | rfl | (simp; done) | (simp [*]; done)), (by first | rfl | (simp; done) | (simp [*]; done)), H', ⟨Nat.le_refl _⟩, by repeat (first | exact Drawn0.refl _ | apply Drawn0.step)⟩
  case round =>
    clear H'
    try clear p2
    obtain ⟨x5_1, x6_1, rfl, rfl, HA, HK1, ⟨m1, rfl⟩⟩ := hrel
    cases gk with
    | zero => exact absurd HA.out (by simp [spec_product.l0])
    | succ k1 =>
      have H := HA.out
      clear HA
      simp only [spec_product.l0] at H
      by_cases c3 : x6_1 < 32
      · rw [if_pos c3] at H
        have c3b0 : decide (x6_1 < 32) = true := decide_eq_true c3
        clear c3
        by_cases c4 : 0 ≤ x6_1
        · rw [if_pos c4] at H
          have c4b0 := eq_true c4
          have c4b1 : decide (0 ≤ x6_1) = true := decide_eq_true c4
          clear c4
          obtain ⟨ji5, hji5⟩ : ∃ j_ : Int, (shr .u32 a1 x6_1) = j_ := ⟨_, rfl⟩
          replace H : (if (Go.bits .and .u32 (ji5) 1) = 1 then (spec_product.l0 k1 a0 a1 (Go.bits .xor .u64 x5_1 (shl .u64 (IntKind.u64.wrap (a0)) x6_1)) (wrap64 (x6_1 + 1))) else (spec_product.l0 k1 a0 a1 x5_1 (wrap64 (x6_1 + 1)))) = some r := by first | (rw [hji5] at H; exact H) | (simp only [hji5] at H ⊢; exact H)
          have hji5_ : (a1 / 2 ^ min x6_1.toNat 32) = ji5 := hji5
          have hji5z : x6_1 ≤ 32 → (a1 / 2 ^ x6_1.toNat) = ji5 := shr_small hji5
          by_cases c6 : (Go.bits .and .u32 (ji5) 1) = 1
          · rw [if_pos c6] at H
            have c6b0 : ((Go.bits .and .u32 (ji5) 1) == 1) = true := beq_iff_eq.mpr c6
            have c6b1 : ((Go.bits .and .u32 (ji5) 1) != 1) = false := bne_eq_false_iff_eq.mpr c6
            clear c6
            have c7b0 := eq_true (of_decide_eq_true (by first | (with_reducible assumption) | assumption) : 0 ≤ x6_1)
            obtain ⟨ji8, hji8⟩ : ∃ j_ : Int, (shl .u64 (IntKind.u64.wrap (a0)) x6_1) = j_ := ⟨_, rfl⟩
            replace H : (spec_product.l0 k1 a0 a1 (Go.bits .xor .u64 x5_1 (ji8)) (wrap64 (x6_1 + 1))) = some r := by first | (rw [hji8] at H; exact H) | (simp only [hji8] at H ⊢; exact H)
            have hji8_ : (IntKind.u64.wrap ((IntKind.u64.wrap (a0)) * 2 ^ min x6_1.toNat 64)) = ji8 := hji8
            have hji8z : x6_1 ≤ 64 → (IntKind.u64.wrap ((IntKind.u64.wrap (a0)) * 2 ^ x6_1.toNat)) = ji8 := shl_small hji8
            have H' := Aside0.mk H
            clear H
            go_wp2
            go_roundg k1
            case measure => have := HK1.out; omega
            case rel => exact ⟨(Go.bits .xor .u64 x5_1 (ji8)), (wrap64 (x6_1 + 1)), (by first | rfl | (simp; done) | (simp only [← hji8] <;> (first | rfl | simp)) | (simp [*]; done)), (by first | rfl | (simp; done) | (simp [*]; done)), H', ⟨by have := HK1.out; omega⟩, by repeat (first | exact Drawn0.refl _ | apply Drawn0.step)⟩
          · rw [if_neg c6] at H
            have c6b0 : ((Go.bits .and .u32 (ji5) 1) == 1) = false := beq_eq_false_iff_ne.mpr c6
            have c6b1 : ((Go.bits .and .u32 (ji5) 1) != 1) = true := bne_iff_ne.mpr c6
            have H' := Aside0.mk H
            clear H
            go_wp2
            go_roundg k1
            case measure => have := HK1.out; omega
            case rel => exact ⟨(x5_1), (wrap64 (x6_1 + 1)), (by first | rfl | (simp; done) | (simp [*]; done)), (by first | rfl | (simp; done) | (simp [*]; done)), H', ⟨by have := HK1.out; omega⟩, by repeat (first | exact Drawn0.refl _ | apply Drawn0.step)⟩
        · rw [if_neg c4] at H
          exact absurd H (by simp)
      · rw [if_neg c3] at H
        have c3b0 : decide (x6_1 < 32) = false := decide_eq_false c3
        clear c3
        obtain rfl := Option.some.inj H
        go_wp2
        go_ret
        exact ⟨by first | rfl | (simp; done) | (simp [*]; done), by repeat (first | exact Drawn0.refl _ | apply Drawn0.step)⟩

/-! ### spec_Mul: function 15 -/
def spec_Mul.f (k : Nat) (a0 : Int) (a1 : Int) : Option (Int) := (spec_product.f k ((a0) % 4294967296) ((a1) % 4294967296)).bind fun t263 => ((spec_remainder.f k t263 285 8).bind fun t264 => (some ((t264) % 256)))
theorem spec_Mul.mono : ∀ a0 a1 k, LeO (spec_Mul.f k a0 a1) (spec_Mul.f (k + 1) a0 a1) := by
  intro a0 a1 k
  unfold spec_Mul.f
  repeat' first
      | (with_reducible exact spec_product.mono _ _ _)
      | (with_reducible exact spec_remainder.mono _ _ _ _)
      | (with_reducible exact LeO.refl _)
      | (with_reducible exact LeO.none _)
      | (with_reducible refine LeO.ite ?_ ?_)
      | (with_reducible refine LeO.bind ?_ (fun _ => ?_))
      | exact spec_product.mono _ _ _
      | exact spec_remainder.mono _ _ _ _
      | exact LeO.none _
      | refine LeO.ite ?_ ?_
      | refine LeO.bind ?_ (fun _ => ?_)
set_option maxHeartbeats 8000000 in
set_option maxRecDepth 100000 in
theorem spec_Mul.calls (k : Nat) (a0 : Int) (a1 : Int) (r : Int) (w : World) (h : spec_Mul.f k a0 a1 = some r) :
    Calls Tryd.prog 15 #[.int .u8 a0, .int .u8 a1] w fun e w' => e = .returned (.int .u8 r) ∧ Drawn0 w w' := by
  have H : ((spec_product.f k ((a0) % 4294967296) ((a1) % 4294967296)).bind fun t263 => ((spec_remainder.f k t263 285 8).bind fun t264 => (some ((t264) % 256)))) = some r := h
  clear h
  replace H := Option.bind_eq_some_iff.mp H
  obtain ⟨t263, A30, H⟩ := H
  replace H : ((spec_remainder.f k t263 285 8).bind fun t264 => (some ((t264) % 256))) = some r := H
  have A3 := Aside0.mk A30
  clear A30
  replace H := Option.bind_eq_some_iff.mp H
  obtain ⟨t264, A40, H⟩ := H
  replace H : (some ((t264) % 256)) = some r := H
  have A4 := Aside0.mk A40
  clear A40
  obtain rfl := Option.some.inj H
  go_enter Tryd.func15, Tryd.ntmps15
  go_wp2_with (first | ((with_reducible refine gate_callee (f := 33) rfl ?_); refine goesL_ (some 9) rfl rfl Tryd.func33 (by kernel_rfl) rfl #[.int .u32 ((a0) % 4294967296), .int .u32 ((a1) % 4294967296)] rfl (by (try simp only [List.map_toArray, List.map_cons, List.map_nil]); first | done | rfl | (simp only [List.length_drop, List.length_take]; rfl)) ?_; (with_reducible refine (spec_product.calls k ((a0) % 4294967296) ((a1) % 4294967296) t263 _ A3.out).mono ?_); rintro e w' ⟨rfl, ⟨nd, rfl⟩⟩; refine ⟨_, rfl, ?_⟩) | ((with_reducible refine gate_callee (f := 32) rfl ?_); refine goesL_ (some 10) rfl rfl Tryd.func32 (by kernel_rfl) rfl #[.int .u64 t263, .int .u64 285, .int .i64 8] rfl (by (try simp only [List.map_toArray, List.map_cons, List.map_nil]); first | done | rfl | (simp only [List.length_drop, List.length_take]; rfl)) ?_; (with_reducible refine (spec_remainder.calls k t263 285 8 t264 _ A4.out).mono ?_); rintro e w' ⟨rfl, ⟨nd, rfl⟩⟩; refine ⟨_, rfl, ?_⟩))
  go_ret
  exact ⟨by first | rfl | (simp; done) | (simp [*]; done), by repeat (first | exact Drawn0.refl _ | apply Drawn0.step)⟩

/-! ### spec_Chosen: function 50 -/
def spec_Chosen.l0 : Nat → List (List Int) → List (List Int) → List Int → Int → Int → Option ((List (List Int)))
  | 0, _, _, _, _, _ => none
  | k + 1, x0, x5, x9, x10, x11 => if x11 < x10 then (if 0 ≤ x11 then (if x11 < (x9.length : Int) then ((some (([] : List Int) : List Int)).bind fun y269 => (if 0 ≤ (rd x9 x11) then (if (rd x9 x11) < (x0.length : Int) then (if y269.length + (rd_L1 x0 (rd x9 x11)).length < 140737488355328 then (if x5.length < 5864062014805 then (spec_Chosen.l0 k x0 (x5 ++ [(y269 ++ (rd_L1 x0 (rd x9 x11)))]) x9 x10 (wrap64 (x11 + 1))) else (none)) else (none)) else (none)) else (none))) else (none)) else (none)) else (some x5)
def spec_Chosen.f (k : Nat) (l0 : List (List Int)) (l1 : List Int) : Option ((List (List Int))) := spec_Chosen.l0 k l0 (([] : List (List Int))) l1 (l1.length : Int) 0
theorem spec_Chosen.mono_l : ∀ k, (∀ y0 y1 y2 y3 y4, LeO (spec_Chosen.l0 k y0 y1 y2 y3 y4) (spec_Chosen.l0 (k + 1) y0 y1 y2 y3 y4))
  | 0 => fun _ _ _ _ _ r h => by simp [spec_Chosen.l0] at h
  | k + 1 => by
    have ih0 := spec_Chosen.mono_l k
    · intro y0 y1 y2 y3 y4
      unfold spec_Chosen.l0
      repeat' first
      | (with_reducible exact ih0 _ _ _ _ _)
      | (with_reducible exact LeO.refl _)
      | (with_reducible exact LeO.none _)
      | (with_reducible refine LeO.ite ?_ ?_)
      | (with_reducible refine LeO.bind ?_ (fun _ => ?_))
      | exact ih0 _ _ _ _ _
      | exact LeO.none _
      | refine LeO.ite ?_ ?_
      | refine LeO.bind ?_ (fun _ => ?_)
theorem spec_Chosen.mono : ∀ a0 a1 k, LeO (spec_Chosen.f k a0 a1) (spec_Chosen.f (k + 1) a0 a1) := by
  intro a0 a1 k
  have ih0 := spec_Chosen.mono_l k
  unfold spec_Chosen.f
  repeat' first
      | (with_reducible exact ih0 _ _ _ _ _)
      | (with_reducible exact LeO.refl _)
      | (with_reducible exact LeO.none _)
      | (with_reducible refine LeO.ite ?_ ?_)
      | (with_reducible refine LeO.bind ?_ (fun _ => ?_))
      | exact ih0 _ _ _ _ _
      | exact LeO.none _
      | refine LeO.ite ?_ ?_
      | refine LeO.bind ?_ (fun _ => ?_)
set_option maxHeartbeats 8000000 in
set_option maxRecDepth 100000 in
theorem spec_Chosen.calls (k : Nat) (A0 : Option Addr) (c0 : Nat) (l0 : List (List Int)) (A1 : Option Addr) (c1 : Nat) (l1 : List Int) (r : List (List Int)) (w : World) (hr0 : Kd.C (Kd.slice 5 (Kd.int .u8)) w A0 l0.length l0) (hc0 : l0.length ≤ c0) (hr1 : Kd.C (Kd.int .i64) w A1 l1.length l1) (hc1 : l1.length ≤ c1) (h : spec_Chosen.f k l0 l1 = some r) :
    Calls Tryd.prog 50 #[.slice A0 l0.length c0, .slice A1 l1.length c1] w fun e w' => ∃ v0_ : Value, e = .returned (v0_) ∧ Kd.S (Kd.slice 5 (Kd.int .u8)) 24 w' w.heap.size (fun _ => True) v0_ r ∧ Below w.heap.size w w' := by
  have HR0 := Aside0.mk hr0
  have HC0 := Aside0.mk hc0
  clear hr0 hc0
  have HR1 := Aside0.mk hr1
  have HC1 := Aside0.mk hc1
  clear hr1 hc1
  have HB := Aside0.mk (Below.refl w.heap.size w)
  have H : (spec_Chosen.l0 k l0 (([] : List (List Int))) l1 (l1.length : Int) 0) = some r := h
  clear h
  obtain ⟨y265, hy265⟩ : ∃ y_ : List (List Int), y_ = (([] : List (List Int))) := ⟨_, rfl⟩
  replace H : (spec_Chosen.l0 k l0 y265 l1 (l1.length : Int) 0) = some r := by first | (rw [hy265]; with_reducible exact H) | (have H2_ := (Option.bind_some _ _).symm.trans H; rw [hy265]; with_reducible exact H2_) | (have H2_ := (Option.bind_some _ _).symm.trans H; with_reducible exact H2_) | with_reducible exact H | (rw [hy265]; exact H) | exact H
  have Ny265 := Aside0.mk hy265
  clear hy265
  have H' := Aside0.mk H
  clear H
  go_enter Tryd.func50, Tryd.ntmps50
  go_wp2_with (first | ((with_reducible refine gate_dst (N := 8) rfl ?_); refine Kd.S_lit (Kd.slice 5 (Kd.int .u8)) _ 24 ?hg (N := 8) ?hd (xs := ([] : List (List Int))) (inner := []) (ok := fun _ => True) (okp := fun _ => True) ?hr ?hp (fun _ hk => hk) trivial (Below.refl _ _) (Nat.le_refl _) (by simp) ?_; (case hd => rfl); (case hg => rfl); (case hr => first | (go_simp; done) | (go_simp; rfl)); (case hp => exact (Reps.none _ _)); intro v266 w3 ho4 hb hg_ hnew_; clear hg_ hnew_; (first | rw [← Ny265.out] at ho4 | (simp only [Int.reduceToNat] at ho4; rw [← Ny265.out] at ho4)); have n0_ := Aside0.mk (Kd.S_lower ho4 (below_size (by repeat (first | (with_reducible first | exact HB.out | apply below_alloc | apply pw_below_drewN | apply below_drew1) | exact HB.out)))); have n1_ := Aside0.mk (below_step (by repeat (first | (with_reducible first | exact HB.out | apply below_alloc | apply pw_below_drewN | apply below_drew1) | exact HB.out)) hb); clear HB; have HO267 := n0_; have HB := n1_; clear n0_ n1_; clear hb ho4))
  (try simp only [Act.put, List.setIfInBounds_toArray, List.set_cons_zero, List.set_cons_succ])
  go_loopg [5, 11] k (fun kq v5 v11 w' => ∃ (x5_1 : List (List Int)) (x11_1 : Int), v11 = .int .i64 x11_1 ∧ Aside0 (spec_Chosen.l0 kq l0 x5_1 l1 (l1.length : Int) x11_1 = some r) ∧ Aside0 (kq ≤ k) ∧ Aside0 (Kd.S (Kd.slice 5 (Kd.int .u8)) 24 w' w.heap.size (fun _ => True) v5 x5_1) ∧ Aside0 (Below w.heap.size w w'))
  case atStart => exact ⟨(y265), (0), (by first | rfl | (simp; done) | (simp [*]; done)), H', ⟨Nat.le_refl _⟩, ⟨by (with_reducible repeat (first | apply Kd.S_alloc | apply Kd.S_drewN | apply Kd.S_drew)); exact HO267.out⟩, ⟨by repeat (first | (with_reducible first | exact HB.out | apply below_alloc | apply pw_below_drewN | apply below_drew1) | exact HB.out)⟩⟩
  case round =>
    clear H'
    try clear c1
    try clear p2
    obtain ⟨x5_1, x11_1, rfl, HA, HK1, HO_5, HB⟩ := hrel
    cases gk with
    | zero => exact absurd HA.out (by simp [spec_Chosen.l0])
    | succ k1 =>
      have H := HA.out
      clear HA
      simp only [spec_Chosen.l0] at H
      by_cases c5 : x11_1 < (l1.length : Int)
      · rw [if_pos c5] at H
        have c5b0 : decide (x11_1 < (l1.length : Int)) = true := decide_eq_true c5
        clear c5
        by_cases c6 : 0 ≤ x11_1
        · rw [if_pos c6] at H
          have c6b0 : decide (0 ≤ x11_1) = true := decide_eq_true c6
          clear c6
          by_cases c7 : x11_1 < (l1.length : Int)
          · rw [if_pos c7] at H
            have c7b0 : decide (x11_1 < (l1.length : Int)) = true := decide_eq_true c7
            clear c7
            obtain ⟨y269, hy269⟩ : ∃ y_ : List Int, y_ = (([] : List Int)) := ⟨_, rfl⟩
            replace H : (if 0 ≤ (rd l1 x11_1) then (if (rd l1 x11_1) < (l0.length : Int) then (if y269.length + (rd_L1 l0 (rd l1 x11_1)).length < 140737488355328 then (if x5_1.length < 5864062014805 then (spec_Chosen.l0 k1 l0 (x5_1 ++ [(y269 ++ (rd_L1 l0 (rd l1 x11_1)))]) l1 (l1.length : Int) (wrap64 (x11_1 + 1))) else (none)) else (none)) else (none)) else (none)) = some r := by first | (rw [hy269]; with_reducible exact H) | (have H2_ := (Option.bind_some _ _).symm.trans H; rw [hy269]; with_reducible exact H2_) | (have H2_ := (Option.bind_some _ _).symm.trans H; with_reducible exact H2_) | with_reducible exact H | (rw [hy269]; exact H) | exact H
            have Ny269 := Aside0.mk hy269
            clear hy269
            by_cases c8 : 0 ≤ (rd l1 x11_1)
            · rw [if_pos c8] at H
              have c8b0 : decide (0 ≤ (rd l1 x11_1)) = true := decide_eq_true c8
              clear c8
              by_cases c9 : (rd l1 x11_1) < (l0.length : Int)
              · rw [if_pos c9] at H
                have c9b0 : decide ((rd l1 x11_1) < (l0.length : Int)) = true := decide_eq_true c9
                clear c9
                by_cases c10 : y269.length + (rd_L1 l0 (rd l1 x11_1)).length < 140737488355328
                · rw [if_pos c10] at H
                  have LMc10 := Aside0.mk c10
                  clear c10
                  obtain ⟨y273, hy273⟩ : ∃ y_ : List Int, y_ = (y269 ++ (rd_L1 l0 (rd l1 x11_1))) := ⟨_, rfl⟩
                  replace H : (if x5_1.length < 5864062014805 then (spec_Chosen.l0 k1 l0 (x5_1 ++ [y273]) l1 (l1.length : Int) (wrap64 (x11_1 + 1))) else (none)) = some r := by first | (rw [hy273]; with_reducible exact H) | (have H2_ := (Option.bind_some _ _).symm.trans H; rw [hy273]; with_reducible exact H2_) | (have H2_ := (Option.bind_some _ _).symm.trans H; with_reducible exact H2_) | with_reducible exact H | (rw [hy273]; exact H) | exact H
                  have Ny273 := Aside0.mk hy273
                  clear hy273
                  by_cases c11 : x5_1.length < 5864062014805
                  · rw [if_pos c11] at H
                    have LMc11 := Aside0.mk c11
                    clear c11
                    obtain ⟨y276, hy276⟩ : ∃ y_ : List (List Int), y_ = (x5_1 ++ [y273]) := ⟨_, rfl⟩
                    replace H : (spec_Chosen.l0 k1 l0 y276 l1 (l1.length : Int) (wrap64 (x11_1 + 1))) = some r := by first | (rw [hy276]; with_reducible exact H) | (have H2_ := (Option.bind_some _ _).symm.trans H; rw [hy276]; with_reducible exact H2_) | (have H2_ := (Option.bind_some _ _).symm.trans H; with_reducible exact H2_) | with_reducible exact H | (rw [hy276]; exact H) | exact H
                    have Ny276 := Aside0.mk hy276
                    clear hy276
                    have H' := Aside0.mk H
                    clear H
                    have p268 : 0 ≤ (x11_1 : Int) := of_decide_eq_true (by first | (with_reducible assumption) | assumption)
                    have q268 : x11_1 < (l1.length : Int) := of_decide_eq_true (by first | (with_reducible assumption) | assumption)
                    obtain ⟨ad268, e268, hx268_0⟩ := Kd.at_int HR1.out x11_1 p268 q268
                    cases e268
                    (try replace hx268_0 := (HB.out.cell (World.block_lt_of_cell? w _ hx268_0)).trans hx268_0)
                    replace p268 := eq_true p268
                    replace q268 := eq_true q268
                    go_wp2_with (first | ((with_reducible refine gate_dst (N := 16) rfl ?_); refine Kd.R_lit (Kd.int .u8) _ 5 ?hg (N := 16) ?hd (xs := ([] : List Int)) (inner := []) (ok := fun _ => True) (okp := fun _ => True) ?hr ?hp (fun _ hk => hk) trivial (Below.refl _ _) (Nat.le_refl _) (by simp) ?_; (case hd => rfl); (case hg => rfl); (case hr => first | (go_simp; done) | (go_simp; rfl)); (case hp => exact (Reps.none _ _)); intro v270 w12 ho13 hb hg_ hnew_; clear hg_ hnew_; (first | rw [← Ny269.out] at ho13 | (simp only [Int.reduceToNat] at ho13; rw [← Ny269.out] at ho13)); have n0_ := Aside0.mk (Kd.S_elder' (by (with_reducible repeat (first | apply Kd.S_alloc | apply Kd.S_drewN | apply Kd.S_drew)); exact HO_5.out) (Kd.R_base ho13) hb); have n1_ := Aside0.mk (Kd.R_lower ho13 (below_size (by repeat (first | (with_reducible first | exact HB.out | apply below_alloc | apply pw_below_drewN | apply below_drew1) | exact HB.out)))); have n2_ := Aside0.mk (below_step (by repeat (first | (with_reducible first | exact HB.out | apply below_alloc | apply pw_below_drewN | apply below_drew1) | exact HB.out)) hb); clear HO_5; clear HB; have HO_5 := n0_; have HO271 := n1_; have HB := n2_; clear n0_ n1_ n2_; clear hb ho13; have p272 : 0 ≤ ((rd l1 x11_1) : Int) := of_decide_eq_true (by first | (with_reducible assumption) | assumption); have q272 : (rd l1 x11_1) < (l0.length : Int) := of_decide_eq_true (by first | (with_reducible assumption) | assumption); obtain ⟨ad272, A272_0, c272_0, e272, hx272_0, hl272_0, hi272_0⟩ := at_L1 HR0.out (rd l1 x11_1) p272 q272; cases e272; replace hx272_0 := (HB.out.cell (World.block_lt_of_cell? w _ hx272_0)).trans hx272_0; have HR272_0 := Aside0.mk hi272_0; have HC272_0 := Aside0.mk hl272_0; clear hi272_0 hl272_0; replace p272 := eq_true p272; replace q272 := eq_true q272) | ((with_reducible refine gate_builtin (b := .append) (xs := #[.tmp 16, .tmp 20]) rfl ?_); at_builtin; refine Kd.R_append_rows (Kd.int .u8) (w0 := w) w.heap.size rfl (.tmp 16) (.tmp 20) 24 5 (.int .u8 0) 1 rfl Tryd.underlying24 info5 rfl (by decide) (by omega) v270 y269 (rd_L1 l0 (rd l1 x11_1)) _ _ _ (fun _ => True) (fun _ => False) rfl rfl ?aO ?aR (fun _ _ h => h) (fun _ h => h.elim) ?aF ?aB ?aS ?aL ?_; (case aR => repeat (first | exact (Kd.C_below HR272_0.out HB.out) | (with_reducible refine Kd.C_alloc ?_ _) | (with_reducible refine Kd.C_drewN ?_ _) | (with_reducible refine Kd.C_drew ?_))); (case aB => exact (by repeat (first | (with_reducible first | exact HB.out | apply below_alloc | apply pw_below_drewN | apply below_drew1) | exact HB.out))); (case aF => exact (fun _ _ => trivial)); (case aO => exact (by (with_reducible repeat (first | apply Kd.R_alloc | apply Kd.R_drewN | apply Kd.R_drew)); exact HO271.out)); (case aS => exact (below_size (by repeat (first | (with_reducible first | exact HB.out | apply below_alloc | apply pw_below_drewN | apply below_drew1) | exact HB.out)))); (case aL => have := LMc10.out; omega); intro v274 w14 ho hb hg hat; rw [← Ny273.out] at ho; have n0_ := Aside0.mk (Kd.S_after (ok := (fun _ => True)) (by (with_reducible repeat (first | apply Kd.S_alloc | apply Kd.S_drewN | apply Kd.S_drew)); exact HO_5.out) hg hat); have n1_ := Aside0.mk (hb); have n2_ := Aside0.mk (ho); clear HO_5; clear HB; clear HO271; have HO_5 := n0_; have HB := n1_; have HO275 := n2_; clear n0_ n1_ n2_; clear ho hb hg hat; obtain ⟨Ao16, co16, eo16⟩ := Kd.R_slice HO275.out; subst eo16) | ((with_reducible refine gate_builtin (b := .append) (xs := #[.tmp 15, .tmp 22]) rfl ?_); at_builtin; refine Kd.S_append (Kd.slice 5 (Kd.int .u8)) (w0 := w) w.heap.size rfl (.tmp 15) (.tmp 22) 30 24 (.slice none 0 0) 24 rfl Tryd.underlying30 info24 rfl (by decide) (by omega) u5 x5_1 y273 [.slice Ao16 y273.length co16] (fun _ => True) (fun k_ => some k_ = (.slice Ao16 y273.length co16 : Value).ownBlock) rfl rfl ?aP (fun k_ hk_ => ((Kd.R_mono (ok' := fun k_ => ((fun _ => True)) k_ ∧ some k_ ≠ (u5 : Value).ownBlock) (Kd.R_apart' (HO275.out) (Kd.S_typed HO_5.out) (by decide)) (fun k_ hk => ⟨trivial, hk.2⟩))).1 k_ hk_.symm) ?aF ?aO ?aB ?aS ?aL ?_; (case aP => exact Kd.M_row (Kd.R_mono (Kd.R_tight rfl (Kd.R_mono (ok' := fun k_ => ((fun _ => True)) k_ ∧ some k_ ≠ (u5 : Value).ownBlock) (Kd.R_apart' (HO275.out) (Kd.S_typed HO_5.out) (by decide)) (fun k_ hk => ⟨trivial, hk.2⟩))) (fun _ h_ => h_))); (case aB => exact (by repeat (first | (with_reducible first | exact HB.out | apply below_alloc | apply pw_below_drewN | apply below_drew1) | exact HB.out))); (case aF => exact (fun _ _ => trivial)); (case aO => exact (by (with_reducible repeat (first | apply Kd.S_alloc | apply Kd.S_drewN | apply Kd.S_drew)); exact Kd.S_mono HO_5.out (fun k_ hk => ⟨trivial, fun e_ => hk.2 e_⟩))); (case aS => exact (below_size (by repeat (first | (with_reducible first | exact HB.out | apply below_alloc | apply pw_below_drewN | apply below_drew1) | exact HB.out)))); (case aL => have := LMc11.out; omega); intro v277 w15 ho hb hg hat; rw [← Ny276.out] at ho; have n0_ := Aside0.mk (hb); have n1_ := Aside0.mk (ho); clear HB; clear HO_5; clear HO275; have HB := n0_; have HO278 := n1_; clear n0_ n1_; clear ho hb hg hat))
                    go_roundg k1
                    case measure => have := HK1.out; omega
                    case rel => exact ⟨(y276), (wrap64 (x11_1 + 1)), (by first | rfl | (simp; done) | (simp [*]; done)), H', ⟨by have := HK1.out; omega⟩, ⟨by (with_reducible repeat (first | apply Kd.S_alloc | apply Kd.S_drewN | apply Kd.S_drew)); exact HO278.out⟩, ⟨by repeat (first | (with_reducible first | exact HB.out | apply below_alloc | apply pw_below_drewN | apply below_drew1) | exact HB.out)⟩⟩
                  · rw [if_neg c11] at H
                    exact absurd H (by simp)
                · rw [if_neg c10] at H
                  exact absurd H (by simp)
              · rw [if_neg c9] at H
                exact absurd H (by simp)
            · rw [if_neg c8] at H
              exact absurd H (by simp)
          · rw [if_neg c7] at H
            exact absurd H (by simp)
        · rw [if_neg c6] at H
          exact absurd H (by simp)
      · rw [if_neg c5] at H
        have c5b0 : decide (x11_1 < (l1.length : Int)) = false := decide_eq_false c5
        clear c5
        obtain rfl := Option.some.inj H
        go_wp2
        go_ret
        exact ⟨_, by first | rfl | (simp [errW_none, errW_some] <;> rfl) | (simp [*, errW_none, errW_some] <;> rfl), by (with_reducible repeat (first | apply Kd.S_alloc | apply Kd.S_drewN | apply Kd.S_drew)); exact HO_5.out, by repeat (first | (with_reducible first | exact HB.out | apply below_alloc | apply pw_below_drewN | apply below_drew1) | exact HB.out)⟩

/-! ### spec_upTo: function 51 -/
def spec_upTo.l0 : Nat → Int → List Int → Int → Option (List Int)
  | 0, _, _, _ => none
  | k + 1, x0, x3, x4 => if x4 < x0 then (if x3.length < 17592186044416 then (spec_upTo.l0 k x0 (x3 ++ [x4]) (wrap64 (x4 + 1))) else (none)) else (some x3)
def spec_upTo.f (k : Nat) (a0 : Int) : Option (List Int) := spec_upTo.l0 k a0 (([] : List Int)) 0
theorem spec_upTo.mono_l : ∀ k, (∀ y0 y1 y2, LeO (spec_upTo.l0 k y0 y1 y2) (spec_upTo.l0 (k + 1) y0 y1 y2))
  | 0 => fun _ _ _ r h => by simp [spec_upTo.l0] at h
  | k + 1 => by
    have ih0 := spec_upTo.mono_l k
    · intro y0 y1 y2
      unfold spec_upTo.l0
      repeat' first
      | (with_reducible exact ih0 _ _ _)
      | (with_reducible exact LeO.refl _)
      | (with_reducible exact LeO.none _)
      | (with_reducible refine LeO.ite ?_ ?_)
      | (with_reducible refine LeO.bind ?_ (fun _ => ?_))
      | exact ih0 _ _ _
      | exact LeO.none _
      | refine LeO.ite ?_ ?_
      | refine LeO.bind ?_ (fun _ => ?_)
theorem spec_upTo.mono : ∀ a0 k, LeO (spec_upTo.f k a0) (spec_upTo.f (k + 1) a0) := by
  intro a0 k
  have ih0 := spec_upTo.mono_l k
  unfold spec_upTo.f
  repeat' first
      | (with_reducible exact ih0 _ _ _)
      | (with_reducible exact LeO.refl _)
      | (with_reducible exact LeO.none _)
      | (with_reducible refine LeO.ite ?_ ?_)
      | (with_reducible refine LeO.bind ?_ (fun _ => ?_))
      | exact ih0 _ _ _
      | exact LeO.none _
      | refine LeO.ite ?_ ?_
      | refine LeO.bind ?_ (fun _ => ?_)
set_option maxHeartbeats 8000000 in
set_option maxRecDepth 100000 in
theorem spec_upTo.calls (k : Nat) (a0 : Int) (r : List Int) (w : World) (h : spec_upTo.f k a0 = some r) :
    Calls Tryd.prog 51 #[.int .i64 a0] w fun e w' => ∃ v0_ : Value, e = .returned (v0_) ∧ Kd.R (Kd.int .i64) 3 w' w.heap.size (fun _ => True) v0_ r ∧ Below w.heap.size w w' := by
  have HB := Aside0.mk (Below.refl w.heap.size w)
  have H : (spec_upTo.l0 k a0 (([] : List Int)) 0) = some r := h
  clear h
  obtain ⟨y279, hy279⟩ : ∃ y_ : List Int, y_ = (([] : List Int)) := ⟨_, rfl⟩
  replace H : (spec_upTo.l0 k a0 y279 0) = some r := by first | (rw [hy279]; with_reducible exact H) | (have H2_ := (Option.bind_some _ _).symm.trans H; rw [hy279]; with_reducible exact H2_) | (have H2_ := (Option.bind_some _ _).symm.trans H; with_reducible exact H2_) | with_reducible exact H | (rw [hy279]; exact H) | exact H
  have Ny279 := Aside0.mk hy279
  clear hy279
  have H' := Aside0.mk H
  clear H
  go_enter Tryd.func51, Tryd.ntmps51
  go_wp2_with (first | ((with_reducible refine gate_dst (N := 5) rfl ?_); refine Kd.R_lit (Kd.int .i64) _ 3 ?hg (N := 5) ?hd (xs := ([] : List Int)) (inner := []) (ok := fun _ => True) (okp := fun _ => True) ?hr ?hp (fun _ hk => hk) trivial (Below.refl _ _) (Nat.le_refl _) (by simp) ?_; (case hd => rfl); (case hg => rfl); (case hr => first | (go_simp; done) | (go_simp; rfl)); (case hp => exact (Reps.none _ _)); intro v280 w2 ho3 hb hg_ hnew_; clear hg_ hnew_; (first | rw [← Ny279.out] at ho3 | (simp only [Int.reduceToNat] at ho3; rw [← Ny279.out] at ho3)); have n0_ := Aside0.mk (Kd.R_lower ho3 (below_size (by repeat (first | (with_reducible first | exact HB.out | apply below_alloc | apply pw_below_drewN | apply below_drew1) | exact HB.out)))); have n1_ := Aside0.mk (below_step (by repeat (first | (with_reducible first | exact HB.out | apply below_alloc | apply pw_below_drewN | apply below_drew1) | exact HB.out)) hb); clear HB; have HO281 := n0_; have HB := n1_; clear n0_ n1_; clear hb ho3))
  (try simp only [Act.put, List.setIfInBounds_toArray, List.set_cons_zero, List.set_cons_succ])
  go_loopg [3, 4] k (fun kq v3 v4 w' => ∃ (x3_1 : List Int) (x4_1 : Int), v4 = .int .i64 x4_1 ∧ Aside0 (spec_upTo.l0 kq a0 x3_1 x4_1 = some r) ∧ Aside0 (kq ≤ k) ∧ Aside0 (Kd.R (Kd.int .i64) 3 w' w.heap.size (fun _ => True) v3 x3_1) ∧ Aside0 (Below w.heap.size w w'))
  case atStart => exact ⟨(y279), (0), (by first | rfl | (simp; done) | (simp [*]; done)), H', ⟨Nat.le_refl _⟩, ⟨by (with_reducible repeat (first | apply Kd.R_alloc | apply Kd.R_drewN | apply Kd.R_drew)); exact HO281.out⟩, ⟨by repeat (first | (with_reducible first | exact HB.out | apply below_alloc | apply pw_below_drewN | apply below_drew1) | exact HB.out)⟩⟩
  case round =>
    clear H'
    try clear p2
    obtain ⟨x3_1, x4_1, rfl, HA, HK1, HO_3, HB⟩ := hrel
    cases gk with
    | zero => exact absurd HA.out (by simp [spec_upTo.l0])
    | succ k1 =>
      have H := HA.out
      clear HA
      simp only [spec_upTo.l0] at H
      by_cases c4 : x4_1 < a0
      · rw [if_pos c4] at H
        have c4b0 : decide (x4_1 < a0) = true := decide_eq_true c4
        clear c4
        by_cases c5 : x3_1.length < 17592186044416
        · rw [if_pos c5] at H
          have LMc5 := Aside0.mk c5
          clear c5
          obtain ⟨y282, hy282⟩ : ∃ y_ : List Int, y_ = (x3_1 ++ [x4_1]) := ⟨_, rfl⟩
          replace H : (spec_upTo.l0 k1 a0 y282 (wrap64 (x4_1 + 1))) = some r := by first | (rw [hy282]; with_reducible exact H) | (have H2_ := (Option.bind_some _ _).symm.trans H; rw [hy282]; with_reducible exact H2_) | (have H2_ := (Option.bind_some _ _).symm.trans H; with_reducible exact H2_) | with_reducible exact H | (rw [hy282]; exact H) | exact H
          have Ny282 := Aside0.mk hy282
          clear hy282
          have H' := Aside0.mk H
          clear H
          go_wp2_with (first | ((with_reducible refine gate_builtin (b := .append) (xs := #[.tmp 11, .tmp 13]) rfl ?_); at_builtin; refine Kd.R_append (Kd.int .i64) (w0 := w) w.heap.size rfl (.tmp 11) (.tmp 13) 69 3 (.int .i64 0) 8 rfl Tryd.underlying69 info3 rfl (by decide) (by omega) u3 x3_1 x4_1 [.int .i64 x4_1] (fun _ => True) (fun _ => False) rfl rfl ?aP (fun _ hk => hk.elim) ?aF ?aO ?aB ?aS ?aL ?_; (case aP => exact rfl); (case aB => exact (by repeat (first | (with_reducible first | exact HB.out | apply below_alloc | apply pw_below_drewN | apply below_drew1) | exact HB.out))); (case aF => exact (fun _ _ => trivial)); (case aO => exact (by (with_reducible repeat (first | apply Kd.R_alloc | apply Kd.R_drewN | apply Kd.R_drew)); exact HO_3.out)); (case aS => exact (below_size (by repeat (first | (with_reducible first | exact HB.out | apply below_alloc | apply pw_below_drewN | apply below_drew1) | exact HB.out)))); (case aL => have := LMc5.out; omega); intro v283 w6 ho hb hg hat; rw [← Ny282.out] at ho; have n0_ := Aside0.mk (hb); have n1_ := Aside0.mk (ho); clear HB; clear HO_3; have HB := n0_; have HO284 := n1_; clear n0_ n1_; clear ho hb hg hat))
          go_roundg k1
          case measure => have := HK1.out; omega
          case rel => exact ⟨(y282), (wrap64 (x4_1 + 1)), (by first | rfl | (simp; done) | (simp [*]; done)), H', ⟨by have := HK1.out; omega⟩, ⟨by (with_reducible repeat (first | apply Kd.R_alloc | apply Kd.R_drewN | apply Kd.R_drew)); exact HO284.out⟩, ⟨by repeat (first | (with_reducible first | exact HB.out | apply below_alloc | apply pw_below_drewN | apply below_drew1) | exact HB.out)⟩⟩
        · rw [if_neg c5] at H
          exact absurd H (by simp)
      · rw [if_neg c4] at H
        have c4b0 : decide (x4_1 < a0) = false := decide_eq_false c4
        clear c4
        obtain rfl := Option.some.inj H
        go_wp2
        go_ret
        exact ⟨_, by first | rfl | (simp [errW_none, errW_some] <;> rfl) | (simp [*, errW_none, errW_some] <;> rfl), by (with_reducible repeat (first | apply Kd.R_alloc | apply Kd.R_drewN | apply Kd.R_drew)); exact HO_3.out, by repeat (first | (with_reducible first | exact HB.out | apply below_alloc | apply pw_below_drewN | apply below_drew1) | exact HB.out)⟩

/-! ### spec_Inverse: function 52 -/
def spec_Inverse.l0 : Nat → Int → Int → Option (Int)
  | 0, _, _ => none
  | k + 1, x0, x3 => if x3 < 256 then ((spec_Mul.f k x0 ((x3) % 256)).bind fun t285 => (if t285 = 1 then (some ((x3) % 256)) else (spec_Inverse.l0 k x0 (wrap64 (x3 + 1))))) else (some 0)
def spec_Inverse.f (k : Nat) (a0 : Int) : Option (Int) := spec_Inverse.l0 k a0 1
theorem spec_Inverse.mono_l : ∀ k, (∀ y0 y1, LeO (spec_Inverse.l0 k y0 y1) (spec_Inverse.l0 (k + 1) y0 y1))
  | 0 => fun _ _ r h => by simp [spec_Inverse.l0] at h
  | k + 1 => by
    have ih0 := spec_Inverse.mono_l k
    · intro y0 y1
      unfold spec_Inverse.l0
      repeat' first
      | (with_reducible exact ih0 _ _)
      | (with_reducible exact spec_Mul.mono _ _ _)
      | (with_reducible exact LeO.refl _)
      | (with_reducible exact LeO.none _)
      | (with_reducible refine LeO.ite ?_ ?_)
      | (with_reducible refine LeO.bind ?_ (fun _ => ?_))
      | exact ih0 _ _
      | exact spec_Mul.mono _ _ _
      | exact LeO.none _
      | refine LeO.ite ?_ ?_
      | refine LeO.bind ?_ (fun _ => ?_)
theorem spec_Inverse.mono : ∀ a0 k, LeO (spec_Inverse.f k a0) (spec_Inverse.f (k + 1) a0) := by
  intro a0 k
  have ih0 := spec_Inverse.mono_l k
  unfold spec_Inverse.f
  repeat' first
      | (with_reducible exact ih0 _ _)
      | (with_reducible exact spec_Mul.mono _ _ _)
      | (with_reducible exact LeO.refl _)
      | (with_reducible exact LeO.none _)
      | (with_reducible refine LeO.ite ?_ ?_)
      | (with_reducible refine LeO.bind ?_ (fun _ => ?_))
      | exact ih0 _ _
      | exact spec_Mul.mono _ _ _
      | exact LeO.none _
      | refine LeO.ite ?_ ?_
      | refine LeO.bind ?_ (fun _ => ?_)
set_option maxHeartbeats 8000000 in
set_option maxRecDepth 100000 in
theorem spec_Inverse.calls (k : Nat) (a0 : Int) (r : Int) (w : World) (h : spec_Inverse.f k a0 = some r) :
    Calls Tryd.prog 52 #[.int .u8 a0] w fun e w' => e = .returned (.int .u8 r) ∧ Drawn0 w w' := by
  have H : (spec_Inverse.l0 k a0 1) = some r := h
  clear h
  have H' := Aside0.mk H
  clear H
  go_enter Tryd.func52, Tryd.ntmps52
  go_wp2
  (try simp only [Act.put, List.setIfInBounds_toArray, List.set_cons_zero, List.set_cons_succ])
  go_loopg [3] k (fun kq v3 w' => ∃ (x3_1 : Int), v3 = .int .i64 x3_1 ∧ Aside0 (spec_Inverse.l0 kq a0 x3_1 = some r) ∧ Aside0 (kq ≤ k) ∧ Drawn0 w w')
  case atStart => exact ⟨(1), (by first | rfl | (simp; done) | (simp [*]; done)), H', ⟨Nat.le_refl _⟩, by repeat (first | exact Drawn0.refl _ | apply Drawn0.step)⟩
  case round =>
    clear H'
    obtain ⟨x3_1, rfl, HA, HK1, ⟨m1, rfl⟩⟩ := hrel
    cases gk with
    | zero => exact absurd HA.out (by simp [spec_Inverse.l0])
    | succ k1 =>
      have H := HA.out
      clear HA
      simp only [spec_Inverse.l0] at H
      by_cases c2 : x3_1 < 256
      · rw [if_pos c2] at H
        have c2b0 : decide (x3_1 < 256) = true := decide_eq_true c2
        clear c2
        replace H := Option.bind_eq_some_iff.mp H
        obtain ⟨t285, A30, H⟩ := H
        replace H : (if t285 = 1 then (some ((x3_1) % 256)) else (spec_Inverse.l0 k1 a0 (wrap64 (x3_1 + 1)))) = some r := H
        have A3 := Aside0.mk A30
        clear A30
        by_cases c4 : t285 = 1
        · rw [if_pos c4] at H
          have c4b0 : (t285 == 1) = true := beq_iff_eq.mpr c4
          have c4b1 : (t285 != 1) = false := bne_eq_false_iff_eq.mpr c4
          clear c4
          obtain rfl := Option.some.inj H
          go_wp2_with (first | ((with_reducible refine gate_callee (f := 15) rfl ?_); refine goesL_ (some 11) rfl rfl Tryd.func15 (by kernel_rfl) rfl #[.int .u8 a0, .int .u8 ((x3_1) % 256)] rfl (by (try simp only [List.map_toArray, List.map_cons, List.map_nil]); first | done | rfl | (simp only [List.length_drop, List.length_take]; rfl)) ?_; (with_reducible refine (spec_Mul.calls k1 a0 ((x3_1) % 256) t285 _ A3.out).mono ?_); rintro e w' ⟨rfl, ⟨nd, rfl⟩⟩; refine ⟨_, rfl, ?_⟩))
          go_ret
          exact ⟨by first | rfl | (simp; done) | (simp [*]; done), by repeat (first | exact Drawn0.refl _ | apply Drawn0.step)⟩
        · rw [if_neg c4] at H
          have c4b0 : (t285 == 1) = false := beq_eq_false_iff_ne.mpr c4
          have c4b1 : (t285 != 1) = true := bne_iff_ne.mpr c4
          have H' := Aside0.mk H
          clear H
          go_wp2_with (first | ((with_reducible refine gate_callee (f := 15) rfl ?_); refine goesL_ (some 11) rfl rfl Tryd.func15 (by kernel_rfl) rfl #[.int .u8 a0, .int .u8 ((x3_1) % 256)] rfl (by (try simp only [List.map_toArray, List.map_cons, List.map_nil]); first | done | rfl | (simp only [List.length_drop, List.length_take]; rfl)) ?_; (with_reducible refine (spec_Mul.calls k1 a0 ((x3_1) % 256) t285 _ A3.out).mono ?_); rintro e w' ⟨rfl, ⟨nd, rfl⟩⟩; refine ⟨_, rfl, ?_⟩))
          go_roundg k1
          case measure => have := HK1.out; omega
          case rel => exact ⟨(wrap64 (x3_1 + 1)), (by first | rfl | (simp; done) | (simp [*]; done)), H', ⟨by have := HK1.out; omega⟩, by repeat (first | exact Drawn0.refl _ | apply Drawn0.step)⟩
      · rw [if_neg c2] at H
        have c2b0 : decide (x3_1 < 256) = false := decide_eq_false c2
        clear c2
        obtain rfl := Option.some.inj H
        go_wp2
        go_ret
        exact ⟨by first | rfl | (simp; done) | (simp [*]; done), by repeat (first | exact Drawn0.refl _ | apply Drawn0.step)⟩

-- NOT PRINTED: function 38 (spec_Reduced)

end Go.Proofs.YtpjfokolbgcbhaaDoor.Qm
