-- Written by wip/tools/myprint.py for this seat (the kit's print with changes); Lean checks it.
import Derived.Test.YtpjfokolbgcbhaaQx0
namespace Go.Proofs.Ytpjfokolbgcbhaa.Q
open Go.RowKit Go.Proofs.YtpjfokolbgcbhaaW.PrintWords Go.Proofs.YtpjfokolbgcbhaaW.PrintLast Go.Proofs.YtpjfokolbgcbhaaW.PrintMore
attribute [local go_sem] max2_int min2_int max_two min_two max_three min_three max_four min_four   -- for this text's walks alone
set_option linter.unusedVariables false
set_option linter.unusedSimpArgs false

/-! ### bits_Len32: function 17, by the shelf's contract -/
def bits_Len32.f (a0 : Int) : Option (Int) := if 0 ≤ a0 then (if a0 ≤ 4294967295 then some ((Lib.bitLen a0.toNat : Nat) : Int) else none) else none
theorem bits_Len32.calls (a0 : Int) (r : Int) (w : World) (h : bits_Len32.f a0 = some r) :
    Calls Try.prog 17 #[.int .u32 a0] w fun e w' => e = .returned (.int .i64 r) ∧ Drawn0 w w' := by
  unfold bits_Len32.f at h
  by_cases c0 : 0 ≤ a0
  · rw [if_pos c0] at h
    by_cases c1 : a0 ≤ 4294967295
    · rw [if_pos c1] at h
      obtain rfl := Option.some.inj h
      refine (Try.bits_Len32 a0 w c0 c1).mono ?_
      rintro e w' ⟨rfl, rfl⟩
      exact ⟨rfl, Drawn0.refl _⟩
    · rw [if_neg c1] at h; exact absurd h (by simp)
  · rw [if_neg c0] at h; exact absurd h (by simp)

/-! ### bits_Len64: function 18, by the shelf's contract -/
def bits_Len64.f (a0 : Int) : Option (Int) := if 0 ≤ a0 then (if a0 ≤ 18446744073709551615 then some ((Lib.bitLen a0.toNat : Nat) : Int) else none) else none
theorem bits_Len64.calls (a0 : Int) (r : Int) (w : World) (h : bits_Len64.f a0 = some r) :
    Calls Try.prog 18 #[.int .u64 a0] w fun e w' => e = .returned (.int .i64 r) ∧ Drawn0 w w' := by
  unfold bits_Len64.f at h
  by_cases c0 : 0 ≤ a0
  · rw [if_pos c0] at h
    by_cases c1 : a0 ≤ 18446744073709551615
    · rw [if_pos c1] at h
      obtain rfl := Option.some.inj h
      refine (Try.bits_Len64 a0 w c0 c1).mono ?_
      rintro e w' ⟨rfl, rfl⟩
      exact ⟨rfl, Drawn0.refl _⟩
    · rw [if_neg c1] at h; exact absurd h (by simp)
  · rw [if_neg c0] at h; exact absurd h (by simp)

/-! ### bits_Len: function 16 -/
def bits_Len.f (a0 : Int) : Option (Int) := (bits_Len64.f a0).bind fun t101 => (some t101)
set_option maxHeartbeats 8000000 in
set_option maxRecDepth 100000 in
theorem bits_Len.calls (a0 : Int) (r : Int) (w : World) (h : bits_Len.f a0 = some r) :
    Calls Try.prog 16 #[.int .u64 a0] w fun e w' => e = .returned (.int .i64 r) ∧ Drawn0 w w' := by
  have H : ((bits_Len64.f a0).bind fun t101 => (some t101)) = some r := h
  clear h
  replace H := Option.bind_eq_some_iff.mp H
  obtain ⟨t101, A20, H⟩ := H
  replace H : (some t101) = some r := H
  have A2 := Aside0.mk A20
  clear A20
  obtain rfl := Option.some.inj H
  go_enter Try.func16, Try.ntmps16
  go_wp2_with (first | ((with_reducible refine gate_callee (f := 18) rfl ?_); refine goesL_ (some 7) rfl rfl Try.func18 (by kernel_rfl) rfl #[.int .u64 a0] rfl (by (try simp only [List.map_toArray, List.map_cons, List.map_nil]); first | done | rfl | (simp only [List.length_drop, List.length_take]; rfl)) ?_; (with_reducible refine (bits_Len64.calls a0 t101 _ A2.out).mono ?_); rintro e w' ⟨rfl, ⟨nd, rfl⟩⟩; refine ⟨_, rfl, ?_⟩))
  go_ret
  exact ⟨by first | rfl | (simp; done) | (simp [*]; done), by repeat (first | exact Drawn0.refl _ | apply Drawn0.step)⟩

/-! ### bits_LeadingZeros: function 15 -/
def bits_LeadingZeros.f (a0 : Int) : Option (Int) := (bits_Len.f a0).bind fun t102 => (some (wrap64 (64 - t102)))
set_option maxHeartbeats 8000000 in
set_option maxRecDepth 100000 in
theorem bits_LeadingZeros.calls (a0 : Int) (r : Int) (w : World) (h : bits_LeadingZeros.f a0 = some r) :
    Calls Try.prog 15 #[.int .u64 a0] w fun e w' => e = .returned (.int .i64 r) ∧ Drawn0 w w' := by
  have H : ((bits_Len.f a0).bind fun t102 => (some (wrap64 (64 - t102)))) = some r := h
  clear h
  replace H := Option.bind_eq_some_iff.mp H
  obtain ⟨t102, A20, H⟩ := H
  replace H : (some (wrap64 (64 - t102))) = some r := H
  have A2 := Aside0.mk A20
  clear A20
  obtain rfl := Option.some.inj H
  go_enter Try.func15, Try.ntmps15
  go_wp2_with (first | ((with_reducible refine gate_callee (f := 16) rfl ?_); refine goesL_ (some 4) rfl rfl Try.func16 (by kernel_rfl) rfl #[.int .u64 a0] rfl (by (try simp only [List.map_toArray, List.map_cons, List.map_nil]); first | done | rfl | (simp only [List.length_drop, List.length_take]; rfl)) ?_; (with_reducible refine (bits_Len.calls a0 t102 _ A2.out).mono ?_); rintro e w' ⟨rfl, ⟨nd, rfl⟩⟩; refine ⟨_, rfl, ?_⟩))
  go_ret
  exact ⟨by first | rfl | (simp; done) | (simp [*]; done), by repeat (first | exact Drawn0.refl _ | apply Drawn0.step)⟩

/-! ### reedsolomon_ceilPow2: function 14 -/
def reedsolomon_ceilPow2.f (a0 : Int) : Option (Int) := (bits_LeadingZeros.f (IntKind.u64.wrap (wrap64 (a0 - 1)))).bind fun t103 => (if 0 ≤ (wrap64 (64 - t103)) then (some (shl .i64 1 (wrap64 (64 - t103)))) else (none))
set_option maxHeartbeats 8000000 in
set_option maxRecDepth 100000 in
theorem reedsolomon_ceilPow2.calls (a0 : Int) (r : Int) (w : World) (h : reedsolomon_ceilPow2.f a0 = some r) :
    Calls Try.prog 14 #[.int .i64 a0] w fun e w' => e = .returned (.int .i64 r) ∧ Drawn0 w w' := by
  have H : ((bits_LeadingZeros.f (IntKind.u64.wrap (wrap64 (a0 - 1)))).bind fun t103 => (if 0 ≤ (wrap64 (64 - t103)) then (some (shl .i64 1 (wrap64 (64 - t103)))) else (none))) = some r := h
  clear h
  replace H := Option.bind_eq_some_iff.mp H
  obtain ⟨t103, A20, H⟩ := H
  replace H : (if 0 ≤ (wrap64 (64 - t103)) then (some (shl .i64 1 (wrap64 (64 - t103)))) else (none)) = some r := H
  have A2 := Aside0.mk A20
  clear A20
  obtain ⟨ji3, hji3⟩ : ∃ j_ : Int, (wrap64 (64 - t103)) = j_ := ⟨_, rfl⟩
  replace H : (if 0 ≤ (ji3) then (some (shl .i64 1 (ji3))) else (none)) = some r := by first | (rw [hji3] at H; exact H) | (simp only [hji3] at H ⊢; exact H)
  (try rw [hji3] at A2)
  have hji3w : (IntKind.i64.wrap (64 - t103)) = ji3 := (i64_w _).trans hji3
  by_cases c4 : 0 ≤ (ji3)
  · rw [if_pos c4] at H
    have c4b0 := eq_true c4
    have c4b1 : decide (0 ≤ (ji3)) = true := decide_eq_true c4
    clear c4
    obtain ⟨ji5, hji5⟩ : ∃ j_ : Int, (shl .i64 1 (ji3)) = j_ := ⟨_, rfl⟩
    replace H : (some ji5) = some r := by first | (rw [hji5] at H; exact H) | (simp only [hji5] at H ⊢; exact H)
    (try rw [hji5] at A2)
    have hji5_ : (IntKind.i64.wrap (1 * 2 ^ min (ji3).toNat 64)) = ji5 := hji5
    have hji5z : (ji3) ≤ 64 → (IntKind.i64.wrap (1 * 2 ^ (ji3).toNat)) = ji5 := shl_small hji5
    have hji5u : (IntKind.i64.wrap (2 ^ min (ji3).toNat 64)) = ji5 := by have h_ := hji5_; rw [Int.one_mul] at h_; exact h_
    have hji5v : (ji3) ≤ 64 → (IntKind.i64.wrap (2 ^ (ji3).toNat)) = ji5 := fun hle_ => by have h_ := hji5z hle_; rw [Int.one_mul] at h_; exact h_
    have hji5y : (wrap64 (1 * 2 ^ min (ji3).toNat 64)) = ji5 := (i64_w _).symm.trans hji5_
    have hji5x : (ji3) ≤ 64 → (wrap64 (1 * 2 ^ (ji3).toNat)) = ji5 := fun h_ => (i64_w _).symm.trans (hji5z h_)
    obtain rfl := Option.some.inj H
    go_enter Try.func14, Try.ntmps14
    go_wp2_with (first | ((with_reducible refine gate_callee (f := 15) rfl ?_); refine goesL_ (some 6) rfl rfl Try.func15 (by kernel_rfl) rfl #[.int .u64 (IntKind.u64.wrap (wrap64 (a0 - 1)))] rfl (by (try simp only [List.map_toArray, List.map_cons, List.map_nil]); first | done | rfl | (simp only [List.length_drop, List.length_take]; rfl)) ?_; (with_reducible refine (bits_LeadingZeros.calls (IntKind.u64.wrap (wrap64 (a0 - 1))) t103 _ A2.out).mono ?_); rintro e w' ⟨rfl, ⟨nd, rfl⟩⟩; refine ⟨_, rfl, ?_⟩))
    go_ret
    exact ⟨by first | rfl | (simp; done) | (simp only [← hji3, ← hji5] <;> (first | rfl | simp)) | (simp [*]; done), by repeat (first | exact Drawn0.refl _ | apply Drawn0.step)⟩
  · rw [if_neg c4] at H
    exact absurd H (by simp)

/-! ### reedsolomon_leopardFits: function 13 -/
def reedsolomon_leopardFits.j0 : Nat → Int → Int → Int → Bool → Option (Bool)
  | 0, _, _, _, _ => none
  | k + 1, x0, x1, x2, x24 => if x24 = true then (some false) else ((reedsolomon_ceilPow2.f x1).bind fun t104 => (if t104 = 0 then (none) else (if (Int.tmod x0 t104) = 0 then (some (decide ((wrap64 ((wrap64 (Int.tdiv x0 t104)) * t104)) ≤ (wrap64 (x2 - t104))))) else (some (decide ((wrap64 ((wrap64 ((wrap64 (Int.tdiv x0 t104)) + 1)) * t104)) ≤ (wrap64 (x2 - t104))))))))
def reedsolomon_leopardFits.f (k : Nat) (a0 : Int) (a1 : Int) (a2 : Int) : Option (Bool) := if a0 ≤ 0 then (reedsolomon_leopardFits.j0 k a0 a1 a2 true) else (if a1 ≤ 0 then (reedsolomon_leopardFits.j0 k a0 a1 a2 true) else (if a0 > a2 then (reedsolomon_leopardFits.j0 k a0 a1 a2 true) else (reedsolomon_leopardFits.j0 k a0 a1 a2 (decide (a1 > a2)))))
theorem reedsolomon_leopardFits.mono_l : ∀ k, (∀ y0 y1 y2 y3, LeO (reedsolomon_leopardFits.j0 k y0 y1 y2 y3) (reedsolomon_leopardFits.j0 (k + 1) y0 y1 y2 y3))
  | 0 => fun _ _ _ _ r h => by simp [reedsolomon_leopardFits.j0] at h
  | k + 1 => by
    have ih0 := reedsolomon_leopardFits.mono_l k
    · intro y0 y1 y2 y3
      unfold reedsolomon_leopardFits.j0
      repeat' first
      | (with_reducible exact ih0 _ _ _ _)
      | (with_reducible exact LeO.refl _)
      | (with_reducible exact LeO.none _)
      | (with_reducible refine LeO.ite ?_ ?_)
      | (with_reducible refine LeO.bind ?_ (fun _ => ?_))
      | exact ih0 _ _ _ _
      | exact LeO.none _
      | refine LeO.ite ?_ ?_
      | refine LeO.bind ?_ (fun _ => ?_)
theorem reedsolomon_leopardFits.mono : ∀ a0 a1 a2 k, LeO (reedsolomon_leopardFits.f k a0 a1 a2) (reedsolomon_leopardFits.f (k + 1) a0 a1 a2) := by
  intro a0 a1 a2 k
  have ih0 := reedsolomon_leopardFits.mono_l k
  unfold reedsolomon_leopardFits.f
  repeat' first
      | (with_reducible exact ih0 _ _ _ _)
      | (with_reducible exact LeO.refl _)
      | (with_reducible exact LeO.none _)
      | (with_reducible refine LeO.ite ?_ ?_)
      | (with_reducible refine LeO.bind ?_ (fun _ => ?_))
      | exact ih0 _ _ _ _
      | exact LeO.none _
      | refine LeO.ite ?_ ?_
      | refine LeO.bind ?_ (fun _ => ?_)
set_option maxHeartbeats 8000000 in
set_option maxRecDepth 100000 in
theorem reedsolomon_leopardFits.calls (k : Nat) (a0 : Int) (a1 : Int) (a2 : Int) (r : Bool) (w : World) (h : reedsolomon_leopardFits.f k a0 a1 a2 = some r) :
    Calls Try.prog 13 #[.int .i64 a0, .int .i64 a1, .int .i64 a2] w fun e w' => e = .returned (.bool r) ∧ Drawn0 w w' := by
  have H : (if a0 ≤ 0 then (reedsolomon_leopardFits.j0 k a0 a1 a2 true) else (if a1 ≤ 0 then (reedsolomon_leopardFits.j0 k a0 a1 a2 true) else (if a0 > a2 then (reedsolomon_leopardFits.j0 k a0 a1 a2 true) else (reedsolomon_leopardFits.j0 k a0 a1 a2 (decide (a1 > a2)))))) = some r := h
  clear h
  have HC4 := Aside0.mk H
  clear H
  go_enter Try.func13, Try.ntmps13
  go_upto_region 1 with (fail)
  go_cut [24] (fun v24 wc => ∃ (kq : Nat) (x24_3 : Bool), v24 = .bool x24_3 ∧ Aside0 (reedsolomon_leopardFits.j0 kq a0 a1 a2 x24_3 = some r) ∧ Aside0 (kq ≤ k) ∧ Drawn0 w wc)
  case first =>
    have H := HC4.out
    clear HC4
    by_cases c5 : a0 ≤ 0
    · rw [if_pos c5] at H
      have c5b0 : decide (a0 ≤ 0) = true := decide_eq_true c5
      clear c5
      (first | rw [c5b0] | (simp only [i64_w, i32_w]; rw [c5b0]) | skip)
      have H' := Aside0.mk H
      clear H
      go_wp2
      go_meet
      case rel => exact ⟨_, (true), (by first | rfl | (simp; done) | (simp [*]; done)), H', ⟨by first | omega | exact Nat.le_refl _⟩, by repeat (first | exact Drawn0.refl _ | apply Drawn0.step)⟩
    · rw [if_neg c5] at H
      have c5b0 : decide (a0 ≤ 0) = false := decide_eq_false c5
      clear c5
      (first | rw [c5b0] | (simp only [i64_w, i32_w]; rw [c5b0]) | skip)
      by_cases c6 : a1 ≤ 0
      · rw [if_pos c6] at H
        have c6b0 : decide (a1 ≤ 0) = true := decide_eq_true c6
        clear c6
        have H' := Aside0.mk H
        clear H
        go_wp2
        go_meet
        case rel => exact ⟨_, (true), (by first | rfl | (simp; done) | (simp [*]; done)), H', ⟨by first | omega | exact Nat.le_refl _⟩, by repeat (first | exact Drawn0.refl _ | apply Drawn0.step)⟩
      · rw [if_neg c6] at H
        have c6b0 : decide (a1 ≤ 0) = false := decide_eq_false c6
        clear c6
        by_cases c7 : a0 > a2
        · rw [if_pos c7] at H
          have c7b0 : decide (a2 < a0) = true := decide_eq_true c7
          clear c7
          have H' := Aside0.mk H
          clear H
          go_wp2
          go_meet
          case rel => exact ⟨_, (true), (by first | rfl | (simp; done) | (simp [*]; done)), H', ⟨by first | omega | exact Nat.le_refl _⟩, by repeat (first | exact Drawn0.refl _ | apply Drawn0.step)⟩
        · rw [if_neg c7] at H
          have c7b0 : decide (a2 < a0) = false := decide_eq_false c7
          clear c7
          have H' := Aside0.mk H
          clear H
          go_wp2
          go_meet
          case rel => exact ⟨_, (decide (a1 > a2)), (by first | rfl | (simp; done) | (simp [*]; done)), H', ⟨by first | omega | exact Nat.le_refl _⟩, by repeat (first | exact Drawn0.refl _ | apply Drawn0.step)⟩
  case rest =>
    clear HC4
    try clear c1
    try clear p2
    try clear c5
    try clear c5b0
    try clear c6
    try clear c6b0
    try clear c7
    try clear c7b0
    obtain ⟨kq, x24_3, rfl, HA, HJ3, ⟨mc3, rfl⟩⟩ := hcut
    cases kq with
    | zero => exact absurd HA.out (by simp [reedsolomon_leopardFits.j0])
    | succ kj3 =>
      have H := HA.out
      clear HA
      simp only [reedsolomon_leopardFits.j0] at H
      by_cases c8 : x24_3 = true
      · subst c8
        have H1 : (some false) = some r := by rw [if_pos rfl] at H; exact H
        clear H
        have H := H1
        clear H1
        obtain rfl := Option.some.inj H
        go_wp2
        go_ret
        exact ⟨by first | rfl | (simp; done) | (simp [*]; done), by repeat (first | exact Drawn0.refl _ | apply Drawn0.step)⟩
      · replace c8 := Bool.eq_false_iff.mpr c8
        subst c8
        have H1 : ((reedsolomon_ceilPow2.f a1).bind fun t104 => (if t104 = 0 then (none) else (if (Int.tmod a0 t104) = 0 then (some (decide ((wrap64 ((wrap64 (Int.tdiv a0 t104)) * t104)) ≤ (wrap64 (a2 - t104))))) else (some (decide ((wrap64 ((wrap64 ((wrap64 (Int.tdiv a0 t104)) + 1)) * t104)) ≤ (wrap64 (a2 - t104)))))))) = some r := by rw [if_neg (show ¬ (false = true) by decide)] at H; exact H
        clear H
        have H := H1
        clear H1
        replace H := Option.bind_eq_some_iff.mp H
        obtain ⟨t104, A90, H⟩ := H
        replace H : (if t104 = 0 then (none) else (if (Int.tmod a0 t104) = 0 then (some (decide ((wrap64 ((wrap64 (Int.tdiv a0 t104)) * t104)) ≤ (wrap64 (a2 - t104))))) else (some (decide ((wrap64 ((wrap64 ((wrap64 (Int.tdiv a0 t104)) + 1)) * t104)) ≤ (wrap64 (a2 - t104))))))) = some r := H
        have A9 := Aside0.mk A90
        clear A90
        by_cases c10 : t104 = 0
        · rw [if_pos c10] at H
          exact absurd H (by simp)
        · rw [if_neg c10] at H
          have c10b0 : (t104 == 0) = false := beq_eq_false_iff_ne.mpr c10
          have c10b1 : (t104 != 0) = true := bne_iff_ne.mpr c10
          by_cases c11 : (Int.tmod a0 t104) = 0
          · rw [if_pos c11] at H
            have c11b0 : ((Int.tmod a0 t104) == 0) = true := beq_iff_eq.mpr c11
            have c11b1 : ((Int.tmod a0 t104) != 0) = false := bne_eq_false_iff_eq.mpr c11
            clear c11
            obtain rfl := Option.some.inj H
            go_wp2_with (first | ((with_reducible refine gate_callee (f := 14) rfl ?_); refine goesL_ (some 26) rfl rfl Try.func14 (by kernel_rfl) rfl #[.int .i64 a1] rfl (by (try simp only [List.map_toArray, List.map_cons, List.map_nil]); first | done | rfl | (simp only [List.length_drop, List.length_take]; rfl)) ?_; (with_reducible refine (reedsolomon_ceilPow2.calls a1 t104 _ A9.out).mono ?_); rintro e w' ⟨rfl, ⟨nd, rfl⟩⟩; refine ⟨_, rfl, ?_⟩))
            go_ret
            exact ⟨by first | rfl | (simp; done) | (simp [*]; done), by repeat (first | exact Drawn0.refl _ | apply Drawn0.step)⟩
          · rw [if_neg c11] at H
            have c11b0 : ((Int.tmod a0 t104) == 0) = false := beq_eq_false_iff_ne.mpr c11
            have c11b1 : ((Int.tmod a0 t104) != 0) = true := bne_iff_ne.mpr c11
            obtain rfl := Option.some.inj H
            go_wp2_with (first | ((with_reducible refine gate_callee (f := 14) rfl ?_); refine goesL_ (some 26) rfl rfl Try.func14 (by kernel_rfl) rfl #[.int .i64 a1] rfl (by (try simp only [List.map_toArray, List.map_cons, List.map_nil]); first | done | rfl | (simp only [List.length_drop, List.length_take]; rfl)) ?_; (with_reducible refine (reedsolomon_ceilPow2.calls a1 t104 _ A9.out).mono ?_); rintro e w' ⟨rfl, ⟨nd, rfl⟩⟩; refine ⟨_, rfl, ?_⟩))
            go_ret
            exact ⟨by first | rfl | (simp; done) | (simp [*]; done), by repeat (first | exact Drawn0.refl _ | apply Drawn0.step)⟩

/-! ### reedsolomon_DoorFits: function 10 -/
def reedsolomon_DoorFits.f (k : Nat) (a0 : Int) (a1 : Int) (a2 : Int) : Option (Bool) := (reedsolomon_leopardFits.f k a0 a1 a2).bind fun t105 => (some t105)
theorem reedsolomon_DoorFits.mono : ∀ a0 a1 a2 k, LeO (reedsolomon_DoorFits.f k a0 a1 a2) (reedsolomon_DoorFits.f (k + 1) a0 a1 a2) := by
  intro a0 a1 a2 k
  unfold reedsolomon_DoorFits.f
  repeat' first
      | (with_reducible exact reedsolomon_leopardFits.mono _ _ _ _)
      | (with_reducible exact LeO.refl _)
      | (with_reducible exact LeO.none _)
      | (with_reducible refine LeO.ite ?_ ?_)
      | (with_reducible refine LeO.bind ?_ (fun _ => ?_))
      | exact reedsolomon_leopardFits.mono _ _ _ _
      | exact LeO.none _
      | refine LeO.ite ?_ ?_
      | refine LeO.bind ?_ (fun _ => ?_)
set_option maxHeartbeats 8000000 in
set_option maxRecDepth 100000 in
theorem reedsolomon_DoorFits.calls (k : Nat) (a0 : Int) (a1 : Int) (a2 : Int) (r : Bool) (w : World) (h : reedsolomon_DoorFits.f k a0 a1 a2 = some r) :
    Calls Try.prog 10 #[.int .i64 a0, .int .i64 a1, .int .i64 a2] w fun e w' => e = .returned (.bool r) ∧ Drawn0 w w' := by
  have H : ((reedsolomon_leopardFits.f k a0 a1 a2).bind fun t105 => (some t105)) = some r := h
  clear h
  replace H := Option.bind_eq_some_iff.mp H
  obtain ⟨t105, A40, H⟩ := H
  replace H : (some t105) = some r := H
  have A4 := Aside0.mk A40
  clear A40
  obtain rfl := Option.some.inj H
  go_enter Try.func10, Try.ntmps10
  go_wp2_with (first | ((with_reducible refine gate_callee (f := 13) rfl ?_); refine goesL_ (some 10) rfl rfl Try.func13 (by kernel_rfl) rfl #[.int .i64 a0, .int .i64 a1, .int .i64 a2] rfl (by (try simp only [List.map_toArray, List.map_cons, List.map_nil]); first | done | rfl | (simp only [List.length_drop, List.length_take]; rfl)) ?_; (with_reducible refine (reedsolomon_leopardFits.calls k a0 a1 a2 t105 _ A4.out).mono ?_); rintro e w' ⟨rfl, ⟨nd, rfl⟩⟩; refine ⟨_, rfl, ?_⟩))
  go_ret
  exact ⟨by first | rfl | (simp; done) | (simp [*]; done), by repeat (first | exact Drawn0.refl _ | apply Drawn0.step)⟩

/-! ### impl_Fits: function 7 -/
def impl_Fits.f (k : Nat) (a0 : Int) (a1 : Int) (a2 : Int) : Option (Bool) := (reedsolomon_DoorFits.f k a0 a1 a2).bind fun t106 => (some t106)
theorem impl_Fits.mono : ∀ a0 a1 a2 k, LeO (impl_Fits.f k a0 a1 a2) (impl_Fits.f (k + 1) a0 a1 a2) := by
  intro a0 a1 a2 k
  unfold impl_Fits.f
  repeat' first
      | (with_reducible exact reedsolomon_DoorFits.mono _ _ _ _)
      | (with_reducible exact LeO.refl _)
      | (with_reducible exact LeO.none _)
      | (with_reducible refine LeO.ite ?_ ?_)
      | (with_reducible refine LeO.bind ?_ (fun _ => ?_))
      | exact reedsolomon_DoorFits.mono _ _ _ _
      | exact LeO.none _
      | refine LeO.ite ?_ ?_
      | refine LeO.bind ?_ (fun _ => ?_)
set_option maxHeartbeats 8000000 in
set_option maxRecDepth 100000 in
theorem impl_Fits.calls (k : Nat) (a0 : Int) (a1 : Int) (a2 : Int) (r : Bool) (w : World) (h : impl_Fits.f k a0 a1 a2 = some r) :
    Calls Try.prog 7 #[.int .i64 a0, .int .i64 a1, .int .i64 a2] w fun e w' => e = .returned (.bool r) ∧ Drawn0 w w' := by
  have H : ((reedsolomon_DoorFits.f k a0 a1 a2).bind fun t106 => (some t106)) = some r := h
  clear h
  replace H := Option.bind_eq_some_iff.mp H
  obtain ⟨t106, A40, H⟩ := H
  replace H : (some t106) = some r := H
  have A4 := Aside0.mk A40
  clear A40
  obtain rfl := Option.some.inj H
  go_enter Try.func7, Try.ntmps7
  go_wp2_with (first | ((with_reducible refine gate_callee (f := 10) rfl ?_); refine goesL_ (some 10) rfl rfl Try.func10 (by kernel_rfl) rfl #[.int .i64 a0, .int .i64 a1, .int .i64 a2] rfl (by (try simp only [List.map_toArray, List.map_cons, List.map_nil]); first | done | rfl | (simp only [List.length_drop, List.length_take]; rfl)) ?_; (with_reducible refine (reedsolomon_DoorFits.calls k a0 a1 a2 t106 _ A4.out).mono ?_); rintro e w' ⟨rfl, ⟨nd, rfl⟩⟩; refine ⟨_, rfl, ?_⟩))
  go_ret
  exact ⟨by first | rfl | (simp; done) | (simp [*]; done), by repeat (first | exact Drawn0.refl _ | apply Drawn0.step)⟩

/-! ### laws_FnFits: function 4 -/
mutual
def laws_FnFits.j0 : Nat → Int → Int → Bool → Bool → Option (Bool)
  | 0, _, _, _, _ => none
  | k + 1, x0, x1, x2, x22 => if x22 = true then (some true) else (laws_FnFits.l0 k x0 x1 x2 1 256)
def laws_FnFits.l0 : Nat → Int → Int → Bool → Int → Int → Option (Bool)
  | 0, _, _, _, _, _ => none
  | k + 1, x0, x1, x2, x7, x8 => if x7 < x1 then (laws_FnFits.l0 k x0 x1 x2 (wrap64 (x7 * 2)) x8) else (if x2 = true then ((impl_Fits.f k x0 x1 65536).bind fun t107 => (if x7 = 0 then (none) else (some (t107 == (decide ((wrap64 ((wrap64 ((wrap64 (Int.tdiv (wrap64 ((wrap64 (x0 + x7)) - 1)) x7)) * x7)) + x7)) ≤ 65536)))))) else ((impl_Fits.f k x0 x1 x8).bind fun t108 => (if x7 = 0 then (none) else (some (t108 == (decide ((wrap64 ((wrap64 ((wrap64 (Int.tdiv (wrap64 ((wrap64 (x0 + x7)) - 1)) x7)) * x7)) + x7)) ≤ x8)))))))
end
def laws_FnFits.f (k : Nat) (a0 : Int) (a1 : Int) (a2 : Bool) : Option (Bool) := if a0 < 1 then (laws_FnFits.j0 k a0 a1 a2 true) else (if a0 > 70000 then (laws_FnFits.j0 k a0 a1 a2 true) else (if a1 < 1 then (laws_FnFits.j0 k a0 a1 a2 true) else (laws_FnFits.j0 k a0 a1 a2 (decide (a1 > 70000)))))
theorem laws_FnFits.mono_l : ∀ k, (∀ y0 y1 y2 y3, LeO (laws_FnFits.j0 k y0 y1 y2 y3) (laws_FnFits.j0 (k + 1) y0 y1 y2 y3)) ∧ (∀ y0 y1 y2 y3 y4, LeO (laws_FnFits.l0 k y0 y1 y2 y3 y4) (laws_FnFits.l0 (k + 1) y0 y1 y2 y3 y4))
  | 0 => ⟨fun _ _ _ _ r h => by simp [laws_FnFits.j0] at h, fun _ _ _ _ _ r h => by simp [laws_FnFits.l0] at h⟩
  | k + 1 => by
    obtain ⟨ih0, ih1⟩ := laws_FnFits.mono_l k
    refine ⟨?_, ?_⟩
    · intro y0 y1 y2 y3
      unfold laws_FnFits.j0
      repeat' first
      | (with_reducible exact ih0 _ _ _ _)
      | (with_reducible exact ih1 _ _ _ _ _)
      | (with_reducible exact impl_Fits.mono _ _ _ _)
      | (with_reducible exact LeO.refl _)
      | (with_reducible exact LeO.none _)
      | (with_reducible refine LeO.ite ?_ ?_)
      | (with_reducible refine LeO.bind ?_ (fun _ => ?_))
      | exact ih0 _ _ _ _
      | exact ih1 _ _ _ _ _
      | exact impl_Fits.mono _ _ _ _
      | exact LeO.none _
      | refine LeO.ite ?_ ?_
      | refine LeO.bind ?_ (fun _ => ?_)
    · intro y0 y1 y2 y3 y4
      unfold laws_FnFits.l0
      repeat' first
      | (with_reducible exact ih0 _ _ _ _)
      | (with_reducible exact ih1 _ _ _ _ _)
      | (with_reducible exact impl_Fits.mono _ _ _ _)
      | (with_reducible exact LeO.refl _)
      | (with_reducible exact LeO.none _)
      | (with_reducible refine LeO.ite ?_ ?_)
      | (with_reducible refine LeO.bind ?_ (fun _ => ?_))
      | exact ih0 _ _ _ _
      | exact ih1 _ _ _ _ _
      | exact impl_Fits.mono _ _ _ _
      | exact LeO.none _
      | refine LeO.ite ?_ ?_
      | refine LeO.bind ?_ (fun _ => ?_)
theorem laws_FnFits.mono : ∀ a0 a1 a2 k, LeO (laws_FnFits.f k a0 a1 a2) (laws_FnFits.f (k + 1) a0 a1 a2) := by
  intro a0 a1 a2 k
  obtain ⟨ih0, ih1⟩ := laws_FnFits.mono_l k
  unfold laws_FnFits.f
  repeat' first
      | (with_reducible exact ih0 _ _ _ _)
      | (with_reducible exact ih1 _ _ _ _ _)
      | (with_reducible exact impl_Fits.mono _ _ _ _)
      | (with_reducible exact LeO.refl _)
      | (with_reducible exact LeO.none _)
      | (with_reducible refine LeO.ite ?_ ?_)
      | (with_reducible refine LeO.bind ?_ (fun _ => ?_))
      | exact ih0 _ _ _ _
      | exact ih1 _ _ _ _ _
      | exact impl_Fits.mono _ _ _ _
      | exact LeO.none _
      | refine LeO.ite ?_ ?_
      | refine LeO.bind ?_ (fun _ => ?_)
set_option maxHeartbeats 8000000 in
set_option maxRecDepth 100000 in
theorem laws_FnFits.calls (k : Nat) (a0 : Int) (a1 : Int) (a2 : Bool) (r : Bool) (w : World) (h : laws_FnFits.f k a0 a1 a2 = some r) :
    Calls Try.prog 4 #[.int .i64 a0, .int .i64 a1, .bool a2] w fun e w' => e = .returned (.bool r) ∧ Drawn0 w w' := by
  have H : (if a0 < 1 then (laws_FnFits.j0 k a0 a1 a2 true) else (if a0 > 70000 then (laws_FnFits.j0 k a0 a1 a2 true) else (if a1 < 1 then (laws_FnFits.j0 k a0 a1 a2 true) else (laws_FnFits.j0 k a0 a1 a2 (decide (a1 > 70000)))))) = some r := h
  clear h
  have HC4 := Aside0.mk H
  clear H
  go_enter Try.func4, Try.ntmps4
  go_upto_region 1 with (fail)
  repeat (go_quiet (fail); go_upto_region 1 with (fail))
  go_cut [22] (fun v22 wc => ∃ (kq : Nat) (x22_3 : Bool), v22 = .bool x22_3 ∧ Aside0 (laws_FnFits.j0 kq a0 a1 a2 x22_3 = some r) ∧ Aside0 (kq ≤ k) ∧ Drawn0 w wc)
  case first =>
    have H := HC4.out
    clear HC4
    by_cases c5 : a0 < 1
    · rw [if_pos c5] at H
      have c5b0 : decide (a0 < 1) = true := decide_eq_true c5
      clear c5
      (first | rw [c5b0] | (simp only [i64_w, i32_w]; rw [c5b0]) | skip)
      have H' := Aside0.mk H
      clear H
      go_wp2
      repeat (go_quiet (fail); try go_wp2)
      go_meet
      case rel => exact ⟨_, (true), (by first | rfl | (simp; done) | (simp [*]; done)), H', ⟨by first | omega | exact Nat.le_refl _⟩, by repeat (first | exact Drawn0.refl _ | apply Drawn0.step)⟩
    · rw [if_neg c5] at H
      have c5b0 : decide (a0 < 1) = false := decide_eq_false c5
      clear c5
      (first | rw [c5b0] | (simp only [i64_w, i32_w]; rw [c5b0]) | skip)
      by_cases c6 : a0 > 70000
      · rw [if_pos c6] at H
        have c6b0 : decide (70000 < a0) = true := decide_eq_true c6
        clear c6
        have H' := Aside0.mk H
        clear H
        go_wp2
        repeat (go_quiet (fail); try go_wp2)
        go_meet
        case rel => exact ⟨_, (true), (by first | rfl | (simp; done) | (simp [*]; done)), H', ⟨by first | omega | exact Nat.le_refl _⟩, by repeat (first | exact Drawn0.refl _ | apply Drawn0.step)⟩
      · rw [if_neg c6] at H
        have c6b0 : decide (70000 < a0) = false := decide_eq_false c6
        clear c6
        by_cases c7 : a1 < 1
        · rw [if_pos c7] at H
          have c7b0 : decide (a1 < 1) = true := decide_eq_true c7
          clear c7
          have H' := Aside0.mk H
          clear H
          go_wp2
          repeat (go_quiet (fail); try go_wp2)
          go_meet
          case rel => exact ⟨_, (true), (by first | rfl | (simp; done) | (simp [*]; done)), H', ⟨by first | omega | exact Nat.le_refl _⟩, by repeat (first | exact Drawn0.refl _ | apply Drawn0.step)⟩
        · rw [if_neg c7] at H
          have c7b0 : decide (a1 < 1) = false := decide_eq_false c7
          clear c7
          have H' := Aside0.mk H
          clear H
          go_wp2
          repeat (go_quiet (fail); try go_wp2)
          go_meet
          case rel => exact ⟨_, (decide (a1 > 70000)), (by first | rfl | (simp; done) | (simp [*]; done)), H', ⟨by first | omega | exact Nat.le_refl _⟩, by repeat (first | exact Drawn0.refl _ | apply Drawn0.step)⟩
  case rest =>
    clear HC4
    try clear p2
    try clear c4
    try clear c5
    try clear c5b0
    try clear c6
    try clear c6b0
    try clear c7
    try clear c7b0
    obtain ⟨kq, x22_3, rfl, HA, HJ3, ⟨mc3, rfl⟩⟩ := hcut
    cases kq with
    | zero => exact absurd HA.out (by simp [laws_FnFits.j0])
    | succ kj3 =>
      have H := HA.out
      clear HA
      simp only [laws_FnFits.j0] at H
      by_cases c8 : x22_3 = true
      · subst c8
        have H1 : (some true) = some r := by rw [if_pos rfl] at H; exact H
        clear H
        have H := H1
        clear H1
        obtain rfl := Option.some.inj H
        go_wp2
        repeat (go_quiet (fail); try go_wp2)
        go_ret
        exact ⟨by first | rfl | (simp; done) | (simp [*]; done), by repeat (first | exact Drawn0.refl _ | apply Drawn0.step)⟩
      · replace c8 := Bool.eq_false_iff.mpr c8
        subst c8
        have H1 : (laws_FnFits.l0 kj3 a0 a1 a2 1 256) = some r := by rw [if_neg (show ¬ (false = true) by decide)] at H; exact H
        clear H
        have H := H1
        clear H1
        have H' := Aside0.mk H
        clear H
        go_wp2
        repeat (go_quiet (fail); try go_wp2)
        go_loopg [7] kj3 (fun kq v7 w' => ∃ (x7_2 : Int), v7 = .int .i64 x7_2 ∧ Aside0 (laws_FnFits.l0 kq a0 a1 a2 x7_2 256 = some r) ∧ Aside0 (kq ≤ kj3) ∧ Drawn0 w w')
        case atStart => exact ⟨(1), (by first | rfl | (simp; done) | (simp [*]; done)), H', ⟨Nat.le_refl _⟩, by repeat (first | exact Drawn0.refl _ | apply Drawn0.step)⟩
        case round =>
          clear H'
          try clear p2
          try clear c3
          try clear c4
          try clear c5
          try clear c5b0
          try clear c6
          try clear c6b0
          try clear c7
          try clear c7b0
          try clear c8
          try clear p2
          obtain ⟨x7_2, rfl, HA, HK2, ⟨m2, rfl⟩⟩ := hrel
          cases gk with
          | zero => exact absurd HA.out (by simp [laws_FnFits.l0])
          | succ k2 =>
            have H := HA.out
            clear HA
            simp only [laws_FnFits.l0] at H
            by_cases c9 : x7_2 < a1
            · rw [if_pos c9] at H
              have c9b0 : decide (x7_2 < a1) = true := decide_eq_true c9
              clear c9
              have H' := Aside0.mk H
              clear H
              go_wp2
              repeat (go_quiet (fail); try go_wp2)
              go_roundg k2
              case measure => have := HJ3.out; have := HK2.out; omega
              case rel => exact ⟨(wrap64 (x7_2 * 2)), (by first | rfl | (simp; done) | (simp [*]; done)), H', ⟨by have := HJ3.out; have := HK2.out; omega⟩, by repeat (first | exact Drawn0.refl _ | apply Drawn0.step)⟩
            · rw [if_neg c9] at H
              have c9b0 : decide (x7_2 < a1) = false := decide_eq_false c9
              clear c9
              by_cases c10 : a2 = true
              · subst c10
                have H1 : ((impl_Fits.f k2 a0 a1 65536).bind fun t107 => (if x7_2 = 0 then (none) else (some (t107 == (decide ((wrap64 ((wrap64 ((wrap64 (Int.tdiv (wrap64 ((wrap64 (a0 + x7_2)) - 1)) x7_2)) * x7_2)) + x7_2)) ≤ 65536)))))) = some r := by rw [if_pos rfl] at H; exact H
                clear H
                have H := H1
                clear H1
                replace H := Option.bind_eq_some_iff.mp H
                obtain ⟨t107, A110, H⟩ := H
                replace H : (if x7_2 = 0 then (none) else (some (t107 == (decide ((wrap64 ((wrap64 ((wrap64 (Int.tdiv (wrap64 ((wrap64 (a0 + x7_2)) - 1)) x7_2)) * x7_2)) + x7_2)) ≤ 65536))))) = some r := H
                have A11 := Aside0.mk A110
                clear A110
                by_cases c12 : x7_2 = 0
                · rw [if_pos c12] at H
                  exact absurd H (by simp)
                · rw [if_neg c12] at H
                  have c12b0 : (x7_2 == 0) = false := beq_eq_false_iff_ne.mpr c12
                  have c12b1 : (x7_2 != 0) = true := bne_iff_ne.mpr c12
                  obtain rfl := Option.some.inj H
                  go_wp2_with (first | (go_at_call 7; (with_reducible refine (impl_Fits.calls k2 a0 a1 65536 t107 _ A11.out).mono ?_); rintro e w' ⟨rfl, ⟨nd, rfl⟩⟩; (try first | exact ⟨rfl, _, World.drewN_drewN _ _ _⟩ | exact ⟨rfl, _, Eq.trans (World.drewN_drewN _ _ _) (congrArg (World.drewN _) (Nat.add_assoc _ _ _))⟩)))
                  repeat (go_quiet (first | (go_at_call 7; (with_reducible refine (impl_Fits.calls k2 a0 a1 65536 t107 _ A11.out).mono ?_); rintro e w' ⟨rfl, ⟨nd, rfl⟩⟩; (try first | exact ⟨rfl, _, World.drewN_drewN _ _ _⟩ | exact ⟨rfl, _, Eq.trans (World.drewN_drewN _ _ _) (congrArg (World.drewN _) (Nat.add_assoc _ _ _))⟩))); try go_wp2_with (first | (go_at_call 7; (with_reducible refine (impl_Fits.calls k2 a0 a1 65536 t107 _ A11.out).mono ?_); rintro e w' ⟨rfl, ⟨nd, rfl⟩⟩; (try first | exact ⟨rfl, _, World.drewN_drewN _ _ _⟩ | exact ⟨rfl, _, Eq.trans (World.drewN_drewN _ _ _) (congrArg (World.drewN _) (Nat.add_assoc _ _ _))⟩))))
                  go_ret
                  exact ⟨by first | rfl | (simp; done) | (simp [*]; done), by repeat (first | exact Drawn0.refl _ | apply Drawn0.step)⟩
              · replace c10 := Bool.eq_false_iff.mpr c10
                subst c10
                have H1 : ((impl_Fits.f k2 a0 a1 256).bind fun t108 => (if x7_2 = 0 then (none) else (some (t108 == (decide ((wrap64 ((wrap64 ((wrap64 (Int.tdiv (wrap64 ((wrap64 (a0 + x7_2)) - 1)) x7_2)) * x7_2)) + x7_2)) ≤ 256)))))) = some r := by rw [if_neg (show ¬ (false = true) by decide)] at H; exact H
                clear H
                have H := H1
                clear H1
                replace H := Option.bind_eq_some_iff.mp H
                obtain ⟨t108, A130, H⟩ := H
                replace H : (if x7_2 = 0 then (none) else (some (t108 == (decide ((wrap64 ((wrap64 ((wrap64 (Int.tdiv (wrap64 ((wrap64 (a0 + x7_2)) - 1)) x7_2)) * x7_2)) + x7_2)) ≤ 256))))) = some r := H
                have A13 := Aside0.mk A130
                clear A130
                by_cases c14 : x7_2 = 0
                · rw [if_pos c14] at H
                  exact absurd H (by simp)
                · rw [if_neg c14] at H
                  have c14b0 : (x7_2 == 0) = false := beq_eq_false_iff_ne.mpr c14
                  have c14b1 : (x7_2 != 0) = true := bne_iff_ne.mpr c14
                  obtain rfl := Option.some.inj H
                  go_wp2_with (first | (go_at_call 7; (with_reducible refine (impl_Fits.calls k2 a0 a1 256 t108 _ A13.out).mono ?_); rintro e w' ⟨rfl, ⟨nd, rfl⟩⟩; (try first | exact ⟨rfl, _, World.drewN_drewN _ _ _⟩ | exact ⟨rfl, _, Eq.trans (World.drewN_drewN _ _ _) (congrArg (World.drewN _) (Nat.add_assoc _ _ _))⟩)))
                  repeat (go_quiet (first | (go_at_call 7; (with_reducible refine (impl_Fits.calls k2 a0 a1 256 t108 _ A13.out).mono ?_); rintro e w' ⟨rfl, ⟨nd, rfl⟩⟩; (try first | exact ⟨rfl, _, World.drewN_drewN _ _ _⟩ | exact ⟨rfl, _, Eq.trans (World.drewN_drewN _ _ _) (congrArg (World.drewN _) (Nat.add_assoc _ _ _))⟩))); try go_wp2_with (first | (go_at_call 7; (with_reducible refine (impl_Fits.calls k2 a0 a1 256 t108 _ A13.out).mono ?_); rintro e w' ⟨rfl, ⟨nd, rfl⟩⟩; (try first | exact ⟨rfl, _, World.drewN_drewN _ _ _⟩ | exact ⟨rfl, _, Eq.trans (World.drewN_drewN _ _ _) (congrArg (World.drewN _) (Nat.add_assoc _ _ _))⟩))))
                  go_ret
                  exact ⟨by first | rfl | (simp; done) | (simp [*]; done), by repeat (first | exact Drawn0.refl _ | apply Drawn0.step)⟩

/-- THE ONE PURE STATEMENT of laws_FnFits: yours. -/
def laws_FnFits.Pure : Prop := ∀ (a0 : Int) (a1 : Int) (a2 : Bool), (Lit.int .i64 a0).wf = true → (Lit.int .i64 a1).wf = true → ∃ k, laws_FnFits.f k a0 a1 a2 = some true
theorem laws_FnFits.walk (P : laws_FnFits.Pure) (a0 : Int) (a1 : Int) (a2 : Bool) (w : World) (w0 : (Lit.int .i64 a0).wf = true) (w1 : (Lit.int .i64 a1).wf = true) :
    Calls Try.prog 4 #[.int .i64 a0, .int .i64 a1, .bool a2] w fun e w' => e = .returned (.bool true) ∧ Below w.heap.size w w' := by
  obtain ⟨k, h⟩ := P a0 a1 a2 w0 w1
  refine (laws_FnFits.calls k a0 a1 a2 true w h).mono ?_
  rintro e w' ⟨rfl, hd⟩
  exact ⟨rfl, hd.below⟩

end Go.Proofs.Ytpjfokolbgcbhaa.Q
