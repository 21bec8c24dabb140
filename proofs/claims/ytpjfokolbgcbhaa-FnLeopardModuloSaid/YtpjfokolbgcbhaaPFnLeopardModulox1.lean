-- PRINTED BY print.sh 35421559b90ae4d0a3588c463048766b98c2df88dd9212a6774a882060cdf62d: not written by this session
import Derived.Test.YtpjfokolbgcbhaaPFnLeopardModulox0
namespace Go.Proofs.Ytpjfokolbgcbhaa.PFnLeopardModulo
open Go.RowKit Go.Proofs.YtpjfokolbgcbhaaW.PrintWords Go.Proofs.YtpjfokolbgcbhaaW.PrintLast Go.Proofs.YtpjfokolbgcbhaaW.PrintMore
attribute [local go_sem] max2_int min2_int max_two min_two max_three min_three max_four min_four   -- for this text's walks alone
set_option linter.unusedVariables false
set_option linter.unusedSimpArgs false

/-! ### reedsolomon_addMod8: function 11 -/
def reedsolomon_addMod8.f (a0 : Int) (a1 : Int) : Option (Int) := some ((IntKind.u64.wrap ((IntKind.u64.wrap ((IntKind.u64.wrap (a0)) + (IntKind.u64.wrap (a1)))) + ((IntKind.u64.wrap ((IntKind.u64.wrap (a0)) + (IntKind.u64.wrap (a1)))) / 256))) % 256)
set_option maxHeartbeats 8000000 in
set_option maxRecDepth 100000 in
theorem reedsolomon_addMod8.calls (a0 : Int) (a1 : Int) (r : Int) (w : World) (h : reedsolomon_addMod8.f a0 a1 = some r) :
    Calls Try.prog 11 #[.int .u8 a0, .int .u8 a1] w fun e w' => e = .returned (.int .u8 r) ∧ Drawn0 w w' := by
  have H : (some ((IntKind.u64.wrap ((IntKind.u64.wrap ((IntKind.u64.wrap (a0)) + (IntKind.u64.wrap (a1)))) + ((IntKind.u64.wrap ((IntKind.u64.wrap (a0)) + (IntKind.u64.wrap (a1)))) / 256))) % 256)) = some r := h
  clear h
  obtain rfl := Option.some.inj H
  go_enter Try.func11, Try.ntmps11
  go_wp2
  go_ret
  exact ⟨by first | rfl | (simp; done) | (simp [*]; done), by repeat (first | exact Drawn0.refl _ | apply Drawn0.step)⟩

/-! ### reedsolomon_DoorAddMod: function 8 -/
def reedsolomon_DoorAddMod.f (a0 : Int) (a1 : Int) : Option (Int) := (reedsolomon_addMod8.f a0 a1).bind fun t101 => (some t101)
set_option maxHeartbeats 8000000 in
set_option maxRecDepth 100000 in
theorem reedsolomon_DoorAddMod.calls (a0 : Int) (a1 : Int) (r : Int) (w : World) (h : reedsolomon_DoorAddMod.f a0 a1 = some r) :
    Calls Try.prog 8 #[.int .u8 a0, .int .u8 a1] w fun e w' => e = .returned (.int .u8 r) ∧ Drawn0 w w' := by
  have H : ((reedsolomon_addMod8.f a0 a1).bind fun t101 => (some t101)) = some r := h
  clear h
  replace H := Option.bind_eq_some_iff.mp H
  obtain ⟨t101, A30, H⟩ := H
  replace H : (some t101) = some r := H
  have A3 := Aside0.mk A30
  clear A30
  obtain rfl := Option.some.inj H
  go_enter Try.func8, Try.ntmps8
  go_wp2_with (first | ((with_reducible refine gate_callee (f := 11) rfl ?_); refine goesL_ (some 7) rfl rfl Try.func11 (by kernel_rfl) rfl #[.int .u8 a0, .int .u8 a1] rfl (by (try simp only [List.map_toArray, List.map_cons, List.map_nil]); first | done | rfl | (simp only [List.length_drop, List.length_take]; rfl)) ?_; (with_reducible refine (reedsolomon_addMod8.calls a0 a1 t101 _ A3.out).mono ?_); rintro e w' ⟨rfl, ⟨nd, rfl⟩⟩; refine ⟨_, rfl, ?_⟩))
  go_ret
  exact ⟨by first | rfl | (simp; done) | (simp [*]; done), by repeat (first | exact Drawn0.refl _ | apply Drawn0.step)⟩

/-! ### impl_AddMod8: function 5 -/
def impl_AddMod8.f (a0 : Int) (a1 : Int) : Option (Int) := (reedsolomon_DoorAddMod.f a0 a1).bind fun t102 => (some t102)
set_option maxHeartbeats 8000000 in
set_option maxRecDepth 100000 in
theorem impl_AddMod8.calls (a0 : Int) (a1 : Int) (r : Int) (w : World) (h : impl_AddMod8.f a0 a1 = some r) :
    Calls Try.prog 5 #[.int .u8 a0, .int .u8 a1] w fun e w' => e = .returned (.int .u8 r) ∧ Drawn0 w w' := by
  have H : ((reedsolomon_DoorAddMod.f a0 a1).bind fun t102 => (some t102)) = some r := h
  clear h
  replace H := Option.bind_eq_some_iff.mp H
  obtain ⟨t102, A30, H⟩ := H
  replace H : (some t102) = some r := H
  have A3 := Aside0.mk A30
  clear A30
  obtain rfl := Option.some.inj H
  go_enter Try.func5, Try.ntmps5
  go_wp2_with (first | ((with_reducible refine gate_callee (f := 8) rfl ?_); refine goesL_ (some 7) rfl rfl Try.func8 (by kernel_rfl) rfl #[.int .u8 a0, .int .u8 a1] rfl (by (try simp only [List.map_toArray, List.map_cons, List.map_nil]); first | done | rfl | (simp only [List.length_drop, List.length_take]; rfl)) ?_; (with_reducible refine (reedsolomon_DoorAddMod.calls a0 a1 t102 _ A3.out).mono ?_); rintro e w' ⟨rfl, ⟨nd, rfl⟩⟩; refine ⟨_, rfl, ?_⟩))
  go_ret
  exact ⟨by first | rfl | (simp; done) | (simp [*]; done), by repeat (first | exact Drawn0.refl _ | apply Drawn0.step)⟩

/-! ### reedsolomon_subMod8: function 12 -/
def reedsolomon_subMod8.f (a0 : Int) (a1 : Int) : Option (Int) := some ((IntKind.u64.wrap ((IntKind.u64.wrap ((IntKind.u64.wrap (a0)) - (IntKind.u64.wrap (a1)))) + ((IntKind.u64.wrap ((IntKind.u64.wrap (a0)) - (IntKind.u64.wrap (a1)))) / 256))) % 256)
set_option maxHeartbeats 8000000 in
set_option maxRecDepth 100000 in
theorem reedsolomon_subMod8.calls (a0 : Int) (a1 : Int) (r : Int) (w : World) (h : reedsolomon_subMod8.f a0 a1 = some r) :
    Calls Try.prog 12 #[.int .u8 a0, .int .u8 a1] w fun e w' => e = .returned (.int .u8 r) ∧ Drawn0 w w' := by
  have H : (some ((IntKind.u64.wrap ((IntKind.u64.wrap ((IntKind.u64.wrap (a0)) - (IntKind.u64.wrap (a1)))) + ((IntKind.u64.wrap ((IntKind.u64.wrap (a0)) - (IntKind.u64.wrap (a1)))) / 256))) % 256)) = some r := h
  clear h
  obtain rfl := Option.some.inj H
  go_enter Try.func12, Try.ntmps12
  go_wp2
  go_ret
  exact ⟨by first | rfl | (simp; done) | (simp [*]; done), by repeat (first | exact Drawn0.refl _ | apply Drawn0.step)⟩

/-! ### reedsolomon_DoorSubMod: function 9 -/
def reedsolomon_DoorSubMod.f (a0 : Int) (a1 : Int) : Option (Int) := (reedsolomon_subMod8.f a0 a1).bind fun t103 => (some t103)
set_option maxHeartbeats 8000000 in
set_option maxRecDepth 100000 in
theorem reedsolomon_DoorSubMod.calls (a0 : Int) (a1 : Int) (r : Int) (w : World) (h : reedsolomon_DoorSubMod.f a0 a1 = some r) :
    Calls Try.prog 9 #[.int .u8 a0, .int .u8 a1] w fun e w' => e = .returned (.int .u8 r) ∧ Drawn0 w w' := by
  have H : ((reedsolomon_subMod8.f a0 a1).bind fun t103 => (some t103)) = some r := h
  clear h
  replace H := Option.bind_eq_some_iff.mp H
  obtain ⟨t103, A30, H⟩ := H
  replace H : (some t103) = some r := H
  have A3 := Aside0.mk A30
  clear A30
  obtain rfl := Option.some.inj H
  go_enter Try.func9, Try.ntmps9
  go_wp2_with (first | ((with_reducible refine gate_callee (f := 12) rfl ?_); refine goesL_ (some 7) rfl rfl Try.func12 (by kernel_rfl) rfl #[.int .u8 a0, .int .u8 a1] rfl (by (try simp only [List.map_toArray, List.map_cons, List.map_nil]); first | done | rfl | (simp only [List.length_drop, List.length_take]; rfl)) ?_; (with_reducible refine (reedsolomon_subMod8.calls a0 a1 t103 _ A3.out).mono ?_); rintro e w' ⟨rfl, ⟨nd, rfl⟩⟩; refine ⟨_, rfl, ?_⟩))
  go_ret
  exact ⟨by first | rfl | (simp; done) | (simp [*]; done), by repeat (first | exact Drawn0.refl _ | apply Drawn0.step)⟩

/-! ### impl_SubMod8: function 6 -/
def impl_SubMod8.f (a0 : Int) (a1 : Int) : Option (Int) := (reedsolomon_DoorSubMod.f a0 a1).bind fun t104 => (some t104)
set_option maxHeartbeats 8000000 in
set_option maxRecDepth 100000 in
theorem impl_SubMod8.calls (a0 : Int) (a1 : Int) (r : Int) (w : World) (h : impl_SubMod8.f a0 a1 = some r) :
    Calls Try.prog 6 #[.int .u8 a0, .int .u8 a1] w fun e w' => e = .returned (.int .u8 r) ∧ Drawn0 w w' := by
  have H : ((reedsolomon_DoorSubMod.f a0 a1).bind fun t104 => (some t104)) = some r := h
  clear h
  replace H := Option.bind_eq_some_iff.mp H
  obtain ⟨t104, A30, H⟩ := H
  replace H : (some t104) = some r := H
  have A3 := Aside0.mk A30
  clear A30
  obtain rfl := Option.some.inj H
  go_enter Try.func6, Try.ntmps6
  go_wp2_with (first | ((with_reducible refine gate_callee (f := 9) rfl ?_); refine goesL_ (some 7) rfl rfl Try.func9 (by kernel_rfl) rfl #[.int .u8 a0, .int .u8 a1] rfl (by (try simp only [List.map_toArray, List.map_cons, List.map_nil]); first | done | rfl | (simp only [List.length_drop, List.length_take]; rfl)) ?_; (with_reducible refine (reedsolomon_DoorSubMod.calls a0 a1 t104 _ A3.out).mono ?_); rintro e w' ⟨rfl, ⟨nd, rfl⟩⟩; refine ⟨_, rfl, ?_⟩))
  go_ret
  exact ⟨by first | rfl | (simp; done) | (simp [*]; done), by repeat (first | exact Drawn0.refl _ | apply Drawn0.step)⟩

/-! ### laws_FnLeopardModulo: function 3 -/
def laws_FnLeopardModulo.j0 : Nat → Int → Int → Int → Int → Option (Bool)
  | 0, _, _, _, _ => none
  | k + 1, x0, x1, x5, x6 => if x6 < 0 then ((impl_AddMod8.f x0 x1).bind fun t105 => (if (wrap64 (t105)) = x5 then ((impl_SubMod8.f x0 x1).bind fun t106 => (some ((wrap64 (t106)) == (wrap64 (x6 + 255))))) else (some false))) else ((impl_AddMod8.f x0 x1).bind fun t107 => (if (wrap64 (t107)) = x5 then ((impl_SubMod8.f x0 x1).bind fun t108 => (some ((wrap64 (t108)) == x6))) else (some false)))
def laws_FnLeopardModulo.f (k : Nat) (a0 : Int) (a1 : Int) : Option (Bool) := if (wrap64 ((wrap64 (a0)) + (wrap64 (a1)))) > 255 then (laws_FnLeopardModulo.j0 k a0 a1 (wrap64 ((wrap64 ((wrap64 (a0)) + (wrap64 (a1)))) - 255)) (wrap64 ((wrap64 (a0)) - (wrap64 (a1))))) else (laws_FnLeopardModulo.j0 k a0 a1 (wrap64 ((wrap64 (a0)) + (wrap64 (a1)))) (wrap64 ((wrap64 (a0)) - (wrap64 (a1)))))
theorem laws_FnLeopardModulo.mono_l : ∀ k, (∀ y0 y1 y2 y3, LeO (laws_FnLeopardModulo.j0 k y0 y1 y2 y3) (laws_FnLeopardModulo.j0 (k + 1) y0 y1 y2 y3))
  | 0 => fun _ _ _ _ r h => by simp [laws_FnLeopardModulo.j0] at h
  | k + 1 => by
    have ih0 := laws_FnLeopardModulo.mono_l k
    · intro y0 y1 y2 y3
      unfold laws_FnLeopardModulo.j0
      repeat' first
      | (with_reducible exact ih0 _ _ _ _)
      | (with_reducible exact LeO.refl _)
      | (with_reducible exact LeO.none _)
      | (with_reducible refine LeO.ite ?_ ?_)
      | (with_reducible refine LeO.bind ?_ (fun _ => ?_))
      | exact ih0 _ _ _ _
      | exact LeO.none _
      | refine LeO.ite ?_ ?_
      | refine LeO.bind ?_ (fun _ => ?_)
theorem laws_FnLeopardModulo.mono : ∀ a0 a1 k, LeO (laws_FnLeopardModulo.f k a0 a1) (laws_FnLeopardModulo.f (k + 1) a0 a1) := by
  intro a0 a1 k
  have ih0 := laws_FnLeopardModulo.mono_l k
  unfold laws_FnLeopardModulo.f
  repeat' first
      | (with_reducible exact ih0 _ _ _ _)
      | (with_reducible exact LeO.refl _)
      | (with_reducible exact LeO.none _)
      | (with_reducible refine LeO.ite ?_ ?_)
      | (with_reducible refine LeO.bind ?_ (fun _ => ?_))
      | exact ih0 _ _ _ _
      | exact LeO.none _
      | refine LeO.ite ?_ ?_
      | refine LeO.bind ?_ (fun _ => ?_)
set_option maxHeartbeats 8000000 in
set_option maxRecDepth 100000 in
theorem laws_FnLeopardModulo.calls (k : Nat) (a0 : Int) (a1 : Int) (r : Bool) (w : World) (h : laws_FnLeopardModulo.f k a0 a1 = some r) :
    Calls Try.prog 3 #[.int .u8 a0, .int .u8 a1] w fun e w' => e = .returned (.bool r) ∧ Drawn0 w w' := by
  have H : (if (wrap64 ((wrap64 (a0)) + (wrap64 (a1)))) > 255 then (laws_FnLeopardModulo.j0 k a0 a1 (wrap64 ((wrap64 ((wrap64 (a0)) + (wrap64 (a1)))) - 255)) (wrap64 ((wrap64 (a0)) - (wrap64 (a1))))) else (laws_FnLeopardModulo.j0 k a0 a1 (wrap64 ((wrap64 (a0)) + (wrap64 (a1)))) (wrap64 ((wrap64 (a0)) - (wrap64 (a1)))))) = some r := h
  clear h
  have HC3 := Aside0.mk H
  clear H
  go_enter Try.func3, Try.ntmps3
  go_upto_if 18 with (fail)
  go_cut [5] (fun v5 wc => ∃ (kq : Nat) (x5_2 : Int), v5 = .int .i64 x5_2 ∧ Aside0 (laws_FnLeopardModulo.j0 kq a0 a1 x5_2 (wrap64 ((wrap64 (a0)) - (wrap64 (a1)))) = some r) ∧ Aside0 (kq ≤ k) ∧ Drawn0 w wc)
  case first =>
    have H := HC3.out
    clear HC3
    by_cases c4 : (wrap64 ((wrap64 (a0)) + (wrap64 (a1)))) > 255
    · rw [if_pos c4] at H
      have c4b0 : decide (255 < (wrap64 ((wrap64 (a0)) + (wrap64 (a1))))) = true := decide_eq_true c4
      clear c4
      (first | rw [c4b0] | (simp only [i64_w, i32_w]; rw [c4b0]) | skip)
      have H' := Aside0.mk H
      clear H
      go_wp2
      go_meet
      case rel => exact ⟨_, (wrap64 ((wrap64 ((wrap64 (a0)) + (wrap64 (a1)))) - 255)), (by first | rfl | (simp; done) | (simp [*]; done)), H', ⟨by first | omega | exact Nat.le_refl _⟩, by repeat (first | exact Drawn0.refl _ | apply Drawn0.step)⟩
    · rw [if_neg c4] at H
      have c4b0 : decide (255 < (wrap64 ((wrap64 (a0)) + (wrap64 (a1))))) = false := decide_eq_false c4
      clear c4
      (first | rw [c4b0] | (simp only [i64_w, i32_w]; rw [c4b0]) | skip)
      have H' := Aside0.mk H
      clear H
      go_wp2
      go_meet
      case rel => exact ⟨_, (wrap64 ((wrap64 (a0)) + (wrap64 (a1)))), (by first | rfl | (simp; done) | (simp [*]; done)), H', ⟨by first | omega | exact Nat.le_refl _⟩, by repeat (first | exact Drawn0.refl _ | apply Drawn0.step)⟩
  case rest =>
    clear HC3
    try clear p2
    try clear c3
    try clear c4
    try clear c4b0
    obtain ⟨kq, x5_2, rfl, HA, HJ2, ⟨mc2, rfl⟩⟩ := hcut
    cases kq with
    | zero => exact absurd HA.out (by simp [laws_FnLeopardModulo.j0])
    | succ kj2 =>
      have H := HA.out
      clear HA
      simp only [laws_FnLeopardModulo.j0] at H
      by_cases c5 : (wrap64 ((wrap64 (a0)) - (wrap64 (a1)))) < 0
      · rw [if_pos c5] at H
        have c5b0 : decide ((wrap64 ((wrap64 (a0)) - (wrap64 (a1)))) < 0) = true := decide_eq_true c5
        clear c5
        replace H := Option.bind_eq_some_iff.mp H
        obtain ⟨t105, A60, H⟩ := H
        replace H : (if (wrap64 (t105)) = x5_2 then ((impl_SubMod8.f a0 a1).bind fun t106 => (some ((wrap64 (t106)) == (wrap64 ((wrap64 ((wrap64 (a0)) - (wrap64 (a1)))) + 255))))) else (some false)) = some r := H
        have A6 := Aside0.mk A60
        clear A60
        by_cases c7 : (wrap64 (t105)) = x5_2
        · rw [if_pos c7] at H
          have c7b0 : ((wrap64 (t105)) == x5_2) = true := beq_iff_eq.mpr c7
          have c7b1 : ((wrap64 (t105)) != x5_2) = false := bne_eq_false_iff_eq.mpr c7
          clear c7
          replace H := Option.bind_eq_some_iff.mp H
          obtain ⟨t106, A80, H⟩ := H
          replace H : (some ((wrap64 (t106)) == (wrap64 ((wrap64 ((wrap64 (a0)) - (wrap64 (a1)))) + 255)))) = some r := H
          have A8 := Aside0.mk A80
          clear A80
          obtain rfl := Option.some.inj H
          go_wp2_with (first | ((with_reducible refine gate_callee (f := 5) rfl ?_); refine goesL_ (some 27) rfl rfl Try.func5 (by kernel_rfl) rfl #[.int .u8 a0, .int .u8 a1] rfl (by (try simp only [List.map_toArray, List.map_cons, List.map_nil]); first | done | rfl | (simp only [List.length_drop, List.length_take]; rfl)) ?_; (with_reducible refine (impl_AddMod8.calls a0 a1 t105 _ A6.out).mono ?_); rintro e w' ⟨rfl, ⟨nd, rfl⟩⟩; refine ⟨_, rfl, ?_⟩) | (go_at_call 6; (with_reducible refine (impl_SubMod8.calls a0 a1 t106 _ A8.out).mono ?_); rintro e w' ⟨rfl, ⟨nd, rfl⟩⟩))
          go_ret
          exact ⟨by first | rfl | (simp; done) | (simp [*]; done), by repeat (first | exact Drawn0.refl _ | apply Drawn0.step)⟩
        · rw [if_neg c7] at H
          have c7b0 : ((wrap64 (t105)) == x5_2) = false := beq_eq_false_iff_ne.mpr c7
          have c7b1 : ((wrap64 (t105)) != x5_2) = true := bne_iff_ne.mpr c7
          obtain rfl := Option.some.inj H
          go_wp2_with (first | ((with_reducible refine gate_callee (f := 5) rfl ?_); refine goesL_ (some 27) rfl rfl Try.func5 (by kernel_rfl) rfl #[.int .u8 a0, .int .u8 a1] rfl (by (try simp only [List.map_toArray, List.map_cons, List.map_nil]); first | done | rfl | (simp only [List.length_drop, List.length_take]; rfl)) ?_; (with_reducible refine (impl_AddMod8.calls a0 a1 t105 _ A6.out).mono ?_); rintro e w' ⟨rfl, ⟨nd, rfl⟩⟩; refine ⟨_, rfl, ?_⟩))
          go_ret
          exact ⟨by first | rfl | (simp; done) | (simp [*]; done), by repeat (first | exact Drawn0.refl _ | apply Drawn0.step)⟩
      · rw [if_neg c5] at H
        have c5b0 : decide ((wrap64 ((wrap64 (a0)) - (wrap64 (a1)))) < 0) = false := decide_eq_false c5
        clear c5
        replace H := Option.bind_eq_some_iff.mp H
        obtain ⟨t107, A90, H⟩ := H
        replace H : (if (wrap64 (t107)) = x5_2 then ((impl_SubMod8.f a0 a1).bind fun t108 => (some ((wrap64 (t108)) == (wrap64 ((wrap64 (a0)) - (wrap64 (a1))))))) else (some false)) = some r := H
        have A9 := Aside0.mk A90
        clear A90
        by_cases c10 : (wrap64 (t107)) = x5_2
        · rw [if_pos c10] at H
          have c10b0 : ((wrap64 (t107)) == x5_2) = true := beq_iff_eq.mpr c10
          have c10b1 : ((wrap64 (t107)) != x5_2) = false := bne_eq_false_iff_eq.mpr c10
          clear c10
          replace H := Option.bind_eq_some_iff.mp H
          obtain ⟨t108, A110, H⟩ := H
          replace H : (some ((wrap64 (t108)) == (wrap64 ((wrap64 (a0)) - (wrap64 (a1)))))) = some r := H
          have A11 := Aside0.mk A110
          clear A110
          obtain rfl := Option.some.inj H
          go_wp2_with (first | ((with_reducible refine gate_callee (f := 5) rfl ?_); refine goesL_ (some 27) rfl rfl Try.func5 (by kernel_rfl) rfl #[.int .u8 a0, .int .u8 a1] rfl (by (try simp only [List.map_toArray, List.map_cons, List.map_nil]); first | done | rfl | (simp only [List.length_drop, List.length_take]; rfl)) ?_; (with_reducible refine (impl_AddMod8.calls a0 a1 t107 _ A9.out).mono ?_); rintro e w' ⟨rfl, ⟨nd, rfl⟩⟩; refine ⟨_, rfl, ?_⟩) | (go_at_call 6; (with_reducible refine (impl_SubMod8.calls a0 a1 t108 _ A11.out).mono ?_); rintro e w' ⟨rfl, ⟨nd, rfl⟩⟩))
          go_ret
          exact ⟨by first | rfl | (simp; done) | (simp [*]; done), by repeat (first | exact Drawn0.refl _ | apply Drawn0.step)⟩
        · rw [if_neg c10] at H
          have c10b0 : ((wrap64 (t107)) == x5_2) = false := beq_eq_false_iff_ne.mpr c10
          have c10b1 : ((wrap64 (t107)) != x5_2) = true := bne_iff_ne.mpr c10
          obtain rfl := Option.some.inj H
          go_wp2_with (first | ((with_reducible refine gate_callee (f := 5) rfl ?_); refine goesL_ (some 27) rfl rfl Try.func5 (by kernel_rfl) rfl #[.int .u8 a0, .int .u8 a1] rfl (by (try simp only [List.map_toArray, List.map_cons, List.map_nil]); first | done | rfl | (simp only [List.length_drop, List.length_take]; rfl)) ?_; (with_reducible refine (impl_AddMod8.calls a0 a1 t107 _ A9.out).mono ?_); rintro e w' ⟨rfl, ⟨nd, rfl⟩⟩; refine ⟨_, rfl, ?_⟩))
          go_ret
          exact ⟨by first | rfl | (simp; done) | (simp [*]; done), by repeat (first | exact Drawn0.refl _ | apply Drawn0.step)⟩

/-- THE ONE PURE STATEMENT of laws_FnLeopardModulo: yours. -/
def laws_FnLeopardModulo.Pure : Prop := ∀ (a0 : Int) (a1 : Int), (Lit.int .u8 a0).wf = true → (Lit.int .u8 a1).wf = true → ∃ k, laws_FnLeopardModulo.f k a0 a1 = some true
theorem laws_FnLeopardModulo.walk (P : laws_FnLeopardModulo.Pure) (a0 : Int) (a1 : Int) (w : World) (w0 : (Lit.int .u8 a0).wf = true) (w1 : (Lit.int .u8 a1).wf = true) :
    Calls Try.prog 3 #[.int .u8 a0, .int .u8 a1] w fun e w' => e = .returned (.bool true) ∧ Below w.heap.size w w' := by
  obtain ⟨k, h⟩ := P a0 a1 w0 w1
  refine (laws_FnLeopardModulo.calls k a0 a1 true w h).mono ?_
  rintro e w' ⟨rfl, hd⟩
  exact ⟨rfl, hd.below⟩

end Go.Proofs.Ytpjfokolbgcbhaa.PFnLeopardModulo
