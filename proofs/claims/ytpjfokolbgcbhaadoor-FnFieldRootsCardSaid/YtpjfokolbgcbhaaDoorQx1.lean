-- Written by wip/tools/myprint.py for this seat (the kit's print with changes); Lean checks it.
import Derived.Test.YtpjfokolbgcbhaaDoorQx0
namespace Go.Proofs.YtpjfokolbgcbhaaDoor.Q
open Go.RowKit Go.Proofs.YtpjfokolbgcbhaaDoorW.PrintWords Go.Proofs.YtpjfokolbgcbhaaDoorW.PrintLast Go.Proofs.YtpjfokolbgcbhaaDoorW.PrintMore
attribute [local go_sem] max2_int min2_int max_two min_two max_three min_three max_four min_four   -- for this text's walks alone
set_option linter.unusedVariables false
set_option linter.unusedSimpArgs false

/-! ### reedsolomon_galMultiply: function 42, by hand -/
set_option maxRecDepth 100000 in
set_option maxHeartbeats 2000000 in
theorem mul_zero1 (b : Nat) (w : World) : Calls Tryd.prog 42 #[.int .u8 0, .int .u8 (b : Nat)] w fun e w' => e = .returned (.int .u8 0) ∧ Drawn0 w w' := by
  go_enter Tryd.func42, Tryd.ntmps42
  go_wp2
  go_ret
  exact ⟨rfl, Drawn0.refl _⟩
set_option maxRecDepth 100000 in
set_option maxHeartbeats 2000000 in
theorem mul_zero2 (a : Nat) (ha : ((a : Int) == 0) = false) (w : World) : Calls Tryd.prog 42 #[.int .u8 (a : Nat), .int .u8 0] w fun e w' => e = .returned (.int .u8 0) ∧ Drawn0 w w' := by
  go_enter Tryd.func42, Tryd.ntmps42
  go_wp2
  go_ret
  exact ⟨rfl, Drawn0.refl _⟩
set_option maxRecDepth 100000 in
set_option maxHeartbeats 2000000 in
theorem mul_lo (a b la lb : Nat) (e0 : Nat) (ha : ((a : Int) == 0) = false) (hb : ((b : Int) == 0) = false) (ha2 : a < 256) (hb2 : b < 256) (hla : la < 255) (hlb : lb < 255) (hlt : la + lb < 255)
    (w : World) (h1 : w.cell? ⟨0, a, none⟩ = some (.int .u8 (la : Nat))) (h2 : w.cell? ⟨0, b, none⟩ = some (.int .u8 (lb : Nat))) (h3 : w.cell? ⟨1, la + lb, none⟩ = some (.int .u8 (e0 : Nat))) :
    Calls Tryd.prog 42 #[.int .u8 (a : Nat), .int .u8 (b : Nat)] w fun e w' => e = .returned (.int .u8 (e0 : Nat)) ∧ Drawn0 w w' := by
  go_enter Tryd.func42, Tryd.ntmps42
  go_wp2
  go_quiet (fail)
  go_wp2
  go_ret
  exact ⟨rfl, ⟨_, rfl⟩⟩
set_option maxRecDepth 100000 in
set_option maxHeartbeats 2000000 in
theorem mul_hi (a b la lb : Nat) (e0 : Nat) (ha : ((a : Int) == 0) = false) (hb : ((b : Int) == 0) = false) (ha2 : a < 256) (hb2 : b < 256) (hla : la < 255) (hlb : lb < 255) (hlt : 255 ≤ la + lb)
    (w : World) (h1 : w.cell? ⟨0, a, none⟩ = some (.int .u8 (la : Nat))) (h2 : w.cell? ⟨0, b, none⟩ = some (.int .u8 (lb : Nat))) (h3 : w.cell? ⟨1, la + lb - 255, none⟩ = some (.int .u8 (e0 : Nat))) :
    Calls Tryd.prog 42 #[.int .u8 (a : Nat), .int .u8 (b : Nat)] w fun e w' => e = .returned (.int .u8 (e0 : Nat)) ∧ Drawn0 w w' := by
  go_enter Tryd.func42, Tryd.ntmps42
  go_wp2
  go_quiet (fail)
  go_wp2
  go_ret
  exact ⟨rfl, ⟨_, rfl⟩⟩
def reedsolomon_galMultiply.f (a0 : Int) (a1 : Int) : Option (Int) := if 0 ≤ a0 ∧ a0 ≤ 255 ∧ 0 ≤ a1 ∧ a1 ≤ 255 then some ((gmul a0.toNat a1.toNat : Nat) : Int) else none
theorem reedsolomon_galMultiply.calls (a0 : Int) (a1 : Int) (r : Int) (w : World) (HG_ : Glob w) (h : reedsolomon_galMultiply.f a0 a1 = some r) :
    Calls Tryd.prog 42 #[.int .u8 a0, .int .u8 a1] w fun e w' => e = .returned (.int .u8 r) ∧ Drawn0 w w' := by
  unfold reedsolomon_galMultiply.f at h
  by_cases hc : 0 ≤ a0 ∧ a0 ≤ 255 ∧ 0 ≤ a1 ∧ a1 ≤ 255
  · rw [if_pos hc] at h
    obtain ⟨c0, c1, c2, c3⟩ := hc
    obtain ⟨a, rfl⟩ := Int.eq_ofNat_of_zero_le c0
    obtain ⟨b, rfl⟩ := Int.eq_ofNat_of_zero_le c2
    rw [Int.toNat_natCast, Int.toNat_natCast] at h
    obtain rfl := Option.some.inj h
    unfold gmul
    by_cases ha : a = 0
    · subst ha; rw [if_pos rfl]; exact mul_zero1 b w
    by_cases hb : b = 0
    · subst hb; rw [if_neg ha, if_pos rfl]; exact mul_zero2 a (by simpa using ha) w
    rw [if_neg ha, if_neg hb]
    have la := log_lt a
    have lb := log_lt b
    by_cases hs : 255 ≤ logL.getD a 0 + logL.getD b 0
    · rw [if_pos hs]
      exact mul_hi a b _ _ _ (by simpa using ha) (by simpa using hb) (by omega) (by omega) la lb hs w (HG_.1 a (by omega)) (HG_.1 b (by omega)) (HG_.2 _ (by omega))
    · rw [if_neg hs]
      exact mul_lo a b _ _ _ (by simpa using ha) (by simpa using hb) (by omega) (by omega) la lb (by omega) w (HG_.1 a (by omega)) (HG_.1 b (by omega)) (HG_.2 _ (by omega))
  · rw [if_neg hc] at h; exact absurd h (by simp)

/-! ### reedsolomon_DoorMultiply: function 27 -/
def reedsolomon_DoorMultiply.f (a0 : Int) (a1 : Int) : Option (Int) := (reedsolomon_galMultiply.f a0 a1).bind fun t101 => (some t101)
set_option maxHeartbeats 8000000 in
set_option maxRecDepth 100000 in
theorem reedsolomon_DoorMultiply.calls (a0 : Int) (a1 : Int) (r : Int) (w : World) (HG_ : Glob w) (h : reedsolomon_DoorMultiply.f a0 a1 = some r) :
    Calls Tryd.prog 27 #[.int .u8 a0, .int .u8 a1] w fun e w' => e = .returned (.int .u8 r) ∧ Drawn0 w w' := by
  have HG := Aside0.mk HG_
  clear HG_
  have H : ((reedsolomon_galMultiply.f a0 a1).bind fun t101 => (some t101)) = some r := h
  clear h
  replace H := Option.bind_eq_some_iff.mp H
  obtain ⟨t101, A30, H⟩ := H
  replace H : (some t101) = some r := H
  have A3 := Aside0.mk A30
  clear A30
  obtain rfl := Option.some.inj H
  go_enter Tryd.func27, Tryd.ntmps27
  go_wp2_with (first | ((with_reducible refine gate_callee (f := 42) rfl ?_); refine goesL_ (some 7) rfl rfl Tryd.func42 (by kernel_rfl) rfl #[.int .u8 a0, .int .u8 a1] rfl (by (try simp only [List.map_toArray, List.map_cons, List.map_nil]); first | done | rfl | (simp only [List.length_drop, List.length_take]; rfl)) ?_; (with_reducible refine (reedsolomon_galMultiply.calls a0 a1 t101 _ ?side1 A3.out).mono ?_); (case side1 => first | exact HG.out | exact Glob.drewN HG.out _ | exact Glob.below HG.out (by repeat (first | (with_reducible first | exact HB.out | apply below_alloc | apply pw_below_drewN | apply below_drew1) | exact HB.out))); rintro e w' ⟨rfl, ⟨nd, rfl⟩⟩; refine ⟨_, rfl, ?_⟩))
  go_ret
  exact ⟨by first | rfl | (simp; done) | (simp [*]; done), by repeat (first | exact Drawn0.refl _ | apply Drawn0.step)⟩

/-! ### impl_Mul: function 9 -/
def impl_Mul.f (a0 : Int) (a1 : Int) : Option (Int) := (reedsolomon_DoorMultiply.f a0 a1).bind fun t102 => (some t102)
set_option maxHeartbeats 8000000 in
set_option maxRecDepth 100000 in
theorem impl_Mul.calls (a0 : Int) (a1 : Int) (r : Int) (w : World) (HG_ : Glob w) (h : impl_Mul.f a0 a1 = some r) :
    Calls Tryd.prog 9 #[.int .u8 a0, .int .u8 a1] w fun e w' => e = .returned (.int .u8 r) ∧ Drawn0 w w' := by
  have HG := Aside0.mk HG_
  clear HG_
  have H : ((reedsolomon_DoorMultiply.f a0 a1).bind fun t102 => (some t102)) = some r := h
  clear h
  replace H := Option.bind_eq_some_iff.mp H
  obtain ⟨t102, A30, H⟩ := H
  replace H : (some t102) = some r := H
  have A3 := Aside0.mk A30
  clear A30
  obtain rfl := Option.some.inj H
  go_enter Tryd.func9, Tryd.ntmps9
  go_wp2_with (first | ((with_reducible refine gate_callee (f := 27) rfl ?_); refine goesL_ (some 7) rfl rfl Tryd.func27 (by kernel_rfl) rfl #[.int .u8 a0, .int .u8 a1] rfl (by (try simp only [List.map_toArray, List.map_cons, List.map_nil]); first | done | rfl | (simp only [List.length_drop, List.length_take]; rfl)) ?_; (with_reducible refine (reedsolomon_DoorMultiply.calls a0 a1 t102 _ ?side1 A3.out).mono ?_); (case side1 => first | exact HG.out | exact Glob.drewN HG.out _ | exact Glob.below HG.out (by repeat (first | (with_reducible first | exact HB.out | apply below_alloc | apply pw_below_drewN | apply below_drew1) | exact HB.out))); rintro e w' ⟨rfl, ⟨nd, rfl⟩⟩; refine ⟨_, rfl, ?_⟩))
  go_ret
  exact ⟨by first | rfl | (simp; done) | (simp [*]; done), by repeat (first | exact Drawn0.refl _ | apply Drawn0.step)⟩

/-! ### reedsolomon_galAdd: function 43 -/
def reedsolomon_galAdd.f (a0 : Int) (a1 : Int) : Option (Int) := some (Go.bits .xor .u8 a0 a1)
set_option maxHeartbeats 8000000 in
set_option maxRecDepth 100000 in
theorem reedsolomon_galAdd.calls (a0 : Int) (a1 : Int) (r : Int) (w : World) (h : reedsolomon_galAdd.f a0 a1 = some r) :
    Calls Tryd.prog 43 #[.int .u8 a0, .int .u8 a1] w fun e w' => e = .returned (.int .u8 r) ∧ Drawn0 w w' := by
  have H : (some (Go.bits .xor .u8 a0 a1)) = some r := h
  clear h
  obtain rfl := Option.some.inj H
  go_enter Tryd.func43, Tryd.ntmps43
  go_wp2
  go_ret
  exact ⟨by first | rfl | (simp; done) | (simp [*]; done), by repeat (first | exact Drawn0.refl _ | apply Drawn0.step)⟩

/-! ### reedsolomon_DoorAdd: function 28 -/
def reedsolomon_DoorAdd.f (a0 : Int) (a1 : Int) : Option (Int) := (reedsolomon_galAdd.f a0 a1).bind fun t103 => (some t103)
set_option maxHeartbeats 8000000 in
set_option maxRecDepth 100000 in
theorem reedsolomon_DoorAdd.calls (a0 : Int) (a1 : Int) (r : Int) (w : World) (h : reedsolomon_DoorAdd.f a0 a1 = some r) :
    Calls Tryd.prog 28 #[.int .u8 a0, .int .u8 a1] w fun e w' => e = .returned (.int .u8 r) ∧ Drawn0 w w' := by
  have H : ((reedsolomon_galAdd.f a0 a1).bind fun t103 => (some t103)) = some r := h
  clear h
  replace H := Option.bind_eq_some_iff.mp H
  obtain ⟨t103, A30, H⟩ := H
  replace H : (some t103) = some r := H
  have A3 := Aside0.mk A30
  clear A30
  obtain rfl := Option.some.inj H
  go_enter Tryd.func28, Tryd.ntmps28
  go_wp2_with (first | ((with_reducible refine gate_callee (f := 43) rfl ?_); refine goesL_ (some 7) rfl rfl Tryd.func43 (by kernel_rfl) rfl #[.int .u8 a0, .int .u8 a1] rfl (by (try simp only [List.map_toArray, List.map_cons, List.map_nil]); first | done | rfl | (simp only [List.length_drop, List.length_take]; rfl)) ?_; (with_reducible refine (reedsolomon_galAdd.calls a0 a1 t103 _ A3.out).mono ?_); rintro e w' ⟨rfl, ⟨nd, rfl⟩⟩; refine ⟨_, rfl, ?_⟩))
  go_ret
  exact ⟨by first | rfl | (simp; done) | (simp [*]; done), by repeat (first | exact Drawn0.refl _ | apply Drawn0.step)⟩

/-! ### impl_Add: function 10 -/
def impl_Add.f (a0 : Int) (a1 : Int) : Option (Int) := (reedsolomon_DoorAdd.f a0 a1).bind fun t104 => (some t104)
set_option maxHeartbeats 8000000 in
set_option maxRecDepth 100000 in
theorem impl_Add.calls (a0 : Int) (a1 : Int) (r : Int) (w : World) (h : impl_Add.f a0 a1 = some r) :
    Calls Tryd.prog 10 #[.int .u8 a0, .int .u8 a1] w fun e w' => e = .returned (.int .u8 r) ∧ Drawn0 w w' := by
  have H : ((reedsolomon_DoorAdd.f a0 a1).bind fun t104 => (some t104)) = some r := h
  clear h
  replace H := Option.bind_eq_some_iff.mp H
  obtain ⟨t104, A30, H⟩ := H
  replace H : (some t104) = some r := H
  have A3 := Aside0.mk A30
  clear A30
  obtain rfl := Option.some.inj H
  go_enter Tryd.func10, Tryd.ntmps10
  go_wp2_with (first | ((with_reducible refine gate_callee (f := 28) rfl ?_); refine goesL_ (some 7) rfl rfl Tryd.func28 (by kernel_rfl) rfl #[.int .u8 a0, .int .u8 a1] rfl (by (try simp only [List.map_toArray, List.map_cons, List.map_nil]); first | done | rfl | (simp only [List.length_drop, List.length_take]; rfl)) ?_; (with_reducible refine (reedsolomon_DoorAdd.calls a0 a1 t104 _ A3.out).mono ?_); rintro e w' ⟨rfl, ⟨nd, rfl⟩⟩; refine ⟨_, rfl, ?_⟩))
  go_ret
  exact ⟨by first | rfl | (simp; done) | (simp [*]; done), by repeat (first | exact Drawn0.refl _ | apply Drawn0.step)⟩

/-! ### laws_FnFieldRing: function 3 -/
def laws_FnFieldRing.f (a0 : Int) (a1 : Int) (a2 : Int) : Option (Bool) := (impl_Mul.f a0 a1).bind fun t105 => ((impl_Mul.f a1 a0).bind fun t106 => (if t105 = t106 then ((impl_Mul.f a1 a2).bind fun t107 => ((impl_Mul.f a0 t107).bind fun t108 => ((impl_Mul.f a0 a1).bind fun t109 => ((impl_Mul.f t109 a2).bind fun t110 => (if t108 = t110 then ((impl_Add.f a1 a2).bind fun t111 => ((impl_Mul.f a0 t111).bind fun t112 => ((impl_Mul.f a0 a1).bind fun t113 => ((impl_Mul.f a0 a2).bind fun t114 => ((impl_Add.f t113 t114).bind fun t115 => (if t112 = t115 then ((impl_Mul.f a0 1).bind fun t116 => (if t116 = a0 then ((impl_Mul.f a0 0).bind fun t117 => (some (t117 == 0))) else (some false))) else (some false))))))) else (some false)))))) else (some false)))
set_option maxHeartbeats 8000000 in
set_option maxRecDepth 100000 in
theorem laws_FnFieldRing.calls (a0 : Int) (a1 : Int) (a2 : Int) (r : Bool) (w : World) (HG_ : Glob w) (h : laws_FnFieldRing.f a0 a1 a2 = some r) :
    Calls Tryd.prog 3 #[.int .u8 a0, .int .u8 a1, .int .u8 a2] w fun e w' => e = .returned (.bool r) ∧ Drawn0 w w' := by
  have HG := Aside0.mk HG_
  clear HG_
  have H : ((impl_Mul.f a0 a1).bind fun t105 => ((impl_Mul.f a1 a0).bind fun t106 => (if t105 = t106 then ((impl_Mul.f a1 a2).bind fun t107 => ((impl_Mul.f a0 t107).bind fun t108 => ((impl_Mul.f a0 a1).bind fun t109 => ((impl_Mul.f t109 a2).bind fun t110 => (if t108 = t110 then ((impl_Add.f a1 a2).bind fun t111 => ((impl_Mul.f a0 t111).bind fun t112 => ((impl_Mul.f a0 a1).bind fun t113 => ((impl_Mul.f a0 a2).bind fun t114 => ((impl_Add.f t113 t114).bind fun t115 => (if t112 = t115 then ((impl_Mul.f a0 1).bind fun t116 => (if t116 = a0 then ((impl_Mul.f a0 0).bind fun t117 => (some (t117 == 0))) else (some false))) else (some false))))))) else (some false)))))) else (some false)))) = some r := h
  clear h
  replace H := Option.bind_eq_some_iff.mp H
  obtain ⟨t105, A40, H⟩ := H
  replace H : ((impl_Mul.f a1 a0).bind fun t106 => (if t105 = t106 then ((impl_Mul.f a1 a2).bind fun t107 => ((impl_Mul.f a0 t107).bind fun t108 => ((impl_Mul.f a0 a1).bind fun t109 => ((impl_Mul.f t109 a2).bind fun t110 => (if t108 = t110 then ((impl_Add.f a1 a2).bind fun t111 => ((impl_Mul.f a0 t111).bind fun t112 => ((impl_Mul.f a0 a1).bind fun t113 => ((impl_Mul.f a0 a2).bind fun t114 => ((impl_Add.f t113 t114).bind fun t115 => (if t112 = t115 then ((impl_Mul.f a0 1).bind fun t116 => (if t116 = a0 then ((impl_Mul.f a0 0).bind fun t117 => (some (t117 == 0))) else (some false))) else (some false))))))) else (some false)))))) else (some false))) = some r := H
  have A4 := Aside0.mk A40
  clear A40
  replace H := Option.bind_eq_some_iff.mp H
  obtain ⟨t106, A50, H⟩ := H
  replace H : (if t105 = t106 then ((impl_Mul.f a1 a2).bind fun t107 => ((impl_Mul.f a0 t107).bind fun t108 => ((impl_Mul.f a0 a1).bind fun t109 => ((impl_Mul.f t109 a2).bind fun t110 => (if t108 = t110 then ((impl_Add.f a1 a2).bind fun t111 => ((impl_Mul.f a0 t111).bind fun t112 => ((impl_Mul.f a0 a1).bind fun t113 => ((impl_Mul.f a0 a2).bind fun t114 => ((impl_Add.f t113 t114).bind fun t115 => (if t112 = t115 then ((impl_Mul.f a0 1).bind fun t116 => (if t116 = a0 then ((impl_Mul.f a0 0).bind fun t117 => (some (t117 == 0))) else (some false))) else (some false))))))) else (some false)))))) else (some false)) = some r := H
  have A5 := Aside0.mk A50
  clear A50
  by_cases c6 : t105 = t106
  · rw [if_pos c6] at H
    have c6b0 : (t105 == t106) = true := beq_iff_eq.mpr c6
    have c6b1 : (t105 != t106) = false := bne_eq_false_iff_eq.mpr c6
    clear c6
    replace H := Option.bind_eq_some_iff.mp H
    obtain ⟨t107, A70, H⟩ := H
    replace H : ((impl_Mul.f a0 t107).bind fun t108 => ((impl_Mul.f a0 a1).bind fun t109 => ((impl_Mul.f t109 a2).bind fun t110 => (if t108 = t110 then ((impl_Add.f a1 a2).bind fun t111 => ((impl_Mul.f a0 t111).bind fun t112 => ((impl_Mul.f a0 a1).bind fun t113 => ((impl_Mul.f a0 a2).bind fun t114 => ((impl_Add.f t113 t114).bind fun t115 => (if t112 = t115 then ((impl_Mul.f a0 1).bind fun t116 => (if t116 = a0 then ((impl_Mul.f a0 0).bind fun t117 => (some (t117 == 0))) else (some false))) else (some false))))))) else (some false))))) = some r := H
    have A7 := Aside0.mk A70
    clear A70
    replace H := Option.bind_eq_some_iff.mp H
    obtain ⟨t108, A80, H⟩ := H
    replace H : ((impl_Mul.f a0 a1).bind fun t109 => ((impl_Mul.f t109 a2).bind fun t110 => (if t108 = t110 then ((impl_Add.f a1 a2).bind fun t111 => ((impl_Mul.f a0 t111).bind fun t112 => ((impl_Mul.f a0 a1).bind fun t113 => ((impl_Mul.f a0 a2).bind fun t114 => ((impl_Add.f t113 t114).bind fun t115 => (if t112 = t115 then ((impl_Mul.f a0 1).bind fun t116 => (if t116 = a0 then ((impl_Mul.f a0 0).bind fun t117 => (some (t117 == 0))) else (some false))) else (some false))))))) else (some false)))) = some r := H
    have A8 := Aside0.mk A80
    clear A80
    replace H := Option.bind_eq_some_iff.mp H
    obtain ⟨t109, A90, H⟩ := H
    obtain rfl : t105 = t109 := Option.some.inj (A4.out.symm.trans A90)
    replace H : ((impl_Mul.f t105 a2).bind fun t110 => (if t108 = t110 then ((impl_Add.f a1 a2).bind fun t111 => ((impl_Mul.f a0 t111).bind fun t112 => ((impl_Mul.f a0 a1).bind fun t113 => ((impl_Mul.f a0 a2).bind fun t114 => ((impl_Add.f t113 t114).bind fun t115 => (if t112 = t115 then ((impl_Mul.f a0 1).bind fun t116 => (if t116 = a0 then ((impl_Mul.f a0 0).bind fun t117 => (some (t117 == 0))) else (some false))) else (some false))))))) else (some false))) = some r := H
    have A9 := Aside0.mk A90
    clear A90
    replace H := Option.bind_eq_some_iff.mp H
    obtain ⟨t110, A100, H⟩ := H
    replace H : (if t108 = t110 then ((impl_Add.f a1 a2).bind fun t111 => ((impl_Mul.f a0 t111).bind fun t112 => ((impl_Mul.f a0 a1).bind fun t113 => ((impl_Mul.f a0 a2).bind fun t114 => ((impl_Add.f t113 t114).bind fun t115 => (if t112 = t115 then ((impl_Mul.f a0 1).bind fun t116 => (if t116 = a0 then ((impl_Mul.f a0 0).bind fun t117 => (some (t117 == 0))) else (some false))) else (some false))))))) else (some false)) = some r := H
    have A10 := Aside0.mk A100
    clear A100
    by_cases c11 : t108 = t110
    · rw [if_pos c11] at H
      have c11b0 : (t108 == t110) = true := beq_iff_eq.mpr c11
      have c11b1 : (t108 != t110) = false := bne_eq_false_iff_eq.mpr c11
      clear c11
      replace H := Option.bind_eq_some_iff.mp H
      obtain ⟨t111, A120, H⟩ := H
      replace H : ((impl_Mul.f a0 t111).bind fun t112 => ((impl_Mul.f a0 a1).bind fun t113 => ((impl_Mul.f a0 a2).bind fun t114 => ((impl_Add.f t113 t114).bind fun t115 => (if t112 = t115 then ((impl_Mul.f a0 1).bind fun t116 => (if t116 = a0 then ((impl_Mul.f a0 0).bind fun t117 => (some (t117 == 0))) else (some false))) else (some false)))))) = some r := H
      have A12 := Aside0.mk A120
      clear A120
      replace H := Option.bind_eq_some_iff.mp H
      obtain ⟨t112, A130, H⟩ := H
      replace H : ((impl_Mul.f a0 a1).bind fun t113 => ((impl_Mul.f a0 a2).bind fun t114 => ((impl_Add.f t113 t114).bind fun t115 => (if t112 = t115 then ((impl_Mul.f a0 1).bind fun t116 => (if t116 = a0 then ((impl_Mul.f a0 0).bind fun t117 => (some (t117 == 0))) else (some false))) else (some false))))) = some r := H
      have A13 := Aside0.mk A130
      clear A130
      replace H := Option.bind_eq_some_iff.mp H
      obtain ⟨t113, A140, H⟩ := H
      obtain rfl : t105 = t113 := Option.some.inj (A4.out.symm.trans A140)
      replace H : ((impl_Mul.f a0 a2).bind fun t114 => ((impl_Add.f t105 t114).bind fun t115 => (if t112 = t115 then ((impl_Mul.f a0 1).bind fun t116 => (if t116 = a0 then ((impl_Mul.f a0 0).bind fun t117 => (some (t117 == 0))) else (some false))) else (some false)))) = some r := H
      have A14 := Aside0.mk A140
      clear A140
      replace H := Option.bind_eq_some_iff.mp H
      obtain ⟨t114, A150, H⟩ := H
      replace H : ((impl_Add.f t105 t114).bind fun t115 => (if t112 = t115 then ((impl_Mul.f a0 1).bind fun t116 => (if t116 = a0 then ((impl_Mul.f a0 0).bind fun t117 => (some (t117 == 0))) else (some false))) else (some false))) = some r := H
      have A15 := Aside0.mk A150
      clear A150
      replace H := Option.bind_eq_some_iff.mp H
      obtain ⟨t115, A160, H⟩ := H
      replace H : (if t112 = t115 then ((impl_Mul.f a0 1).bind fun t116 => (if t116 = a0 then ((impl_Mul.f a0 0).bind fun t117 => (some (t117 == 0))) else (some false))) else (some false)) = some r := H
      have A16 := Aside0.mk A160
      clear A160
      by_cases c17 : t112 = t115
      · rw [if_pos c17] at H
        have c17b0 : (t112 == t115) = true := beq_iff_eq.mpr c17
        have c17b1 : (t112 != t115) = false := bne_eq_false_iff_eq.mpr c17
        clear c17
        replace H := Option.bind_eq_some_iff.mp H
        obtain ⟨t116, A180, H⟩ := H
        replace H : (if t116 = a0 then ((impl_Mul.f a0 0).bind fun t117 => (some (t117 == 0))) else (some false)) = some r := H
        have A18 := Aside0.mk A180
        clear A180
        by_cases c19 : t116 = a0
        · rw [if_pos c19] at H
          have c19b0 : (t116 == a0) = true := beq_iff_eq.mpr c19
          have c19b1 : (t116 != a0) = false := bne_eq_false_iff_eq.mpr c19
          clear c19
          replace H := Option.bind_eq_some_iff.mp H
          obtain ⟨t117, A200, H⟩ := H
          replace H : (some (t117 == 0)) = some r := H
          have A20 := Aside0.mk A200
          clear A200
          obtain rfl := Option.some.inj H
          go_enter Tryd.func3, Tryd.ntmps3
          go_wp2_with (first | ((with_reducible refine gate_callee (f := 9) rfl ?_); refine goesL_ (some 9) rfl rfl Tryd.func9 (by kernel_rfl) rfl #[.int .u8 a0, .int .u8 a1] rfl (by (try simp only [List.map_toArray, List.map_cons, List.map_nil]); first | done | rfl | (simp only [List.length_drop, List.length_take]; rfl)) ?_; (with_reducible refine (impl_Mul.calls a0 a1 t105 _ ?side1 A4.out).mono ?_); (case side1 => first | exact HG.out | exact Glob.drewN HG.out _ | exact Glob.below HG.out (by repeat (first | (with_reducible first | exact HB.out | apply below_alloc | apply pw_below_drewN | apply below_drew1) | exact HB.out))); rintro e w' ⟨rfl, ⟨nd, rfl⟩⟩; refine ⟨_, rfl, ?_⟩) | ((with_reducible refine gate_callee (f := 9) rfl ?_); refine goesL_ (some 12) rfl rfl Tryd.func9 (by kernel_rfl) rfl #[.int .u8 a1, .int .u8 a0] rfl (by (try simp only [List.map_toArray, List.map_cons, List.map_nil]); first | done | rfl | (simp only [List.length_drop, List.length_take]; rfl)) ?_; (with_reducible refine (impl_Mul.calls a1 a0 t106 _ ?side1 A5.out).mono ?_); (case side1 => first | exact HG.out | exact Glob.drewN HG.out _ | exact Glob.below HG.out (by repeat (first | (with_reducible first | exact HB.out | apply below_alloc | apply pw_below_drewN | apply below_drew1) | exact HB.out))); rintro e w' ⟨rfl, ⟨nd, rfl⟩⟩; refine ⟨_, rfl, ?_⟩) | (go_at_call 9; (with_reducible refine (impl_Mul.calls a1 a2 t107 _ ?side1 A7.out).mono ?_); (case side1 => first | exact HG.out | exact Glob.drewN HG.out _ | exact Glob.below HG.out (by repeat (first | (with_reducible first | exact HB.out | apply below_alloc | apply pw_below_drewN | apply below_drew1) | exact HB.out))); rintro e w' ⟨rfl, ⟨nd, rfl⟩⟩) | (go_at_call 9; (with_reducible refine (impl_Mul.calls a0 t107 t108 _ ?side1 A8.out).mono ?_); (case side1 => first | exact HG.out | exact Glob.drewN HG.out _ | exact Glob.below HG.out (by repeat (first | (with_reducible first | exact HB.out | apply below_alloc | apply pw_below_drewN | apply below_drew1) | exact HB.out))); rintro e w' ⟨rfl, ⟨nd, rfl⟩⟩) | (go_at_call 9; (with_reducible refine (impl_Mul.calls a0 a1 t105 _ ?side1 A9.out).mono ?_); (case side1 => first | exact HG.out | exact Glob.drewN HG.out _ | exact Glob.below HG.out (by repeat (first | (with_reducible first | exact HB.out | apply below_alloc | apply pw_below_drewN | apply below_drew1) | exact HB.out))); rintro e w' ⟨rfl, ⟨nd, rfl⟩⟩) | (go_at_call 9; (with_reducible refine (impl_Mul.calls t105 a2 t110 _ ?side1 A10.out).mono ?_); (case side1 => first | exact HG.out | exact Glob.drewN HG.out _ | exact Glob.below HG.out (by repeat (first | (with_reducible first | exact HB.out | apply below_alloc | apply pw_below_drewN | apply below_drew1) | exact HB.out))); rintro e w' ⟨rfl, ⟨nd, rfl⟩⟩) | (go_at_call 10; (with_reducible refine (impl_Add.calls a1 a2 t111 _ A12.out).mono ?_); rintro e w' ⟨rfl, ⟨nd, rfl⟩⟩) | (go_at_call 9; (with_reducible refine (impl_Mul.calls a0 t111 t112 _ ?side1 A13.out).mono ?_); (case side1 => first | exact HG.out | exact Glob.drewN HG.out _ | exact Glob.below HG.out (by repeat (first | (with_reducible first | exact HB.out | apply below_alloc | apply pw_below_drewN | apply below_drew1) | exact HB.out))); rintro e w' ⟨rfl, ⟨nd, rfl⟩⟩) | (go_at_call 9; (with_reducible refine (impl_Mul.calls a0 a1 t105 _ ?side1 A14.out).mono ?_); (case side1 => first | exact HG.out | exact Glob.drewN HG.out _ | exact Glob.below HG.out (by repeat (first | (with_reducible first | exact HB.out | apply below_alloc | apply pw_below_drewN | apply below_drew1) | exact HB.out))); rintro e w' ⟨rfl, ⟨nd, rfl⟩⟩) | (go_at_call 9; (with_reducible refine (impl_Mul.calls a0 a2 t114 _ ?side1 A15.out).mono ?_); (case side1 => first | exact HG.out | exact Glob.drewN HG.out _ | exact Glob.below HG.out (by repeat (first | (with_reducible first | exact HB.out | apply below_alloc | apply pw_below_drewN | apply below_drew1) | exact HB.out))); rintro e w' ⟨rfl, ⟨nd, rfl⟩⟩) | (go_at_call 10; (with_reducible refine (impl_Add.calls t105 t114 t115 _ A16.out).mono ?_); rintro e w' ⟨rfl, ⟨nd, rfl⟩⟩) | (go_at_call 9; (with_reducible refine (impl_Mul.calls a0 1 t116 _ ?side1 A18.out).mono ?_); (case side1 => first | exact HG.out | exact Glob.drewN HG.out _ | exact Glob.below HG.out (by repeat (first | (with_reducible first | exact HB.out | apply below_alloc | apply pw_below_drewN | apply below_drew1) | exact HB.out))); rintro e w' ⟨rfl, ⟨nd, rfl⟩⟩) | (go_at_call 9; (with_reducible refine (impl_Mul.calls a0 0 t117 _ ?side1 A20.out).mono ?_); (case side1 => first | exact HG.out | exact Glob.drewN HG.out _ | exact Glob.below HG.out (by repeat (first | (with_reducible first | exact HB.out | apply below_alloc | apply pw_below_drewN | apply below_drew1) | exact HB.out))); rintro e w' ⟨rfl, ⟨nd, rfl⟩⟩))
          go_ret
          exact ⟨by first | rfl | (simp; done) | (simp [*]; done), by repeat (first | exact Drawn0.refl _ | apply Drawn0.step)⟩
        · rw [if_neg c19] at H
          have c19b0 : (t116 == a0) = false := beq_eq_false_iff_ne.mpr c19
          have c19b1 : (t116 != a0) = true := bne_iff_ne.mpr c19
          obtain rfl := Option.some.inj H
          go_enter Tryd.func3, Tryd.ntmps3
          go_wp2_with (first | ((with_reducible refine gate_callee (f := 9) rfl ?_); refine goesL_ (some 9) rfl rfl Tryd.func9 (by kernel_rfl) rfl #[.int .u8 a0, .int .u8 a1] rfl (by (try simp only [List.map_toArray, List.map_cons, List.map_nil]); first | done | rfl | (simp only [List.length_drop, List.length_take]; rfl)) ?_; (with_reducible refine (impl_Mul.calls a0 a1 t105 _ ?side1 A4.out).mono ?_); (case side1 => first | exact HG.out | exact Glob.drewN HG.out _ | exact Glob.below HG.out (by repeat (first | (with_reducible first | exact HB.out | apply below_alloc | apply pw_below_drewN | apply below_drew1) | exact HB.out))); rintro e w' ⟨rfl, ⟨nd, rfl⟩⟩; refine ⟨_, rfl, ?_⟩) | ((with_reducible refine gate_callee (f := 9) rfl ?_); refine goesL_ (some 12) rfl rfl Tryd.func9 (by kernel_rfl) rfl #[.int .u8 a1, .int .u8 a0] rfl (by (try simp only [List.map_toArray, List.map_cons, List.map_nil]); first | done | rfl | (simp only [List.length_drop, List.length_take]; rfl)) ?_; (with_reducible refine (impl_Mul.calls a1 a0 t106 _ ?side1 A5.out).mono ?_); (case side1 => first | exact HG.out | exact Glob.drewN HG.out _ | exact Glob.below HG.out (by repeat (first | (with_reducible first | exact HB.out | apply below_alloc | apply pw_below_drewN | apply below_drew1) | exact HB.out))); rintro e w' ⟨rfl, ⟨nd, rfl⟩⟩; refine ⟨_, rfl, ?_⟩) | (go_at_call 9; (with_reducible refine (impl_Mul.calls a1 a2 t107 _ ?side1 A7.out).mono ?_); (case side1 => first | exact HG.out | exact Glob.drewN HG.out _ | exact Glob.below HG.out (by repeat (first | (with_reducible first | exact HB.out | apply below_alloc | apply pw_below_drewN | apply below_drew1) | exact HB.out))); rintro e w' ⟨rfl, ⟨nd, rfl⟩⟩) | (go_at_call 9; (with_reducible refine (impl_Mul.calls a0 t107 t108 _ ?side1 A8.out).mono ?_); (case side1 => first | exact HG.out | exact Glob.drewN HG.out _ | exact Glob.below HG.out (by repeat (first | (with_reducible first | exact HB.out | apply below_alloc | apply pw_below_drewN | apply below_drew1) | exact HB.out))); rintro e w' ⟨rfl, ⟨nd, rfl⟩⟩) | (go_at_call 9; (with_reducible refine (impl_Mul.calls a0 a1 t105 _ ?side1 A9.out).mono ?_); (case side1 => first | exact HG.out | exact Glob.drewN HG.out _ | exact Glob.below HG.out (by repeat (first | (with_reducible first | exact HB.out | apply below_alloc | apply pw_below_drewN | apply below_drew1) | exact HB.out))); rintro e w' ⟨rfl, ⟨nd, rfl⟩⟩) | (go_at_call 9; (with_reducible refine (impl_Mul.calls t105 a2 t110 _ ?side1 A10.out).mono ?_); (case side1 => first | exact HG.out | exact Glob.drewN HG.out _ | exact Glob.below HG.out (by repeat (first | (with_reducible first | exact HB.out | apply below_alloc | apply pw_below_drewN | apply below_drew1) | exact HB.out))); rintro e w' ⟨rfl, ⟨nd, rfl⟩⟩) | (go_at_call 10; (with_reducible refine (impl_Add.calls a1 a2 t111 _ A12.out).mono ?_); rintro e w' ⟨rfl, ⟨nd, rfl⟩⟩) | (go_at_call 9; (with_reducible refine (impl_Mul.calls a0 t111 t112 _ ?side1 A13.out).mono ?_); (case side1 => first | exact HG.out | exact Glob.drewN HG.out _ | exact Glob.below HG.out (by repeat (first | (with_reducible first | exact HB.out | apply below_alloc | apply pw_below_drewN | apply below_drew1) | exact HB.out))); rintro e w' ⟨rfl, ⟨nd, rfl⟩⟩) | (go_at_call 9; (with_reducible refine (impl_Mul.calls a0 a1 t105 _ ?side1 A14.out).mono ?_); (case side1 => first | exact HG.out | exact Glob.drewN HG.out _ | exact Glob.below HG.out (by repeat (first | (with_reducible first | exact HB.out | apply below_alloc | apply pw_below_drewN | apply below_drew1) | exact HB.out))); rintro e w' ⟨rfl, ⟨nd, rfl⟩⟩) | (go_at_call 9; (with_reducible refine (impl_Mul.calls a0 a2 t114 _ ?side1 A15.out).mono ?_); (case side1 => first | exact HG.out | exact Glob.drewN HG.out _ | exact Glob.below HG.out (by repeat (first | (with_reducible first | exact HB.out | apply below_alloc | apply pw_below_drewN | apply below_drew1) | exact HB.out))); rintro e w' ⟨rfl, ⟨nd, rfl⟩⟩) | (go_at_call 10; (with_reducible refine (impl_Add.calls t105 t114 t115 _ A16.out).mono ?_); rintro e w' ⟨rfl, ⟨nd, rfl⟩⟩) | (go_at_call 9; (with_reducible refine (impl_Mul.calls a0 1 t116 _ ?side1 A18.out).mono ?_); (case side1 => first | exact HG.out | exact Glob.drewN HG.out _ | exact Glob.below HG.out (by repeat (first | (with_reducible first | exact HB.out | apply below_alloc | apply pw_below_drewN | apply below_drew1) | exact HB.out))); rintro e w' ⟨rfl, ⟨nd, rfl⟩⟩))
          go_ret
          exact ⟨by first | rfl | (simp; done) | (simp [*]; done), by repeat (first | exact Drawn0.refl _ | apply Drawn0.step)⟩
      · rw [if_neg c17] at H
        have c17b0 : (t112 == t115) = false := beq_eq_false_iff_ne.mpr c17
        have c17b1 : (t112 != t115) = true := bne_iff_ne.mpr c17
        obtain rfl := Option.some.inj H
        go_enter Tryd.func3, Tryd.ntmps3
        go_wp2_with (first | ((with_reducible refine gate_callee (f := 9) rfl ?_); refine goesL_ (some 9) rfl rfl Tryd.func9 (by kernel_rfl) rfl #[.int .u8 a0, .int .u8 a1] rfl (by (try simp only [List.map_toArray, List.map_cons, List.map_nil]); first | done | rfl | (simp only [List.length_drop, List.length_take]; rfl)) ?_; (with_reducible refine (impl_Mul.calls a0 a1 t105 _ ?side1 A4.out).mono ?_); (case side1 => first | exact HG.out | exact Glob.drewN HG.out _ | exact Glob.below HG.out (by repeat (first | (with_reducible first | exact HB.out | apply below_alloc | apply pw_below_drewN | apply below_drew1) | exact HB.out))); rintro e w' ⟨rfl, ⟨nd, rfl⟩⟩; refine ⟨_, rfl, ?_⟩) | ((with_reducible refine gate_callee (f := 9) rfl ?_); refine goesL_ (some 12) rfl rfl Tryd.func9 (by kernel_rfl) rfl #[.int .u8 a1, .int .u8 a0] rfl (by (try simp only [List.map_toArray, List.map_cons, List.map_nil]); first | done | rfl | (simp only [List.length_drop, List.length_take]; rfl)) ?_; (with_reducible refine (impl_Mul.calls a1 a0 t106 _ ?side1 A5.out).mono ?_); (case side1 => first | exact HG.out | exact Glob.drewN HG.out _ | exact Glob.below HG.out (by repeat (first | (with_reducible first | exact HB.out | apply below_alloc | apply pw_below_drewN | apply below_drew1) | exact HB.out))); rintro e w' ⟨rfl, ⟨nd, rfl⟩⟩; refine ⟨_, rfl, ?_⟩) | (go_at_call 9; (with_reducible refine (impl_Mul.calls a1 a2 t107 _ ?side1 A7.out).mono ?_); (case side1 => first | exact HG.out | exact Glob.drewN HG.out _ | exact Glob.below HG.out (by repeat (first | (with_reducible first | exact HB.out | apply below_alloc | apply pw_below_drewN | apply below_drew1) | exact HB.out))); rintro e w' ⟨rfl, ⟨nd, rfl⟩⟩) | (go_at_call 9; (with_reducible refine (impl_Mul.calls a0 t107 t108 _ ?side1 A8.out).mono ?_); (case side1 => first | exact HG.out | exact Glob.drewN HG.out _ | exact Glob.below HG.out (by repeat (first | (with_reducible first | exact HB.out | apply below_alloc | apply pw_below_drewN | apply below_drew1) | exact HB.out))); rintro e w' ⟨rfl, ⟨nd, rfl⟩⟩) | (go_at_call 9; (with_reducible refine (impl_Mul.calls a0 a1 t105 _ ?side1 A9.out).mono ?_); (case side1 => first | exact HG.out | exact Glob.drewN HG.out _ | exact Glob.below HG.out (by repeat (first | (with_reducible first | exact HB.out | apply below_alloc | apply pw_below_drewN | apply below_drew1) | exact HB.out))); rintro e w' ⟨rfl, ⟨nd, rfl⟩⟩) | (go_at_call 9; (with_reducible refine (impl_Mul.calls t105 a2 t110 _ ?side1 A10.out).mono ?_); (case side1 => first | exact HG.out | exact Glob.drewN HG.out _ | exact Glob.below HG.out (by repeat (first | (with_reducible first | exact HB.out | apply below_alloc | apply pw_below_drewN | apply below_drew1) | exact HB.out))); rintro e w' ⟨rfl, ⟨nd, rfl⟩⟩) | (go_at_call 10; (with_reducible refine (impl_Add.calls a1 a2 t111 _ A12.out).mono ?_); rintro e w' ⟨rfl, ⟨nd, rfl⟩⟩) | (go_at_call 9; (with_reducible refine (impl_Mul.calls a0 t111 t112 _ ?side1 A13.out).mono ?_); (case side1 => first | exact HG.out | exact Glob.drewN HG.out _ | exact Glob.below HG.out (by repeat (first | (with_reducible first | exact HB.out | apply below_alloc | apply pw_below_drewN | apply below_drew1) | exact HB.out))); rintro e w' ⟨rfl, ⟨nd, rfl⟩⟩) | (go_at_call 9; (with_reducible refine (impl_Mul.calls a0 a1 t105 _ ?side1 A14.out).mono ?_); (case side1 => first | exact HG.out | exact Glob.drewN HG.out _ | exact Glob.below HG.out (by repeat (first | (with_reducible first | exact HB.out | apply below_alloc | apply pw_below_drewN | apply below_drew1) | exact HB.out))); rintro e w' ⟨rfl, ⟨nd, rfl⟩⟩) | (go_at_call 9; (with_reducible refine (impl_Mul.calls a0 a2 t114 _ ?side1 A15.out).mono ?_); (case side1 => first | exact HG.out | exact Glob.drewN HG.out _ | exact Glob.below HG.out (by repeat (first | (with_reducible first | exact HB.out | apply below_alloc | apply pw_below_drewN | apply below_drew1) | exact HB.out))); rintro e w' ⟨rfl, ⟨nd, rfl⟩⟩) | (go_at_call 10; (with_reducible refine (impl_Add.calls t105 t114 t115 _ A16.out).mono ?_); rintro e w' ⟨rfl, ⟨nd, rfl⟩⟩))
        go_ret
        exact ⟨by first | rfl | (simp; done) | (simp [*]; done), by repeat (first | exact Drawn0.refl _ | apply Drawn0.step)⟩
    · rw [if_neg c11] at H
      have c11b0 : (t108 == t110) = false := beq_eq_false_iff_ne.mpr c11
      have c11b1 : (t108 != t110) = true := bne_iff_ne.mpr c11
      obtain rfl := Option.some.inj H
      go_enter Tryd.func3, Tryd.ntmps3
      go_wp2_with (first | ((with_reducible refine gate_callee (f := 9) rfl ?_); refine goesL_ (some 9) rfl rfl Tryd.func9 (by kernel_rfl) rfl #[.int .u8 a0, .int .u8 a1] rfl (by (try simp only [List.map_toArray, List.map_cons, List.map_nil]); first | done | rfl | (simp only [List.length_drop, List.length_take]; rfl)) ?_; (with_reducible refine (impl_Mul.calls a0 a1 t105 _ ?side1 A4.out).mono ?_); (case side1 => first | exact HG.out | exact Glob.drewN HG.out _ | exact Glob.below HG.out (by repeat (first | (with_reducible first | exact HB.out | apply below_alloc | apply pw_below_drewN | apply below_drew1) | exact HB.out))); rintro e w' ⟨rfl, ⟨nd, rfl⟩⟩; refine ⟨_, rfl, ?_⟩) | ((with_reducible refine gate_callee (f := 9) rfl ?_); refine goesL_ (some 12) rfl rfl Tryd.func9 (by kernel_rfl) rfl #[.int .u8 a1, .int .u8 a0] rfl (by (try simp only [List.map_toArray, List.map_cons, List.map_nil]); first | done | rfl | (simp only [List.length_drop, List.length_take]; rfl)) ?_; (with_reducible refine (impl_Mul.calls a1 a0 t106 _ ?side1 A5.out).mono ?_); (case side1 => first | exact HG.out | exact Glob.drewN HG.out _ | exact Glob.below HG.out (by repeat (first | (with_reducible first | exact HB.out | apply below_alloc | apply pw_below_drewN | apply below_drew1) | exact HB.out))); rintro e w' ⟨rfl, ⟨nd, rfl⟩⟩; refine ⟨_, rfl, ?_⟩) | (go_at_call 9; (with_reducible refine (impl_Mul.calls a1 a2 t107 _ ?side1 A7.out).mono ?_); (case side1 => first | exact HG.out | exact Glob.drewN HG.out _ | exact Glob.below HG.out (by repeat (first | (with_reducible first | exact HB.out | apply below_alloc | apply pw_below_drewN | apply below_drew1) | exact HB.out))); rintro e w' ⟨rfl, ⟨nd, rfl⟩⟩) | (go_at_call 9; (with_reducible refine (impl_Mul.calls a0 t107 t108 _ ?side1 A8.out).mono ?_); (case side1 => first | exact HG.out | exact Glob.drewN HG.out _ | exact Glob.below HG.out (by repeat (first | (with_reducible first | exact HB.out | apply below_alloc | apply pw_below_drewN | apply below_drew1) | exact HB.out))); rintro e w' ⟨rfl, ⟨nd, rfl⟩⟩) | (go_at_call 9; (with_reducible refine (impl_Mul.calls a0 a1 t105 _ ?side1 A9.out).mono ?_); (case side1 => first | exact HG.out | exact Glob.drewN HG.out _ | exact Glob.below HG.out (by repeat (first | (with_reducible first | exact HB.out | apply below_alloc | apply pw_below_drewN | apply below_drew1) | exact HB.out))); rintro e w' ⟨rfl, ⟨nd, rfl⟩⟩) | (go_at_call 9; (with_reducible refine (impl_Mul.calls t105 a2 t110 _ ?side1 A10.out).mono ?_); (case side1 => first | exact HG.out | exact Glob.drewN HG.out _ | exact Glob.below HG.out (by repeat (first | (with_reducible first | exact HB.out | apply below_alloc | apply pw_below_drewN | apply below_drew1) | exact HB.out))); rintro e w' ⟨rfl, ⟨nd, rfl⟩⟩))
      go_ret
      exact ⟨by first | rfl | (simp; done) | (simp [*]; done), by repeat (first | exact Drawn0.refl _ | apply Drawn0.step)⟩
  · rw [if_neg c6] at H
    have c6b0 : (t105 == t106) = false := beq_eq_false_iff_ne.mpr c6
    have c6b1 : (t105 != t106) = true := bne_iff_ne.mpr c6
    obtain rfl := Option.some.inj H
    go_enter Tryd.func3, Tryd.ntmps3
    go_wp2_with (first | ((with_reducible refine gate_callee (f := 9) rfl ?_); refine goesL_ (some 9) rfl rfl Tryd.func9 (by kernel_rfl) rfl #[.int .u8 a0, .int .u8 a1] rfl (by (try simp only [List.map_toArray, List.map_cons, List.map_nil]); first | done | rfl | (simp only [List.length_drop, List.length_take]; rfl)) ?_; (with_reducible refine (impl_Mul.calls a0 a1 t105 _ ?side1 A4.out).mono ?_); (case side1 => first | exact HG.out | exact Glob.drewN HG.out _ | exact Glob.below HG.out (by repeat (first | (with_reducible first | exact HB.out | apply below_alloc | apply pw_below_drewN | apply below_drew1) | exact HB.out))); rintro e w' ⟨rfl, ⟨nd, rfl⟩⟩; refine ⟨_, rfl, ?_⟩) | ((with_reducible refine gate_callee (f := 9) rfl ?_); refine goesL_ (some 12) rfl rfl Tryd.func9 (by kernel_rfl) rfl #[.int .u8 a1, .int .u8 a0] rfl (by (try simp only [List.map_toArray, List.map_cons, List.map_nil]); first | done | rfl | (simp only [List.length_drop, List.length_take]; rfl)) ?_; (with_reducible refine (impl_Mul.calls a1 a0 t106 _ ?side1 A5.out).mono ?_); (case side1 => first | exact HG.out | exact Glob.drewN HG.out _ | exact Glob.below HG.out (by repeat (first | (with_reducible first | exact HB.out | apply below_alloc | apply pw_below_drewN | apply below_drew1) | exact HB.out))); rintro e w' ⟨rfl, ⟨nd, rfl⟩⟩; refine ⟨_, rfl, ?_⟩))
    go_ret
    exact ⟨by first | rfl | (simp; done) | (simp [*]; done), by repeat (first | exact Drawn0.refl _ | apply Drawn0.step)⟩

/-- THE ONE PURE STATEMENT of laws_FnFieldRing: yours. -/
def laws_FnFieldRing.Pure : Prop := ∀ (a0 : Int) (a1 : Int) (a2 : Int), (Lit.int .u8 a0).wf = true → (Lit.int .u8 a1).wf = true → (Lit.int .u8 a2).wf = true → laws_FnFieldRing.f a0 a1 a2 = some true
theorem laws_FnFieldRing.walk (P : laws_FnFieldRing.Pure) (a0 : Int) (a1 : Int) (a2 : Int) (w : World) (HG_ : Glob w) (w0 : (Lit.int .u8 a0).wf = true) (w1 : (Lit.int .u8 a1).wf = true) (w2 : (Lit.int .u8 a2).wf = true) :
    Calls Tryd.prog 3 #[.int .u8 a0, .int .u8 a1, .int .u8 a2] w fun e w' => e = .returned (.bool true) ∧ Below w.heap.size w w' := by
  have h := P a0 a1 a2 w0 w1 w2
  refine (laws_FnFieldRing.calls a0 a1 a2 true w HG_ h).mono ?_
  rintro e w' ⟨rfl, hd⟩
  exact ⟨rfl, hd.below⟩

/-! ### laws_value: function 11 -/
def laws_value.l0 : Nat → List Int → Int → Int → Int → Option (Int)
  | 0, _, _, _, _ => none
  | k + 1, x0, x1, x5, x6 => if x6 ≥ 0 then ((impl_Mul.f x5 x1).bind fun t118 => (if 0 ≤ x6 then (if x6 < (x0.length : Int) then ((impl_Add.f t118 (rd x0 x6)).bind fun t120 => (laws_value.l0 k x0 x1 t120 (wrap64 (x6 - 1)))) else (none)) else (none))) else (some x5)
def laws_value.f (k : Nat) (l0 : List Int) (a1 : Int) : Option (Int) := laws_value.l0 k l0 a1 0 (wrap64 ((l0.length : Int) - 1))
theorem laws_value.mono_l : ∀ k, (∀ y0 y1 y2 y3, LeO (laws_value.l0 k y0 y1 y2 y3) (laws_value.l0 (k + 1) y0 y1 y2 y3))
  | 0 => fun _ _ _ _ r h => by simp [laws_value.l0] at h
  | k + 1 => by
    have ih0 := laws_value.mono_l k
    · intro y0 y1 y2 y3
      unfold laws_value.l0
      repeat' first
      | (with_reducible exact ih0 _ _ _ _)
      | (with_reducible exact LeO.refl _)
      | (with_reducible exact LeO.none _)
      | (with_reducible refine LeO.ite ?_ ?_)
      | (with_reducible refine LeO.bind ?_ (fun _ => ?_))
      | exact ih0 _ _ _ _
      | exact LeO.none _
      | refine LeO.ite ?_ ?_
      | refine LeO.bind ?_ (fun _ => ?_)
theorem laws_value.mono : ∀ a0 a1 k, LeO (laws_value.f k a0 a1) (laws_value.f (k + 1) a0 a1) := by
  intro a0 a1 k
  have ih0 := laws_value.mono_l k
  unfold laws_value.f
  repeat' first
      | (with_reducible exact ih0 _ _ _ _)
      | (with_reducible exact LeO.refl _)
      | (with_reducible exact LeO.none _)
      | (with_reducible refine LeO.ite ?_ ?_)
      | (with_reducible refine LeO.bind ?_ (fun _ => ?_))
      | exact ih0 _ _ _ _
      | exact LeO.none _
      | refine LeO.ite ?_ ?_
      | refine LeO.bind ?_ (fun _ => ?_)
set_option maxHeartbeats 8000000 in
set_option maxRecDepth 100000 in
theorem laws_value.calls (k : Nat) (A0 : Option Addr) (c0 : Nat) (l0 : List Int) (a1 : Int) (r : Int) (w : World) (hr0 : Kd.C (Kd.int .u8) w A0 l0.length l0) (hc0 : l0.length ≤ c0) (HG_ : Glob w) (h : laws_value.f k l0 a1 = some r) :
    Calls Tryd.prog 11 #[.slice A0 l0.length c0, .int .u8 a1] w fun e w' => e = .returned (.int .u8 r) ∧ Drawn0 w w' := by
  have HG := Aside0.mk HG_
  clear HG_
  have HR0 := Aside0.mk hr0
  have HC0 := Aside0.mk hc0
  clear hr0 hc0
  have H : (laws_value.l0 k l0 a1 0 (wrap64 ((l0.length : Int) - 1))) = some r := h
  clear h
  have H' := Aside0.mk H
  clear H
  go_enter Tryd.func11, Tryd.ntmps11
  go_wp2
  repeat (go_quiet (fail); try go_wp2)
  (try simp only [Act.put, List.setIfInBounds_toArray, List.set_cons_zero, List.set_cons_succ])
  go_loopg [5, 6] k (fun kq v5 v6 w' => ∃ (x5_1 : Int) (x6_1 : Int), v5 = .int .u8 x5_1 ∧ v6 = .int .i64 x6_1 ∧ Aside0 (laws_value.l0 kq l0 a1 x5_1 x6_1 = some r) ∧ Aside0 (kq ≤ k) ∧ Drawn0 w w')
  case atStart => exact ⟨(0), (wrap64 ((l0.length : Int) - 1)), (by first | rfl | (simp; done) | (simp [*]; done)), (by first | rfl | (simp; done) | (simp [*]; done)), H', ⟨Nat.le_refl _⟩, by repeat (first | exact Drawn0.refl _ | apply Drawn0.step)⟩
  case round =>
    clear H'
    try clear c1
    try clear p2
    obtain ⟨x5_1, x6_1, rfl, rfl, HA, HK1, ⟨m1, rfl⟩⟩ := hrel
    cases gk with
    | zero => exact absurd HA.out (by simp [laws_value.l0])
    | succ k1 =>
      have H := HA.out
      clear HA
      simp only [laws_value.l0] at H
      by_cases c3 : x6_1 ≥ 0
      · rw [if_pos c3] at H
        have c3b0 : decide (0 ≤ x6_1) = true := decide_eq_true c3
        clear c3
        replace H := Option.bind_eq_some_iff.mp H
        obtain ⟨t118, A40, H⟩ := H
        replace H : (if 0 ≤ x6_1 then (if x6_1 < (l0.length : Int) then ((impl_Add.f t118 (rd l0 x6_1)).bind fun t120 => (laws_value.l0 k1 l0 a1 t120 (wrap64 (x6_1 - 1)))) else (none)) else (none)) = some r := H
        have A4 := Aside0.mk A40
        clear A40
        by_cases c5 : 0 ≤ x6_1
        · rw [if_pos c5] at H
          have c5b0 : decide (0 ≤ x6_1) = true := decide_eq_true c5
          clear c5
          by_cases c6 : x6_1 < (l0.length : Int)
          · rw [if_pos c6] at H
            have c6b0 : decide (x6_1 < (l0.length : Int)) = true := decide_eq_true c6
            clear c6
            replace H := Option.bind_eq_some_iff.mp H
            obtain ⟨t120, A70, H⟩ := H
            replace H : (laws_value.l0 k1 l0 a1 t120 (wrap64 (x6_1 - 1))) = some r := H
            have A7 := Aside0.mk A70
            clear A70
            have H' := Aside0.mk H
            clear H
            go_wp2_with (first | (go_at_call 9; (with_reducible refine (impl_Mul.calls x5_1 a1 t118 _ ?side1 A4.out).mono ?_); (case side1 => first | exact HG.out | exact Glob.drewN HG.out _ | exact Glob.below HG.out (by repeat (first | (with_reducible first | exact HB.out | apply below_alloc | apply pw_below_drewN | apply below_drew1) | exact HB.out))); rintro e w' ⟨rfl, ⟨nd, rfl⟩⟩; (try first | exact ⟨rfl, _, World.drewN_drewN _ _ _⟩ | exact ⟨rfl, _, Eq.trans (World.drewN_drewN _ _ _) (congrArg (World.drewN _) (Nat.add_assoc _ _ _))⟩); have p119 : 0 ≤ (x6_1 : Int) := of_decide_eq_true (by first | (with_reducible assumption) | assumption); have q119 : x6_1 < (l0.length : Int) := of_decide_eq_true (by first | (with_reducible assumption) | assumption); obtain ⟨ad119, e119, hx119_0⟩ := Kd.at_int HR0.out x6_1 p119 q119; cases e119; replace p119 := eq_true p119; replace q119 := eq_true q119) | (go_at_call 10; (with_reducible refine (impl_Add.calls t118 (rd l0 x6_1) t120 _ A7.out).mono ?_); rintro e w' ⟨rfl, ⟨nd, rfl⟩⟩; (try first | exact ⟨rfl, _, World.drewN_drewN _ _ _⟩ | exact ⟨rfl, _, Eq.trans (World.drewN_drewN _ _ _) (congrArg (World.drewN _) (Nat.add_assoc _ _ _))⟩)))
            repeat (go_quiet (first | (go_at_call 9; (with_reducible refine (impl_Mul.calls x5_1 a1 t118 _ ?side1 A4.out).mono ?_); (case side1 => first | exact HG.out | exact Glob.drewN HG.out _ | exact Glob.below HG.out (by repeat (first | (with_reducible first | exact HB.out | apply below_alloc | apply pw_below_drewN | apply below_drew1) | exact HB.out))); rintro e w' ⟨rfl, ⟨nd, rfl⟩⟩; (try first | exact ⟨rfl, _, World.drewN_drewN _ _ _⟩ | exact ⟨rfl, _, Eq.trans (World.drewN_drewN _ _ _) (congrArg (World.drewN _) (Nat.add_assoc _ _ _))⟩); have p119 : 0 ≤ (x6_1 : Int) := of_decide_eq_true (by first | (with_reducible assumption) | assumption); have q119 : x6_1 < (l0.length : Int) := of_decide_eq_true (by first | (with_reducible assumption) | assumption); obtain ⟨ad119, e119, hx119_0⟩ := Kd.at_int HR0.out x6_1 p119 q119; cases e119; replace p119 := eq_true p119; replace q119 := eq_true q119) | (go_at_call 10; (with_reducible refine (impl_Add.calls t118 (rd l0 x6_1) t120 _ A7.out).mono ?_); rintro e w' ⟨rfl, ⟨nd, rfl⟩⟩; (try first | exact ⟨rfl, _, World.drewN_drewN _ _ _⟩ | exact ⟨rfl, _, Eq.trans (World.drewN_drewN _ _ _) (congrArg (World.drewN _) (Nat.add_assoc _ _ _))⟩))); try go_wp2_with (first | (go_at_call 9; (with_reducible refine (impl_Mul.calls x5_1 a1 t118 _ ?side1 A4.out).mono ?_); (case side1 => first | exact HG.out | exact Glob.drewN HG.out _ | exact Glob.below HG.out (by repeat (first | (with_reducible first | exact HB.out | apply below_alloc | apply pw_below_drewN | apply below_drew1) | exact HB.out))); rintro e w' ⟨rfl, ⟨nd, rfl⟩⟩; (try first | exact ⟨rfl, _, World.drewN_drewN _ _ _⟩ | exact ⟨rfl, _, Eq.trans (World.drewN_drewN _ _ _) (congrArg (World.drewN _) (Nat.add_assoc _ _ _))⟩); have p119 : 0 ≤ (x6_1 : Int) := of_decide_eq_true (by first | (with_reducible assumption) | assumption); have q119 : x6_1 < (l0.length : Int) := of_decide_eq_true (by first | (with_reducible assumption) | assumption); obtain ⟨ad119, e119, hx119_0⟩ := Kd.at_int HR0.out x6_1 p119 q119; cases e119; replace p119 := eq_true p119; replace q119 := eq_true q119) | (go_at_call 10; (with_reducible refine (impl_Add.calls t118 (rd l0 x6_1) t120 _ A7.out).mono ?_); rintro e w' ⟨rfl, ⟨nd, rfl⟩⟩; (try first | exact ⟨rfl, _, World.drewN_drewN _ _ _⟩ | exact ⟨rfl, _, Eq.trans (World.drewN_drewN _ _ _) (congrArg (World.drewN _) (Nat.add_assoc _ _ _))⟩))))
            go_roundg k1
            case measure => have := HK1.out; omega
            case rel => exact ⟨(t120), (wrap64 (x6_1 - 1)), (by first | rfl | (simp; done) | (simp [*]; done)), (by first | rfl | (simp; done) | (simp [*]; done)), H', ⟨by have := HK1.out; omega⟩, by repeat (first | exact Drawn0.refl _ | apply Drawn0.step)⟩
          · rw [if_neg c6] at H
            exact absurd H (by simp)
        · rw [if_neg c5] at H
          exact absurd H (by simp)
      · rw [if_neg c3] at H
        have c3b0 : decide (0 ≤ x6_1) = false := decide_eq_false c3
        clear c3
        obtain rfl := Option.some.inj H
        go_wp2
        repeat (go_quiet (fail); try go_wp2)
        go_ret
        exact ⟨by first | rfl | (simp; done) | (simp [*]; done), by repeat (first | exact Drawn0.refl _ | apply Drawn0.step)⟩

/-! ### spec_remainder: function 32 -/
def spec_remainder.l0 : Nat → Int → Int → Int → Int → Option (Int)
  | 0, _, _, _, _ => none
  | k + 1, x0, x1, x2, x7 => if x7 ≥ x2 then (if 0 ≤ x7 then (if (Go.bits .and .u64 (shr .u64 x0 x7) 1) = 1 then (if 0 ≤ (wrap64 (x7 - x2)) then (spec_remainder.l0 k (Go.bits .xor .u64 x0 (shl .u64 x1 (wrap64 (x7 - x2)))) x1 x2 (wrap64 (x7 - 1))) else (none)) else (spec_remainder.l0 k x0 x1 x2 (wrap64 (x7 - 1)))) else (none)) else (some x0)
def spec_remainder.f (k : Nat) (a0 : Int) (a1 : Int) (a2 : Int) : Option (Int) := spec_remainder.l0 k a0 a1 a2 63
theorem spec_remainder.mono_l : ∀ k, (∀ y0 y1 y2 y3, LeO (spec_remainder.l0 k y0 y1 y2 y3) (spec_remainder.l0 (k + 1) y0 y1 y2 y3))
  | 0 => fun _ _ _ _ r h => by simp [spec_remainder.l0] at h
  | k + 1 => by
    have ih0 := spec_remainder.mono_l k
    · intro y0 y1 y2 y3
      unfold spec_remainder.l0
      repeat' first
      | (with_reducible exact ih0 _ _ _ _)
      | (with_reducible exact LeO.refl _)
      | (with_reducible exact LeO.none _)
      | (with_reducible refine LeO.ite ?_ ?_)
      | (with_reducible refine LeO.bind ?_ (fun _ => ?_))
      | exact ih0 _ _ _ _
      | exact LeO.none _
      | refine LeO.ite ?_ ?_
      | refine LeO.bind ?_ (fun _ => ?_)
theorem spec_remainder.mono : ∀ a0 a1 a2 k, LeO (spec_remainder.f k a0 a1 a2) (spec_remainder.f (k + 1) a0 a1 a2) := by
  intro a0 a1 a2 k
  have ih0 := spec_remainder.mono_l k
  unfold spec_remainder.f
  repeat' first
      | (with_reducible exact ih0 _ _ _ _)
      | (with_reducible exact LeO.refl _)
      | (with_reducible exact LeO.none _)
      | (with_reducible refine LeO.ite ?_ ?_)
      | (with_reducible refine LeO.bind ?_ (fun _ => ?_))
      | exact ih0 _ _ _ _
      | exact LeO.none _
      | refine LeO.ite ?_ ?_
      | refine LeO.bind ?_ (fun _ => ?_)
set_option maxHeartbeats 8000000 in
set_option maxRecDepth 100000 in
theorem spec_remainder.calls (k : Nat) (a0 : Int) (a1 : Int) (a2 : Int) (r : Int) (w : World) (h : spec_remainder.f k a0 a1 a2 = some r) :
    Calls Tryd.prog 32 #[.int .u64 a0, .int .u64 a1, .int .i64 a2] w fun e w' => e = .returned (.int .u64 r) ∧ Drawn0 w w' := by
  have H : (spec_remainder.l0 k a0 a1 a2 63) = some r := h
  clear h
  have H' := Aside0.mk H
  clear H
  go_enter Tryd.func32, Tryd.ntmps32
  go_wp2
  (try simp only [Act.put, List.setIfInBounds_toArray, List.set_cons_zero, List.set_cons_succ])
  go_loopg [0, 7] k (fun kq v0 v7 w' => ∃ (x0_1 : Int) (x7_1 : Int), v0 = .int .u64 x0_1 ∧ v7 = .int .i64 x7_1 ∧ Aside0 (spec_remainder.l0 kq x0_1 a1 a2 x7_1 = some r) ∧ Aside0 (kq ≤ k) ∧ Drawn0 w w')
  case atStart => exact ⟨(a0), (63), (by first | rfl | (simp; done) | (simp [*]; done)), (by first | rfl | (simp; done) | (simp [*]; done)), H', ⟨Nat.le_refl _⟩, by repeat (first | exact Drawn0.refl _ | apply Drawn0.step)⟩
  case round =>
    clear H'
    try clear p2
    try clear c3
    obtain ⟨x0_1, x7_1, rfl, rfl, HA, HK1, ⟨m1, rfl⟩⟩ := hrel
    cases gk with
    | zero => exact absurd HA.out (by simp [spec_remainder.l0])
    | succ k1 =>
      have H := HA.out
      clear HA
      simp only [spec_remainder.l0] at H
      by_cases c4 : x7_1 ≥ a2
      · rw [if_pos c4] at H
        have c4b0 : decide (a2 ≤ x7_1) = true := decide_eq_true c4
        clear c4
        by_cases c5 : 0 ≤ x7_1
        · rw [if_pos c5] at H
          have c5b0 := eq_true c5
          have c5b1 : decide (0 ≤ x7_1) = true := decide_eq_true c5
          clear c5
          obtain ⟨ji6, hji6⟩ : ∃ j_ : Int, (shr .u64 x0_1 x7_1) = j_ := ⟨_, rfl⟩
          replace H : (if (Go.bits .and .u64 (ji6) 1) = 1 then (if 0 ≤ (wrap64 (x7_1 - a2)) then (spec_remainder.l0 k1 (Go.bits .xor .u64 x0_1 (shl .u64 a1 (wrap64 (x7_1 - a2)))) a1 a2 (wrap64 (x7_1 - 1))) else (none)) else (spec_remainder.l0 k1 x0_1 a1 a2 (wrap64 (x7_1 - 1)))) = some r := by first | (rw [hji6] at H; exact H) | (simp only [hji6] at H ⊢; exact H)
          have hji6_ : (x0_1 / 2 ^ min x7_1.toNat 64) = ji6 := hji6
          have hji6z : x7_1 ≤ 64 → (x0_1 / 2 ^ x7_1.toNat) = ji6 := shr_small hji6
          by_cases c7 : (Go.bits .and .u64 (ji6) 1) = 1
          · rw [if_pos c7] at H
            have c7b0 : ((Go.bits .and .u64 (ji6) 1) == 1) = true := beq_iff_eq.mpr c7
            have c7b1 : ((Go.bits .and .u64 (ji6) 1) != 1) = false := bne_eq_false_iff_eq.mpr c7
            clear c7
            obtain ⟨ji8, hji8⟩ : ∃ j_ : Int, (wrap64 (x7_1 - a2)) = j_ := ⟨_, rfl⟩
            replace H : (if 0 ≤ (ji8) then (spec_remainder.l0 k1 (Go.bits .xor .u64 x0_1 (shl .u64 a1 (ji8))) a1 a2 (wrap64 (x7_1 - 1))) else (none)) = some r := by first | (rw [hji8] at H; exact H) | (simp only [hji8] at H ⊢; exact H)
            have hji8w : (IntKind.i64.wrap (x7_1 - a2)) = ji8 := (i64_w _).trans hji8
            by_cases c9 : 0 ≤ (ji8)
            · rw [if_pos c9] at H
              have c9b0 := eq_true c9
              have c9b1 : decide (0 ≤ (ji8)) = true := decide_eq_true c9
              clear c9
              obtain ⟨ji10, hji10⟩ : ∃ j_ : Int, (shl .u64 a1 (ji8)) = j_ := ⟨_, rfl⟩
              replace H : (spec_remainder.l0 k1 (Go.bits .xor .u64 x0_1 (ji10)) a1 a2 (wrap64 (x7_1 - 1))) = some r := by first | (rw [hji10] at H; exact H) | (simp only [hji10] at H ⊢; exact H)
              have hji10_ : (IntKind.u64.wrap (a1 * 2 ^ min (ji8).toNat 64)) = ji10 := hji10
              have hji10z : (ji8) ≤ 64 → (IntKind.u64.wrap (a1 * 2 ^ (ji8).toNat)) = ji10 := shl_small hji10
              have H' := Aside0.mk H
              clear H
              go_wp2
              go_roundg k1
              case measure => have := HK1.out; omega
              case rel => exact ⟨(Go.bits .xor .u64 x0_1 (ji10)), (wrap64 (x7_1 - 1)), (by first | rfl | (simp; done) | (simp only [← hji10] <;> (first | rfl | simp)) | (simp [*]; done)), (by first | rfl | (simp; done) | (simp [*]; done)), H', ⟨by have := HK1.out; omega⟩, by repeat (first | exact Drawn0.refl _ | apply Drawn0.step)⟩
            · rw [if_neg c9] at H
              exact absurd H (by simp)
          · rw [if_neg c7] at H
            have c7b0 : ((Go.bits .and .u64 (ji6) 1) == 1) = false := beq_eq_false_iff_ne.mpr c7
            have c7b1 : ((Go.bits .and .u64 (ji6) 1) != 1) = true := bne_iff_ne.mpr c7
            have H' := Aside0.mk H
            clear H
            go_wp2
            go_roundg k1
            case measure => have := HK1.out; omega
            case rel => exact ⟨(x0_1), (wrap64 (x7_1 - 1)), (by first | rfl | (simp; done) | (simp [*]; done)), (by first | rfl | (simp; done) | (simp [*]; done)), H', ⟨by have := HK1.out; omega⟩, by repeat (first | exact Drawn0.refl _ | apply Drawn0.step)⟩
        · rw [if_neg c5] at H
          exact absurd H (by simp)
      · rw [if_neg c4] at H
        have c4b0 : decide (a2 ≤ x7_1) = false := decide_eq_false c4
        clear c4
        obtain rfl := Option.some.inj H
        go_wp2
        go_ret
        exact ⟨by first | rfl | (simp; done) | (simp [*]; done), by repeat (first | exact Drawn0.refl _ | apply Drawn0.step)⟩

/-! ### spec_product: function 33 -/
def spec_product.l0 : Nat → Int → Int → Int → Int → Option (Int)
  | 0, _, _, _, _ => none
  | k + 1, x0, x1, x5, x6 => if x6 < 32 then (if 0 ≤ x6 then (if (Go.bits .and .u32 (shr .u32 x1 x6) 1) = 1 then (spec_product.l0 k x0 x1 (Go.bits .xor .u64 x5 (shl .u64 (IntKind.u64.wrap (x0)) x6)) (wrap64 (x6 + 1))) else (spec_product.l0 k x0 x1 x5 (wrap64 (x6 + 1)))) else (none)) else (some x5)
def spec_product.f (k : Nat) (a0 : Int) (a1 : Int) : Option (Int) := spec_product.l0 k a0 a1 0 0
theorem spec_product.mono_l : ∀ k, (∀ y0 y1 y2 y3, LeO (spec_product.l0 k y0 y1 y2 y3) (spec_product.l0 (k + 1) y0 y1 y2 y3))
  | 0 => fun _ _ _ _ r h => by simp [spec_product.l0] at h
  | k + 1 => by
    have ih0 := spec_product.mono_l k
    · intro y0 y1 y2 y3
      unfold spec_product.l0
      repeat' first
      | (with_reducible exact ih0 _ _ _ _)
      | (with_reducible exact LeO.refl _)
      | (with_reducible exact LeO.none _)
      | (with_reducible refine LeO.ite ?_ ?_)
      | (with_reducible refine LeO.bind ?_ (fun _ => ?_))
      | exact ih0 _ _ _ _
      | exact LeO.none _
      | refine LeO.ite ?_ ?_
      | refine LeO.bind ?_ (fun _ => ?_)
theorem spec_product.mono : ∀ a0 a1 k, LeO (spec_product.f k a0 a1) (spec_product.f (k + 1) a0 a1) := by
  intro a0 a1 k
  have ih0 := spec_product.mono_l k
  unfold spec_product.f
  repeat' first
      | (with_reducible exact ih0 _ _ _ _)
      | (with_reducible exact LeO.refl _)
      | (with_reducible exact LeO.none _)
      | (with_reducible refine LeO.ite ?_ ?_)
      | (with_reducible refine LeO.bind ?_ (fun _ => ?_))
      | exact ih0 _ _ _ _
      | exact LeO.none _
      | refine LeO.ite ?_ ?_
      | refine LeO.bind ?_ (fun _ => ?_)
set_option maxHeartbeats 8000000 in
set_option maxRecDepth 100000 in
theorem spec_product.calls (k : Nat) (a0 : Int) (a1 : Int) (r : Int) (w : World) (h : spec_product.f k a0 a1 = some r) :
    Calls Tryd.prog 33 #[.int .u32 a0, .int .u32 a1] w fun e w' => e = .returned (.int .u64 r) ∧ Drawn0 w w' := by
  have H : (spec_product.l0 k a0 a1 0 0) = some r := h
  clear h
  have H' := Aside0.mk H
  clear H
  go_enter Tryd.func33, Tryd.ntmps33
  go_wp2
  (try simp only [Act.put, List.setIfInBounds_toArray, List.set_cons_zero, List.set_cons_succ])
  go_loopg [5, 6] k (fun kq v5 v6 w' => ∃ (x5_1 : Int) (x6_1 : Int), v5 = .int .u64 x5_1 ∧ v6 = .int .i64 x6_1 ∧ Aside0 (spec_product.l0 kq a0 a1 x5_1 x6_1 = some r) ∧ Aside0 (kq ≤ k) ∧ Drawn0 w w')
  case atStart => exact ⟨(0), (0), (by first | rfl | (simp; done) | (simp [*]; done)), (by first | rfl | (simp; done) | (simp [*]; done)), H', ⟨Nat.le_refl _⟩, by repeat (first | exact Drawn0.refl _ | apply Drawn0.step)⟩
  case round =>
    clear H'
    try clear p2
    obtain ⟨x5_1, x6_1, rfl, rfl, HA, HK1, ⟨m1, rfl⟩⟩ := hrel
    cases gk with
    | zero => exact absurd HA.out (by simp [spec_product.l0])
    | succ k1 =>
      have H := HA.out
      clear HA
      simp only [spec_product.l0] at H
      by_cases c3 : x6_1 < 32
      · rw [if_pos c3] at H
        have c3b0 : decide (x6_1 < 32) = true := decide_eq_true c3
        clear c3
        by_cases c4 : 0 ≤ x6_1
        · rw [if_pos c4] at H
          have c4b0 := eq_true c4
          have c4b1 : decide (0 ≤ x6_1) = true := decide_eq_true c4
          clear c4
          obtain ⟨ji5, hji5⟩ : ∃ j_ : Int, (shr .u32 a1 x6_1) = j_ := ⟨_, rfl⟩
          replace H : (if (Go.bits .and .u32 (ji5) 1) = 1 then (spec_product.l0 k1 a0 a1 (Go.bits .xor .u64 x5_1 (shl .u64 (IntKind.u64.wrap (a0)) x6_1)) (wrap64 (x6_1 + 1))) else (spec_product.l0 k1 a0 a1 x5_1 (wrap64 (x6_1 + 1)))) = some r := by first | (rw [hji5] at H; exact H) | (simp only [hji5] at H ⊢; exact H)
          have hji5_ : (a1 / 2 ^ min x6_1.toNat 32) = ji5 := hji5
          have hji5z : x6_1 ≤ 32 → (a1 / 2 ^ x6_1.toNat) = ji5 := shr_small hji5
          by_cases c6 : (Go.bits .and .u32 (ji5) 1) = 1
          · rw [if_pos c6] at H
            have c6b0 : ((Go.bits .and .u32 (ji5) 1) == 1) = true := beq_iff_eq.mpr c6
            have c6b1 : ((Go.bits .and .u32 (ji5) 1) != 1) = false := bne_eq_false_iff_eq.mpr c6
            clear c6
            have c7b0 := eq_true (of_decide_eq_true (by first | (with_reducible assumption) | assumption) : 0 ≤ x6_1)
            obtain ⟨ji8, hji8⟩ : ∃ j_ : Int, (shl .u64 (IntKind.u64.wrap (a0)) x6_1) = j_ := ⟨_, rfl⟩
            replace H : (spec_product.l0 k1 a0 a1 (Go.bits .xor .u64 x5_1 (ji8)) (wrap64 (x6_1 + 1))) = some r := by first | (rw [hji8] at H; exact H) | (simp only [hji8] at H ⊢; exact H)
            have hji8_ : (IntKind.u64.wrap ((IntKind.u64.wrap (a0)) * 2 ^ min x6_1.toNat 64)) = ji8 := hji8
            have hji8z : x6_1 ≤ 64 → (IntKind.u64.wrap ((IntKind.u64.wrap (a0)) * 2 ^ x6_1.toNat)) = ji8 := shl_small hji8
            have H' := Aside0.mk H
            clear H
            go_wp2
            go_roundg k1
            case measure => have := HK1.out; omega
            case rel => exact ⟨(Go.bits .xor .u64 x5_1 (ji8)), (wrap64 (x6_1 + 1)), (by first | rfl | (simp; done) | (simp only [← hji8] <;> (first | rfl | simp)) | (simp [*]; done)), (by first | rfl | (simp; done) | (simp [*]; done)), H', ⟨by have := HK1.out; omega⟩, by repeat (first | exact Drawn0.refl _ | apply Drawn0.step)⟩
          · rw [if_neg c6] at H
            have c6b0 : ((Go.bits .and .u32 (ji5) 1) == 1) = false := beq_eq_false_iff_ne.mpr c6
            have c6b1 : ((Go.bits .and .u32 (ji5) 1) != 1) = true := bne_iff_ne.mpr c6
            have H' := Aside0.mk H
            clear H
            go_wp2
            go_roundg k1
            case measure => have := HK1.out; omega
            case rel => exact ⟨(x5_1), (wrap64 (x6_1 + 1)), (by first | rfl | (simp; done) | (simp [*]; done)), (by first | rfl | (simp; done) | (simp [*]; done)), H', ⟨by have := HK1.out; omega⟩, by repeat (first | exact Drawn0.refl _ | apply Drawn0.step)⟩
        · rw [if_neg c4] at H
          exact absurd H (by simp)
      · rw [if_neg c3] at H
        have c3b0 : decide (x6_1 < 32) = false := decide_eq_false c3
        clear c3
        obtain rfl := Option.some.inj H
        go_wp2
        go_ret
        exact ⟨by first | rfl | (simp; done) | (simp [*]; done), by repeat (first | exact Drawn0.refl _ | apply Drawn0.step)⟩

/-! ### spec_Mul: function 15 -/
def spec_Mul.f (k : Nat) (a0 : Int) (a1 : Int) : Option (Int) := (spec_product.f k ((a0) % 4294967296) ((a1) % 4294967296)).bind fun t121 => ((spec_remainder.f k t121 285 8).bind fun t122 => (some ((t122) % 256)))
theorem spec_Mul.mono : ∀ a0 a1 k, LeO (spec_Mul.f k a0 a1) (spec_Mul.f (k + 1) a0 a1) := by
  intro a0 a1 k
  unfold spec_Mul.f
  repeat' first
      | (with_reducible exact spec_product.mono _ _ _)
      | (with_reducible exact spec_remainder.mono _ _ _ _)
      | (with_reducible exact LeO.refl _)
      | (with_reducible exact LeO.none _)
      | (with_reducible refine LeO.ite ?_ ?_)
      | (with_reducible refine LeO.bind ?_ (fun _ => ?_))
      | exact spec_product.mono _ _ _
      | exact spec_remainder.mono _ _ _ _
      | exact LeO.none _
      | refine LeO.ite ?_ ?_
      | refine LeO.bind ?_ (fun _ => ?_)
set_option maxHeartbeats 8000000 in
set_option maxRecDepth 100000 in
theorem spec_Mul.calls (k : Nat) (a0 : Int) (a1 : Int) (r : Int) (w : World) (h : spec_Mul.f k a0 a1 = some r) :
    Calls Tryd.prog 15 #[.int .u8 a0, .int .u8 a1] w fun e w' => e = .returned (.int .u8 r) ∧ Drawn0 w w' := by
  have H : ((spec_product.f k ((a0) % 4294967296) ((a1) % 4294967296)).bind fun t121 => ((spec_remainder.f k t121 285 8).bind fun t122 => (some ((t122) % 256)))) = some r := h
  clear h
  replace H := Option.bind_eq_some_iff.mp H
  obtain ⟨t121, A30, H⟩ := H
  replace H : ((spec_remainder.f k t121 285 8).bind fun t122 => (some ((t122) % 256))) = some r := H
  have A3 := Aside0.mk A30
  clear A30
  replace H := Option.bind_eq_some_iff.mp H
  obtain ⟨t122, A40, H⟩ := H
  replace H : (some ((t122) % 256)) = some r := H
  have A4 := Aside0.mk A40
  clear A40
  obtain rfl := Option.some.inj H
  go_enter Tryd.func15, Tryd.ntmps15
  go_wp2_with (first | ((with_reducible refine gate_callee (f := 33) rfl ?_); refine goesL_ (some 9) rfl rfl Tryd.func33 (by kernel_rfl) rfl #[.int .u32 ((a0) % 4294967296), .int .u32 ((a1) % 4294967296)] rfl (by (try simp only [List.map_toArray, List.map_cons, List.map_nil]); first | done | rfl | (simp only [List.length_drop, List.length_take]; rfl)) ?_; (with_reducible refine (spec_product.calls k ((a0) % 4294967296) ((a1) % 4294967296) t121 _ A3.out).mono ?_); rintro e w' ⟨rfl, ⟨nd, rfl⟩⟩; refine ⟨_, rfl, ?_⟩) | ((with_reducible refine gate_callee (f := 32) rfl ?_); refine goesL_ (some 10) rfl rfl Tryd.func32 (by kernel_rfl) rfl #[.int .u64 t121, .int .u64 285, .int .i64 8] rfl (by (try simp only [List.map_toArray, List.map_cons, List.map_nil]); first | done | rfl | (simp only [List.length_drop, List.length_take]; rfl)) ?_; (with_reducible refine (spec_remainder.calls k t121 285 8 t122 _ A4.out).mono ?_); rintro e w' ⟨rfl, ⟨nd, rfl⟩⟩; refine ⟨_, rfl, ?_⟩))
  go_ret
  exact ⟨by first | rfl | (simp; done) | (simp [*]; done), by repeat (first | exact Drawn0.refl _ | apply Drawn0.step)⟩

/-! ### spec_Eval: function 12 -/
def spec_Eval.l0 : Nat → List Int → Int → Int → Int → Option (Int)
  | 0, _, _, _, _ => none
  | k + 1, x0, x1, x5, x6 => if x6 ≥ 0 then ((spec_Mul.f k x5 x1).bind fun t123 => (if 0 ≤ x6 then (if x6 < (x0.length : Int) then (spec_Eval.l0 k x0 x1 (Go.bits .xor .u8 t123 (rd x0 x6)) (wrap64 (x6 - 1))) else (none)) else (none))) else (some x5)
def spec_Eval.f (k : Nat) (l0 : List Int) (a1 : Int) : Option (Int) := spec_Eval.l0 k l0 a1 0 (wrap64 ((l0.length : Int) - 1))
theorem spec_Eval.mono_l : ∀ k, (∀ y0 y1 y2 y3, LeO (spec_Eval.l0 k y0 y1 y2 y3) (spec_Eval.l0 (k + 1) y0 y1 y2 y3))
  | 0 => fun _ _ _ _ r h => by simp [spec_Eval.l0] at h
  | k + 1 => by
    have ih0 := spec_Eval.mono_l k
    · intro y0 y1 y2 y3
      unfold spec_Eval.l0
      repeat' first
      | (with_reducible exact ih0 _ _ _ _)
      | (with_reducible exact spec_Mul.mono _ _ _)
      | (with_reducible exact LeO.refl _)
      | (with_reducible exact LeO.none _)
      | (with_reducible refine LeO.ite ?_ ?_)
      | (with_reducible refine LeO.bind ?_ (fun _ => ?_))
      | exact ih0 _ _ _ _
      | exact spec_Mul.mono _ _ _
      | exact LeO.none _
      | refine LeO.ite ?_ ?_
      | refine LeO.bind ?_ (fun _ => ?_)
theorem spec_Eval.mono : ∀ a0 a1 k, LeO (spec_Eval.f k a0 a1) (spec_Eval.f (k + 1) a0 a1) := by
  intro a0 a1 k
  have ih0 := spec_Eval.mono_l k
  unfold spec_Eval.f
  repeat' first
      | (with_reducible exact ih0 _ _ _ _)
      | (with_reducible exact spec_Mul.mono _ _ _)
      | (with_reducible exact LeO.refl _)
      | (with_reducible exact LeO.none _)
      | (with_reducible refine LeO.ite ?_ ?_)
      | (with_reducible refine LeO.bind ?_ (fun _ => ?_))
      | exact ih0 _ _ _ _
      | exact spec_Mul.mono _ _ _
      | exact LeO.none _
      | refine LeO.ite ?_ ?_
      | refine LeO.bind ?_ (fun _ => ?_)
set_option maxHeartbeats 8000000 in
set_option maxRecDepth 100000 in
theorem spec_Eval.calls (k : Nat) (A0 : Option Addr) (c0 : Nat) (l0 : List Int) (a1 : Int) (r : Int) (w : World) (hr0 : Kd.C (Kd.int .u8) w A0 l0.length l0) (hc0 : l0.length ≤ c0) (h : spec_Eval.f k l0 a1 = some r) :
    Calls Tryd.prog 12 #[.slice A0 l0.length c0, .int .u8 a1] w fun e w' => e = .returned (.int .u8 r) ∧ Drawn0 w w' := by
  have HR0 := Aside0.mk hr0
  have HC0 := Aside0.mk hc0
  clear hr0 hc0
  have H : (spec_Eval.l0 k l0 a1 0 (wrap64 ((l0.length : Int) - 1))) = some r := h
  clear h
  have H' := Aside0.mk H
  clear H
  go_enter Tryd.func12, Tryd.ntmps12
  go_wp2
  repeat (go_quiet (fail); try go_wp2)
  (try simp only [Act.put, List.setIfInBounds_toArray, List.set_cons_zero, List.set_cons_succ])
  go_loopg [5, 6] k (fun kq v5 v6 w' => ∃ (x5_1 : Int) (x6_1 : Int), v5 = .int .u8 x5_1 ∧ v6 = .int .i64 x6_1 ∧ Aside0 (spec_Eval.l0 kq l0 a1 x5_1 x6_1 = some r) ∧ Aside0 (kq ≤ k) ∧ Drawn0 w w')
  case atStart => exact ⟨(0), (wrap64 ((l0.length : Int) - 1)), (by first | rfl | (simp; done) | (simp [*]; done)), (by first | rfl | (simp; done) | (simp [*]; done)), H', ⟨Nat.le_refl _⟩, by repeat (first | exact Drawn0.refl _ | apply Drawn0.step)⟩
  case round =>
    clear H'
    try clear c1
    try clear p2
    obtain ⟨x5_1, x6_1, rfl, rfl, HA, HK1, ⟨m1, rfl⟩⟩ := hrel
    cases gk with
    | zero => exact absurd HA.out (by simp [spec_Eval.l0])
    | succ k1 =>
      have H := HA.out
      clear HA
      simp only [spec_Eval.l0] at H
      by_cases c3 : x6_1 ≥ 0
      · rw [if_pos c3] at H
        have c3b0 : decide (0 ≤ x6_1) = true := decide_eq_true c3
        clear c3
        replace H := Option.bind_eq_some_iff.mp H
        obtain ⟨t123, A40, H⟩ := H
        replace H : (if 0 ≤ x6_1 then (if x6_1 < (l0.length : Int) then (spec_Eval.l0 k1 l0 a1 (Go.bits .xor .u8 t123 (rd l0 x6_1)) (wrap64 (x6_1 - 1))) else (none)) else (none)) = some r := H
        have A4 := Aside0.mk A40
        clear A40
        by_cases c5 : 0 ≤ x6_1
        · rw [if_pos c5] at H
          have c5b0 : decide (0 ≤ x6_1) = true := decide_eq_true c5
          clear c5
          by_cases c6 : x6_1 < (l0.length : Int)
          · rw [if_pos c6] at H
            have c6b0 : decide (x6_1 < (l0.length : Int)) = true := decide_eq_true c6
            clear c6
            have H' := Aside0.mk H
            clear H
            go_wp2_with (first | (go_at_call 15; (with_reducible refine (spec_Mul.calls k1 x5_1 a1 t123 _ A4.out).mono ?_); rintro e w' ⟨rfl, ⟨nd, rfl⟩⟩; (try first | exact ⟨rfl, _, World.drewN_drewN _ _ _⟩ | exact ⟨rfl, _, Eq.trans (World.drewN_drewN _ _ _) (congrArg (World.drewN _) (Nat.add_assoc _ _ _))⟩); have p124 : 0 ≤ (x6_1 : Int) := of_decide_eq_true (by first | (with_reducible assumption) | assumption); have q124 : x6_1 < (l0.length : Int) := of_decide_eq_true (by first | (with_reducible assumption) | assumption); obtain ⟨ad124, e124, hx124_0⟩ := Kd.at_int HR0.out x6_1 p124 q124; cases e124; replace p124 := eq_true p124; replace q124 := eq_true q124))
            repeat (go_quiet (first | (go_at_call 15; (with_reducible refine (spec_Mul.calls k1 x5_1 a1 t123 _ A4.out).mono ?_); rintro e w' ⟨rfl, ⟨nd, rfl⟩⟩; (try first | exact ⟨rfl, _, World.drewN_drewN _ _ _⟩ | exact ⟨rfl, _, Eq.trans (World.drewN_drewN _ _ _) (congrArg (World.drewN _) (Nat.add_assoc _ _ _))⟩); have p124 : 0 ≤ (x6_1 : Int) := of_decide_eq_true (by first | (with_reducible assumption) | assumption); have q124 : x6_1 < (l0.length : Int) := of_decide_eq_true (by first | (with_reducible assumption) | assumption); obtain ⟨ad124, e124, hx124_0⟩ := Kd.at_int HR0.out x6_1 p124 q124; cases e124; replace p124 := eq_true p124; replace q124 := eq_true q124)); try go_wp2_with (first | (go_at_call 15; (with_reducible refine (spec_Mul.calls k1 x5_1 a1 t123 _ A4.out).mono ?_); rintro e w' ⟨rfl, ⟨nd, rfl⟩⟩; (try first | exact ⟨rfl, _, World.drewN_drewN _ _ _⟩ | exact ⟨rfl, _, Eq.trans (World.drewN_drewN _ _ _) (congrArg (World.drewN _) (Nat.add_assoc _ _ _))⟩); have p124 : 0 ≤ (x6_1 : Int) := of_decide_eq_true (by first | (with_reducible assumption) | assumption); have q124 : x6_1 < (l0.length : Int) := of_decide_eq_true (by first | (with_reducible assumption) | assumption); obtain ⟨ad124, e124, hx124_0⟩ := Kd.at_int HR0.out x6_1 p124 q124; cases e124; replace p124 := eq_true p124; replace q124 := eq_true q124)))
            go_roundg k1
            case measure => have := HK1.out; omega
            case rel => exact ⟨(Go.bits .xor .u8 t123 (rd l0 x6_1)), (wrap64 (x6_1 - 1)), (by first | rfl | (simp; done) | (simp [*]; done)), (by first | rfl | (simp; done) | (simp [*]; done)), H', ⟨by have := HK1.out; omega⟩, by repeat (first | exact Drawn0.refl _ | apply Drawn0.step)⟩
          · rw [if_neg c6] at H
            exact absurd H (by simp)
        · rw [if_neg c5] at H
          exact absurd H (by simp)
      · rw [if_neg c3] at H
        have c3b0 : decide (0 ≤ x6_1) = false := decide_eq_false c3
        clear c3
        obtain rfl := Option.some.inj H
        go_wp2
        repeat (go_quiet (fail); try go_wp2)
        go_ret
        exact ⟨by first | rfl | (simp; done) | (simp [*]; done), by repeat (first | exact Drawn0.refl _ | apply Drawn0.step)⟩

end Go.Proofs.YtpjfokolbgcbhaaDoor.Q
