-- Written by wip/tools/myprint.py for this seat (the kit's print with changes); Lean checks it.
import Derived.Test.YtpjfokolbgcbhaaDoorEm0
import Derived.Test.YtpjfokolbgcbhaaDoorEm1
namespace Go.Proofs.YtpjfokolbgcbhaaDoor.Qm
open Go.RowKit Go.Proofs.YtpjfokolbgcbhaaDoorW.PrintWords Go.Proofs.YtpjfokolbgcbhaaDoorW.PrintLast Go.Proofs.YtpjfokolbgcbhaaDoorW.PrintMore
attribute [local go_sem] max2_int min2_int max_two min_two max_three min_three max_four min_four   -- for this text's walks alone
set_option linter.unusedVariables false
set_option linter.unusedSimpArgs false

/-! ### reedsolomon_galMultiply: function 42, by hand -/
set_option maxRecDepth 100000 in
set_option maxHeartbeats 2000000 in
theorem mul_zero1 (b : Nat) (w : World) : Calls Tryd.prog 42 #[.int .u8 0, .int .u8 (b : Nat)] w fun e w' => e = .returned (.int .u8 0) ∧ Drawn0 w w' := by
  go_enter Tryd.func42, Tryd.ntmps42
  go_wp2
  go_ret
  exact ⟨rfl, Drawn0.refl _⟩
set_option maxRecDepth 100000 in
set_option maxHeartbeats 2000000 in
theorem mul_zero2 (a : Nat) (ha : ((a : Int) == 0) = false) (w : World) : Calls Tryd.prog 42 #[.int .u8 (a : Nat), .int .u8 0] w fun e w' => e = .returned (.int .u8 0) ∧ Drawn0 w w' := by
  go_enter Tryd.func42, Tryd.ntmps42
  go_wp2
  go_ret
  exact ⟨rfl, Drawn0.refl _⟩
set_option maxRecDepth 100000 in
set_option maxHeartbeats 2000000 in
theorem mul_lo (a b la lb : Nat) (e0 : Nat) (ha : ((a : Int) == 0) = false) (hb : ((b : Int) == 0) = false) (ha2 : a < 256) (hb2 : b < 256) (hla : la < 255) (hlb : lb < 255) (hlt : la + lb < 255)
    (w : World) (h1 : w.cell? ⟨0, a, none⟩ = some (.int .u8 (la : Nat))) (h2 : w.cell? ⟨0, b, none⟩ = some (.int .u8 (lb : Nat))) (h3 : w.cell? ⟨1, la + lb, none⟩ = some (.int .u8 (e0 : Nat))) :
    Calls Tryd.prog 42 #[.int .u8 (a : Nat), .int .u8 (b : Nat)] w fun e w' => e = .returned (.int .u8 (e0 : Nat)) ∧ Drawn0 w w' := by
  go_enter Tryd.func42, Tryd.ntmps42
  go_wp2
  go_quiet (fail)
  go_wp2
  go_ret
  exact ⟨rfl, ⟨_, rfl⟩⟩
set_option maxRecDepth 100000 in
set_option maxHeartbeats 2000000 in
theorem mul_hi (a b la lb : Nat) (e0 : Nat) (ha : ((a : Int) == 0) = false) (hb : ((b : Int) == 0) = false) (ha2 : a < 256) (hb2 : b < 256) (hla : la < 255) (hlb : lb < 255) (hlt : 255 ≤ la + lb)
    (w : World) (h1 : w.cell? ⟨0, a, none⟩ = some (.int .u8 (la : Nat))) (h2 : w.cell? ⟨0, b, none⟩ = some (.int .u8 (lb : Nat))) (h3 : w.cell? ⟨1, la + lb - 255, none⟩ = some (.int .u8 (e0 : Nat))) :
    Calls Tryd.prog 42 #[.int .u8 (a : Nat), .int .u8 (b : Nat)] w fun e w' => e = .returned (.int .u8 (e0 : Nat)) ∧ Drawn0 w w' := by
  go_enter Tryd.func42, Tryd.ntmps42
  go_wp2
  go_quiet (fail)
  go_wp2
  go_ret
  exact ⟨rfl, ⟨_, rfl⟩⟩
def reedsolomon_galMultiply.f (a0 : Int) (a1 : Int) : Option (Int) := if 0 ≤ a0 ∧ a0 ≤ 255 ∧ 0 ≤ a1 ∧ a1 ≤ 255 then some ((gmul a0.toNat a1.toNat : Nat) : Int) else none
theorem reedsolomon_galMultiply.calls (a0 : Int) (a1 : Int) (r : Int) (w : World) (HG_ : Glob w) (h : reedsolomon_galMultiply.f a0 a1 = some r) :
    Calls Tryd.prog 42 #[.int .u8 a0, .int .u8 a1] w fun e w' => e = .returned (.int .u8 r) ∧ Drawn0 w w' := by
  unfold reedsolomon_galMultiply.f at h
  by_cases hc : 0 ≤ a0 ∧ a0 ≤ 255 ∧ 0 ≤ a1 ∧ a1 ≤ 255
  · rw [if_pos hc] at h
    obtain ⟨c0, c1, c2, c3⟩ := hc
    obtain ⟨a, rfl⟩ := Int.eq_ofNat_of_zero_le c0
    obtain ⟨b, rfl⟩ := Int.eq_ofNat_of_zero_le c2
    rw [Int.toNat_natCast, Int.toNat_natCast] at h
    obtain rfl := Option.some.inj h
    unfold gmul
    by_cases ha : a = 0
    · subst ha; rw [if_pos rfl]; exact mul_zero1 b w
    by_cases hb : b = 0
    · subst hb; rw [if_neg ha, if_pos rfl]; exact mul_zero2 a (by simpa using ha) w
    rw [if_neg ha, if_neg hb]
    have la := log_lt a
    have lb := log_lt b
    by_cases hs : 255 ≤ logL.getD a 0 + logL.getD b 0
    · rw [if_pos hs]
      exact mul_hi a b _ _ _ (by simpa using ha) (by simpa using hb) (by omega) (by omega) la lb hs w (HG_.1 a (by omega)) (HG_.1 b (by omega)) (HG_.2 _ (by omega))
    · rw [if_neg hs]
      exact mul_lo a b _ _ _ (by simpa using ha) (by simpa using hb) (by omega) (by omega) la lb (by omega) w (HG_.1 a (by omega)) (HG_.1 b (by omega)) (HG_.2 _ (by omega))
  · rw [if_neg hc] at h; exact absurd h (by simp)
end Go.Proofs.YtpjfokolbgcbhaaDoor.Qm
