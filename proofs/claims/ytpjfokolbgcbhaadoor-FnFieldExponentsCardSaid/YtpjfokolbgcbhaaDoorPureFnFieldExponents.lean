/- Powers of one byte are multiplied by adding the exponents, and a power is raised to a power by multiplying them. Conditions: none (exponents outside 0 to 300 are let by, as the statement says). -/
import Derived.Test.YtpjfokolbgcbhaaDoorPureFnFieldRing
import Derived.Test.YtpjfokolbgcbhaaDoorQx2
namespace Go.Proofs.YtpjfokolbgcbhaaDoor.Pure
open Go.RowKit Go.Proofs.YtpjfokolbgcbhaaDoor Go.Proofs.YtpjfokolbgcbhaaDoor.Q Go.Proofs.YtpjfokolbgcbhaaDoorW.PrintWords Go.Proofs.YtpjfokolbgcbhaaDoorW.PrintLast

theorem exp_of (a n : Nat) (ha : a < 256) (hn : n ≤ 100000) : impl_Exp.f (a : Int) (n : Int) = some (((gexp a n : Nat) : Int), true) := by
  unfold impl_Exp.f reedsolomon_DoorExp.f reedsolomon_galExp.f
  rw [if_neg (by omega), if_neg (by omega), if_pos (by omega), Int.toNat_natCast, Int.toNat_natCast]
  rfl

theorem FnFieldExponents : laws_FnFieldExponents.Pure := by
  intro a0 a1 a2 w0 w1 w2
  have b0 := bounds_u8 w0
  obtain ⟨a, rfl⟩ := Int.eq_ofNat_of_zero_le b0.1
  have ha : a < 256 := by omega
  refine ⟨1, ?_⟩
  unfold laws_FnFieldExponents.f
  have hj : ∀ x y z, laws_FnFieldExponents.j0 1 x y z true = some true := fun x y z => by simp [laws_FnFieldExponents.j0]
  by_cases c1 : a1 < 0
  · rw [if_pos c1]; exact hj _ _ _
  rw [if_neg c1]
  by_cases c2 : a1 > 300
  · rw [if_pos c2]; exact hj _ _ _
  rw [if_neg c2]
  by_cases c3 : a2 < 0
  · rw [if_pos c3]; exact hj _ _ _
  rw [if_neg c3]
  by_cases c4 : a2 > 300
  · rw [decide_eq_true c4]; exact hj _ _ _
  rw [decide_eq_false c4]
  obtain ⟨m, rfl⟩ := Int.eq_ofNat_of_zero_le (show 0 ≤ a1 by omega)
  obtain ⟨n, rfl⟩ := Int.eq_ofNat_of_zero_le (show 0 ≤ a2 by omega)
  have hmn : m * n ≤ 300 * 300 := Nat.mul_le_mul (by omega) (by omega)
  have e1 : wrap64 ((m : Int) + (n : Int)) = ((m + n : Nat) : Int) := by unfold wrap64; omega
  have e2 : wrap64 ((m : Int) * (n : Int)) = ((m * n : Nat) : Int) := by
    rw [show (m : Int) * (n : Int) = ((m * n : Nat) : Int) by push_cast; rfl]; unfold wrap64; omega
  simp only [laws_FnFieldExponents.j0]
  rw [if_neg (by decide), e1, e2, exp_of a m ha (by omega), exp_of a n ha (by omega), exp_of a (m + n) ha (by omega), exp_of a (m * n) ha (by omega)]
  simp only [Option.bind_some]
  rw [exp_of _ n (gexp_lt _ _) (by omega)]
  simp only [Option.bind_some, if_true]
  rw [mul_of _ _ (gexp_lt _ _) (gexp_lt _ _)]
  simp only [Option.bind_some]
  rw [if_pos (by rw [gexp_add]), gexp_mul]
  simp

end Go.Proofs.YtpjfokolbgcbhaaDoor.Pure
