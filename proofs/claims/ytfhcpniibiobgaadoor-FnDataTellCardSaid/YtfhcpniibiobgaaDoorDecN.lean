/- What the program's Decompose computes: the lengths of the two parts. Conditions: begin not after end. -/
import Derived.Test.YtfhcpniibiobgaaDoorM
import Derived.Test.YtfhcpniibiobgaaDoorQfx1
import Derived.Laws.Bits64b
import Derived.OpenShut
namespace Go.Proofs.YtfhcpniibiobgaaDoor.Pure
open Go.RowKit Go.Proofs.YtfhcpniibiobgaaDoor.Qf Go.Proofs.YtfhcpniibiobgaaDoorW.PrintWords Go.Proofs.YtfhcpniibiobgaaDoorW.PrintLast

theorem w64 {n : Int} (h0 : -9223372036854775808 ≤ n) (h1 : n ≤ 9223372036854775807) : wrap64 n = n := by
  unfold wrap64; omega
theorem wu64 {n : Int} (h0 : 0 ≤ n) (h1 : n < 18446744073709551616) : IntKind.u64.wrap n = n := by
  show n % 18446744073709551616 = n
  omega
theorem shl_u64 {x y : Int} (x' y' : Nat) (hx : x = x') (hy : y = y') (h : x' * 2 ^ y' < 18446744073709551616) (hy64 : y' ≤ 64) : shl .u64 x y = ((x' * 2 ^ y' : Nat) : Int) := by
  subst hx hy
  unfold shl
  rw [Int.toNat_natCast, show min y' IntKind.u64.bits = y' from Nat.min_eq_left hy64]
  rw [show ((x' : Int) * 2 ^ y') = ((x' * 2 ^ y' : Nat) : Int) by push_cast; rfl]
  exact wu64 (by omega) (by omega)
theorem shr_u64 {x y : Int} (x' y' : Nat) (hx : x = x') (hy : y = y') (hx64 : x' < 18446744073709551616) : shr .u64 x y = ((x' / 2 ^ y' : Nat) : Int) := by
  subst hx hy
  unfold shr
  rw [Int.toNat_natCast]
  by_cases h : y' ≤ 64
  · rw [show min y' IntKind.u64.bits = y' from Nat.min_eq_left h]; push_cast; rfl
  · rw [show min y' IntKind.u64.bits = 64 from Nat.min_eq_right (by show 64 ≤ y'; omega)]
    have h1 : x' / 2 ^ y' = 0 := Nat.div_eq_of_lt (Nat.lt_of_lt_of_le (show x' < 2 ^ 64 by omega) (Nat.pow_le_pow_right (by omega) (by omega)))
    rw [h1]
    have h3 : (2 : Int) ^ 64 = 18446744073709551616 := by decide
    rw [h3]
    exact Int.ediv_eq_zero_of_lt (by omega) (by omega)

/-- The range from b to e is cut at M: L ahead of it, R behind it. -/
structure Mid (b e L R M d : Nat) : Prop where
  lo : b + L = M
  hi : M + R = e
  d64 : d ≤ 64
  dvd : 2 ^ d ∣ M
  l : L < 2 ^ d
  r : R < 2 ^ d
  zero : b = 0 → L = 0
  pow : b ≠ 0 → ∀ t, e = 2 ^ t → R = 0

theorem decompose_of (b e : Nat) (hbe : b ≤ e) (he : e < 18446744073709551616) :
    ∃ L R M d : Nat, compact_Decompose.f (b : Int) (e : Int) = some ((L : Int), (R : Int)) ∧ Mid b e L R M d := by
  unfold compact_Decompose.f
  by_cases hb0 : b = 0
  · subst hb0
    rw [if_pos (by simp)]
    exact ⟨0, e, 0, 64, rfl, by omega, by omega, by omega, by simp, by omega, by omega, fun _ => rfl, fun h => absurd rfl h⟩
  rw [if_neg (by omega)]
  obtain ⟨d, q, h1, h2, h3, h4, h5, h6, h7, h8⟩ := M.cut b e (by omega) hbe (by omega)
  have e1 : IntKind.u64.wrap ((b : Int) - 1) = ((b - 1 : Nat) : Int) := by rw [wu64 (by omega) (by omega)]; omega
  rw [e1, bits_xor_u64_nat _ _ (by omega) he]
  have e2 : bits_Len64.f (((b - 1) ^^^ e : Nat) : Int) = some ((d + 1 : Nat) : Int) := by
    unfold bits_Len64.f
    rw [if_pos (by omega), if_pos (by omega), Int.toNat_natCast, h1]
  rw [e2]
  simp only [Option.bind_some]
  have e3 : IntKind.u64.wrap (wrap64 (((d + 1 : Nat) : Int) - 1)) = (d : Int) := by rw [w64 (by omega) (by omega), wu64 (by omega) (by omega)]; omega
  rw [e3, if_pos (by omega)]
  have hD : 2 ^ d < 18446744073709551616 := by
    have : 2 ^ d ≤ 2 ^ 63 := Nat.pow_le_pow_right (by omega) h2
    omega
  have hD0 : 0 < 2 ^ d := Nat.two_pow_pos d
  have e4 : IntKind.u64.wrap (shl .u64 1 (d : Int) - 1) = ((2 ^ d - 1 : Nat) : Int) := by
    rw [shl_u64 (x := 1) (y := (d : Int)) 1 d rfl rfl (by omega) (by omega), Nat.one_mul, wu64 (by omega) (by omega)]; omega
  have e5 : Go.bits .xor .u64 18446744073709551615 ((b - 1 : Nat) : Int) = ((18446744073709551615 - (b - 1) : Nat) : Int) := by
    rw [show (18446744073709551615 : Int) = ((18446744073709551615 : Nat) : Int) from rfl, bits_xor_u64_nat _ _ (by omega) (by omega)]
    congr 1
    have : (18446744073709551615 : Nat) = 2 ^ 64 - 1 := by decide
    apply Nat.eq_of_testBit_eq
    intro i
    rw [Nat.testBit_xor, this, Nat.testBit_two_pow_sub_one, show 2 ^ 64 - 1 - (b - 1) = 2 ^ 64 - ((b - 1) + 1) by omega, Nat.testBit_two_pow_sub_succ (by omega)]
    by_cases hi : i < 64 <;> simp [hi]
    exact Nat.testBit_lt_two_pow (Nat.lt_of_lt_of_le (show b - 1 < 2 ^ 64 by omega) (Nat.pow_le_pow_right (by omega) (by omega)))
  rw [e4, e5, bits_and_u64_nat _ _ (by omega) (by omega), bits_and_u64_nat _ _ (by omega) (by omega), Nat.and_two_pow_sub_one_eq_mod, Nat.and_two_pow_sub_one_eq_mod]
  have e6 : (18446744073709551615 - (b - 1)) % 2 ^ d = 2 ^ d - 1 - (b - 1) % 2 ^ d := by
    have k1 : (18446744073709551616 : Nat) = 2 ^ d * 2 ^ (64 - d) := by rw [← Nat.pow_add, show d + (64 - d) = 64 by omega]
    have k2 := Nat.div_add_mod (b - 1) (2 ^ d)
    have k3 : (b - 1) / 2 ^ d < 2 ^ (64 - d) := by
      rw [Nat.div_lt_iff_lt_mul hD0, Nat.mul_comm, ← k1]; omega
    have k4 : 18446744073709551615 - (b - 1) = 2 ^ d * (2 ^ (64 - d) - 1 - (b - 1) / 2 ^ d) + (2 ^ d - 1 - (b - 1) % 2 ^ d) := by
      rw [Nat.mul_sub, Nat.mul_sub, ← k1, Nat.mul_one]
      have k5 : 2 ^ d * ((b - 1) / 2 ^ d) + 2 ^ d ≤ 18446744073709551616 := by
        rw [k1, ← Nat.mul_succ]; exact Nat.mul_le_mul_left _ k3
      generalize 2 ^ d * ((b - 1) / 2 ^ d) = u at *
      generalize (b - 1) % 2 ^ d = v at *
      generalize 2 ^ d = D at *
      omega
    rw [k4, Nat.mul_add_mod, Nat.mod_eq_of_lt (by omega)]
  rw [e6]
  refine ⟨_, _, 2 ^ d * q, d, rfl, h6, h5.symm, by omega, ⟨q, rfl⟩, by omega, h8, fun h => absurd h hb0, ?_⟩
  intro _ t ht
  have hq1 : 1 ≤ q := by omega
  have k1 : 2 ^ d ≤ 2 ^ t := by
    have : 2 ^ d * 1 ≤ 2 ^ d * q := Nat.mul_le_mul_left _ hq1
    rw [← ht]; omega
  have k2 : d ≤ t := (Nat.pow_le_pow_iff_right (by omega)).1 k1
  rw [ht]
  exact Nat.mod_eq_zero_of_dvd (Nat.pow_dvd_pow 2 k2)

end Go.Proofs.YtfhcpniibiobgaaDoor.Pure
