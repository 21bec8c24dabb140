/- Plain arithmetic of ranges: where a range is cut into its two parts. No program stands in it. -/
import Derived.Lib.ItoaNum
import Derived.Lib.TrailingZeros
namespace Go.Proofs.YtfhcpniibiobgaaDoor.M
open Go

theorem len_spec (z : Nat) (h0 : z ≠ 0) (h : z < 2 ^ 64) : 1 ≤ Lib.bitLen z ∧ Lib.bitLen z ≤ 64 ∧ 2 ^ (Lib.bitLen z - 1) ≤ z ∧ z < 2 ^ Lib.bitLen z := by
  have := Lib.bitLenAux_bounds 64 z h h0
  exact ⟨this.1, Lib.bitLen_le z 64 (by omega) h, this.2.1, this.2.2⟩

theorem xor_one_cases {p q : Nat} (h : p ^^^ q = 1) (hle : p ≤ q) : q = p + 1 ∧ p % 2 = 0 := by
  have h1 : q = p ^^^ 1 := by rw [← h, ← Nat.xor_assoc, Nat.xor_self, Nat.zero_xor]
  have h2 : q / 2 = p / 2 := by
    rw [h1, Nat.xor_div_two]; simp
  have h3 : (p ^^^ q) % 2 = 1 := by rw [h]
  rw [Nat.xor_mod_two_eq_one] at h3
  omega

/-- The place that cuts a range: 1 ≤ b ≤ e; d: the highest bit in which b - 1 and e differ. -/
theorem cut (b e : Nat) (hb : 1 ≤ b) (hbe : b ≤ e) (he : e < 2 ^ 64) :
    ∃ d q : Nat, Lib.bitLen ((b - 1) ^^^ e) = d + 1 ∧ d ≤ 63 ∧ (b - 1) ^^^ e < 2 ^ 64 ∧ q % 2 = 1 ∧ e = 2 ^ d * q + e % 2 ^ d ∧ b + (2 ^ d - 1 - (b - 1) % 2 ^ d) = 2 ^ d * q ∧ (b - 1) % 2 ^ d < 2 ^ d ∧ e % 2 ^ d < 2 ^ d := by
  have hz0 : (b - 1) ^^^ e ≠ 0 := by
    intro h0
    have h1 : (b - 1) = e := by
      have := congrArg (fun t => (b - 1) ^^^ t) h0
      simpa [← Nat.xor_assoc] using this.symm
    omega
  have hzl : (b - 1) ^^^ e < 2 ^ 64 := Nat.xor_lt_two_pow (by omega) he
  obtain ⟨k1, k2, k3, k4⟩ := len_spec _ hz0 hzl
  obtain ⟨d, hd⟩ : ∃ d, Lib.bitLen ((b - 1) ^^^ e) = d + 1 := ⟨Lib.bitLen ((b - 1) ^^^ e) - 1, by omega⟩
  rw [hd] at k1 k2 k3 k4
  have hD : 0 < 2 ^ d := Nat.two_pow_pos d
  have hq1 : ((b - 1) ^^^ e) / 2 ^ d = 1 := by
    rw [Nat.div_eq_iff hD]
    rw [Nat.pow_succ] at k4
    rw [Nat.add_sub_cancel] at k3
    omega
  have hx : ((b - 1) / 2 ^ d) ^^^ (e / 2 ^ d) = 1 := by
    rw [← Nat.shiftRight_eq_div_pow, ← Nat.shiftRight_eq_div_pow, ← Nat.shiftRight_xor_distrib, Nat.shiftRight_eq_div_pow]
    exact hq1
  have hle : (b - 1) / 2 ^ d ≤ e / 2 ^ d := Nat.div_le_div_right (by omega)
  obtain ⟨hq, hp⟩ := xor_one_cases hx hle
  have e1 := Nat.div_add_mod (b - 1) (2 ^ d)
  have e2 := Nat.div_add_mod e (2 ^ d)
  have m1 := Nat.mod_lt (b - 1) hD
  have m2 := Nat.mod_lt e hD
  refine ⟨d, e / 2 ^ d, hd, by omega, hzl, by omega, e2.symm, ?_, m1, m2⟩
  rw [hq, Nat.mul_add, Nat.mul_one]
  generalize 2 ^ d * ((b - 1) / 2 ^ d) = u at *
  generalize (b - 1) % 2 ^ d = v at *
  generalize 2 ^ d = D at *
  omega

/-- A power of two has one bit. -/
theorem pow_of_and {e : Nat} (h0 : 0 < e) (h : e &&& (e - 1) = 0) : ∃ t, e = 2 ^ t := by
  refine ⟨e.log2, ?_⟩
  have h1 := Nat.log2_self_le (show e ≠ 0 by omega)
  have h2 := Nat.lt_log2_self (n := e)
  by_cases hc : e = 2 ^ e.log2
  · exact hc
  exfalso
  have b1 : e.testBit e.log2 = true := by
    rw [Nat.testBit_eq_decide_div_mod_eq]
    have : e / 2 ^ e.log2 = 1 := by
      rw [Nat.div_eq_iff (Nat.two_pow_pos _)]; rw [Nat.pow_succ] at h2; omega
    simp [this]
  have b2 : (e - 1).testBit e.log2 = true := by
    rw [Nat.testBit_eq_decide_div_mod_eq]
    have : (e - 1) / 2 ^ e.log2 = 1 := by
      rw [Nat.div_eq_iff (Nat.two_pow_pos _)]; rw [Nat.pow_succ] at h2; omega
    simp [this]
  have b3 : (e &&& (e - 1)).testBit e.log2 = true := by rw [Nat.testBit_and, b1, b2]; rfl
  rw [h] at b3
  simp at b3

end Go.Proofs.YtfhcpniibiobgaaDoor.M
