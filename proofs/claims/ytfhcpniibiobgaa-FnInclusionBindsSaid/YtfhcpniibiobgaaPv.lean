/- The length of a node's path to the root of a tree of n leaves: bits. -/
import Derived.Test.YtfhcpniibiobgaaPc
namespace Go.Proofs.Ytfhcpniibiobgaa.M
open Go

/-- Inner and border nodes beside the way up of leaf i in a tree of n leaves. -/
def inn (i n : Nat) : Nat := Lib.bitLen (i ^^^ (n - 1))
def vlen (i n : Nat) : Nat := inn i n + pc 64 (i / 2 ^ inn i n)
theorem bitLen_at {z m : Nat} (h1 : 2 ^ m ≤ z) (h2 : z < 2 ^ (m + 1)) (h : z < 2 ^ 64) : Lib.bitLen z = m + 1 := by
  have hz : z ≠ 0 := by have := Nat.two_pow_pos m; omega
  obtain ⟨p1, p2, p3, p4⟩ := len_spec z hz h
  have a1 : Lib.bitLen z - 1 < m + 1 := (Nat.pow_lt_pow_iff_right (by omega : 1 < 2)).1 (Nat.lt_of_le_of_lt p3 h2)
  have a2 : m < Lib.bitLen z := (Nat.pow_lt_pow_iff_right (by omega : 1 < 2)).1 (Nat.lt_of_le_of_lt h1 p4)
  omega
theorem div_one {t y : Nat} (h1 : 2 ^ t ≤ y) (h2 : y < 2 ^ (t + 1)) : y / 2 ^ t = 1 := by
  have : 2 ^ (t + 1) = 2 * 2 ^ t := by rw [Nat.pow_succ, Nat.mul_comm]
  have hp := Nat.two_pow_pos t
  rw [Nat.div_eq_iff hp]
  omega
theorem vlen_left {i n t : Nat} (ht : t < 64) (hi : i < 2 ^ t) (h1 : 2 ^ t < n) (h2 : n ≤ 2 ^ (t + 1)) (hn : n < 2 ^ 64) : vlen i n = t + 1 := by
  have hx : (i ^^^ (n - 1)) / 2 ^ t = 1 := by
    rw [Nat.xor_div_two_pow, Nat.div_eq_of_lt hi, Nat.zero_xor]
    exact div_one (by omega) (by omega)
  have hp := Nat.two_pow_pos t
  have hq : 2 ^ (t + 1) = 2 * 2 ^ t := by rw [Nat.pow_succ, Nat.mul_comm]
  have hz := Nat.div_add_mod (i ^^^ (n - 1)) (2 ^ t)
  rw [hx, Nat.mul_one] at hz
  have hm := Nat.mod_lt (i ^^^ (n - 1)) hp
  have h64 : 2 ^ (t + 1) ≤ 2 ^ 64 := Nat.pow_le_pow_right (by omega) (by omega)
  have hb : inn i n = t + 1 := bitLen_at (by omega) (by omega) (by omega)
  unfold vlen
  rw [hb, Nat.div_eq_of_lt (by omega), pc_zero]
theorem vlen_right {i n t : Nat} (ht : t < 64) (hi : 2 ^ t ≤ i) (hin : i < n) (h2 : n ≤ 2 ^ (t + 1)) : vlen i n = vlen (i - 2 ^ t) (n - 2 ^ t) + 1 := by
  have hp := Nat.two_pow_pos t
  have hq : 2 ^ (t + 1) = 2 * 2 ^ t := by rw [Nat.pow_succ, Nat.mul_comm]
  have e1 : i / 2 ^ t = 1 := div_one hi (by omega)
  have e2 : (n - 1) / 2 ^ t = 1 := div_one (by omega) (by omega)
  have m1 : i % 2 ^ t = i - 2 ^ t := by have := Nat.div_add_mod i (2 ^ t); rw [e1] at this; omega
  have m2 : (n - 1) % 2 ^ t = n - 2 ^ t - 1 := by have := Nat.div_add_mod (n - 1) (2 ^ t); rw [e2] at this; omega
  have hx : (i ^^^ (n - 1)) = (i - 2 ^ t) ^^^ (n - 2 ^ t - 1) := by
    have a := Nat.div_add_mod (i ^^^ (n - 1)) (2 ^ t)
    rw [Nat.xor_div_two_pow, e1, e2, Nat.xor_self, Nat.mul_zero, Nat.zero_add, Nat.xor_mod_two_pow, m1, m2] at a
    exact a.symm
  have hb : inn i n = inn (i - 2 ^ t) (n - 2 ^ t) := by unfold inn; rw [hx]
  have hlt : (i - 2 ^ t) ^^^ (n - 2 ^ t - 1) < 2 ^ t := Nat.xor_lt_two_pow (by omega) (by omega)
  have hle : inn (i - 2 ^ t) (n - 2 ^ t) ≤ t := by
    unfold inn
    by_cases h0 : (i - 2 ^ t) ^^^ (n - 2 ^ t - 1) = 0
    · rw [h0]
      exact Nat.zero_le _
    · have h64 : 2 ^ t ≤ 2 ^ 64 := Nat.pow_le_pow_right (by omega) (by omega)
      obtain ⟨p1, p2, p3, p4⟩ := len_spec _ h0 (Nat.lt_of_lt_of_le hlt h64)
      have := (Nat.pow_lt_pow_iff_right (by omega : 1 < 2)).1 (Nat.lt_of_le_of_lt p3 hlt)
      omega
  unfold vlen
  rw [hb]
  generalize inn (i - 2 ^ t) (n - 2 ^ t) = m at hle
  have hsplit : 2 ^ t = 2 ^ (t - m) * 2 ^ m := by rw [← Nat.pow_add]; congr 1; omega
  have hd : i / 2 ^ m = 2 ^ (t - m) + (i - 2 ^ t) / 2 ^ m := by
    have : i = (i - 2 ^ t) + 2 ^ (t - m) * 2 ^ m := by omega
    conv => lhs; rw [this]
    rw [Nat.add_mul_div_right _ _ (Nat.two_pow_pos m), Nat.add_comm]
  have hr : (i - 2 ^ t) / 2 ^ m < 2 ^ (t - m) := by
    rw [Nat.div_lt_iff_lt_mul (Nat.two_pow_pos m), ← hsplit]
    omega
  rw [hd, pc_top 64 (t - m) _ (by omega) hr]
  omega
theorem vlen_one : vlen 0 1 = 0 := by
  unfold vlen inn
  decide
end Go.Proofs.Ytfhcpniibiobgaa.M
