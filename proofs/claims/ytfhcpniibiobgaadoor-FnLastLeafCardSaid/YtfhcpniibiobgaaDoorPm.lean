/- The two lengths that the program reckons with, in bits: plain. -/
import Derived.Test.YtfhcpniibiobgaaDoorPx
import Derived.Test.YtfhcpniibiobgaaDoorPy
namespace Go.Proofs.YtfhcpniibiobgaaDoor.Pure
open Go.RowKit Go.Proofs.YtfhcpniibiobgaaDoorW.PrintWords Go.Proofs.YtfhcpniibiobgaaDoorW.PrintMore Go.Proofs.YtfhcpniibiobgaaDoorW.PrintLast
open Go.Proofs.YtfhcpniibiobgaaDoor.M (vlen inn pc y1 y2 y3)
theorem pc_le : ∀ (f x : Nat), pc f x ≤ f
  | 0, _ => Nat.le_refl _
  | f + 1, x => by
    rw [M.pc]
    have := pc_le f (x / 2)
    omega
theorem xor_lt (x y : Nat) (hx : x < 18446744073709551616) (hy : y < 18446744073709551616) : x ^^^ y < 18446744073709551616 := Nat.xor_lt_two_pow (n := 64) hx hy
theorem inn_le (x n : Nat) (hx : x < n) (hn : n < 18446744073709551616) : inn x n ≤ 64 := by
  unfold inn
  by_cases h : x ^^^ (n - 1) = 0
  · rw [h]
    exact Nat.zero_le _
  · exact (M.len_spec _ h (xor_lt x (n - 1) (by omega) (by omega))).2.1
theorem inn_lt (x n : Nat) (hx : x < n) (hn : n < 18446744073709551616) : x ^^^ (n - 1) < 2 ^ inn x n := by
  unfold inn
  by_cases h : x ^^^ (n - 1) = 0
  · rw [h]
    exact Nat.two_pow_pos _
  · exact (M.len_spec _ h (xor_lt x (n - 1) (by omega) (by omega))).2.2.2
theorem inn_gt (x n j : Nat) (hx : x < n) (hn : n < 18446744073709551616) (hj : j < inn x n) : 2 ^ j ≤ x ^^^ (n - 1) := by
  unfold inn at hj
  have h : x ^^^ (n - 1) ≠ 0 := by
    intro h
    rw [h] at hj
    exact absurd hj (by simp [Lib.bitLen, Lib.bitLenAux])
  have := (M.len_spec _ h (xor_lt x (n - 1) (by omega) (by omega))).2.2.1
  exact Nat.le_trans (Nat.pow_le_pow_right (by omega) (by omega)) this
theorem xor_eq (x y : Nat) (h : x ^^^ y = 0) : x = y := by
  have : (x ^^^ y) ^^^ y = 0 ^^^ y := by rw [h]
  rwa [Nat.xor_assoc, Nat.xor_self, Nat.xor_zero, Nat.zero_xor] at this
theorem same_hi (x y j : Nat) : x / 2 ^ j = y / 2 ^ j ↔ x ^^^ y < 2 ^ j := by
  have e : (x ^^^ y) / 2 ^ j = (x / 2 ^ j) ^^^ (y / 2 ^ j) := Nat.xor_div_two_pow
  constructor
  · intro h
    rw [h, Nat.xor_self] at e
    exact (Nat.div_eq_zero_iff_lt (Nat.two_pow_pos j)).1 e
  · intro h
    rw [Nat.div_eq_of_lt h] at e
    exact xor_eq _ _ e.symm
theorem decomp_f (x n : Nat) (hx : x < n) (hn : n < 18446744073709551616) : Qf.proof_decompInclProof.f (x : Int) (n : Int) = some (((inn x n : Nat) : Int), ((pc 64 (x / 2 ^ inn x n) : Nat) : Int)) := by
  have h64 := inn_le x n hx hn
  have w : IntKind.u64.wrap ((n : Int) - 1) = ((n - 1 : Nat) : Int) := by rw [wu _ (by omega)]; omega
  have hxl := xor_lt x (n - 1) (by omega) (by omega)
  have hi : Qf.proof_innerProofSize.f (x : Int) (n : Int) = some ((inn x n : Nat) : Int) := by
    unfold Qf.proof_innerProofSize.f Qf.bits_Len64.f
    rw [w, bits_xor_u64_nat x (n - 1) (by omega) (by omega), if_pos (by omega), if_pos (by omega), Option.bind_some, Int.toNat_natCast]
    rfl
  unfold Qf.proof_decompInclProof.f
  rw [hi, Option.bind_some, wu _ (by omega), if_pos (by omega)]
  have sh : shr .u64 (x : Int) ((inn x n : Nat) : Int) = ((x / 2 ^ inn x n : Nat) : Int) := by
    show (x : Int) / 2 ^ min ((inn x n : Nat) : Int).toNat 64 = _
    rw [Int.toNat_natCast, Nat.min_eq_left h64]
    push_cast
    rfl
  rw [sh, onesCount_of _ (Nat.lt_of_le_of_lt (Nat.div_le_self _ _) (by omega)), Option.bind_some]
end Go.Proofs.YtfhcpniibiobgaaDoor.Pure
