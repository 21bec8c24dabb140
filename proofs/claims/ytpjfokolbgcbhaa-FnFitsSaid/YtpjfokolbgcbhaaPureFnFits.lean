/- Whether leopard has room for so many data and parity shards in a field of 256 or 65536 elements is told as the least power of two that is not less than the parity shards says. Conditions: none (numbers outside 1 to 70000 are let by, as the statement says). -/
import Derived.Test.YtpjfokolbgcbhaaQx1
import Derived.OpenShut
import Derived.Lib.ItoaNum
namespace Go.Proofs.Ytpjfokolbgcbhaa.Pure
open Go.RowKit Go.Proofs.Ytpjfokolbgcbhaa.Q Go.Proofs.YtpjfokolbgcbhaaW.PrintWords Go.Proofs.YtpjfokolbgcbhaaW.PrintLast

theorem w64 {n : Int} (h0 : -9223372036854775808 ≤ n) (h1 : n ≤ 9223372036854775807) : wrap64 n = n := by
  unfold wrap64; omega
theorem wu64 {n : Int} (h0 : 0 ≤ n) (h1 : n < 18446744073709551616) : IntKind.u64.wrap n = n := by
  show n % 18446744073709551616 = n
  omega

/-- The least power of two at or above p, for p from 1 to 70000: its exponent. -/
def ex (p : Nat) : Nat := Lib.bitLen (p - 1)

theorem ex_le (p : Nat) (h1 : 1 ≤ p) (h2 : p ≤ 70000) : ex p ≤ 17 := Lib.bitLen_le (p - 1) 17 (by omega) (by omega)
theorem le_pow (p : Nat) (h1 : 1 ≤ p) (h2 : p ≤ 70000) : p ≤ 2 ^ ex p := by
  by_cases h : p = 1
  · subst h; exact Nat.one_le_two_pow
  · have := Lib.bitLenAux_bounds 64 (p - 1) (by omega) (by omega)
    unfold ex Lib.bitLen; omega
theorem pow_lt (p : Nat) (h1 : 1 ≤ p) (h2 : p ≤ 70000) (j : Nat) (hj : j < ex p) : 2 ^ j < p := by
  by_cases h : p = 1
  · subst h; rw [show ex 1 = 0 by decide] at hj; omega
  · have := Lib.bitLenAux_bounds 64 (p - 1) (by omega) (by omega)
    have h3 : 2 ^ j ≤ 2 ^ (Lib.bitLenAux 64 (p - 1) - 1) := Nat.pow_le_pow_right (by omega) (by unfold ex Lib.bitLen at hj; omega)
    omega
theorem pow_le (p : Nat) (h1 : 1 ≤ p) (h2 : p ≤ 70000) : 2 ^ ex p ≤ 131072 := Nat.pow_le_pow_right (n := 2) (by omega) (ex_le p h1 h2)

theorem ceil_of (p : Nat) (h1 : 1 ≤ p) (h2 : p ≤ 70000) : reedsolomon_ceilPow2.f (p : Int) = some ((2 ^ ex p : Nat) : Int) := by
  have he := ex_le p h1 h2
  have hp := pow_le p h1 h2
  unfold reedsolomon_ceilPow2.f bits_LeadingZeros.f bits_Len.f bits_Len64.f
  have e1 : IntKind.u64.wrap (wrap64 ((p : Int) - 1)) = ((p - 1 : Nat) : Int) := by
    rw [w64 (by omega) (by omega), wu64 (by omega) (by omega)]; omega
  rw [e1, if_pos (by omega), if_pos (by omega)]
  simp only [Option.bind_some, Int.toNat_natCast]
  have e2 : (Lib.bitLen (p - 1) : Int) = (ex p : Int) := rfl
  rw [e2, w64 (n := 64 - (ex p : Int)) (by omega) (by omega), w64 (n := 64 - (64 - (ex p : Int))) (by omega) (by omega), if_pos (by omega)]
  unfold shl
  rw [show (64 - (64 - (ex p : Int))).toNat = ex p by omega, show min (ex p) IntKind.i64.bits = ex p from Nat.min_eq_left (by show ex p ≤ 64; omega)]
  congr 1
  have e3 : (1 : Int) * 2 ^ ex p = ((2 ^ ex p : Nat) : Int) := by rw [Int.one_mul]; push_cast; rfl
  rw [e3]
  have e4 : ∀ m : Nat, m ≤ 131072 → IntKind.i64.wrap (m : Int) = (m : Int) := by
    intro m hm
    rw [IntKind.wrap_i64]; omega
  exact e4 _ hp

/-- the rounding up, as both sides reckon it -/
theorem blocks_of (d m : Nat) (hm : 0 < m) : (d + m - 1) / m = d / m + (if d % m = 0 then 0 else 1) := by
  have h1 := Nat.div_add_mod d m
  have hlt := Nat.mod_lt d hm
  split
  · rename_i h
    rw [Nat.div_eq_iff hm]
    rw [h] at h1
    rw [Nat.add_zero, Nat.mul_comm]
    omega
  · rename_i h
    rw [Nat.div_eq_iff hm]
    rw [Nat.add_mul, Nat.mul_comm (d / m)]
    omega

theorem round_le (d m : Nat) (hm : 0 < m) : (d + m - 1) / m * m ≤ d + m - 1 ∧ d ≤ (d + m - 1) / m * m := by
  have h1 := Nat.div_add_mod (d + m - 1) m
  have hlt := Nat.mod_lt (d + m - 1) hm
  rw [Nat.mul_comm] at h1
  omega

theorem fits_of (k d p o : Nat) (hd1 : 1 ≤ d) (hd2 : d ≤ 70000) (h1 : 1 ≤ p) (h2 : p ≤ 70000) (ho : o ≤ 65536) (hk : 1 ≤ k) :
    impl_Fits.f k (d : Int) (p : Int) (o : Int) = some (decide ((d + 2 ^ ex p - 1) / 2 ^ ex p * 2 ^ ex p + 2 ^ ex p ≤ o)) := by
  obtain ⟨k, rfl⟩ : ∃ m, k = m + 1 := ⟨k - 1, by omega⟩
  have hpow := le_pow p h1 h2
  have hpl := pow_le p h1 h2
  have hm0 : 0 < 2 ^ ex p := Nat.two_pow_pos _
  have hb := blocks_of d (2 ^ ex p) hm0
  have hr := round_le d (2 ^ ex p) hm0
  have hc := ceil_of p h1 h2
  generalize 2 ^ ex p = m at *
  unfold impl_Fits.f reedsolomon_DoorFits.f reedsolomon_leopardFits.f
  rw [if_neg (by omega), if_neg (by omega)]
  by_cases hdo : (d : Int) > (o : Int)
  · rw [if_pos hdo]
    simp only [reedsolomon_leopardFits.j0, if_true, Option.bind_some]
    congr 1
    symm; rw [decide_eq_false_iff_not]; omega
  · rw [if_neg hdo]
    by_cases hpo : (p : Int) > (o : Int)
    · rw [decide_eq_true hpo]
      simp only [reedsolomon_leopardFits.j0, if_true, Option.bind_some]
      congr 1
      symm; rw [decide_eq_false_iff_not]; omega
    · rw [decide_eq_false hpo]
      simp only [reedsolomon_leopardFits.j0, hc, Option.bind_some]
      rw [if_neg (by decide), if_neg (by omega)]
      have t1 : Int.tmod (d : Int) (m : Int) = ((d % m : Nat) : Int) := (Int.ofNat_tmod d m).symm
      have t2 : Int.tdiv (d : Int) (m : Int) = ((d / m : Nat) : Int) := (Int.ofNat_tdiv d m).symm
      have hdm : d / m ≤ d := Nat.div_le_self _ _
      generalize d / m = q at *
      generalize (d + m - 1) / m = u at *
      rw [t1, t2, w64 (n := (q : Int)) (by omega) (by omega), w64 (n := (o : Int) - (m : Int)) (by omega) (by omega)]
      by_cases hz : d % m = 0
      · rw [if_pos (by omega)]
        rw [if_pos hz, Nat.add_zero] at hb
        rw [hb] at hr ⊢
        have e : (q : Int) * (m : Int) = ((q * m : Nat) : Int) := by push_cast; rfl
        rw [e, w64 (by omega) (by omega)]
        simp only [Option.bind_some]
        congr 1
        rw [decide_eq_decide]; omega
      · rw [if_neg (by omega)]
        rw [if_neg hz] at hb
        rw [hb] at hr ⊢
        have e : ((q : Int) + 1) * (m : Int) = (((q + 1) * m : Nat) : Int) := by push_cast; rfl
        rw [w64 (n := (q : Int) + 1) (by omega) (by omega), e, w64 (by omega) (by omega)]
        simp only [Option.bind_some]
        congr 1
        rw [decide_eq_decide]; omega

/-- the law's loop: from 2^j on it comes to the least power of two, and answers true -/
theorem loop_of (d p : Nat) (l : Bool) (hd1 : 1 ≤ d) (hd2 : d ≤ 70000) (h1 : 1 ≤ p) (h2 : p ≤ 70000) (i : Nat) :
    ∀ (k j : Nat), j + i = ex p → i + 2 ≤ k → laws_FnFits.l0 k (d : Int) (p : Int) l ((2 ^ j : Nat) : Int) 256 = some true := by
  induction i with
  | zero =>
    intro k j hj hk
    obtain ⟨k, rfl⟩ : ∃ m, k = m + 1 := ⟨k - 1, by omega⟩
    obtain rfl : j = ex p := by omega
    have hpow := le_pow p h1 h2
    have hpl := pow_le p h1 h2
    have hm0 : 0 < 2 ^ ex p := Nat.two_pow_pos _
    have hr := round_le d (2 ^ ex p) hm0
    have hf1 := fits_of k d p 65536 hd1 hd2 h1 h2 (by omega) (by omega)
    have hf2 := fits_of k d p 256 hd1 hd2 h1 h2 (by omega) (by omega)
    generalize 2 ^ ex p = m at *
    simp only [laws_FnFits.l0]
    rw [if_neg (by omega)]
    have e1 : (d : Int) + (m : Int) - 1 = ((d + m - 1 : Nat) : Int) := by omega
    have hdl : (d + m - 1) / m ≤ d + m - 1 := Nat.div_le_self _ _
    have e2 : wrap64 (wrap64 (wrap64 (Int.tdiv (wrap64 (wrap64 ((d : Int) + (m : Int)) - 1)) (m : Int)) * (m : Int)) + (m : Int)) = (((d + m - 1) / m * m + m : Nat) : Int) := by
      rw [w64 (n := (d : Int) + (m : Int)) (by omega) (by omega), e1, w64 (n := ((d + m - 1 : Nat) : Int)) (by omega) (by omega)]
      rw [show Int.tdiv ((d + m - 1 : Nat) : Int) (m : Int) = (((d + m - 1) / m : Nat) : Int) from (Int.ofNat_tdiv _ _).symm]
      generalize (d + m - 1) / m = u at *
      rw [w64 (n := (u : Int)) (by omega) (by omega)]
      rw [show (u : Int) * (m : Int) = ((u * m : Nat) : Int) by push_cast; rfl]
      rw [w64 (n := ((u * m : Nat) : Int)) (by omega) (by omega), w64 (by omega) (by omega)]
      omega
    rw [e2]
    cases l
    · rw [if_neg (by decide), show ((256 : Int)) = ((256 : Nat) : Int) from rfl, hf2]
      simp only [Option.bind_some]
      rw [if_neg (by omega)]
      congr 1
      rw [beq_iff_eq, decide_eq_decide]; omega
    · rw [if_pos rfl, show ((65536 : Int)) = ((65536 : Nat) : Int) from rfl, hf1]
      simp only [Option.bind_some]
      rw [if_neg (by omega)]
      congr 1
      rw [beq_iff_eq, decide_eq_decide]; omega
  | succ i ih =>
    intro k j hj hk
    obtain ⟨k, rfl⟩ : ∃ m, k = m + 1 := ⟨k - 1, by omega⟩
    have hlt := pow_lt p h1 h2 j (by omega)
    simp only [laws_FnFits.l0]
    rw [if_pos (Int.ofNat_lt.2 hlt)]
    have e2 : 2 ^ (j + 1) = 2 ^ j * 2 := Nat.pow_succ 2 j
    have hh := ih k (j + 1) (by omega) (by omega)
    rw [e2] at hh
    generalize 2 ^ j = m at *
    rw [show ((m : Nat) : Int) * 2 = ((m * 2 : Nat) : Int) by push_cast; rfl]
    rw [w64 (by omega) (by omega)]
    exact hh

theorem FnFits : laws_FnFits.Pure := by
  intro a b l wa wb
  refine ⟨100, ?_⟩
  unfold laws_FnFits.f
  have hj : ∀ x y, laws_FnFits.j0 100 x y l true = some true := fun x y => by simp [laws_FnFits.j0]
  by_cases c1 : a < 1
  · rw [if_pos c1]; exact hj _ _
  rw [if_neg c1]
  by_cases c2 : a > 70000
  · rw [if_pos c2]; exact hj _ _
  rw [if_neg c2]
  by_cases c3 : b < 1
  · rw [if_pos c3]; exact hj _ _
  rw [if_neg c3]
  by_cases c4 : b > 70000
  · rw [decide_eq_true c4]; exact hj _ _
  rw [decide_eq_false c4]
  obtain ⟨d, rfl⟩ := Int.eq_ofNat_of_zero_le (show 0 ≤ a by omega)
  obtain ⟨p, rfl⟩ := Int.eq_ofNat_of_zero_le (show 0 ≤ b by omega)
  have he := ex_le p (by omega) (by omega)
  simp only [laws_FnFits.j0]
  rw [if_neg (by decide)]
  exact loop_of d p l (by omega) (by omega) (by omega) (by omega) (ex p) 99 0 (by omega) (by omega)

end Go.Proofs.Ytpjfokolbgcbhaa.Pure
