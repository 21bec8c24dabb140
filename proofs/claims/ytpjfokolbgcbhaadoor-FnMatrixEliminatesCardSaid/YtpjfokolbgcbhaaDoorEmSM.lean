/- The reference's product of two bytes; matrices as lists of rows. Plain. -/
import Derived.Test.YtpjfokolbgcbhaaDoorEmx
import Derived.Test.YtpjfokolbgcbhaaDoorMx
import Derived.OpenShut
import Derived.Laws.BitsLemmas
import Derived.Laws.Bits64b
namespace Go.Proofs.YtpjfokolbgcbhaaDoor.QmP
open Go.RowKit Go.Proofs.YtpjfokolbgcbhaaDoor Go.Proofs.YtpjfokolbgcbhaaDoor.Qm Go.Proofs.YtpjfokolbgcbhaaDoorW.PrintWords Go.Proofs.YtpjfokolbgcbhaaDoorW.PrintLast

theorem w64 {n : Int} (h0 : -9223372036854775808 ≤ n) (h1 : n ≤ 9223372036854775807) : wrap64 n = n := by
  unfold wrap64; omega
theorem wu64 {n : Int} (h0 : 0 ≤ n) (h1 : n < 18446744073709551616) : IntKind.u64.wrap n = n := by
  show n % 18446744073709551616 = n
  omega
theorem shl_u64 {x y : Int} (x' y' : Nat) (hx : x = x') (hy : y = y') (h : x' * 2 ^ y' < 18446744073709551616) (hy64 : y' ≤ 64) : shl .u64 x y = ((x' * 2 ^ y' : Nat) : Int) := by
  subst hx hy
  unfold shl
  rw [Int.toNat_natCast, show min y' IntKind.u64.bits = y' from Nat.min_eq_left hy64]
  rw [show ((x' : Int) * 2 ^ y') = ((x' * 2 ^ y' : Nat) : Int) by push_cast; rfl]
  exact wu64 (by omega) (by omega)
theorem shr_u64 (x y : Nat) (hy : y ≤ 64) : shr .u64 (x : Int) (y : Int) = ((x / 2 ^ y : Nat) : Int) := by
  unfold shr
  rw [Int.toNat_natCast, show min y IntKind.u64.bits = y from Nat.min_eq_left hy]
  push_cast; rfl
theorem shr_u32 (x y : Nat) (hy : y ≤ 32) : shr .u32 (x : Int) (y : Int) = ((x / 2 ^ y : Nat) : Int) := by
  unfold shr
  rw [Int.toNat_natCast, show min y IntKind.u32.bits = y from Nat.min_eq_left hy]
  push_cast; rfl
theorem and1_u64 (x : Nat) (hx : x < 18446744073709551616) : Go.bits .and .u64 (x : Int) 1 = ((x % 2 : Nat) : Int) := by
  have := bits_and_u64_nat x 1 hx (by omega)
  rw [Nat.and_one_is_mod] at this
  exact this
theorem and1_u32 (x : Nat) (hx : x < 4294967296) : Go.bits .and .u32 (x : Int) 1 = ((x % 2 : Nat) : Int) := by
  have := (bits_nat .u32 32 (by decide) (fun n h0 h1 => by
    rw [IntKind.wrap_u32]
    have e : (2 : Int) ^ 32 = 4294967296 := by decide
    rw [e] at h1
    omega) x 1 (by omega) (by omega)).1
  rw [Nat.and_one_is_mod] at this
  exact this

theorem prodN_lt (a b : Nat) (ha : a < 256) : ∀ n i acc, n + i = 32 → acc < 2 ^ 40 → prodN a b n i acc < 2 ^ 40
  | 0, _, _, _, h => h
  | n + 1, i, acc, hn, h => by
    unfold prodN
    apply prodN_lt a b ha n (i + 1) _ (by omega)
    split
    · refine Nat.xor_lt_two_pow h ?_
      have h1 : a * 2 ^ i < 2 ^ 8 * 2 ^ i := Nat.mul_lt_mul_of_pos_right ha (Nat.two_pow_pos i)
      rw [← Nat.pow_add] at h1
      exact Nat.lt_of_lt_of_le h1 (Nat.pow_le_pow_right (by omega) (by omega))
    · exact h
theorem prod_loop (a b : Nat) (ha : a < 256) (hb : b < 256) : ∀ (n i acc k : Nat), n + i = 32 → acc < 2 ^ 40 →
    spec_product.l0 (k + 1 + n) (a : Int) (b : Int) (acc : Int) (i : Int) = some ((prodN a b n i acc : Nat) : Int)
  | 0, i, acc, k, hn, _ => by
    rw [Nat.add_zero]
    simp only [spec_product.l0]
    rw [if_neg (by omega)]
    rfl
  | n + 1, i, acc, k, hn, h => by
    have hi : 2 ^ i ≤ 2 ^ 31 := Nat.pow_le_pow_right (by omega) (by omega)
    have h1 : a * 2 ^ i < 2 ^ 8 * 2 ^ i := Nat.mul_lt_mul_of_pos_right ha (Nat.two_pow_pos i)
    have hdiv : b / 2 ^ i ≤ b := Nat.div_le_self _ _
    rw [show k + 1 + (n + 1) = (k + 1 + n) + 1 by omega]
    have ih := prod_loop a b ha hb n (i + 1) (if b / 2 ^ i % 2 = 1 then acc ^^^ (a * 2 ^ i) else acc) k (by omega) (by
      split
      · refine Nat.xor_lt_two_pow h ?_
        rw [← Nat.pow_add] at h1
        exact Nat.lt_of_lt_of_le h1 (Nat.pow_le_pow_right (by omega) (by omega))
      · exact h)
    generalize k + 1 + n = kk at *
    simp only [spec_product.l0]
    rw [if_pos (by omega), if_pos (by omega), shr_u32 b i (by omega), and1_u32 _ (by omega), wu64 (n := (a : Int)) (by omega) (by omega), shl_u64 a i rfl rfl (by omega) (by omega)]
    have e1 : wrap64 ((i : Int) + 1) = ((i + 1 : Nat) : Int) := by rw [w64 (by omega) (by omega)]; omega
    rw [e1, bits_xor_u64_nat _ _ (by omega) (by omega)]
    unfold prodN
    by_cases hbit : b / 2 ^ i % 2 = 1
    · rw [if_pos hbit] at ih ⊢
      rw [if_pos (by omega)]
      exact ih
    · rw [if_neg hbit] at ih ⊢
      rw [if_neg (by omega)]
      exact ih
theorem rem_loop : ∀ (n x k : Nat), n ≤ 56 → x < 2 ^ 64 → spec_remainder.l0 (k + 1 + n) (x : Int) 285 8 ((n + 7 : Nat) : Int) = some ((remN n x : Nat) : Int)
  | 0, x, k, _, _ => by
    rw [Nat.add_zero]
    simp only [spec_remainder.l0]
    rw [if_neg (by omega)]
    rfl
  | n + 1, x, k, hn, hx => by
    have h1 : 285 * 2 ^ n ≤ 285 * 2 ^ 55 := Nat.mul_le_mul_left _ (Nat.pow_le_pow_right (by omega) (by omega))
    have hdiv : x / 2 ^ (n + 8) ≤ x := Nat.div_le_self _ _
    rw [show k + 1 + (n + 1) = (k + 1 + n) + 1 by omega]
    have ih := rem_loop n (if x / 2 ^ (n + 8) % 2 = 1 then x ^^^ (285 * 2 ^ n) else x) k (by omega) (by
      split
      · exact Nat.xor_lt_two_pow hx (by omega)
      · exact hx)
    generalize k + 1 + n = kk at *
    simp only [spec_remainder.l0]
    rw [if_pos (by omega), if_pos (by omega), show n + 1 + 7 = n + 8 by omega]
    have e1 : wrap64 (((n + 8 : Nat) : Int) - 1) = ((n + 7 : Nat) : Int) := by rw [w64 (by omega) (by omega)]; omega
    have e2 : wrap64 (((n + 8 : Nat) : Int) - 8) = (n : Int) := by rw [w64 (by omega) (by omega)]; omega
    rw [e1, e2, shr_u64 x (n + 8) (by omega), and1_u64 _ (by omega), shl_u64 (x := 285) 285 n rfl rfl (by omega) (by omega), bits_xor_u64_nat _ _ (by omega) (by omega)]
    unfold remN
    by_cases hbit : x / 2 ^ (n + 8) % 2 = 1
    · rw [if_pos hbit] at ih ⊢
      rw [if_pos (by omega), if_pos (by omega)]
      exact ih
    · rw [if_neg hbit] at ih ⊢
      rw [if_neg (by omega)]
      exact ih

theorem mul_fin (a b g : Nat) (P : Int) (k : Nat) (ha : a < 256) (hb : b < 256) (hg : g < 256) (h1 : spec_product.f k (a : Int) (b : Int) = some P) (h2 : spec_remainder.f k P 285 8 = some (g : Int)) :
    spec_Mul.f k (a : Int) (b : Int) = some (g : Int) := by
  unfold spec_Mul.f
  rw [show (a : Int) % 4294967296 = a by omega, show (b : Int) % 4294967296 = b by omega, h1, Option.bind_some, h2, Option.bind_some]
  congr 1
  omega
theorem specMul_of (a b : Nat) (ha : a < 256) (hb : b < 256) : spec_Mul.f 57 (a : Int) (b : Int) = some ((gmul a b : Nat) : Int) := by
  refine mul_fin a b _ ((prodN a b 32 0 0 : Nat) : Int) 57 ha hb (gmul_lt a b) ?_ ?_
  · unfold spec_product.f
    exact prod_loop a b ha hb 32 0 0 24 rfl (by omega)
  · unfold spec_remainder.f
    have hlt := prodN_lt a b ha 32 0 0 rfl (by omega)
    have := rem_loop 56 (prodN a b 32 0 0) 0 (by omega) (Nat.lt_of_lt_of_le hlt (Nat.pow_le_pow_right (by omega) (by omega)))
    rw [rem_prod_all a b ha hb] at this
    exact this

/-- A row, and a matrix, as lists. -/
def rowL (m : Nat) (f : Nat → Nat) : List Int := (List.range m).map fun j => ((f j : Nat) : Int)
def mat (n m : Nat) (M : Nat → Nat → Nat) : List (List Int) := (List.range n).map fun i => rowL m (M i)
theorem rowL_len (m : Nat) (f : Nat → Nat) : (rowL m f).length = m := by simp [rowL]
theorem mat_len (n m : Nat) (M : Nat → Nat → Nat) : (mat n m M).length = n := by simp [mat]
theorem rd_row (m : Nat) (f : Nat → Nat) (j : Nat) (h : j < m) : rd (rowL m f) (j : Int) = ((f j : Nat) : Int) := by
  unfold rd rowL
  rw [Int.toNat_natCast, List.getD_eq_getElem?_getD, List.getElem?_map, List.getElem?_range h]
  rfl
theorem rd_mat (n m : Nat) (M : Nat → Nat → Nat) (i : Nat) (h : i < n) : rd_L1 (mat n m M) (i : Int) = rowL m (M i) := by
  unfold rd_L1 mat
  rw [Int.toNat_natCast, List.getD_eq_getElem?_getD, List.getElem?_map, List.getElem?_range h]
  rfl
theorem rowL_congr {m : Nat} {f g : Nat → Nat} (h : ∀ j, j < m → f j = g j) : rowL m f = rowL m g := by
  unfold rowL
  apply List.map_congr_left
  intro j hj
  rw [h j (List.mem_range.1 hj)]
theorem mat_congr {n m : Nat} {M N : Nat → Nat → Nat} (h : ∀ i, i < n → ∀ j, j < m → M i j = N i j) : mat n m M = mat n m N := by
  unfold mat
  apply List.map_congr_left
  intro i hi
  exact rowL_congr (h i (List.mem_range.1 hi))
theorem rowL_set (m : Nat) (f : Nat → Nat) (j : Nat) (x : Nat) : (rowL m f).set j ((x : Nat) : Int) = rowL m (fun t => if t = j then x else f t) := by
  apply List.ext_getElem
  · simp [rowL]
  · intro t h1 h2
    rw [List.getElem_set]
    simp only [rowL, List.getElem_map, List.getElem_range]
    by_cases h : j = t
    · rw [if_pos h, if_pos h.symm]
    · rw [if_neg h, if_neg (fun e => h e.symm)]
theorem mat_set_row (n m : Nat) (M : Nat → Nat → Nat) (i : Nat) (f : Nat → Nat) : (mat n m M).set i (rowL m f) = mat n m (fun s => if s = i then f else M s) := by
  apply List.ext_getElem
  · simp [mat]
  · intro t h1 h2
    rw [List.getElem_set]
    simp only [mat, List.getElem_map, List.getElem_range]
    by_cases h : i = t
    · rw [if_pos h, if_pos h.symm]
    · rw [if_neg h, if_neg (fun e => h e.symm)]
/-- One entry changed. -/
def upd (M : Nat → Nat → Nat) (i j x : Nat) : Nat → Nat → Nat := fun s t => if s = i then (if t = j then x else M i t) else M s t
theorem mat_set (n m : Nat) (M : Nat → Nat → Nat) (i j x : Nat) (h : i < n) : (mat n m M).set i ((rd_L1 (mat n m M) (i : Int)).set j ((x : Nat) : Int)) = mat n m (upd M i j x) := by
  rw [rd_mat n m M i h, rowL_set, mat_set_row]
  congr 1
  funext s t
  unfold upd
  by_cases hs : s = i
  · subst hs; rw [if_pos rfl, if_pos rfl]
  · rw [if_neg hs, if_neg hs]
theorem mat_zero (n m : Nat) : List.replicate n (List.replicate m (0 : Int)) = mat n m (fun _ _ => 0) := by
  apply List.ext_getElem
  · simp [mat]
  · intro t h1 h2
    simp only [List.getElem_replicate, mat, List.getElem_map]
    apply List.ext_getElem
    · simp [rowL]
    · intro s h3 h4
      simp [rowL]
end Go.Proofs.YtpjfokolbgcbhaaDoor.QmP
