/- The Vandermonde matrix has in row r and column c the c-th power of r (1 to 256 rows and columns); other sizes are told. Conditions: none. -/
import Derived.Test.YtpjfokolbgcbhaaDoorQvSM
import Derived.Test.YtpjfokolbgcbhaaDoorQvx3
namespace Go.Proofs.YtpjfokolbgcbhaaDoor.Pure
open Go.RowKit Go.Proofs.YtpjfokolbgcbhaaDoor Go.Proofs.YtpjfokolbgcbhaaDoor.Qv Go.Proofs.YtpjfokolbgcbhaaDoorW.PrintWords Go.Proofs.YtpjfokolbgcbhaaDoorW.PrintLast Go.Proofs.YtpjfokolbgcbhaaDoor.QvP

theorem gexp_nil (a : Nat) : gexp a 0 = 1 := by unfold gexp; rw [if_pos rfl]
theorem gexp_one {a : Nat} (h : a < 256) : gexp a 1 = a := by
  by_cases h0 : a = 0
  · subst h0; rw [gexp_zero, if_neg (by omega)]
  · rw [gexp_ne h0, Nat.mul_one, E_Lg h0 h]
theorem zero_loop (n m : Nat) (hn : n ≤ 256) (hm : m ≤ 256) : ∀ (d i k : Nat), i + d = n → d < k →
    reedsolomon_newMatrix.l0 k (m : Int) ((List.range n).map fun t => if t < i then List.replicate m (0 : Int) else []) (n : Int) (i : Int) = some (mat n m (fun _ _ => 0), none)
  | 0, i, k + 1, h, _ => by
    simp only [reedsolomon_newMatrix.l0]
    rw [if_neg (by omega), ← mat_zero]
    congr 2
    apply List.ext_getElem
    · simp
    · intro t h1 h2
      simp at h1
      simp only [List.getElem_map, List.getElem_range, List.getElem_replicate]
      rw [if_pos (by omega)]
  | d + 1, i, k + 1, h, hk => by
    have ih := zero_loop n m hn hm d (i + 1) k (by omega) (by omega)
    simp only [reedsolomon_newMatrix.l0]
    rw [if_pos (by omega), if_pos (by omega), if_pos (by omega), if_pos (by omega), if_pos (by simp; omega), w64 (by omega) (by omega), show ((i : Int) + 1) = ((i + 1 : Nat) : Int) by omega, ← ih]
    congr 1
    apply List.ext_getElem
    · simp
    · intro t h1 h2
      rw [List.getElem_set]
      simp only [Int.toNat_natCast, List.getElem_map, List.getElem_range]
      by_cases e : i = t
      · rw [if_pos e, if_pos (by omega)]
      · rw [if_neg e]
        by_cases e2 : t < i
        · rw [if_pos e2, if_pos (by omega)]
        · rw [if_neg e2, if_neg (by omega)]
theorem new_of (n m k : Nat) (hn : n ≤ 256) (hm : m ≤ 256) (h1 : 1 ≤ n) (h2 : 1 ≤ m) (hk : n < k) : reedsolomon_newMatrix.f k (n : Int) (m : Int) = some (mat n m (fun _ _ => 0), none) := by
  have := zero_loop n m hn hm n 0 k (by omega) hk
  unfold reedsolomon_newMatrix.f
  rw [if_neg (by omega), if_neg (by omega), if_pos (by omega), if_pos (by omega), Option.bind_some, ← this]
  congr 1
  · apply List.ext_getElem
    · simp
    · intro t h1 h2
      simp
  · simp

/-- The powers that are there after j columns of row i. -/
def vst (i j : Nat) : Nat → Nat → Nat := fun s t => if s < i then gexp s t else if s = i then (if t < j then gexp s t else 0) else 0
theorem vst_next (n m i : Nat) : mat n m (vst i m) = mat n m (vst (i + 1) 0) := by
  apply mat_congr
  intro s _ t ht
  unfold vst
  by_cases h1 : s < i
  · rw [if_pos h1, if_pos (by omega)]
  · rw [if_neg h1]
    by_cases h2 : s = i
    · rw [if_pos h2, if_pos ht, if_pos (by omega)]
    · rw [if_neg h2, if_neg (by omega)]
      split
      · rw [if_neg (by omega)]
      · rfl
theorem vst_upd (i j : Nat) : upd (vst i j) i j (gexp i j) = vst i (j + 1) := by
  funext s t
  unfold upd vst
  by_cases h2 : s = i
  · subst h2
    simp only [if_true, Nat.lt_irrefl, if_false]
    by_cases h3 : t = j
    · subst h3; rw [if_pos rfl, if_pos (by omega)]
    · rw [if_neg h3]
      by_cases h4 : t < j
      · rw [if_pos h4, if_pos (by omega)]
      · rw [if_neg h4, if_neg (by omega)]
  · rw [if_neg h2, if_neg h2, if_neg h2]
theorem vand_loop (n m : Nat) (hn : n ≤ 256) (hm : m ≤ 256) : ∀ (d : Nat) (k i : Nat), (i < n → ∀ j c, c + j = m → (n - i - 1) * (m + 2) + c + 2 ≤ d → d ≤ k → reedsolomon_vandermonde.l1 k (mat n m (vst i j)) (i : Int) (n : Int) (i : Int) (m : Int) (j : Int) = some (mat n m (fun s t => gexp s t), none)) ∧ (i ≤ n → (n - i) * (m + 2) + 1 ≤ d → d ≤ k → reedsolomon_vandermonde.l0 k (mat n m (vst i 0)) (n : Int) (i : Int) = some (mat n m (fun s t => gexp s t), none))
  | 0, k, i => ⟨fun _ _ _ _ _ _ => by omega, fun _ _ _ => by omega⟩
  | d + 1, k, i => by
    constructor
    · intro hi j c hc hd hk
      obtain ⟨k, rfl⟩ : ∃ k', k = k' + 1 := ⟨k - 1, by omega⟩
      simp only [reedsolomon_vandermonde.l1]
      by_cases hj : j < m
      · have ih := (vand_loop n m hn hm d k i).1 hi (j + 1) (c - 1) (by omega) (by omega) (by omega)
        rw [if_pos (by omega), if_pos (by omega), if_pos (by rw [mat_len]; omega)]
        have hg : reedsolomon_galExp.f ((i : Int) % 256) (j : Int) = some ((gexp i j : Nat) : Int) := by
          unfold reedsolomon_galExp.f
          rw [show (i : Int) % 256 = i by omega, if_pos (by omega), Int.toNat_natCast, Int.toNat_natCast]
        rw [hg, Option.bind_some, if_pos (by omega), if_pos (by rw [rd_mat _ _ _ _ hi, rowL_len]; omega), Int.toNat_natCast, Int.toNat_natCast, mat_set _ _ _ _ _ _ hi, vst_upd, w64 (by omega) (by omega)]
        exact ih
      · obtain rfl : j = m := by omega
        rw [if_neg (by omega), vst_next, w64 (by omega) (by omega)]
        have := (vand_loop n j hn hm d k (i + 1)).2 (by omega) (by
          have : (n - (i + 1)) = n - i - 1 := by omega
          rw [this]; omega) (by omega)
        exact this
    · intro hi hd hk
      obtain ⟨k, rfl⟩ : ∃ k', k = k' + 1 := ⟨k - 1, by omega⟩
      simp only [reedsolomon_vandermonde.l0]
      by_cases hin : i < n
      · have hmul : (n - i) * (m + 2) = (n - i - 1) * (m + 2) + (m + 2) := by
          rw [show n - i = (n - i - 1) + 1 by omega, Nat.add_mul, Nat.one_mul]
          rfl
        have ih := (vand_loop n m hn hm d k i).1 hin 0 m rfl (by omega) (by omega)
        rw [if_pos (by omega), if_pos (by omega), if_pos (by rw [mat_len]; omega), rd_mat _ _ _ _ hin, rowL_len]
        exact ih
      · rw [if_neg (by omega)]
        congr 2
        apply mat_congr
        intro s hs t _
        unfold vst
        rw [if_pos (by omega)]
theorem rows_loop (L : List (List Int)) (hL : L.length ≤ 5864062014804) (hrow : ∀ x ∈ L, x.length < 140737488355328) : ∀ (d i k : Nat), i + d = L.length → d < k → impl_rows.l0 k (L.take i) L (L.length : Int) (i : Int) = some L
  | 0, i, k + 1, h, _ => by
    simp only [impl_rows.l0]
    rw [if_neg (by omega), List.take_of_length_le (by omega)]
  | d + 1, i, k + 1, h, hk => by
    have hi : i < L.length := by omega
    have hx : rd_L2 L (i : Int) = L[i] := by
      unfold rd_L2
      rw [Int.toNat_natCast, List.getD_eq_getElem?_getD, List.getElem?_eq_getElem hi]
      rfl
    have ih := rows_loop L hL hrow d (i + 1) k (by omega) (by omega)
    simp only [impl_rows.l0]
    rw [if_pos (by omega), if_pos (by omega), if_pos (by omega), hx, List.nil_append, if_pos (by have := hrow L[i] (List.getElem_mem hi); simpa using this), if_pos (by rw [List.length_take]; omega), ← List.take_succ_eq_append_getElem hi, w64 (by omega) (by omega)]
    exact ih
theorem rows_of (L : List (List Int)) (hL : L.length ≤ 5864062014804) (hrow : ∀ x ∈ L, x.length < 140737488355328) (k : Nat) (hk : L.length < k) : impl_rows.f k L = some L := rows_loop L hL hrow L.length 0 k (by omega) hk
theorem mat_row_len (n m : Nat) (M : Nat → Nat → Nat) : ∀ x ∈ mat n m M, x.length = m := fun x hx => by
  obtain ⟨i, _, rfl⟩ := List.mem_map.1 hx
  exact rowL_len _ _
theorem law_loop (n m : Nat) (hn : n ≤ 256) (hm : m ≤ 256) : ∀ (d : Nat) (k i : Nat), (i < n → ∀ j c, c + j = m → (n - i - 1) * (m + 2) + c + 61 ≤ d → d ≤ k → laws_FnVandermonde.l1 k (m : Int) (mat n m (fun s t => gexp s t)) (i : Int) ((gexp i j : Nat) : Int) (n : Int) (i : Int) (rowL m (fun t => gexp i t)) (m : Int) (j : Int) = some true) ∧ (i ≤ n → (n - i) * (m + 2) + 60 ≤ d → d ≤ k → laws_FnVandermonde.l0 k (m : Int) (mat n m (fun s t => gexp s t)) (n : Int) (i : Int) = some true)
  | 0, k, i => ⟨fun _ _ _ _ _ _ => by omega, fun _ _ _ => by omega⟩
  | d + 1, k, i => by
    constructor
    · intro hi j c hc hd hk
      obtain ⟨k, rfl⟩ : ∃ k', k = k' + 1 := ⟨k - 1, by omega⟩
      simp only [laws_FnVandermonde.l1]
      by_cases hj : j < m
      · have ih := (law_loop n m hn hm d k i).1 hi (j + 1) (c - 1) (by omega) (by omega) (by omega)
        have hmul : spec_Mul.f k ((gexp i j : Nat) : Int) ((i : Int) % 256) = some ((gexp i (j + 1) : Nat) : Int) := by
          rw [show (i : Int) % 256 = i by omega, gexp_add, gexp_one (show i < 256 by omega)]
          exact at_rounds (spec_Mul.mono _ _) (show 57 ≤ k by omega) (specMul_of _ _ (gexp_lt _ _) (by omega))
        rw [if_pos (by omega), if_pos (by omega), if_pos (by rw [rowL_len]; omega), rd_row _ _ _ hj, if_pos rfl, hmul, Option.bind_some, w64 (by omega) (by omega)]
        exact ih
      · obtain rfl : j = m := by omega
        rw [if_neg (by omega), w64 (by omega) (by omega)]
        exact (law_loop n j hn hm d k (i + 1)).2 (by omega) (by
          have : (n - (i + 1)) = n - i - 1 := by omega
          rw [this]; omega) (by omega)
    · intro hi hd hk
      obtain ⟨k, rfl⟩ : ∃ k', k = k' + 1 := ⟨k - 1, by omega⟩
      simp only [laws_FnVandermonde.l0]
      by_cases hin : i < n
      · have hmul : (n - i) * (m + 2) = (n - i - 1) * (m + 2) + (m + 2) := by
          rw [show n - i = (n - i - 1) + 1 by omega, Nat.add_mul, Nat.one_mul]
          rfl
        have ih := (law_loop n m hn hm d k i).1 hin 0 m rfl (by omega) (by omega)
        rw [gexp_nil] at ih
        rw [if_pos (by omega), if_pos (by omega), if_pos (by rw [mat_len]; omega), rd_mat _ _ _ _ hin, if_pos (by rw [rowL_len]), rowL_len]
        exact ih
      · rw [if_neg (by omega)]
theorem FnVandermonde : laws_FnVandermonde.Pure := by
  intro a0 a1 _ _
  refine ⟨100000, ?_⟩
  unfold laws_FnVandermonde.f impl_Vandermonde.f
  have j0t : ∀ x y z : Int, ∀ L k, laws_FnVandermonde.j0 (k + 1) x y L false true = some true := fun _ _ _ _ _ => by rw [laws_FnVandermonde.j0]; rfl
  have i0t : ∀ k, impl_Vandermonde.j0 (k + 1) a0 a1 true = some ([], false) := fun k => by rw [impl_Vandermonde.j0]; rfl
  by_cases c1 : a0 < 1
  · rw [if_pos c1, i0t, Option.bind_some, if_pos c1]
    exact j0t _ _ 0 _ _
  rw [if_neg c1]
  by_cases c2 : a1 < 1
  · rw [if_pos c2, i0t, Option.bind_some, if_neg c1]
    split
    · exact j0t _ _ 0 _ _
    · exact j0t _ _ 0 _ _
  rw [if_neg c2]
  by_cases c3 : a0 > 256
  · rw [if_pos c3, i0t, Option.bind_some, if_neg c1, if_pos c3]
    exact j0t _ _ 0 _ _
  rw [if_neg c3]
  by_cases c4 : a1 > 256
  · rw [decide_eq_true c4, i0t, Option.bind_some, if_neg c1, if_neg c3, if_neg c2]
    exact j0t _ _ 0 _ _
  rw [decide_eq_false c4]
  obtain ⟨n, rfl⟩ := Int.eq_ofNat_of_zero_le (show 0 ≤ a0 by omega)
  obtain ⟨m, rfl⟩ := Int.eq_ofNat_of_zero_le (show 0 ≤ a1 by omega)
  have hnm : n * (m + 2) ≤ 256 * 258 := Nat.mul_le_mul (by omega) (by omega)
  have hv : reedsolomon_vandermonde.f 99999 (n : Int) (m : Int) = some (mat n m (fun s t => gexp s t), none) := by
    unfold reedsolomon_vandermonde.f
    rw [new_of n m 99999 (by omega) (by omega) (by omega) (by omega) (by omega), Option.bind_some]
    refine (if_pos rfl).trans ?_
    have := (vand_loop n m (by omega) (by omega) 99999 99999 0).2 (by omega) (by rw [Nat.sub_zero]; omega) (Nat.le_refl _)
    dsimp only
    rw [mat_len]
    have e : mat n m (fun _ _ => 0) = mat n m (vst 0 0) := mat_congr fun s _ t _ => by
      unfold vst
      rw [if_neg (by omega)]
      split
      · rw [if_neg (by omega)]
      · rfl
    rw [e]
    exact this
  have hi : impl_Vandermonde.j0 100000 (n : Int) (m : Int) false = some (mat n m (fun s t => gexp s t), true) := by
    rw [impl_Vandermonde.j0, if_neg (by simp)]
    unfold reedsolomon_DoorVandermonde.f
    rw [hv, Option.bind_some, Option.bind_some, rows_of _ (by rw [mat_len]; omega) (fun x hx => by rw [mat_row_len _ _ _ x hx]; omega) 99999 (by rw [mat_len]; omega), Option.bind_some]
    exact if_pos rfl
  rw [hi, Option.bind_some, if_neg c1, if_neg c3, if_neg c2, laws_FnVandermonde.j0, if_neg (by simp)]
  refine (if_pos rfl).trans ?_
  have e : (((mat n m fun s t => gexp s t).length : Int) != (n : Int)) = false := by rw [mat_len]; simp
  rw [e, laws_FnVandermonde.j1, if_neg (by simp), mat_len]
  exact (law_loop n m (by omega) (by omega) 99998 99998 0).2 (by omega) (by rw [Nat.sub_zero]; omega) (Nat.le_refl _)
end Go.Proofs.YtpjfokolbgcbhaaDoor.Pure
